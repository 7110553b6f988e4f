import JvmDerived
import JvmDerived.Pilot.@@N@@Statement
import JvmDerived.Pilot.@@N@@Code
set_option linter.unusedVariables false
set_option linter.unusedSimpArgs false
namespace Jvm.RoadKit
open Sem ClassFile Op Lib Jvm.Stand Jvm.Free Jvm.LawKit
section New
variable {p : Program} {l : Launch} {e : Env} {R : Room} {s : State} {m : MethodId} {args : Array Value} {below : List Frame} {meth : Method} {c : Code} {T : State} {locs : List Loc} {cells slots : Nat}
theorem retI (X : Stand p l e R s m args below meth c T locs cells slots) (hx : p.tables.exec = Jvm.exec) {pc : Nat} {Ls : Array Slot} {z : Int32} {rest : List Value} (hret : meth.sig.returnType = some .int) (hd : decode c.code pc = .ok (.ireturn, 1)) {fs : List Frame}
    (hl : ∀ (f : JFrame) (acts : List Action), f.method = m → f.locked = none → f.entered = [] → (doReturn e (T.setTop f) acts (some (.int z))).1 = T.setFrames fs) : Steps p.tables e below (T.setTop (mkF m pc Ls (.int z :: rest))) (T.setFrames fs) := by
  have hm' : T.vm.method? m = some meth := X.method'
  have hn : narrow .int (.int z) = .int z := rfl
  show Steps p.tables e below (T.setTop { method := m, pc := pc, locals := Ls, stack := _ :: rest, locked := none }) _
  jvm_step X.here [X.here.top, hx, hd, hm', hret, hn]
  first | (intro acts; rw [hl _ acts rfl rfl rfl]) | rw [hl _ _ rfl rfl rfl]
  exact Steps.refl _
theorem retL (X : Stand p l e R s m args below meth c T locs cells slots) (hx : p.tables.exec = Jvm.exec) {pc : Nat} {Ls : Array Slot} {z : Int64} {rest : List Value} (hret : meth.sig.returnType = some .long) (hd : decode c.code pc = .ok (.lreturn, 1)) {fs : List Frame}
    (hl : ∀ (f : JFrame) (acts : List Action), f.method = m → f.locked = none → f.entered = [] → (doReturn e (T.setTop f) acts (some (.long z))).1 = T.setFrames fs) : Steps p.tables e below (T.setTop (mkF m pc Ls (.long z :: rest))) (T.setFrames fs) := by
  have hm' : T.vm.method? m = some meth := X.method'
  have hn : narrow .long (.long z) = .long z := rfl
  show Steps p.tables e below (T.setTop { method := m, pc := pc, locals := Ls, stack := _ :: rest, locked := none }) _
  jvm_step X.here [X.here.top, hx, hd, hm', hret, hn]
  first | (intro acts; rw [hl _ acts rfl rfl rfl]) | rw [hl _ _ rfl rfl rfl]
  exact Steps.refl _
end New
end Jvm.RoadKit
namespace Jvm.Pilot.@@N@@
open Jvm Jvm.ClassFile Sem Op Lib Jvm.Free Jvm.Stand Jvm.LawKit Jvm.RoadKit Bundle Jvm.Pilot.@@N@@.Jvm.D
/-- the run comes from pc, with these locals and this stack, to t -/
abbrev SS (p : Program) (e : Env) (below : List Frame) (m : MethodId) (T : State) (pc : Nat) (ls : Array Slot) (st : List Value) (t : State) : Prop := Steps p.tables e below (T.setTop (mkF m pc ls st)) t
/-- a method that writes nothing and returns an int -/
def QI (r : Int32) (h0 : Heap) (n0 : Nat) (v : Option Value) (h : Heap) (L : List Loc) : Prop := v = some (.int r) ∧ Fr n0 L ∧ h = h0
def QL (r : Int64) (h0 : Heap) (n0 : Nat) (v : Option Value) (h : Heap) (L : List Loc) : Prop := v = some (.long r) ∧ Fr n0 L ∧ h = h0
def QV (h0 : Heap) (n0 : Nat) (v : Option Value) (h : Heap) (L : List Loc) : Prop := v = none ∧ Fr n0 L ∧ h = h0
/-- .. that may load String constants -/
def QC (r : Int32) (W0 : Vm → Heap → Prop) (h0 : Heap) (n0 : Nat) (v : Option Value) (h : Heap) (vm : Vm) (L : List Loc) : Prop := v = some (.int r) ∧ Fr n0 L ∧ Ext h0 h ∧ W0 vm h
def QIS (r : Int32) (h0 : Heap) (n0 : Nat) (v : Option Value) (h : Heap) (L : List Loc) : Prop := v = some (.int r) ∧ Fr n0 L ∧ Ext h0 h
theorem own_ext {a b c : Heap} (h : Ext a b) (k : Ext b c) : Ext a c := ⟨Nat.le_trans h.1 k.1, fun x y q => k.2 _ _ (h.2 _ _ q)⟩
theorem own_extw {a h h' : Heap} {x : Addr} {sl : Nat} {v : Value} (E : Ext a h) (W : Wr h h' x sl v) (q : a.size ≤ x) : Ext a h' := by
  have K := Keep.of_wr W
  refine ⟨Nat.le_trans E.1 K.1, fun y c hc => K.2.1 _ _ (E.2 _ _ hc) fun hm => ?_⟩
  have hl := (Array.getElem?_eq_some_iff.mp hc).1
  rw [List.mem_singleton] at hm
  rw [hm] at hl
  exact absurd hl (Nat.not_lt.mpr q)
def QE (n0 : Nat) (v : Option Value) (h : Heap) (L : List Loc) : Prop := v = some (.int 1) ∧ Fr n0 L
theorem d1_0 : decode prog_63_method_3_code 0 = .ok (.iload_n 0, 1) := by decide +kernel
theorem d1_1 : decode prog_63_method_3_code 1 = .ok (.bipush 32, 2) := by decide +kernel
theorem d1_3 : decode prog_63_method_3_code 3 = .ok (.if_icmp .ge 30, 3) := by decide +kernel
theorem d1_6 : decode prog_63_method_3_code 6 = .ok (.iload_n 0, 1) := by decide +kernel
theorem d1_7 : decode prog_63_method_3_code 7 = .ok (.bipush 9, 2) := by decide +kernel
theorem d1_9 : decode prog_63_method_3_code 9 = .ok (.if_icmp .eq 15, 3) := by decide +kernel
theorem d1_12 : decode prog_63_method_3_code 12 = .ok (.iload_n 0, 1) := by decide +kernel
theorem d1_13 : decode prog_63_method_3_code 13 = .ok (.bipush 10, 2) := by decide +kernel
theorem d1_15 : decode prog_63_method_3_code 15 = .ok (.if_icmp .eq 9, 3) := by decide +kernel
theorem d1_18 : decode prog_63_method_3_code 18 = .ok (.iload_n 0, 1) := by decide +kernel
theorem d1_19 : decode prog_63_method_3_code 19 = .ok (.bipush 13, 2) := by decide +kernel
theorem d1_21 : decode prog_63_method_3_code 21 = .ok (.if_icmp .ne 7, 3) := by decide +kernel
theorem d1_24 : decode prog_63_method_3_code 24 = .ok (.iconst 1, 1) := by decide +kernel
theorem d1_25 : decode prog_63_method_3_code 25 = .ok (.goto 4, 3) := by decide +kernel
theorem d1_28 : decode prog_63_method_3_code 28 = .ok (.iconst 0, 1) := by decide +kernel
theorem d1_29 : decode prog_63_method_3_code 29 = .ok (.istore_n 1, 1) := by decide +kernel
theorem d1_30 : decode prog_63_method_3_code 30 = .ok (.goto 49, 3) := by decide +kernel
theorem d1_33 : decode prog_63_method_3_code 33 = .ok (.iload_n 0, 1) := by decide +kernel
theorem d1_34 : decode prog_63_method_3_code 34 = .ok (.ldc 7, 2) := by decide +kernel
theorem d1_36 : decode prog_63_method_3_code 36 = .ok (.if_icmp .ge 8, 3) := by decide +kernel
theorem d1_39 : decode prog_63_method_3_code 39 = .ok (.iconst 1, 1) := by decide +kernel
theorem d1_40 : decode prog_63_method_3_code 40 = .ok (.istore_n 1, 1) := by decide +kernel
theorem d1_41 : decode prog_63_method_3_code 41 = .ok (.goto 38, 3) := by decide +kernel
theorem d1_44 : decode prog_63_method_3_code 44 = .ok (.iload_n 0, 1) := by decide +kernel
theorem d1_45 : decode prog_63_method_3_code 45 = .ok (.ldc 8, 2) := by decide +kernel
theorem d1_47 : decode prog_63_method_3_code 47 = .ok (.if_icmp .ge 8, 3) := by decide +kernel
theorem d1_50 : decode prog_63_method_3_code 50 = .ok (.iconst 0, 1) := by decide +kernel
theorem d1_51 : decode prog_63_method_3_code 51 = .ok (.istore_n 1, 1) := by decide +kernel
theorem d1_52 : decode prog_63_method_3_code 52 = .ok (.goto 27, 3) := by decide +kernel
theorem d1_55 : decode prog_63_method_3_code 55 = .ok (.iload_n 0, 1) := by decide +kernel
theorem d1_56 : decode prog_63_method_3_code 56 = .ok (.ldc 9, 2) := by decide +kernel
theorem d1_58 : decode prog_63_method_3_code 58 = .ok (.if_icmp .le 15, 3) := by decide +kernel
theorem d1_61 : decode prog_63_method_3_code 61 = .ok (.iload_n 0, 1) := by decide +kernel
theorem d1_62 : decode prog_63_method_3_code 62 = .ok (.ldc 10, 2) := by decide +kernel
theorem d1_64 : decode prog_63_method_3_code 64 = .ok (.if_icmp .lt 13, 3) := by decide +kernel
theorem d1_67 : decode prog_63_method_3_code 67 = .ok (.iload_n 0, 1) := by decide +kernel
theorem d1_68 : decode prog_63_method_3_code 68 = .ok (.ldc 11, 2) := by decide +kernel
theorem d1_70 : decode prog_63_method_3_code 70 = .ok (.if_icmp .gt 7, 3) := by decide +kernel
theorem d1_73 : decode prog_63_method_3_code 73 = .ok (.iconst 1, 1) := by decide +kernel
theorem d1_74 : decode prog_63_method_3_code 74 = .ok (.goto 4, 3) := by decide +kernel
theorem d1_77 : decode prog_63_method_3_code 77 = .ok (.iconst 0, 1) := by decide +kernel
theorem d1_78 : decode prog_63_method_3_code 78 = .ok (.istore_n 1, 1) := by decide +kernel
theorem d1_79 : decode prog_63_method_3_code 79 = .ok (.iload_n 1, 1) := by decide +kernel
theorem d1_80 : decode prog_63_method_3_code 80 = .ok (.ireturn, 1) := by decide +kernel
theorem pn_1 : plainName "com/example/mendmark/mendmark/core/XmlChars" = true := by first | (simp [plainName, overriddenIn]; done) | decide +kernel
theorem ef_1 (m : MethodId) (p1 : Int32) : entryFrame m #[(.int p1)] 2 = mkF m 0 #[iv p1, .unset] [] := by first | (simp [entryFrame, mkF, argsToLocals, Value.category]; done) | rfl
def f1 (p1 : Int32)  : Int32 := (if p1 < (32 : Int32) then (if p1 = (9 : Int32) then (1 : Int32) else (if p1 = (10 : Int32) then (1 : Int32) else (if p1 = (13 : Int32) then (1 : Int32) else (0 : Int32)))) else (if p1 < (55296 : Int32) then (1 : Int32) else (if p1 < (57344 : Int32) then (0 : Int32) else (if (65533 : Int32) < p1 then (if p1 < (65536 : Int32) then (0 : Int32) else (if (1114111 : Int32) < p1 then (0 : Int32) else (1 : Int32))) else (1 : Int32)))))
set_option maxRecDepth 65536 in
set_option maxHeartbeats 40000000 in
theorem rm1 (l : Launch) (Z : State) (a0 : Array Value) (hw : ∀ d ∈ tables_1, d.before a0 Z = true) (ws : List Jvm.Cond) (p1 : Int32)  (h0 : Heap) (n0 : Nat) (Z0 : n0 ≤ h0.size)  :
    MetFree l (⟨"com/example/mendmark/mendmark/core/XmlChars", "isChar", "(I)Z"⟩ : MethodName) (head1 (Jvm.Cond.code (⟨"com/example/mendmark/mendmark/core/XmlChars", "isChar", "(I)Z"⟩ : MethodName) prog_63_method_3_code 2 (some .boolean) :: ws) ({ frames := 0, cells := 0, slots := 0, locals := 0 } : Room)) (fun a U => a = #[(.int p1)] ∧ Z.Warmed39 U.vm ∧ U.heap = h0) (fun _ _ _ _ _ => True) (fun _ U o U' => ∃ v L, o = .returned v ∧ QI (f1 p1) h0 n0 v U'.heap L ∧ FrameEnd U o U' L ({ frames := 0, cells := 0, slots := 0, locals := 0 } : Room).cells ({ frames := 0, cells := 0, slots := 0, locals := 0 } : Room).slots) := by
  refine MetFree.of_bodySF (plainFor_of_name pn_1) hisR ?_
  intro p e s m args below meth c s₁ Bd hml0 hP hK
  obtain ⟨rfl, hZ, hh⟩ := hP
  have hx := Bd.exec
  have hby := Bd.bytes
  have hml : c.maxLocals = 2 := hml0
  have hown : s.vm.findClass "com/example/mendmark/mendmark/core/XmlChars" = some m.cls := findClass_of_methodNamed Bd.named
  have hnm := (name_of_methodNamed Bd.named Bd.method).1
  have X0 : Stand p l e ({ frames := 0, cells := 0, slots := 0, locals := 0 } : Room) s m #[(.int p1)] below meth c s₁ [] 0 0 := Stand.of_body Bd
  have e0 : s₁.heap = h0 := by rw [← hh, Bd.state]; rfl
  have N0 := Fr.nil n0
  obtain ⟨B, hB, pre0⟩ : ∃ B : State → Prop, (∀ t, B t → Steps p.tables e below (s₁.setTop (entryFrame m #[(.int p1)] 2)) t) ∧ ∀ t, SS p e below m s₁ 0 #[iv p1, .unset] [] t → B t := ⟨_, fun _ q => q, fun t kk => castTop (ef_1 m p1) kk⟩
  have pre1 : ∀ t, SS p e below m s₁ 3 #[iv p1, .unset] [(.int (32 : Int32)), (.int p1)] t → B t := fun t kk => pre0 t (by
    show SS p e below m s₁ 0 #[iv p1, .unset] [] _
    refine XS.iloadN X0.here hx rfl (hb hby d1_0) rfl ?_
    show SS p e below m s₁ 1 #[iv p1, .unset] [(.int p1)] _
    refine XS.bipush X0.here hx rfl (hb hby d1_1) ?_
    show SS p e below m s₁ 3 #[iv p1, .unset] [(.int (32 : Int32)), (.int p1)] _
    exact kk)
  by_cases hc2 : p1 < (32 : Int32)
  · have pre3 : ∀ t, SS p e below m s₁ 9 #[iv p1, .unset] [(.int (9 : Int32)), (.int p1)] t → B t := fun t kk => pre1 t (by
      refine XS.icmpNo X0.here hx rfl (hb hby d1_3) rfl (tlt hc2).2.1 ?_
      show SS p e below m s₁ 6 #[iv p1, .unset] [] _
      refine XS.iloadN X0.here hx rfl (hb hby d1_6) rfl ?_
      show SS p e below m s₁ 7 #[iv p1, .unset] [(.int p1)] _
      refine XS.bipush X0.here hx rfl (hb hby d1_7) ?_
      show SS p e below m s₁ 9 #[iv p1, .unset] [(.int (9 : Int32)), (.int p1)] _
      exact kk)
    by_cases hc4 : p1 = (9 : Int32)
    · have pre5 : ∀ t, SS p e below m s₁ 80 #[iv p1, iv (1 : Int32)] [(.int (1 : Int32))] t → B t := fun t kk => pre3 t (by
        refine XS.icmpYes X0.here hx rfl (pc0 := 9) (pc' := 24) rfl (hb hby d1_9) rfl (teq hc4).1 (by decide) (by decide) ?_
        show SS p e below m s₁ 24 #[iv p1, .unset] [] _
        refine XS.iconst X0.here hx rfl (hb hby d1_24) ?_
        show SS p e below m s₁ 25 #[iv p1, .unset] [(.int (1 : Int32))] _
        refine XS.goto X0.here hx rfl (pc0 := 25) (pc' := 29) rfl (hb hby d1_25) (by decide) (by decide) ?_
        show SS p e below m s₁ 29 #[iv p1, .unset] [(.int (1 : Int32))] _
        refine XS.istoreN X0.here hx rfl (hb hby d1_29) rfl (l' := #[iv p1, iv (1 : Int32)]) rfl ?_
        show SS p e below m s₁ 30 #[iv p1, iv (1 : Int32)] [] _
        refine XS.goto X0.here hx rfl (pc0 := 30) (pc' := 79) rfl (hb hby d1_30) (by decide) (by decide) ?_
        show SS p e below m s₁ 79 #[iv p1, iv (1 : Int32)] [] _
        refine XS.iloadN X0.here hx rfl (hb hby d1_79) rfl ?_
        show SS p e below m s₁ 80 #[iv p1, iv (1 : Int32)] [(.int (1 : Int32))] _
        exact kk)
      obtain ⟨fs, hr, hrun, hended, hW, hsame⟩ := X0.leave (v := some (.int (1 : Int32))) (fun h => by rw [Bd.returns] at h; cases h)
      refine ⟨_, _, hB _ (pre5 _ ?_), hrun, hended, _, _, rfl, ?_, ⟨_, rfl⟩, hW, hsame.mono (by decide) (by decide)⟩
      · exact retN X0 hx (t := .boolean) Bd.returns (by simp) (hb hby d1_80) hr
      · exact ⟨by show _ = some (Value.int (f1 p1)); rw [f1, if_pos hc2, if_pos hc4], N0, e0⟩
    · have pre6 : ∀ t, SS p e below m s₁ 15 #[iv p1, .unset] [(.int (10 : Int32)), (.int p1)] t → B t := fun t kk => pre3 t (by
        refine XS.icmpNo X0.here hx rfl (hb hby d1_9) rfl (feq hc4).1 ?_
        show SS p e below m s₁ 12 #[iv p1, .unset] [] _
        refine XS.iloadN X0.here hx rfl (hb hby d1_12) rfl ?_
        show SS p e below m s₁ 13 #[iv p1, .unset] [(.int p1)] _
        refine XS.bipush X0.here hx rfl (hb hby d1_13) ?_
        show SS p e below m s₁ 15 #[iv p1, .unset] [(.int (10 : Int32)), (.int p1)] _
        exact kk)
      by_cases hc7 : p1 = (10 : Int32)
      · have pre8 : ∀ t, SS p e below m s₁ 80 #[iv p1, iv (1 : Int32)] [(.int (1 : Int32))] t → B t := fun t kk => pre6 t (by
          refine XS.icmpYes X0.here hx rfl (pc0 := 15) (pc' := 24) rfl (hb hby d1_15) rfl (teq hc7).1 (by decide) (by decide) ?_
          show SS p e below m s₁ 24 #[iv p1, .unset] [] _
          refine XS.iconst X0.here hx rfl (hb hby d1_24) ?_
          show SS p e below m s₁ 25 #[iv p1, .unset] [(.int (1 : Int32))] _
          refine XS.goto X0.here hx rfl (pc0 := 25) (pc' := 29) rfl (hb hby d1_25) (by decide) (by decide) ?_
          show SS p e below m s₁ 29 #[iv p1, .unset] [(.int (1 : Int32))] _
          refine XS.istoreN X0.here hx rfl (hb hby d1_29) rfl (l' := #[iv p1, iv (1 : Int32)]) rfl ?_
          show SS p e below m s₁ 30 #[iv p1, iv (1 : Int32)] [] _
          refine XS.goto X0.here hx rfl (pc0 := 30) (pc' := 79) rfl (hb hby d1_30) (by decide) (by decide) ?_
          show SS p e below m s₁ 79 #[iv p1, iv (1 : Int32)] [] _
          refine XS.iloadN X0.here hx rfl (hb hby d1_79) rfl ?_
          show SS p e below m s₁ 80 #[iv p1, iv (1 : Int32)] [(.int (1 : Int32))] _
          exact kk)
        obtain ⟨fs, hr, hrun, hended, hW, hsame⟩ := X0.leave (v := some (.int (1 : Int32))) (fun h => by rw [Bd.returns] at h; cases h)
        refine ⟨_, _, hB _ (pre8 _ ?_), hrun, hended, _, _, rfl, ?_, ⟨_, rfl⟩, hW, hsame.mono (by decide) (by decide)⟩
        · exact retN X0 hx (t := .boolean) Bd.returns (by simp) (hb hby d1_80) hr
        · exact ⟨by show _ = some (Value.int (f1 p1)); rw [f1, if_pos hc2, if_neg hc4, if_pos hc7], N0, e0⟩
      · have pre9 : ∀ t, SS p e below m s₁ 21 #[iv p1, .unset] [(.int (13 : Int32)), (.int p1)] t → B t := fun t kk => pre6 t (by
          refine XS.icmpNo X0.here hx rfl (hb hby d1_15) rfl (feq hc7).1 ?_
          show SS p e below m s₁ 18 #[iv p1, .unset] [] _
          refine XS.iloadN X0.here hx rfl (hb hby d1_18) rfl ?_
          show SS p e below m s₁ 19 #[iv p1, .unset] [(.int p1)] _
          refine XS.bipush X0.here hx rfl (hb hby d1_19) ?_
          show SS p e below m s₁ 21 #[iv p1, .unset] [(.int (13 : Int32)), (.int p1)] _
          exact kk)
        by_cases hc10 : p1 = (13 : Int32)
        · have pre11 : ∀ t, SS p e below m s₁ 80 #[iv p1, iv (1 : Int32)] [(.int (1 : Int32))] t → B t := fun t kk => pre9 t (by
            refine XS.icmpNo X0.here hx rfl (hb hby d1_21) rfl (teq hc10).2 ?_
            show SS p e below m s₁ 24 #[iv p1, .unset] [] _
            refine XS.iconst X0.here hx rfl (hb hby d1_24) ?_
            show SS p e below m s₁ 25 #[iv p1, .unset] [(.int (1 : Int32))] _
            refine XS.goto X0.here hx rfl (pc0 := 25) (pc' := 29) rfl (hb hby d1_25) (by decide) (by decide) ?_
            show SS p e below m s₁ 29 #[iv p1, .unset] [(.int (1 : Int32))] _
            refine XS.istoreN X0.here hx rfl (hb hby d1_29) rfl (l' := #[iv p1, iv (1 : Int32)]) rfl ?_
            show SS p e below m s₁ 30 #[iv p1, iv (1 : Int32)] [] _
            refine XS.goto X0.here hx rfl (pc0 := 30) (pc' := 79) rfl (hb hby d1_30) (by decide) (by decide) ?_
            show SS p e below m s₁ 79 #[iv p1, iv (1 : Int32)] [] _
            refine XS.iloadN X0.here hx rfl (hb hby d1_79) rfl ?_
            show SS p e below m s₁ 80 #[iv p1, iv (1 : Int32)] [(.int (1 : Int32))] _
            exact kk)
          obtain ⟨fs, hr, hrun, hended, hW, hsame⟩ := X0.leave (v := some (.int (1 : Int32))) (fun h => by rw [Bd.returns] at h; cases h)
          refine ⟨_, _, hB _ (pre11 _ ?_), hrun, hended, _, _, rfl, ?_, ⟨_, rfl⟩, hW, hsame.mono (by decide) (by decide)⟩
          · exact retN X0 hx (t := .boolean) Bd.returns (by simp) (hb hby d1_80) hr
          · exact ⟨by show _ = some (Value.int (f1 p1)); rw [f1, if_pos hc2, if_neg hc4, if_neg hc7, if_pos hc10], N0, e0⟩
        · have pre12 : ∀ t, SS p e below m s₁ 80 #[iv p1, iv (0 : Int32)] [(.int (0 : Int32))] t → B t := fun t kk => pre9 t (by
            refine XS.icmpYes X0.here hx rfl (pc0 := 21) (pc' := 28) rfl (hb hby d1_21) rfl (feq hc10).2 (by decide) (by decide) ?_
            show SS p e below m s₁ 28 #[iv p1, .unset] [] _
            refine XS.iconst X0.here hx rfl (hb hby d1_28) ?_
            show SS p e below m s₁ 29 #[iv p1, .unset] [(.int (0 : Int32))] _
            refine XS.istoreN X0.here hx rfl (hb hby d1_29) rfl (l' := #[iv p1, iv (0 : Int32)]) rfl ?_
            show SS p e below m s₁ 30 #[iv p1, iv (0 : Int32)] [] _
            refine XS.goto X0.here hx rfl (pc0 := 30) (pc' := 79) rfl (hb hby d1_30) (by decide) (by decide) ?_
            show SS p e below m s₁ 79 #[iv p1, iv (0 : Int32)] [] _
            refine XS.iloadN X0.here hx rfl (hb hby d1_79) rfl ?_
            show SS p e below m s₁ 80 #[iv p1, iv (0 : Int32)] [(.int (0 : Int32))] _
            exact kk)
          obtain ⟨fs, hr, hrun, hended, hW, hsame⟩ := X0.leave (v := some (.int (0 : Int32))) (fun h => by rw [Bd.returns] at h; cases h)
          refine ⟨_, _, hB _ (pre12 _ ?_), hrun, hended, _, _, rfl, ?_, ⟨_, rfl⟩, hW, hsame.mono (by decide) (by decide)⟩
          · exact retN X0 hx (t := .boolean) Bd.returns (by simp) (hb hby d1_80) hr
          · exact ⟨by show _ = some (Value.int (f1 p1)); rw [f1, if_pos hc2, if_neg hc4, if_neg hc7, if_neg hc10], N0, e0⟩
  · have pre13 : ∀ t, SS p e below m s₁ 36 #[iv p1, .unset] [(.int (55296 : Int32)), (.int p1)] t → B t := fun t kk => pre1 t (by
      refine XS.icmpYes X0.here hx rfl (pc0 := 3) (pc' := 33) rfl (hb hby d1_3) rfl (flt hc2).2.1 (by decide) (by decide) ?_
      show SS p e below m s₁ 33 #[iv p1, .unset] [] _
      refine XS.iloadN X0.here hx rfl (hb hby d1_33) rfl ?_
      show SS p e below m s₁ 34 #[iv p1, .unset] [(.int p1)] _
      refine X0.ldcInt hx hown (mvT hZ (hw _ (List.mem_of_getElem? (i := 19) rfl))) (g := (mkF m 34 #[iv p1, .unset] [(.int p1)])) rfl (hb hby d1_34) _ ?_
      show SS p e below m s₁ 36 #[iv p1, .unset] [(.int (55296 : Int32)), (.int p1)] _
      exact kk)
    by_cases hc14 : p1 < (55296 : Int32)
    · have pre15 : ∀ t, SS p e below m s₁ 80 #[iv p1, iv (1 : Int32)] [(.int (1 : Int32))] t → B t := fun t kk => pre13 t (by
        refine XS.icmpNo X0.here hx rfl (hb hby d1_36) rfl (tlt hc14).2.1 ?_
        show SS p e below m s₁ 39 #[iv p1, .unset] [] _
        refine XS.iconst X0.here hx rfl (hb hby d1_39) ?_
        show SS p e below m s₁ 40 #[iv p1, .unset] [(.int (1 : Int32))] _
        refine XS.istoreN X0.here hx rfl (hb hby d1_40) rfl (l' := #[iv p1, iv (1 : Int32)]) rfl ?_
        show SS p e below m s₁ 41 #[iv p1, iv (1 : Int32)] [] _
        refine XS.goto X0.here hx rfl (pc0 := 41) (pc' := 79) rfl (hb hby d1_41) (by decide) (by decide) ?_
        show SS p e below m s₁ 79 #[iv p1, iv (1 : Int32)] [] _
        refine XS.iloadN X0.here hx rfl (hb hby d1_79) rfl ?_
        show SS p e below m s₁ 80 #[iv p1, iv (1 : Int32)] [(.int (1 : Int32))] _
        exact kk)
      obtain ⟨fs, hr, hrun, hended, hW, hsame⟩ := X0.leave (v := some (.int (1 : Int32))) (fun h => by rw [Bd.returns] at h; cases h)
      refine ⟨_, _, hB _ (pre15 _ ?_), hrun, hended, _, _, rfl, ?_, ⟨_, rfl⟩, hW, hsame.mono (by decide) (by decide)⟩
      · exact retN X0 hx (t := .boolean) Bd.returns (by simp) (hb hby d1_80) hr
      · exact ⟨by show _ = some (Value.int (f1 p1)); rw [f1, if_neg hc2, if_pos hc14], N0, e0⟩
    · have pre16 : ∀ t, SS p e below m s₁ 47 #[iv p1, .unset] [(.int (57344 : Int32)), (.int p1)] t → B t := fun t kk => pre13 t (by
        refine XS.icmpYes X0.here hx rfl (pc0 := 36) (pc' := 44) rfl (hb hby d1_36) rfl (flt hc14).2.1 (by decide) (by decide) ?_
        show SS p e below m s₁ 44 #[iv p1, .unset] [] _
        refine XS.iloadN X0.here hx rfl (hb hby d1_44) rfl ?_
        show SS p e below m s₁ 45 #[iv p1, .unset] [(.int p1)] _
        refine X0.ldcInt hx hown (mvT hZ (hw _ (List.mem_of_getElem? (i := 20) rfl))) (g := (mkF m 45 #[iv p1, .unset] [(.int p1)])) rfl (hb hby d1_45) _ ?_
        show SS p e below m s₁ 47 #[iv p1, .unset] [(.int (57344 : Int32)), (.int p1)] _
        exact kk)
      by_cases hc17 : p1 < (57344 : Int32)
      · have pre18 : ∀ t, SS p e below m s₁ 80 #[iv p1, iv (0 : Int32)] [(.int (0 : Int32))] t → B t := fun t kk => pre16 t (by
          refine XS.icmpNo X0.here hx rfl (hb hby d1_47) rfl (tlt hc17).2.1 ?_
          show SS p e below m s₁ 50 #[iv p1, .unset] [] _
          refine XS.iconst X0.here hx rfl (hb hby d1_50) ?_
          show SS p e below m s₁ 51 #[iv p1, .unset] [(.int (0 : Int32))] _
          refine XS.istoreN X0.here hx rfl (hb hby d1_51) rfl (l' := #[iv p1, iv (0 : Int32)]) rfl ?_
          show SS p e below m s₁ 52 #[iv p1, iv (0 : Int32)] [] _
          refine XS.goto X0.here hx rfl (pc0 := 52) (pc' := 79) rfl (hb hby d1_52) (by decide) (by decide) ?_
          show SS p e below m s₁ 79 #[iv p1, iv (0 : Int32)] [] _
          refine XS.iloadN X0.here hx rfl (hb hby d1_79) rfl ?_
          show SS p e below m s₁ 80 #[iv p1, iv (0 : Int32)] [(.int (0 : Int32))] _
          exact kk)
        obtain ⟨fs, hr, hrun, hended, hW, hsame⟩ := X0.leave (v := some (.int (0 : Int32))) (fun h => by rw [Bd.returns] at h; cases h)
        refine ⟨_, _, hB _ (pre18 _ ?_), hrun, hended, _, _, rfl, ?_, ⟨_, rfl⟩, hW, hsame.mono (by decide) (by decide)⟩
        · exact retN X0 hx (t := .boolean) Bd.returns (by simp) (hb hby d1_80) hr
        · exact ⟨by show _ = some (Value.int (f1 p1)); rw [f1, if_neg hc2, if_neg hc14, if_pos hc17], N0, e0⟩
      · have pre19 : ∀ t, SS p e below m s₁ 58 #[iv p1, .unset] [(.int (65533 : Int32)), (.int p1)] t → B t := fun t kk => pre16 t (by
          refine XS.icmpYes X0.here hx rfl (pc0 := 47) (pc' := 55) rfl (hb hby d1_47) rfl (flt hc17).2.1 (by decide) (by decide) ?_
          show SS p e below m s₁ 55 #[iv p1, .unset] [] _
          refine XS.iloadN X0.here hx rfl (hb hby d1_55) rfl ?_
          show SS p e below m s₁ 56 #[iv p1, .unset] [(.int p1)] _
          refine X0.ldcInt hx hown (mvT hZ (hw _ (List.mem_of_getElem? (i := 21) rfl))) (g := (mkF m 56 #[iv p1, .unset] [(.int p1)])) rfl (hb hby d1_56) _ ?_
          show SS p e below m s₁ 58 #[iv p1, .unset] [(.int (65533 : Int32)), (.int p1)] _
          exact kk)
        by_cases hc20 : (65533 : Int32) < p1
        · have pre21 : ∀ t, SS p e below m s₁ 64 #[iv p1, .unset] [(.int (65536 : Int32)), (.int p1)] t → B t := fun t kk => pre19 t (by
            refine XS.icmpNo X0.here hx rfl (hb hby d1_58) rfl (tlt hc20).2.2.2 ?_
            show SS p e below m s₁ 61 #[iv p1, .unset] [] _
            refine XS.iloadN X0.here hx rfl (hb hby d1_61) rfl ?_
            show SS p e below m s₁ 62 #[iv p1, .unset] [(.int p1)] _
            refine X0.ldcInt hx hown (mvT hZ (hw _ (List.mem_of_getElem? (i := 22) rfl))) (g := (mkF m 62 #[iv p1, .unset] [(.int p1)])) rfl (hb hby d1_62) _ ?_
            show SS p e below m s₁ 64 #[iv p1, .unset] [(.int (65536 : Int32)), (.int p1)] _
            exact kk)
          by_cases hc22 : p1 < (65536 : Int32)
          · have pre23 : ∀ t, SS p e below m s₁ 80 #[iv p1, iv (0 : Int32)] [(.int (0 : Int32))] t → B t := fun t kk => pre21 t (by
              refine XS.icmpYes X0.here hx rfl (pc0 := 64) (pc' := 77) rfl (hb hby d1_64) rfl (tlt hc22).1 (by decide) (by decide) ?_
              show SS p e below m s₁ 77 #[iv p1, .unset] [] _
              refine XS.iconst X0.here hx rfl (hb hby d1_77) ?_
              show SS p e below m s₁ 78 #[iv p1, .unset] [(.int (0 : Int32))] _
              refine XS.istoreN X0.here hx rfl (hb hby d1_78) rfl (l' := #[iv p1, iv (0 : Int32)]) rfl ?_
              show SS p e below m s₁ 79 #[iv p1, iv (0 : Int32)] [] _
              refine XS.iloadN X0.here hx rfl (hb hby d1_79) rfl ?_
              show SS p e below m s₁ 80 #[iv p1, iv (0 : Int32)] [(.int (0 : Int32))] _
              exact kk)
            obtain ⟨fs, hr, hrun, hended, hW, hsame⟩ := X0.leave (v := some (.int (0 : Int32))) (fun h => by rw [Bd.returns] at h; cases h)
            refine ⟨_, _, hB _ (pre23 _ ?_), hrun, hended, _, _, rfl, ?_, ⟨_, rfl⟩, hW, hsame.mono (by decide) (by decide)⟩
            · exact retN X0 hx (t := .boolean) Bd.returns (by simp) (hb hby d1_80) hr
            · exact ⟨by show _ = some (Value.int (f1 p1)); rw [f1, if_neg hc2, if_neg hc14, if_neg hc17, if_pos hc20, if_pos hc22], N0, e0⟩
          · have pre24 : ∀ t, SS p e below m s₁ 70 #[iv p1, .unset] [(.int (1114111 : Int32)), (.int p1)] t → B t := fun t kk => pre21 t (by
              refine XS.icmpNo X0.here hx rfl (hb hby d1_64) rfl (flt hc22).1 ?_
              show SS p e below m s₁ 67 #[iv p1, .unset] [] _
              refine XS.iloadN X0.here hx rfl (hb hby d1_67) rfl ?_
              show SS p e below m s₁ 68 #[iv p1, .unset] [(.int p1)] _
              refine X0.ldcInt hx hown (mvT hZ (hw _ (List.mem_of_getElem? (i := 23) rfl))) (g := (mkF m 68 #[iv p1, .unset] [(.int p1)])) rfl (hb hby d1_68) _ ?_
              show SS p e below m s₁ 70 #[iv p1, .unset] [(.int (1114111 : Int32)), (.int p1)] _
              exact kk)
            by_cases hc25 : (1114111 : Int32) < p1
            · have pre26 : ∀ t, SS p e below m s₁ 80 #[iv p1, iv (0 : Int32)] [(.int (0 : Int32))] t → B t := fun t kk => pre24 t (by
                refine XS.icmpYes X0.here hx rfl (pc0 := 70) (pc' := 77) rfl (hb hby d1_70) rfl (tlt hc25).2.2.1 (by decide) (by decide) ?_
                show SS p e below m s₁ 77 #[iv p1, .unset] [] _
                refine XS.iconst X0.here hx rfl (hb hby d1_77) ?_
                show SS p e below m s₁ 78 #[iv p1, .unset] [(.int (0 : Int32))] _
                refine XS.istoreN X0.here hx rfl (hb hby d1_78) rfl (l' := #[iv p1, iv (0 : Int32)]) rfl ?_
                show SS p e below m s₁ 79 #[iv p1, iv (0 : Int32)] [] _
                refine XS.iloadN X0.here hx rfl (hb hby d1_79) rfl ?_
                show SS p e below m s₁ 80 #[iv p1, iv (0 : Int32)] [(.int (0 : Int32))] _
                exact kk)
              obtain ⟨fs, hr, hrun, hended, hW, hsame⟩ := X0.leave (v := some (.int (0 : Int32))) (fun h => by rw [Bd.returns] at h; cases h)
              refine ⟨_, _, hB _ (pre26 _ ?_), hrun, hended, _, _, rfl, ?_, ⟨_, rfl⟩, hW, hsame.mono (by decide) (by decide)⟩
              · exact retN X0 hx (t := .boolean) Bd.returns (by simp) (hb hby d1_80) hr
              · exact ⟨by show _ = some (Value.int (f1 p1)); rw [f1, if_neg hc2, if_neg hc14, if_neg hc17, if_pos hc20, if_neg hc22, if_pos hc25], N0, e0⟩
            · have pre27 : ∀ t, SS p e below m s₁ 80 #[iv p1, iv (1 : Int32)] [(.int (1 : Int32))] t → B t := fun t kk => pre24 t (by
                refine XS.icmpNo X0.here hx rfl (hb hby d1_70) rfl (flt hc25).2.2.1 ?_
                show SS p e below m s₁ 73 #[iv p1, .unset] [] _
                refine XS.iconst X0.here hx rfl (hb hby d1_73) ?_
                show SS p e below m s₁ 74 #[iv p1, .unset] [(.int (1 : Int32))] _
                refine XS.goto X0.here hx rfl (pc0 := 74) (pc' := 78) rfl (hb hby d1_74) (by decide) (by decide) ?_
                show SS p e below m s₁ 78 #[iv p1, .unset] [(.int (1 : Int32))] _
                refine XS.istoreN X0.here hx rfl (hb hby d1_78) rfl (l' := #[iv p1, iv (1 : Int32)]) rfl ?_
                show SS p e below m s₁ 79 #[iv p1, iv (1 : Int32)] [] _
                refine XS.iloadN X0.here hx rfl (hb hby d1_79) rfl ?_
                show SS p e below m s₁ 80 #[iv p1, iv (1 : Int32)] [(.int (1 : Int32))] _
                exact kk)
              obtain ⟨fs, hr, hrun, hended, hW, hsame⟩ := X0.leave (v := some (.int (1 : Int32))) (fun h => by rw [Bd.returns] at h; cases h)
              refine ⟨_, _, hB _ (pre27 _ ?_), hrun, hended, _, _, rfl, ?_, ⟨_, rfl⟩, hW, hsame.mono (by decide) (by decide)⟩
              · exact retN X0 hx (t := .boolean) Bd.returns (by simp) (hb hby d1_80) hr
              · exact ⟨by show _ = some (Value.int (f1 p1)); rw [f1, if_neg hc2, if_neg hc14, if_neg hc17, if_pos hc20, if_neg hc22, if_neg hc25], N0, e0⟩
        · have pre28 : ∀ t, SS p e below m s₁ 80 #[iv p1, iv (1 : Int32)] [(.int (1 : Int32))] t → B t := fun t kk => pre19 t (by
            refine XS.icmpYes X0.here hx rfl (pc0 := 58) (pc' := 73) rfl (hb hby d1_58) rfl (flt hc20).2.2.2 (by decide) (by decide) ?_
            show SS p e below m s₁ 73 #[iv p1, .unset] [] _
            refine XS.iconst X0.here hx rfl (hb hby d1_73) ?_
            show SS p e below m s₁ 74 #[iv p1, .unset] [(.int (1 : Int32))] _
            refine XS.goto X0.here hx rfl (pc0 := 74) (pc' := 78) rfl (hb hby d1_74) (by decide) (by decide) ?_
            show SS p e below m s₁ 78 #[iv p1, .unset] [(.int (1 : Int32))] _
            refine XS.istoreN X0.here hx rfl (hb hby d1_78) rfl (l' := #[iv p1, iv (1 : Int32)]) rfl ?_
            show SS p e below m s₁ 79 #[iv p1, iv (1 : Int32)] [] _
            refine XS.iloadN X0.here hx rfl (hb hby d1_79) rfl ?_
            show SS p e below m s₁ 80 #[iv p1, iv (1 : Int32)] [(.int (1 : Int32))] _
            exact kk)
          obtain ⟨fs, hr, hrun, hended, hW, hsame⟩ := X0.leave (v := some (.int (1 : Int32))) (fun h => by rw [Bd.returns] at h; cases h)
          refine ⟨_, _, hB _ (pre28 _ ?_), hrun, hended, _, _, rfl, ?_, ⟨_, rfl⟩, hW, hsame.mono (by decide) (by decide)⟩
          · exact retN X0 hx (t := .boolean) Bd.returns (by simp) (hb hby d1_80) hr
          · exact ⟨by show _ = some (Value.int (f1 p1)); rw [f1, if_neg hc2, if_neg hc14, if_neg hc17, if_neg hc20], N0, e0⟩
theorem d2_0 : decode method_2_code 0 = .ok (.iload_n 0, 1) := by decide +kernel
theorem d2_1 : decode method_2_code 1 = .ok (.bipush 9, 2) := by decide +kernel
theorem d2_3 : decode method_2_code 3 = .ok (.if_icmp .eq 51, 3) := by decide +kernel
theorem d2_6 : decode method_2_code 6 = .ok (.iload_n 0, 1) := by decide +kernel
theorem d2_7 : decode method_2_code 7 = .ok (.bipush 10, 2) := by decide +kernel
theorem d2_9 : decode method_2_code 9 = .ok (.if_icmp .eq 45, 3) := by decide +kernel
theorem d2_12 : decode method_2_code 12 = .ok (.iload_n 0, 1) := by decide +kernel
theorem d2_13 : decode method_2_code 13 = .ok (.bipush 13, 2) := by decide +kernel
theorem d2_15 : decode method_2_code 15 = .ok (.if_icmp .eq 39, 3) := by decide +kernel
theorem d2_18 : decode method_2_code 18 = .ok (.iload_n 0, 1) := by decide +kernel
theorem d2_19 : decode method_2_code 19 = .ok (.bipush 32, 2) := by decide +kernel
theorem d2_21 : decode method_2_code 21 = .ok (.if_icmp .lt 9, 3) := by decide +kernel
theorem d2_24 : decode method_2_code 24 = .ok (.iload_n 0, 1) := by decide +kernel
theorem d2_25 : decode method_2_code 25 = .ok (.ldc 7, 2) := by decide +kernel
theorem d2_27 : decode method_2_code 27 = .ok (.if_icmp .le 27, 3) := by decide +kernel
theorem d2_30 : decode method_2_code 30 = .ok (.iload_n 0, 1) := by decide +kernel
theorem d2_31 : decode method_2_code 31 = .ok (.ldc 8, 2) := by decide +kernel
theorem d2_33 : decode method_2_code 33 = .ok (.if_icmp .lt 9, 3) := by decide +kernel
theorem d2_36 : decode method_2_code 36 = .ok (.iload_n 0, 1) := by decide +kernel
theorem d2_37 : decode method_2_code 37 = .ok (.ldc 9, 2) := by decide +kernel
theorem d2_39 : decode method_2_code 39 = .ok (.if_icmp .le 15, 3) := by decide +kernel
theorem d2_42 : decode method_2_code 42 = .ok (.iload_n 0, 1) := by decide +kernel
theorem d2_43 : decode method_2_code 43 = .ok (.ldc 10, 2) := by decide +kernel
theorem d2_45 : decode method_2_code 45 = .ok (.if_icmp .lt 13, 3) := by decide +kernel
theorem d2_48 : decode method_2_code 48 = .ok (.iload_n 0, 1) := by decide +kernel
theorem d2_49 : decode method_2_code 49 = .ok (.ldc 11, 2) := by decide +kernel
theorem d2_51 : decode method_2_code 51 = .ok (.if_icmp .gt 7, 3) := by decide +kernel
theorem d2_54 : decode method_2_code 54 = .ok (.iconst 1, 1) := by decide +kernel
theorem d2_55 : decode method_2_code 55 = .ok (.goto 4, 3) := by decide +kernel
theorem d2_58 : decode method_2_code 58 = .ok (.iconst 0, 1) := by decide +kernel
theorem d2_59 : decode method_2_code 59 = .ok (.ireturn, 1) := by decide +kernel
theorem pn_2 : plainName "com/example/mendmark/mendmark/core/XmlCharsIsCharPinLaw" = true := by first | (simp [plainName, overriddenIn]; done) | decide +kernel
theorem ef_2 (m : MethodId) (p1 : Int32) : entryFrame m #[(.int p1)] 1 = mkF m 0 #[iv p1] [] := by first | (simp [entryFrame, mkF, argsToLocals, Value.category]; done) | rfl
def f2 (p1 : Int32)  : Int32 := (if p1 = (9 : Int32) then (1 : Int32) else (if p1 = (10 : Int32) then (1 : Int32) else (if p1 = (13 : Int32) then (1 : Int32) else (if p1 < (32 : Int32) then (if p1 < (57344 : Int32) then (if p1 < (65536 : Int32) then (0 : Int32) else (if (1114111 : Int32) < p1 then (0 : Int32) else (1 : Int32))) else (if (65533 : Int32) < p1 then (if p1 < (65536 : Int32) then (0 : Int32) else (if (1114111 : Int32) < p1 then (0 : Int32) else (1 : Int32))) else (1 : Int32))) else (if (55295 : Int32) < p1 then (if p1 < (57344 : Int32) then (if p1 < (65536 : Int32) then (0 : Int32) else (if (1114111 : Int32) < p1 then (0 : Int32) else (1 : Int32))) else (if (65533 : Int32) < p1 then (if p1 < (65536 : Int32) then (0 : Int32) else (if (1114111 : Int32) < p1 then (0 : Int32) else (1 : Int32))) else (1 : Int32))) else (1 : Int32))))))
set_option maxRecDepth 65536 in
set_option maxHeartbeats 40000000 in
theorem rm2 (l : Launch) (Z : State) (a0 : Array Value) (hw : ∀ d ∈ tables_1, d.before a0 Z = true) (ws : List Jvm.Cond) (p1 : Int32)  (h0 : Heap) (n0 : Nat) (Z0 : n0 ≤ h0.size)  :
    MetFree l (⟨"com/example/mendmark/mendmark/core/XmlCharsIsCharPinLaw", "ref", "(I)Z"⟩ : MethodName) (head1 (Jvm.Cond.code (⟨"com/example/mendmark/mendmark/core/XmlCharsIsCharPinLaw", "ref", "(I)Z"⟩ : MethodName) method_2_code 1 (some .boolean) :: ws) ({ frames := 0, cells := 0, slots := 0, locals := 0 } : Room)) (fun a U => a = #[(.int p1)] ∧ Z.Warmed39 U.vm ∧ U.heap = h0) (fun _ _ _ _ _ => True) (fun _ U o U' => ∃ v L, o = .returned v ∧ QI (f2 p1) h0 n0 v U'.heap L ∧ FrameEnd U o U' L ({ frames := 0, cells := 0, slots := 0, locals := 0 } : Room).cells ({ frames := 0, cells := 0, slots := 0, locals := 0 } : Room).slots) := by
  refine MetFree.of_bodySF (plainFor_of_name pn_2) hisR ?_
  intro p e s m args below meth c s₁ Bd hml0 hP hK
  obtain ⟨rfl, hZ, hh⟩ := hP
  have hx := Bd.exec
  have hby := Bd.bytes
  have hml : c.maxLocals = 1 := hml0
  have hown : s.vm.findClass "com/example/mendmark/mendmark/core/XmlCharsIsCharPinLaw" = some m.cls := findClass_of_methodNamed Bd.named
  have hnm := (name_of_methodNamed Bd.named Bd.method).1
  have X0 : Stand p l e ({ frames := 0, cells := 0, slots := 0, locals := 0 } : Room) s m #[(.int p1)] below meth c s₁ [] 0 0 := Stand.of_body Bd
  have e0 : s₁.heap = h0 := by rw [← hh, Bd.state]; rfl
  have N0 := Fr.nil n0
  obtain ⟨B, hB, pre0⟩ : ∃ B : State → Prop, (∀ t, B t → Steps p.tables e below (s₁.setTop (entryFrame m #[(.int p1)] 1)) t) ∧ ∀ t, SS p e below m s₁ 0 #[iv p1] [] t → B t := ⟨_, fun _ q => q, fun t kk => castTop (ef_2 m p1) kk⟩
  have pre1 : ∀ t, SS p e below m s₁ 3 #[iv p1] [(.int (9 : Int32)), (.int p1)] t → B t := fun t kk => pre0 t (by
    show SS p e below m s₁ 0 #[iv p1] [] _
    refine XS.iloadN X0.here hx rfl (hb hby d2_0) rfl ?_
    show SS p e below m s₁ 1 #[iv p1] [(.int p1)] _
    refine XS.bipush X0.here hx rfl (hb hby d2_1) ?_
    show SS p e below m s₁ 3 #[iv p1] [(.int (9 : Int32)), (.int p1)] _
    exact kk)
  by_cases hc2 : p1 = (9 : Int32)
  · have pre3 : ∀ t, SS p e below m s₁ 59 #[iv p1] [(.int (1 : Int32))] t → B t := fun t kk => pre1 t (by
      refine XS.icmpYes X0.here hx rfl (pc0 := 3) (pc' := 54) rfl (hb hby d2_3) rfl (teq hc2).1 (by decide) (by decide) ?_
      show SS p e below m s₁ 54 #[iv p1] [] _
      refine XS.iconst X0.here hx rfl (hb hby d2_54) ?_
      show SS p e below m s₁ 55 #[iv p1] [(.int (1 : Int32))] _
      refine XS.goto X0.here hx rfl (pc0 := 55) (pc' := 59) rfl (hb hby d2_55) (by decide) (by decide) ?_
      show SS p e below m s₁ 59 #[iv p1] [(.int (1 : Int32))] _
      exact kk)
    obtain ⟨fs, hr, hrun, hended, hW, hsame⟩ := X0.leave (v := some (.int (1 : Int32))) (fun h => by rw [Bd.returns] at h; cases h)
    refine ⟨_, _, hB _ (pre3 _ ?_), hrun, hended, _, _, rfl, ?_, ⟨_, rfl⟩, hW, hsame.mono (by decide) (by decide)⟩
    · exact retN X0 hx (t := .boolean) Bd.returns (by simp) (hb hby d2_59) hr
    · exact ⟨by show _ = some (Value.int (f2 p1)); rw [f2, if_pos hc2], N0, e0⟩
  · have pre4 : ∀ t, SS p e below m s₁ 9 #[iv p1] [(.int (10 : Int32)), (.int p1)] t → B t := fun t kk => pre1 t (by
      refine XS.icmpNo X0.here hx rfl (hb hby d2_3) rfl (feq hc2).1 ?_
      show SS p e below m s₁ 6 #[iv p1] [] _
      refine XS.iloadN X0.here hx rfl (hb hby d2_6) rfl ?_
      show SS p e below m s₁ 7 #[iv p1] [(.int p1)] _
      refine XS.bipush X0.here hx rfl (hb hby d2_7) ?_
      show SS p e below m s₁ 9 #[iv p1] [(.int (10 : Int32)), (.int p1)] _
      exact kk)
    by_cases hc5 : p1 = (10 : Int32)
    · have pre6 : ∀ t, SS p e below m s₁ 59 #[iv p1] [(.int (1 : Int32))] t → B t := fun t kk => pre4 t (by
        refine XS.icmpYes X0.here hx rfl (pc0 := 9) (pc' := 54) rfl (hb hby d2_9) rfl (teq hc5).1 (by decide) (by decide) ?_
        show SS p e below m s₁ 54 #[iv p1] [] _
        refine XS.iconst X0.here hx rfl (hb hby d2_54) ?_
        show SS p e below m s₁ 55 #[iv p1] [(.int (1 : Int32))] _
        refine XS.goto X0.here hx rfl (pc0 := 55) (pc' := 59) rfl (hb hby d2_55) (by decide) (by decide) ?_
        show SS p e below m s₁ 59 #[iv p1] [(.int (1 : Int32))] _
        exact kk)
      obtain ⟨fs, hr, hrun, hended, hW, hsame⟩ := X0.leave (v := some (.int (1 : Int32))) (fun h => by rw [Bd.returns] at h; cases h)
      refine ⟨_, _, hB _ (pre6 _ ?_), hrun, hended, _, _, rfl, ?_, ⟨_, rfl⟩, hW, hsame.mono (by decide) (by decide)⟩
      · exact retN X0 hx (t := .boolean) Bd.returns (by simp) (hb hby d2_59) hr
      · exact ⟨by show _ = some (Value.int (f2 p1)); rw [f2, if_neg hc2, if_pos hc5], N0, e0⟩
    · have pre7 : ∀ t, SS p e below m s₁ 15 #[iv p1] [(.int (13 : Int32)), (.int p1)] t → B t := fun t kk => pre4 t (by
        refine XS.icmpNo X0.here hx rfl (hb hby d2_9) rfl (feq hc5).1 ?_
        show SS p e below m s₁ 12 #[iv p1] [] _
        refine XS.iloadN X0.here hx rfl (hb hby d2_12) rfl ?_
        show SS p e below m s₁ 13 #[iv p1] [(.int p1)] _
        refine XS.bipush X0.here hx rfl (hb hby d2_13) ?_
        show SS p e below m s₁ 15 #[iv p1] [(.int (13 : Int32)), (.int p1)] _
        exact kk)
      by_cases hc8 : p1 = (13 : Int32)
      · have pre9 : ∀ t, SS p e below m s₁ 59 #[iv p1] [(.int (1 : Int32))] t → B t := fun t kk => pre7 t (by
          refine XS.icmpYes X0.here hx rfl (pc0 := 15) (pc' := 54) rfl (hb hby d2_15) rfl (teq hc8).1 (by decide) (by decide) ?_
          show SS p e below m s₁ 54 #[iv p1] [] _
          refine XS.iconst X0.here hx rfl (hb hby d2_54) ?_
          show SS p e below m s₁ 55 #[iv p1] [(.int (1 : Int32))] _
          refine XS.goto X0.here hx rfl (pc0 := 55) (pc' := 59) rfl (hb hby d2_55) (by decide) (by decide) ?_
          show SS p e below m s₁ 59 #[iv p1] [(.int (1 : Int32))] _
          exact kk)
        obtain ⟨fs, hr, hrun, hended, hW, hsame⟩ := X0.leave (v := some (.int (1 : Int32))) (fun h => by rw [Bd.returns] at h; cases h)
        refine ⟨_, _, hB _ (pre9 _ ?_), hrun, hended, _, _, rfl, ?_, ⟨_, rfl⟩, hW, hsame.mono (by decide) (by decide)⟩
        · exact retN X0 hx (t := .boolean) Bd.returns (by simp) (hb hby d2_59) hr
        · exact ⟨by show _ = some (Value.int (f2 p1)); rw [f2, if_neg hc2, if_neg hc5, if_pos hc8], N0, e0⟩
      · have pre10 : ∀ t, SS p e below m s₁ 21 #[iv p1] [(.int (32 : Int32)), (.int p1)] t → B t := fun t kk => pre7 t (by
          refine XS.icmpNo X0.here hx rfl (hb hby d2_15) rfl (feq hc8).1 ?_
          show SS p e below m s₁ 18 #[iv p1] [] _
          refine XS.iloadN X0.here hx rfl (hb hby d2_18) rfl ?_
          show SS p e below m s₁ 19 #[iv p1] [(.int p1)] _
          refine XS.bipush X0.here hx rfl (hb hby d2_19) ?_
          show SS p e below m s₁ 21 #[iv p1] [(.int (32 : Int32)), (.int p1)] _
          exact kk)
        by_cases hc11 : p1 < (32 : Int32)
        · have pre12 : ∀ t, SS p e below m s₁ 33 #[iv p1] [(.int (57344 : Int32)), (.int p1)] t → B t := fun t kk => pre10 t (by
            refine XS.icmpYes X0.here hx rfl (pc0 := 21) (pc' := 30) rfl (hb hby d2_21) rfl (tlt hc11).1 (by decide) (by decide) ?_
            show SS p e below m s₁ 30 #[iv p1] [] _
            refine XS.iloadN X0.here hx rfl (hb hby d2_30) rfl ?_
            show SS p e below m s₁ 31 #[iv p1] [(.int p1)] _
            refine X0.ldcInt hx hown (mvT hZ (hw _ (List.mem_of_getElem? (i := 2) rfl))) (g := (mkF m 31 #[iv p1] [(.int p1)])) rfl (hb hby d2_31) _ ?_
            show SS p e below m s₁ 33 #[iv p1] [(.int (57344 : Int32)), (.int p1)] _
            exact kk)
          by_cases hc13 : p1 < (57344 : Int32)
          · have pre14 : ∀ t, SS p e below m s₁ 45 #[iv p1] [(.int (65536 : Int32)), (.int p1)] t → B t := fun t kk => pre12 t (by
              refine XS.icmpYes X0.here hx rfl (pc0 := 33) (pc' := 42) rfl (hb hby d2_33) rfl (tlt hc13).1 (by decide) (by decide) ?_
              show SS p e below m s₁ 42 #[iv p1] [] _
              refine XS.iloadN X0.here hx rfl (hb hby d2_42) rfl ?_
              show SS p e below m s₁ 43 #[iv p1] [(.int p1)] _
              refine X0.ldcInt hx hown (mvT hZ (hw _ (List.mem_of_getElem? (i := 4) rfl))) (g := (mkF m 43 #[iv p1] [(.int p1)])) rfl (hb hby d2_43) _ ?_
              show SS p e below m s₁ 45 #[iv p1] [(.int (65536 : Int32)), (.int p1)] _
              exact kk)
            by_cases hc15 : p1 < (65536 : Int32)
            · have pre16 : ∀ t, SS p e below m s₁ 59 #[iv p1] [(.int (0 : Int32))] t → B t := fun t kk => pre14 t (by
                refine XS.icmpYes X0.here hx rfl (pc0 := 45) (pc' := 58) rfl (hb hby d2_45) rfl (tlt hc15).1 (by decide) (by decide) ?_
                show SS p e below m s₁ 58 #[iv p1] [] _
                refine XS.iconst X0.here hx rfl (hb hby d2_58) ?_
                show SS p e below m s₁ 59 #[iv p1] [(.int (0 : Int32))] _
                exact kk)
              obtain ⟨fs, hr, hrun, hended, hW, hsame⟩ := X0.leave (v := some (.int (0 : Int32))) (fun h => by rw [Bd.returns] at h; cases h)
              refine ⟨_, _, hB _ (pre16 _ ?_), hrun, hended, _, _, rfl, ?_, ⟨_, rfl⟩, hW, hsame.mono (by decide) (by decide)⟩
              · exact retN X0 hx (t := .boolean) Bd.returns (by simp) (hb hby d2_59) hr
              · exact ⟨by show _ = some (Value.int (f2 p1)); rw [f2, if_neg hc2, if_neg hc5, if_neg hc8, if_pos hc11, if_pos hc13, if_pos hc15], N0, e0⟩
            · have pre17 : ∀ t, SS p e below m s₁ 51 #[iv p1] [(.int (1114111 : Int32)), (.int p1)] t → B t := fun t kk => pre14 t (by
                refine XS.icmpNo X0.here hx rfl (hb hby d2_45) rfl (flt hc15).1 ?_
                show SS p e below m s₁ 48 #[iv p1] [] _
                refine XS.iloadN X0.here hx rfl (hb hby d2_48) rfl ?_
                show SS p e below m s₁ 49 #[iv p1] [(.int p1)] _
                refine X0.ldcInt hx hown (mvT hZ (hw _ (List.mem_of_getElem? (i := 5) rfl))) (g := (mkF m 49 #[iv p1] [(.int p1)])) rfl (hb hby d2_49) _ ?_
                show SS p e below m s₁ 51 #[iv p1] [(.int (1114111 : Int32)), (.int p1)] _
                exact kk)
              by_cases hc18 : (1114111 : Int32) < p1
              · have pre19 : ∀ t, SS p e below m s₁ 59 #[iv p1] [(.int (0 : Int32))] t → B t := fun t kk => pre17 t (by
                  refine XS.icmpYes X0.here hx rfl (pc0 := 51) (pc' := 58) rfl (hb hby d2_51) rfl (tlt hc18).2.2.1 (by decide) (by decide) ?_
                  show SS p e below m s₁ 58 #[iv p1] [] _
                  refine XS.iconst X0.here hx rfl (hb hby d2_58) ?_
                  show SS p e below m s₁ 59 #[iv p1] [(.int (0 : Int32))] _
                  exact kk)
                obtain ⟨fs, hr, hrun, hended, hW, hsame⟩ := X0.leave (v := some (.int (0 : Int32))) (fun h => by rw [Bd.returns] at h; cases h)
                refine ⟨_, _, hB _ (pre19 _ ?_), hrun, hended, _, _, rfl, ?_, ⟨_, rfl⟩, hW, hsame.mono (by decide) (by decide)⟩
                · exact retN X0 hx (t := .boolean) Bd.returns (by simp) (hb hby d2_59) hr
                · exact ⟨by show _ = some (Value.int (f2 p1)); rw [f2, if_neg hc2, if_neg hc5, if_neg hc8, if_pos hc11, if_pos hc13, if_neg hc15, if_pos hc18], N0, e0⟩
              · have pre20 : ∀ t, SS p e below m s₁ 59 #[iv p1] [(.int (1 : Int32))] t → B t := fun t kk => pre17 t (by
                  refine XS.icmpNo X0.here hx rfl (hb hby d2_51) rfl (flt hc18).2.2.1 ?_
                  show SS p e below m s₁ 54 #[iv p1] [] _
                  refine XS.iconst X0.here hx rfl (hb hby d2_54) ?_
                  show SS p e below m s₁ 55 #[iv p1] [(.int (1 : Int32))] _
                  refine XS.goto X0.here hx rfl (pc0 := 55) (pc' := 59) rfl (hb hby d2_55) (by decide) (by decide) ?_
                  show SS p e below m s₁ 59 #[iv p1] [(.int (1 : Int32))] _
                  exact kk)
                obtain ⟨fs, hr, hrun, hended, hW, hsame⟩ := X0.leave (v := some (.int (1 : Int32))) (fun h => by rw [Bd.returns] at h; cases h)
                refine ⟨_, _, hB _ (pre20 _ ?_), hrun, hended, _, _, rfl, ?_, ⟨_, rfl⟩, hW, hsame.mono (by decide) (by decide)⟩
                · exact retN X0 hx (t := .boolean) Bd.returns (by simp) (hb hby d2_59) hr
                · exact ⟨by show _ = some (Value.int (f2 p1)); rw [f2, if_neg hc2, if_neg hc5, if_neg hc8, if_pos hc11, if_pos hc13, if_neg hc15, if_neg hc18], N0, e0⟩
          · have pre21 : ∀ t, SS p e below m s₁ 39 #[iv p1] [(.int (65533 : Int32)), (.int p1)] t → B t := fun t kk => pre12 t (by
              refine XS.icmpNo X0.here hx rfl (hb hby d2_33) rfl (flt hc13).1 ?_
              show SS p e below m s₁ 36 #[iv p1] [] _
              refine XS.iloadN X0.here hx rfl (hb hby d2_36) rfl ?_
              show SS p e below m s₁ 37 #[iv p1] [(.int p1)] _
              refine X0.ldcInt hx hown (mvT hZ (hw _ (List.mem_of_getElem? (i := 3) rfl))) (g := (mkF m 37 #[iv p1] [(.int p1)])) rfl (hb hby d2_37) _ ?_
              show SS p e below m s₁ 39 #[iv p1] [(.int (65533 : Int32)), (.int p1)] _
              exact kk)
            by_cases hc22 : (65533 : Int32) < p1
            · have pre23 : ∀ t, SS p e below m s₁ 45 #[iv p1] [(.int (65536 : Int32)), (.int p1)] t → B t := fun t kk => pre21 t (by
                refine XS.icmpNo X0.here hx rfl (hb hby d2_39) rfl (tlt hc22).2.2.2 ?_
                show SS p e below m s₁ 42 #[iv p1] [] _
                refine XS.iloadN X0.here hx rfl (hb hby d2_42) rfl ?_
                show SS p e below m s₁ 43 #[iv p1] [(.int p1)] _
                refine X0.ldcInt hx hown (mvT hZ (hw _ (List.mem_of_getElem? (i := 4) rfl))) (g := (mkF m 43 #[iv p1] [(.int p1)])) rfl (hb hby d2_43) _ ?_
                show SS p e below m s₁ 45 #[iv p1] [(.int (65536 : Int32)), (.int p1)] _
                exact kk)
              by_cases hc24 : p1 < (65536 : Int32)
              · have pre25 : ∀ t, SS p e below m s₁ 59 #[iv p1] [(.int (0 : Int32))] t → B t := fun t kk => pre23 t (by
                  refine XS.icmpYes X0.here hx rfl (pc0 := 45) (pc' := 58) rfl (hb hby d2_45) rfl (tlt hc24).1 (by decide) (by decide) ?_
                  show SS p e below m s₁ 58 #[iv p1] [] _
                  refine XS.iconst X0.here hx rfl (hb hby d2_58) ?_
                  show SS p e below m s₁ 59 #[iv p1] [(.int (0 : Int32))] _
                  exact kk)
                obtain ⟨fs, hr, hrun, hended, hW, hsame⟩ := X0.leave (v := some (.int (0 : Int32))) (fun h => by rw [Bd.returns] at h; cases h)
                refine ⟨_, _, hB _ (pre25 _ ?_), hrun, hended, _, _, rfl, ?_, ⟨_, rfl⟩, hW, hsame.mono (by decide) (by decide)⟩
                · exact retN X0 hx (t := .boolean) Bd.returns (by simp) (hb hby d2_59) hr
                · exact ⟨by show _ = some (Value.int (f2 p1)); rw [f2, if_neg hc2, if_neg hc5, if_neg hc8, if_pos hc11, if_neg hc13, if_pos hc22, if_pos hc24], N0, e0⟩
              · have pre26 : ∀ t, SS p e below m s₁ 51 #[iv p1] [(.int (1114111 : Int32)), (.int p1)] t → B t := fun t kk => pre23 t (by
                  refine XS.icmpNo X0.here hx rfl (hb hby d2_45) rfl (flt hc24).1 ?_
                  show SS p e below m s₁ 48 #[iv p1] [] _
                  refine XS.iloadN X0.here hx rfl (hb hby d2_48) rfl ?_
                  show SS p e below m s₁ 49 #[iv p1] [(.int p1)] _
                  refine X0.ldcInt hx hown (mvT hZ (hw _ (List.mem_of_getElem? (i := 5) rfl))) (g := (mkF m 49 #[iv p1] [(.int p1)])) rfl (hb hby d2_49) _ ?_
                  show SS p e below m s₁ 51 #[iv p1] [(.int (1114111 : Int32)), (.int p1)] _
                  exact kk)
                by_cases hc27 : (1114111 : Int32) < p1
                · have pre28 : ∀ t, SS p e below m s₁ 59 #[iv p1] [(.int (0 : Int32))] t → B t := fun t kk => pre26 t (by
                    refine XS.icmpYes X0.here hx rfl (pc0 := 51) (pc' := 58) rfl (hb hby d2_51) rfl (tlt hc27).2.2.1 (by decide) (by decide) ?_
                    show SS p e below m s₁ 58 #[iv p1] [] _
                    refine XS.iconst X0.here hx rfl (hb hby d2_58) ?_
                    show SS p e below m s₁ 59 #[iv p1] [(.int (0 : Int32))] _
                    exact kk)
                  obtain ⟨fs, hr, hrun, hended, hW, hsame⟩ := X0.leave (v := some (.int (0 : Int32))) (fun h => by rw [Bd.returns] at h; cases h)
                  refine ⟨_, _, hB _ (pre28 _ ?_), hrun, hended, _, _, rfl, ?_, ⟨_, rfl⟩, hW, hsame.mono (by decide) (by decide)⟩
                  · exact retN X0 hx (t := .boolean) Bd.returns (by simp) (hb hby d2_59) hr
                  · exact ⟨by show _ = some (Value.int (f2 p1)); rw [f2, if_neg hc2, if_neg hc5, if_neg hc8, if_pos hc11, if_neg hc13, if_pos hc22, if_neg hc24, if_pos hc27], N0, e0⟩
                · have pre29 : ∀ t, SS p e below m s₁ 59 #[iv p1] [(.int (1 : Int32))] t → B t := fun t kk => pre26 t (by
                    refine XS.icmpNo X0.here hx rfl (hb hby d2_51) rfl (flt hc27).2.2.1 ?_
                    show SS p e below m s₁ 54 #[iv p1] [] _
                    refine XS.iconst X0.here hx rfl (hb hby d2_54) ?_
                    show SS p e below m s₁ 55 #[iv p1] [(.int (1 : Int32))] _
                    refine XS.goto X0.here hx rfl (pc0 := 55) (pc' := 59) rfl (hb hby d2_55) (by decide) (by decide) ?_
                    show SS p e below m s₁ 59 #[iv p1] [(.int (1 : Int32))] _
                    exact kk)
                  obtain ⟨fs, hr, hrun, hended, hW, hsame⟩ := X0.leave (v := some (.int (1 : Int32))) (fun h => by rw [Bd.returns] at h; cases h)
                  refine ⟨_, _, hB _ (pre29 _ ?_), hrun, hended, _, _, rfl, ?_, ⟨_, rfl⟩, hW, hsame.mono (by decide) (by decide)⟩
                  · exact retN X0 hx (t := .boolean) Bd.returns (by simp) (hb hby d2_59) hr
                  · exact ⟨by show _ = some (Value.int (f2 p1)); rw [f2, if_neg hc2, if_neg hc5, if_neg hc8, if_pos hc11, if_neg hc13, if_pos hc22, if_neg hc24, if_neg hc27], N0, e0⟩
            · have pre30 : ∀ t, SS p e below m s₁ 59 #[iv p1] [(.int (1 : Int32))] t → B t := fun t kk => pre21 t (by
                refine XS.icmpYes X0.here hx rfl (pc0 := 39) (pc' := 54) rfl (hb hby d2_39) rfl (flt hc22).2.2.2 (by decide) (by decide) ?_
                show SS p e below m s₁ 54 #[iv p1] [] _
                refine XS.iconst X0.here hx rfl (hb hby d2_54) ?_
                show SS p e below m s₁ 55 #[iv p1] [(.int (1 : Int32))] _
                refine XS.goto X0.here hx rfl (pc0 := 55) (pc' := 59) rfl (hb hby d2_55) (by decide) (by decide) ?_
                show SS p e below m s₁ 59 #[iv p1] [(.int (1 : Int32))] _
                exact kk)
              obtain ⟨fs, hr, hrun, hended, hW, hsame⟩ := X0.leave (v := some (.int (1 : Int32))) (fun h => by rw [Bd.returns] at h; cases h)
              refine ⟨_, _, hB _ (pre30 _ ?_), hrun, hended, _, _, rfl, ?_, ⟨_, rfl⟩, hW, hsame.mono (by decide) (by decide)⟩
              · exact retN X0 hx (t := .boolean) Bd.returns (by simp) (hb hby d2_59) hr
              · exact ⟨by show _ = some (Value.int (f2 p1)); rw [f2, if_neg hc2, if_neg hc5, if_neg hc8, if_pos hc11, if_neg hc13, if_neg hc22], N0, e0⟩
        · have pre31 : ∀ t, SS p e below m s₁ 27 #[iv p1] [(.int (55295 : Int32)), (.int p1)] t → B t := fun t kk => pre10 t (by
            refine XS.icmpNo X0.here hx rfl (hb hby d2_21) rfl (flt hc11).1 ?_
            show SS p e below m s₁ 24 #[iv p1] [] _
            refine XS.iloadN X0.here hx rfl (hb hby d2_24) rfl ?_
            show SS p e below m s₁ 25 #[iv p1] [(.int p1)] _
            refine X0.ldcInt hx hown (mvT hZ (hw _ (List.mem_of_getElem? (i := 1) rfl))) (g := (mkF m 25 #[iv p1] [(.int p1)])) rfl (hb hby d2_25) _ ?_
            show SS p e below m s₁ 27 #[iv p1] [(.int (55295 : Int32)), (.int p1)] _
            exact kk)
          by_cases hc32 : (55295 : Int32) < p1
          · have pre33 : ∀ t, SS p e below m s₁ 33 #[iv p1] [(.int (57344 : Int32)), (.int p1)] t → B t := fun t kk => pre31 t (by
              refine XS.icmpNo X0.here hx rfl (hb hby d2_27) rfl (tlt hc32).2.2.2 ?_
              show SS p e below m s₁ 30 #[iv p1] [] _
              refine XS.iloadN X0.here hx rfl (hb hby d2_30) rfl ?_
              show SS p e below m s₁ 31 #[iv p1] [(.int p1)] _
              refine X0.ldcInt hx hown (mvT hZ (hw _ (List.mem_of_getElem? (i := 2) rfl))) (g := (mkF m 31 #[iv p1] [(.int p1)])) rfl (hb hby d2_31) _ ?_
              show SS p e below m s₁ 33 #[iv p1] [(.int (57344 : Int32)), (.int p1)] _
              exact kk)
            by_cases hc34 : p1 < (57344 : Int32)
            · have pre35 : ∀ t, SS p e below m s₁ 45 #[iv p1] [(.int (65536 : Int32)), (.int p1)] t → B t := fun t kk => pre33 t (by
                refine XS.icmpYes X0.here hx rfl (pc0 := 33) (pc' := 42) rfl (hb hby d2_33) rfl (tlt hc34).1 (by decide) (by decide) ?_
                show SS p e below m s₁ 42 #[iv p1] [] _
                refine XS.iloadN X0.here hx rfl (hb hby d2_42) rfl ?_
                show SS p e below m s₁ 43 #[iv p1] [(.int p1)] _
                refine X0.ldcInt hx hown (mvT hZ (hw _ (List.mem_of_getElem? (i := 4) rfl))) (g := (mkF m 43 #[iv p1] [(.int p1)])) rfl (hb hby d2_43) _ ?_
                show SS p e below m s₁ 45 #[iv p1] [(.int (65536 : Int32)), (.int p1)] _
                exact kk)
              by_cases hc36 : p1 < (65536 : Int32)
              · have pre37 : ∀ t, SS p e below m s₁ 59 #[iv p1] [(.int (0 : Int32))] t → B t := fun t kk => pre35 t (by
                  refine XS.icmpYes X0.here hx rfl (pc0 := 45) (pc' := 58) rfl (hb hby d2_45) rfl (tlt hc36).1 (by decide) (by decide) ?_
                  show SS p e below m s₁ 58 #[iv p1] [] _
                  refine XS.iconst X0.here hx rfl (hb hby d2_58) ?_
                  show SS p e below m s₁ 59 #[iv p1] [(.int (0 : Int32))] _
                  exact kk)
                obtain ⟨fs, hr, hrun, hended, hW, hsame⟩ := X0.leave (v := some (.int (0 : Int32))) (fun h => by rw [Bd.returns] at h; cases h)
                refine ⟨_, _, hB _ (pre37 _ ?_), hrun, hended, _, _, rfl, ?_, ⟨_, rfl⟩, hW, hsame.mono (by decide) (by decide)⟩
                · exact retN X0 hx (t := .boolean) Bd.returns (by simp) (hb hby d2_59) hr
                · exact ⟨by show _ = some (Value.int (f2 p1)); rw [f2, if_neg hc2, if_neg hc5, if_neg hc8, if_neg hc11, if_pos hc32, if_pos hc34, if_pos hc36], N0, e0⟩
              · have pre38 : ∀ t, SS p e below m s₁ 51 #[iv p1] [(.int (1114111 : Int32)), (.int p1)] t → B t := fun t kk => pre35 t (by
                  refine XS.icmpNo X0.here hx rfl (hb hby d2_45) rfl (flt hc36).1 ?_
                  show SS p e below m s₁ 48 #[iv p1] [] _
                  refine XS.iloadN X0.here hx rfl (hb hby d2_48) rfl ?_
                  show SS p e below m s₁ 49 #[iv p1] [(.int p1)] _
                  refine X0.ldcInt hx hown (mvT hZ (hw _ (List.mem_of_getElem? (i := 5) rfl))) (g := (mkF m 49 #[iv p1] [(.int p1)])) rfl (hb hby d2_49) _ ?_
                  show SS p e below m s₁ 51 #[iv p1] [(.int (1114111 : Int32)), (.int p1)] _
                  exact kk)
                by_cases hc39 : (1114111 : Int32) < p1
                · have pre40 : ∀ t, SS p e below m s₁ 59 #[iv p1] [(.int (0 : Int32))] t → B t := fun t kk => pre38 t (by
                    refine XS.icmpYes X0.here hx rfl (pc0 := 51) (pc' := 58) rfl (hb hby d2_51) rfl (tlt hc39).2.2.1 (by decide) (by decide) ?_
                    show SS p e below m s₁ 58 #[iv p1] [] _
                    refine XS.iconst X0.here hx rfl (hb hby d2_58) ?_
                    show SS p e below m s₁ 59 #[iv p1] [(.int (0 : Int32))] _
                    exact kk)
                  obtain ⟨fs, hr, hrun, hended, hW, hsame⟩ := X0.leave (v := some (.int (0 : Int32))) (fun h => by rw [Bd.returns] at h; cases h)
                  refine ⟨_, _, hB _ (pre40 _ ?_), hrun, hended, _, _, rfl, ?_, ⟨_, rfl⟩, hW, hsame.mono (by decide) (by decide)⟩
                  · exact retN X0 hx (t := .boolean) Bd.returns (by simp) (hb hby d2_59) hr
                  · exact ⟨by show _ = some (Value.int (f2 p1)); rw [f2, if_neg hc2, if_neg hc5, if_neg hc8, if_neg hc11, if_pos hc32, if_pos hc34, if_neg hc36, if_pos hc39], N0, e0⟩
                · have pre41 : ∀ t, SS p e below m s₁ 59 #[iv p1] [(.int (1 : Int32))] t → B t := fun t kk => pre38 t (by
                    refine XS.icmpNo X0.here hx rfl (hb hby d2_51) rfl (flt hc39).2.2.1 ?_
                    show SS p e below m s₁ 54 #[iv p1] [] _
                    refine XS.iconst X0.here hx rfl (hb hby d2_54) ?_
                    show SS p e below m s₁ 55 #[iv p1] [(.int (1 : Int32))] _
                    refine XS.goto X0.here hx rfl (pc0 := 55) (pc' := 59) rfl (hb hby d2_55) (by decide) (by decide) ?_
                    show SS p e below m s₁ 59 #[iv p1] [(.int (1 : Int32))] _
                    exact kk)
                  obtain ⟨fs, hr, hrun, hended, hW, hsame⟩ := X0.leave (v := some (.int (1 : Int32))) (fun h => by rw [Bd.returns] at h; cases h)
                  refine ⟨_, _, hB _ (pre41 _ ?_), hrun, hended, _, _, rfl, ?_, ⟨_, rfl⟩, hW, hsame.mono (by decide) (by decide)⟩
                  · exact retN X0 hx (t := .boolean) Bd.returns (by simp) (hb hby d2_59) hr
                  · exact ⟨by show _ = some (Value.int (f2 p1)); rw [f2, if_neg hc2, if_neg hc5, if_neg hc8, if_neg hc11, if_pos hc32, if_pos hc34, if_neg hc36, if_neg hc39], N0, e0⟩
            · have pre42 : ∀ t, SS p e below m s₁ 39 #[iv p1] [(.int (65533 : Int32)), (.int p1)] t → B t := fun t kk => pre33 t (by
                refine XS.icmpNo X0.here hx rfl (hb hby d2_33) rfl (flt hc34).1 ?_
                show SS p e below m s₁ 36 #[iv p1] [] _
                refine XS.iloadN X0.here hx rfl (hb hby d2_36) rfl ?_
                show SS p e below m s₁ 37 #[iv p1] [(.int p1)] _
                refine X0.ldcInt hx hown (mvT hZ (hw _ (List.mem_of_getElem? (i := 3) rfl))) (g := (mkF m 37 #[iv p1] [(.int p1)])) rfl (hb hby d2_37) _ ?_
                show SS p e below m s₁ 39 #[iv p1] [(.int (65533 : Int32)), (.int p1)] _
                exact kk)
              by_cases hc43 : (65533 : Int32) < p1
              · have pre44 : ∀ t, SS p e below m s₁ 45 #[iv p1] [(.int (65536 : Int32)), (.int p1)] t → B t := fun t kk => pre42 t (by
                  refine XS.icmpNo X0.here hx rfl (hb hby d2_39) rfl (tlt hc43).2.2.2 ?_
                  show SS p e below m s₁ 42 #[iv p1] [] _
                  refine XS.iloadN X0.here hx rfl (hb hby d2_42) rfl ?_
                  show SS p e below m s₁ 43 #[iv p1] [(.int p1)] _
                  refine X0.ldcInt hx hown (mvT hZ (hw _ (List.mem_of_getElem? (i := 4) rfl))) (g := (mkF m 43 #[iv p1] [(.int p1)])) rfl (hb hby d2_43) _ ?_
                  show SS p e below m s₁ 45 #[iv p1] [(.int (65536 : Int32)), (.int p1)] _
                  exact kk)
                by_cases hc45 : p1 < (65536 : Int32)
                · have pre46 : ∀ t, SS p e below m s₁ 59 #[iv p1] [(.int (0 : Int32))] t → B t := fun t kk => pre44 t (by
                    refine XS.icmpYes X0.here hx rfl (pc0 := 45) (pc' := 58) rfl (hb hby d2_45) rfl (tlt hc45).1 (by decide) (by decide) ?_
                    show SS p e below m s₁ 58 #[iv p1] [] _
                    refine XS.iconst X0.here hx rfl (hb hby d2_58) ?_
                    show SS p e below m s₁ 59 #[iv p1] [(.int (0 : Int32))] _
                    exact kk)
                  obtain ⟨fs, hr, hrun, hended, hW, hsame⟩ := X0.leave (v := some (.int (0 : Int32))) (fun h => by rw [Bd.returns] at h; cases h)
                  refine ⟨_, _, hB _ (pre46 _ ?_), hrun, hended, _, _, rfl, ?_, ⟨_, rfl⟩, hW, hsame.mono (by decide) (by decide)⟩
                  · exact retN X0 hx (t := .boolean) Bd.returns (by simp) (hb hby d2_59) hr
                  · exact ⟨by show _ = some (Value.int (f2 p1)); rw [f2, if_neg hc2, if_neg hc5, if_neg hc8, if_neg hc11, if_pos hc32, if_neg hc34, if_pos hc43, if_pos hc45], N0, e0⟩
                · have pre47 : ∀ t, SS p e below m s₁ 51 #[iv p1] [(.int (1114111 : Int32)), (.int p1)] t → B t := fun t kk => pre44 t (by
                    refine XS.icmpNo X0.here hx rfl (hb hby d2_45) rfl (flt hc45).1 ?_
                    show SS p e below m s₁ 48 #[iv p1] [] _
                    refine XS.iloadN X0.here hx rfl (hb hby d2_48) rfl ?_
                    show SS p e below m s₁ 49 #[iv p1] [(.int p1)] _
                    refine X0.ldcInt hx hown (mvT hZ (hw _ (List.mem_of_getElem? (i := 5) rfl))) (g := (mkF m 49 #[iv p1] [(.int p1)])) rfl (hb hby d2_49) _ ?_
                    show SS p e below m s₁ 51 #[iv p1] [(.int (1114111 : Int32)), (.int p1)] _
                    exact kk)
                  by_cases hc48 : (1114111 : Int32) < p1
                  · have pre49 : ∀ t, SS p e below m s₁ 59 #[iv p1] [(.int (0 : Int32))] t → B t := fun t kk => pre47 t (by
                      refine XS.icmpYes X0.here hx rfl (pc0 := 51) (pc' := 58) rfl (hb hby d2_51) rfl (tlt hc48).2.2.1 (by decide) (by decide) ?_
                      show SS p e below m s₁ 58 #[iv p1] [] _
                      refine XS.iconst X0.here hx rfl (hb hby d2_58) ?_
                      show SS p e below m s₁ 59 #[iv p1] [(.int (0 : Int32))] _
                      exact kk)
                    obtain ⟨fs, hr, hrun, hended, hW, hsame⟩ := X0.leave (v := some (.int (0 : Int32))) (fun h => by rw [Bd.returns] at h; cases h)
                    refine ⟨_, _, hB _ (pre49 _ ?_), hrun, hended, _, _, rfl, ?_, ⟨_, rfl⟩, hW, hsame.mono (by decide) (by decide)⟩
                    · exact retN X0 hx (t := .boolean) Bd.returns (by simp) (hb hby d2_59) hr
                    · exact ⟨by show _ = some (Value.int (f2 p1)); rw [f2, if_neg hc2, if_neg hc5, if_neg hc8, if_neg hc11, if_pos hc32, if_neg hc34, if_pos hc43, if_neg hc45, if_pos hc48], N0, e0⟩
                  · have pre50 : ∀ t, SS p e below m s₁ 59 #[iv p1] [(.int (1 : Int32))] t → B t := fun t kk => pre47 t (by
                      refine XS.icmpNo X0.here hx rfl (hb hby d2_51) rfl (flt hc48).2.2.1 ?_
                      show SS p e below m s₁ 54 #[iv p1] [] _
                      refine XS.iconst X0.here hx rfl (hb hby d2_54) ?_
                      show SS p e below m s₁ 55 #[iv p1] [(.int (1 : Int32))] _
                      refine XS.goto X0.here hx rfl (pc0 := 55) (pc' := 59) rfl (hb hby d2_55) (by decide) (by decide) ?_
                      show SS p e below m s₁ 59 #[iv p1] [(.int (1 : Int32))] _
                      exact kk)
                    obtain ⟨fs, hr, hrun, hended, hW, hsame⟩ := X0.leave (v := some (.int (1 : Int32))) (fun h => by rw [Bd.returns] at h; cases h)
                    refine ⟨_, _, hB _ (pre50 _ ?_), hrun, hended, _, _, rfl, ?_, ⟨_, rfl⟩, hW, hsame.mono (by decide) (by decide)⟩
                    · exact retN X0 hx (t := .boolean) Bd.returns (by simp) (hb hby d2_59) hr
                    · exact ⟨by show _ = some (Value.int (f2 p1)); rw [f2, if_neg hc2, if_neg hc5, if_neg hc8, if_neg hc11, if_pos hc32, if_neg hc34, if_pos hc43, if_neg hc45, if_neg hc48], N0, e0⟩
              · have pre51 : ∀ t, SS p e below m s₁ 59 #[iv p1] [(.int (1 : Int32))] t → B t := fun t kk => pre42 t (by
                  refine XS.icmpYes X0.here hx rfl (pc0 := 39) (pc' := 54) rfl (hb hby d2_39) rfl (flt hc43).2.2.2 (by decide) (by decide) ?_
                  show SS p e below m s₁ 54 #[iv p1] [] _
                  refine XS.iconst X0.here hx rfl (hb hby d2_54) ?_
                  show SS p e below m s₁ 55 #[iv p1] [(.int (1 : Int32))] _
                  refine XS.goto X0.here hx rfl (pc0 := 55) (pc' := 59) rfl (hb hby d2_55) (by decide) (by decide) ?_
                  show SS p e below m s₁ 59 #[iv p1] [(.int (1 : Int32))] _
                  exact kk)
                obtain ⟨fs, hr, hrun, hended, hW, hsame⟩ := X0.leave (v := some (.int (1 : Int32))) (fun h => by rw [Bd.returns] at h; cases h)
                refine ⟨_, _, hB _ (pre51 _ ?_), hrun, hended, _, _, rfl, ?_, ⟨_, rfl⟩, hW, hsame.mono (by decide) (by decide)⟩
                · exact retN X0 hx (t := .boolean) Bd.returns (by simp) (hb hby d2_59) hr
                · exact ⟨by show _ = some (Value.int (f2 p1)); rw [f2, if_neg hc2, if_neg hc5, if_neg hc8, if_neg hc11, if_pos hc32, if_neg hc34, if_neg hc43], N0, e0⟩
          · have pre52 : ∀ t, SS p e below m s₁ 59 #[iv p1] [(.int (1 : Int32))] t → B t := fun t kk => pre31 t (by
              refine XS.icmpYes X0.here hx rfl (pc0 := 27) (pc' := 54) rfl (hb hby d2_27) rfl (flt hc32).2.2.2 (by decide) (by decide) ?_
              show SS p e below m s₁ 54 #[iv p1] [] _
              refine XS.iconst X0.here hx rfl (hb hby d2_54) ?_
              show SS p e below m s₁ 55 #[iv p1] [(.int (1 : Int32))] _
              refine XS.goto X0.here hx rfl (pc0 := 55) (pc' := 59) rfl (hb hby d2_55) (by decide) (by decide) ?_
              show SS p e below m s₁ 59 #[iv p1] [(.int (1 : Int32))] _
              exact kk)
            obtain ⟨fs, hr, hrun, hended, hW, hsame⟩ := X0.leave (v := some (.int (1 : Int32))) (fun h => by rw [Bd.returns] at h; cases h)
            refine ⟨_, _, hB _ (pre52 _ ?_), hrun, hended, _, _, rfl, ?_, ⟨_, rfl⟩, hW, hsame.mono (by decide) (by decide)⟩
            · exact retN X0 hx (t := .boolean) Bd.returns (by simp) (hb hby d2_59) hr
            · exact ⟨by show _ = some (Value.int (f2 p1)); rw [f2, if_neg hc2, if_neg hc5, if_neg hc8, if_neg hc11, if_neg hc32], N0, e0⟩
set_option maxHeartbeats 40000000 in
theorem own_eq (x : Int32) : f1 x = f2 x := by
  have L0 : (0 : Int32).toInt = 0 := by decide
  have L1 : (1 : Int32).toInt = 1 := by decide
  have L9 : (9 : Int32).toInt = 9 := by decide
  have L10 : (10 : Int32).toInt = 10 := by decide
  have L13 : (13 : Int32).toInt = 13 := by decide
  have L32 : (32 : Int32).toInt = 32 := by decide
  have L55295 : (55295 : Int32).toInt = 55295 := by decide
  have L55296 : (55296 : Int32).toInt = 55296 := by decide
  have L57344 : (57344 : Int32).toInt = 57344 := by decide
  have L65533 : (65533 : Int32).toInt = 65533 := by decide
  have L65536 : (65536 : Int32).toInt = 65536 := by decide
  have L1114111 : (1114111 : Int32).toInt = 1114111 := by decide
  unfold f1 f2
  simp only [Int32.lt_iff_toInt_lt, ← Int32.toInt_inj]
  repeat' split
  all_goals omega
theorem own_15 (k : Int32) : ¬ (k &&& (15 : Int32)) < 0 ∧ (k &&& (15 : Int32)) < (16 : Int32) := by
  have m : (k &&& (15 : Int32)).toInt = k.toInt % 16 := c_mask k 15 4 (by decide) (by decide)
  have L0 : (0 : Int32).toInt = 0 := by decide
  have L16 : (16 : Int32).toInt = 16 := by decide
  rw [Int32.lt_iff_toInt_lt, Int32.lt_iff_toInt_lt]; omega
theorem own_getD (l : List Int32) (k : Nat) (d : Int32) : (l.map Value.int).getD k (.int d) = .int (l.getD k d) := by
  rw [List.getD_eq_getElem?_getD, List.getD_eq_getElem?_getD, List.getElem?_map]
  cases l[k]? <;> rfl
theorem pn_0 : plainName "com/example/mendmark/mendmark/core/XmlCharsIsCharPinLaw" = true := by first | (simp [plainName, overriddenIn]; done) | decide +kernel
theorem pd_0 : parseMethodDescriptor "(I)Z" = some ⟨[.int], some .boolean⟩ := by decide +kernel
theorem ef_0 (m : MethodId) (p1 : Int32) (p2 : Int32) : entryFrame m #[(.int p1), (.int p2)] maxLocals = mkF m 0 #[iv p1, iv p2, .unset, .unset, .unset, .unset] [] := by first | (simp [entryFrame, mkF, argsToLocals, Value.category, maxLocals]; done) | rfl
set_option maxRecDepth 65536 in
set_option maxHeartbeats 40000000 in
theorem rm0 (l : Launch) (Z : State) (a0 : Array Value) (hw : ∀ d ∈ tables_1, d.before a0 Z = true) (ws : List Jvm.Cond) (p1 : Int32) (p2 : Int32)  (h0 : Heap) (n0 : Nat) (Z0 : n0 ≤ h0.size)  :
    MetFree l x (head1 (Jvm.Cond.code x code maxLocals ret :: ws) room_1) (fun a U => a = #[(.int p1), (.int p2)] ∧ Z.Warmed39 U.vm ∧ U.heap = h0) (fun _ _ _ _ _ => True) (fun _ U o U' => ∃ v L, o = .returned v ∧ QE n0 v U'.heap L ∧ FrameEnd U o U' L room_1.cells room_1.slots) := by
  refine MetFree.of_bodySF (plainFor_of_name pn_0) hisR ?_
  intro p e s m args below meth c s₁ Bd hml0 hP hK
  obtain ⟨rfl, hZ, hh⟩ := hP
  have hx := Bd.exec
  have hby := Bd.bytes
  have hml : c.maxLocals = 6 := hml0
  have hown : s.vm.findClass "com/example/mendmark/mendmark/core/XmlCharsIsCharPinLaw" = some m.cls := findClass_of_methodNamed Bd.named
  have hnm := (name_of_methodNamed Bd.named Bd.method).1
  have X0 : Stand p l e room_1 s m #[(.int p1), (.int p2)] below meth c s₁ [] 0 0 := Stand.of_body Bd
  have e0 : s₁.heap = h0 := by rw [← hh, Bd.state]; rfl
  have N0 := Fr.nil n0
  obtain ⟨B, hB, pre0⟩ : ∃ B : State → Prop, (∀ t, B t → Steps p.tables e below (s₁.setTop (entryFrame m #[(.int p1), (.int p2)] maxLocals)) t) ∧ ∀ t, SS p e below m s₁ 0 #[iv p1, iv p2, .unset, .unset, .unset, .unset] [] t → B t := ⟨_, fun _ q => q, fun t kk => castTop (ef_0 m p1 p2) kk⟩
  have pre1 : ∀ t, SS p e below m s₁ 2 #[iv p1, iv p2, .unset, .unset, .unset, .unset] [(.int (16 : Int32))] t → B t := fun t kk => pre0 t (by
    show SS p e below m s₁ 0 #[iv p1, iv p2, .unset, .unset, .unset, .unset] [] _
    refine XS.bipush X0.here hx rfl (hb hby at_0) ?_
    show SS p e below m s₁ 2 #[iv p1, iv p2, .unset, .unset, .unset, .unset] [(.int (16 : Int32))] _
    exact kk)
  obtain ⟨T2, h2, k2, X2, e2, E2, A2, st2⟩ := newP X0 hx hZ (hw _ (List.mem_of_getElem? (i := 0) rfl)) e0 (g := (mkF m 2 #[iv p1, iv p2, .unset, .unset, .unset, .unset] [(.int (16 : Int32))])) rfl (hb hby at_2) rfl (by decide) (cap := 16) (by decide) (by decide) (by decide) (by decide)
  obtain ⟨b2, g2⟩ : ∃ z, z = h0.size := ⟨_, rfl⟩
  rw [← g2] at A2 st2
  have V2 : Arv Z h2 b2 k2 .int (16 : Int32) [(.int (0 : Int32)), (.int (0 : Int32)), (.int (0 : Int32)), (.int (0 : Int32)), (.int (0 : Int32)), (.int (0 : Int32)), (.int (0 : Int32)), (.int (0 : Int32)), (.int (0 : Int32)), (.int (0 : Int32)), (.int (0 : Int32)), (.int (0 : Int32)), (.int (0 : Int32)), (.int (0 : Int32)), (.int (0 : Int32)), (.int (0 : Int32))] (.int (0 : Int32)) := (Arv.new A2 (by decide)).pad (pad_rep [] (.int (0 : Int32)) 16)
  have g_b2 : n0 ≤ b2 := Nat.le_trans Z0 (Nat.le_of_eq g2.symm)
  have Z2 : n0 ≤ h2.size := Nat.le_trans Z0 E2.1
  have pre3 : ∀ t, SS p e below m T2 8 #[iv p1, iv p2, .unset, .unset, .unset, .unset] [(.int (9 : Int32)), (.int (0 : Int32)), (.ref b2), (.ref b2)] t → B t := fun t kk => pre1 t (by
    refine st2 _ ?_
    show SS p e below m T2 4 #[iv p1, iv p2, .unset, .unset, .unset, .unset] [(.ref b2)] _
    refine XS.dup X2.here hx rfl (hb hby at_4) rfl rfl ?_
    show SS p e below m T2 5 #[iv p1, iv p2, .unset, .unset, .unset, .unset] [(.ref b2), (.ref b2)] _
    refine XS.iconst X2.here hx rfl (hb hby at_5) ?_
    show SS p e below m T2 6 #[iv p1, iv p2, .unset, .unset, .unset, .unset] [(.int (0 : Int32)), (.ref b2), (.ref b2)] _
    refine XS.bipush X2.here hx rfl (hb hby at_6) ?_
    show SS p e below m T2 8 #[iv p1, iv p2, .unset, .unset, .unset, .unset] [(.int (9 : Int32)), (.int (0 : Int32)), (.ref b2), (.ref b2)] _
    exact kk)
  obtain ⟨cl4, Ar4, q4, S4, M4, H4, G4⟩ := V2
  have hin4 : ¬ ((0 : Int32) < 0 ∨ cl4.slots.size ≤ ((0 : Int32)).toNatClampNeg) := inb_of S4 ⟨by decide, by decide⟩
  obtain ⟨T4, h4, X4, e4, W4, st4⟩ := stI X2 hx hZ e2 Ar4 (j := (0 : Int32)) hin4 (g := (mkF m 8 #[iv p1, iv p2, .unset, .unset, .unset, .unset] [(.int (9 : Int32)), (.int (0 : Int32)), (.ref b2), (.ref b2)])) rfl rfl (hb hby at_8)
  have V4 := Arv.set Ar4 q4 S4 M4 H4 G4 rfl W4 0 rfl (Nat.le_of_ble_eq_true rfl)
  have V4' : Arv Z h4 b2 k2 .int (16 : Int32) [(.int (9 : Int32)), (.int (0 : Int32)), (.int (0 : Int32)), (.int (0 : Int32)), (.int (0 : Int32)), (.int (0 : Int32)), (.int (0 : Int32)), (.int (0 : Int32)), (.int (0 : Int32)), (.int (0 : Int32)), (.int (0 : Int32)), (.int (0 : Int32)), (.int (0 : Int32)), (.int (0 : Int32)), (.int (0 : Int32)), (.int (0 : Int32))] (.int (0 : Int32)) := V4
  have N4 := Fr.snoc X4 N0 g_b2
  have Z4 : n0 ≤ h4.size := Nat.le_trans Z2 (Keep.of_wr W4).1
  have pre5 : ∀ t, SS p e below m T4 13 #[iv p1, iv p2, .unset, .unset, .unset, .unset] [(.int (10 : Int32)), (.int (1 : Int32)), (.ref b2), (.ref b2)] t → B t := fun t kk => pre3 t (by
    refine st4 _ ?_
    show SS p e below m T4 9 #[iv p1, iv p2, .unset, .unset, .unset, .unset] [(.ref b2)] _
    refine XS.dup X4.here hx rfl (hb hby at_9) rfl rfl ?_
    show SS p e below m T4 10 #[iv p1, iv p2, .unset, .unset, .unset, .unset] [(.ref b2), (.ref b2)] _
    refine XS.iconst X4.here hx rfl (hb hby at_10) ?_
    show SS p e below m T4 11 #[iv p1, iv p2, .unset, .unset, .unset, .unset] [(.int (1 : Int32)), (.ref b2), (.ref b2)] _
    refine XS.bipush X4.here hx rfl (hb hby at_11) ?_
    show SS p e below m T4 13 #[iv p1, iv p2, .unset, .unset, .unset, .unset] [(.int (10 : Int32)), (.int (1 : Int32)), (.ref b2), (.ref b2)] _
    exact kk)
  obtain ⟨cl6, Ar6, q6, S6, M6, H6, G6⟩ := V4'
  have hin6 : ¬ ((1 : Int32) < 0 ∨ cl6.slots.size ≤ ((1 : Int32)).toNatClampNeg) := inb_of S6 ⟨by decide, by decide⟩
  obtain ⟨T6, h6, X6, e6, W6, st6⟩ := stI X4 hx hZ e4 Ar6 (j := (1 : Int32)) hin6 (g := (mkF m 13 #[iv p1, iv p2, .unset, .unset, .unset, .unset] [(.int (10 : Int32)), (.int (1 : Int32)), (.ref b2), (.ref b2)])) rfl rfl (hb hby at_13)
  have V6 := Arv.set Ar6 q6 S6 M6 H6 G6 rfl W6 1 rfl (Nat.le_of_ble_eq_true rfl)
  have V6' : Arv Z h6 b2 k2 .int (16 : Int32) [(.int (9 : Int32)), (.int (10 : Int32)), (.int (0 : Int32)), (.int (0 : Int32)), (.int (0 : Int32)), (.int (0 : Int32)), (.int (0 : Int32)), (.int (0 : Int32)), (.int (0 : Int32)), (.int (0 : Int32)), (.int (0 : Int32)), (.int (0 : Int32)), (.int (0 : Int32)), (.int (0 : Int32)), (.int (0 : Int32)), (.int (0 : Int32))] (.int (0 : Int32)) := V6
  have N6 := Fr.snoc X6 N4 g_b2
  have Z6 : n0 ≤ h6.size := Nat.le_trans Z4 (Keep.of_wr W6).1
  have pre7 : ∀ t, SS p e below m T6 18 #[iv p1, iv p2, .unset, .unset, .unset, .unset] [(.int (13 : Int32)), (.int (2 : Int32)), (.ref b2), (.ref b2)] t → B t := fun t kk => pre5 t (by
    refine st6 _ ?_
    show SS p e below m T6 14 #[iv p1, iv p2, .unset, .unset, .unset, .unset] [(.ref b2)] _
    refine XS.dup X6.here hx rfl (hb hby at_14) rfl rfl ?_
    show SS p e below m T6 15 #[iv p1, iv p2, .unset, .unset, .unset, .unset] [(.ref b2), (.ref b2)] _
    refine XS.iconst X6.here hx rfl (hb hby at_15) ?_
    show SS p e below m T6 16 #[iv p1, iv p2, .unset, .unset, .unset, .unset] [(.int (2 : Int32)), (.ref b2), (.ref b2)] _
    refine XS.bipush X6.here hx rfl (hb hby at_16) ?_
    show SS p e below m T6 18 #[iv p1, iv p2, .unset, .unset, .unset, .unset] [(.int (13 : Int32)), (.int (2 : Int32)), (.ref b2), (.ref b2)] _
    exact kk)
  obtain ⟨cl8, Ar8, q8, S8, M8, H8, G8⟩ := V6'
  have hin8 : ¬ ((2 : Int32) < 0 ∨ cl8.slots.size ≤ ((2 : Int32)).toNatClampNeg) := inb_of S8 ⟨by decide, by decide⟩
  obtain ⟨T8, h8, X8, e8, W8, st8⟩ := stI X6 hx hZ e6 Ar8 (j := (2 : Int32)) hin8 (g := (mkF m 18 #[iv p1, iv p2, .unset, .unset, .unset, .unset] [(.int (13 : Int32)), (.int (2 : Int32)), (.ref b2), (.ref b2)])) rfl rfl (hb hby at_18)
  have V8 := Arv.set Ar8 q8 S8 M8 H8 G8 rfl W8 2 rfl (Nat.le_of_ble_eq_true rfl)
  have V8' : Arv Z h8 b2 k2 .int (16 : Int32) [(.int (9 : Int32)), (.int (10 : Int32)), (.int (13 : Int32)), (.int (0 : Int32)), (.int (0 : Int32)), (.int (0 : Int32)), (.int (0 : Int32)), (.int (0 : Int32)), (.int (0 : Int32)), (.int (0 : Int32)), (.int (0 : Int32)), (.int (0 : Int32)), (.int (0 : Int32)), (.int (0 : Int32)), (.int (0 : Int32)), (.int (0 : Int32))] (.int (0 : Int32)) := V8
  have N8 := Fr.snoc X8 N6 g_b2
  have Z8 : n0 ≤ h8.size := Nat.le_trans Z6 (Keep.of_wr W8).1
  have pre9 : ∀ t, SS p e below m T8 23 #[iv p1, iv p2, .unset, .unset, .unset, .unset] [(.int (32 : Int32)), (.int (3 : Int32)), (.ref b2), (.ref b2)] t → B t := fun t kk => pre7 t (by
    refine st8 _ ?_
    show SS p e below m T8 19 #[iv p1, iv p2, .unset, .unset, .unset, .unset] [(.ref b2)] _
    refine XS.dup X8.here hx rfl (hb hby at_19) rfl rfl ?_
    show SS p e below m T8 20 #[iv p1, iv p2, .unset, .unset, .unset, .unset] [(.ref b2), (.ref b2)] _
    refine XS.iconst X8.here hx rfl (hb hby at_20) ?_
    show SS p e below m T8 21 #[iv p1, iv p2, .unset, .unset, .unset, .unset] [(.int (3 : Int32)), (.ref b2), (.ref b2)] _
    refine XS.bipush X8.here hx rfl (hb hby at_21) ?_
    show SS p e below m T8 23 #[iv p1, iv p2, .unset, .unset, .unset, .unset] [(.int (32 : Int32)), (.int (3 : Int32)), (.ref b2), (.ref b2)] _
    exact kk)
  obtain ⟨cl10, Ar10, q10, S10, M10, H10, G10⟩ := V8'
  have hin10 : ¬ ((3 : Int32) < 0 ∨ cl10.slots.size ≤ ((3 : Int32)).toNatClampNeg) := inb_of S10 ⟨by decide, by decide⟩
  obtain ⟨T10, h10, X10, e10, W10, st10⟩ := stI X8 hx hZ e8 Ar10 (j := (3 : Int32)) hin10 (g := (mkF m 23 #[iv p1, iv p2, .unset, .unset, .unset, .unset] [(.int (32 : Int32)), (.int (3 : Int32)), (.ref b2), (.ref b2)])) rfl rfl (hb hby at_23)
  have V10 := Arv.set Ar10 q10 S10 M10 H10 G10 rfl W10 3 rfl (Nat.le_of_ble_eq_true rfl)
  have V10' : Arv Z h10 b2 k2 .int (16 : Int32) [(.int (9 : Int32)), (.int (10 : Int32)), (.int (13 : Int32)), (.int (32 : Int32)), (.int (0 : Int32)), (.int (0 : Int32)), (.int (0 : Int32)), (.int (0 : Int32)), (.int (0 : Int32)), (.int (0 : Int32)), (.int (0 : Int32)), (.int (0 : Int32)), (.int (0 : Int32)), (.int (0 : Int32)), (.int (0 : Int32)), (.int (0 : Int32))] (.int (0 : Int32)) := V10
  have N10 := Fr.snoc X10 N8 g_b2
  have Z10 : n0 ≤ h10.size := Nat.le_trans Z8 (Keep.of_wr W10).1
  have pre11 : ∀ t, SS p e below m T10 28 #[iv p1, iv p2, .unset, .unset, .unset, .unset] [(.int (55295 : Int32)), (.int (4 : Int32)), (.ref b2), (.ref b2)] t → B t := fun t kk => pre9 t (by
    refine st10 _ ?_
    show SS p e below m T10 24 #[iv p1, iv p2, .unset, .unset, .unset, .unset] [(.ref b2)] _
    refine XS.dup X10.here hx rfl (hb hby at_24) rfl rfl ?_
    show SS p e below m T10 25 #[iv p1, iv p2, .unset, .unset, .unset, .unset] [(.ref b2), (.ref b2)] _
    refine XS.iconst X10.here hx rfl (hb hby at_25) ?_
    show SS p e below m T10 26 #[iv p1, iv p2, .unset, .unset, .unset, .unset] [(.int (4 : Int32)), (.ref b2), (.ref b2)] _
    refine X10.ldcInt hx hown (mvT hZ (hw _ (List.mem_of_getElem? (i := 1) rfl))) (g := (mkF m 26 #[iv p1, iv p2, .unset, .unset, .unset, .unset] [(.int (4 : Int32)), (.ref b2), (.ref b2)])) rfl (hb hby at_26) _ ?_
    show SS p e below m T10 28 #[iv p1, iv p2, .unset, .unset, .unset, .unset] [(.int (55295 : Int32)), (.int (4 : Int32)), (.ref b2), (.ref b2)] _
    exact kk)
  obtain ⟨cl12, Ar12, q12, S12, M12, H12, G12⟩ := V10'
  have hin12 : ¬ ((4 : Int32) < 0 ∨ cl12.slots.size ≤ ((4 : Int32)).toNatClampNeg) := inb_of S12 ⟨by decide, by decide⟩
  obtain ⟨T12, h12, X12, e12, W12, st12⟩ := stI X10 hx hZ e10 Ar12 (j := (4 : Int32)) hin12 (g := (mkF m 28 #[iv p1, iv p2, .unset, .unset, .unset, .unset] [(.int (55295 : Int32)), (.int (4 : Int32)), (.ref b2), (.ref b2)])) rfl rfl (hb hby at_28)
  have V12 := Arv.set Ar12 q12 S12 M12 H12 G12 rfl W12 4 rfl (Nat.le_of_ble_eq_true rfl)
  have V12' : Arv Z h12 b2 k2 .int (16 : Int32) [(.int (9 : Int32)), (.int (10 : Int32)), (.int (13 : Int32)), (.int (32 : Int32)), (.int (55295 : Int32)), (.int (0 : Int32)), (.int (0 : Int32)), (.int (0 : Int32)), (.int (0 : Int32)), (.int (0 : Int32)), (.int (0 : Int32)), (.int (0 : Int32)), (.int (0 : Int32)), (.int (0 : Int32)), (.int (0 : Int32)), (.int (0 : Int32))] (.int (0 : Int32)) := V12
  have N12 := Fr.snoc X12 N10 g_b2
  have Z12 : n0 ≤ h12.size := Nat.le_trans Z10 (Keep.of_wr W12).1
  have pre13 : ∀ t, SS p e below m T12 33 #[iv p1, iv p2, .unset, .unset, .unset, .unset] [(.int (57344 : Int32)), (.int (5 : Int32)), (.ref b2), (.ref b2)] t → B t := fun t kk => pre11 t (by
    refine st12 _ ?_
    show SS p e below m T12 29 #[iv p1, iv p2, .unset, .unset, .unset, .unset] [(.ref b2)] _
    refine XS.dup X12.here hx rfl (hb hby at_29) rfl rfl ?_
    show SS p e below m T12 30 #[iv p1, iv p2, .unset, .unset, .unset, .unset] [(.ref b2), (.ref b2)] _
    refine XS.iconst X12.here hx rfl (hb hby at_30) ?_
    show SS p e below m T12 31 #[iv p1, iv p2, .unset, .unset, .unset, .unset] [(.int (5 : Int32)), (.ref b2), (.ref b2)] _
    refine X12.ldcInt hx hown (mvT hZ (hw _ (List.mem_of_getElem? (i := 2) rfl))) (g := (mkF m 31 #[iv p1, iv p2, .unset, .unset, .unset, .unset] [(.int (5 : Int32)), (.ref b2), (.ref b2)])) rfl (hb hby at_31) _ ?_
    show SS p e below m T12 33 #[iv p1, iv p2, .unset, .unset, .unset, .unset] [(.int (57344 : Int32)), (.int (5 : Int32)), (.ref b2), (.ref b2)] _
    exact kk)
  obtain ⟨cl14, Ar14, q14, S14, M14, H14, G14⟩ := V12'
  have hin14 : ¬ ((5 : Int32) < 0 ∨ cl14.slots.size ≤ ((5 : Int32)).toNatClampNeg) := inb_of S14 ⟨by decide, by decide⟩
  obtain ⟨T14, h14, X14, e14, W14, st14⟩ := stI X12 hx hZ e12 Ar14 (j := (5 : Int32)) hin14 (g := (mkF m 33 #[iv p1, iv p2, .unset, .unset, .unset, .unset] [(.int (57344 : Int32)), (.int (5 : Int32)), (.ref b2), (.ref b2)])) rfl rfl (hb hby at_33)
  have V14 := Arv.set Ar14 q14 S14 M14 H14 G14 rfl W14 5 rfl (Nat.le_of_ble_eq_true rfl)
  have V14' : Arv Z h14 b2 k2 .int (16 : Int32) [(.int (9 : Int32)), (.int (10 : Int32)), (.int (13 : Int32)), (.int (32 : Int32)), (.int (55295 : Int32)), (.int (57344 : Int32)), (.int (0 : Int32)), (.int (0 : Int32)), (.int (0 : Int32)), (.int (0 : Int32)), (.int (0 : Int32)), (.int (0 : Int32)), (.int (0 : Int32)), (.int (0 : Int32)), (.int (0 : Int32)), (.int (0 : Int32))] (.int (0 : Int32)) := V14
  have N14 := Fr.snoc X14 N12 g_b2
  have Z14 : n0 ≤ h14.size := Nat.le_trans Z12 (Keep.of_wr W14).1
  have pre15 : ∀ t, SS p e below m T14 39 #[iv p1, iv p2, .unset, .unset, .unset, .unset] [(.int (65533 : Int32)), (.int (6 : Int32)), (.ref b2), (.ref b2)] t → B t := fun t kk => pre13 t (by
    refine st14 _ ?_
    show SS p e below m T14 34 #[iv p1, iv p2, .unset, .unset, .unset, .unset] [(.ref b2)] _
    refine XS.dup X14.here hx rfl (hb hby at_34) rfl rfl ?_
    show SS p e below m T14 35 #[iv p1, iv p2, .unset, .unset, .unset, .unset] [(.ref b2), (.ref b2)] _
    refine XS.bipush X14.here hx rfl (hb hby at_35) ?_
    show SS p e below m T14 37 #[iv p1, iv p2, .unset, .unset, .unset, .unset] [(.int (6 : Int32)), (.ref b2), (.ref b2)] _
    refine X14.ldcInt hx hown (mvT hZ (hw _ (List.mem_of_getElem? (i := 3) rfl))) (g := (mkF m 37 #[iv p1, iv p2, .unset, .unset, .unset, .unset] [(.int (6 : Int32)), (.ref b2), (.ref b2)])) rfl (hb hby at_37) _ ?_
    show SS p e below m T14 39 #[iv p1, iv p2, .unset, .unset, .unset, .unset] [(.int (65533 : Int32)), (.int (6 : Int32)), (.ref b2), (.ref b2)] _
    exact kk)
  obtain ⟨cl16, Ar16, q16, S16, M16, H16, G16⟩ := V14'
  have hin16 : ¬ ((6 : Int32) < 0 ∨ cl16.slots.size ≤ ((6 : Int32)).toNatClampNeg) := inb_of S16 ⟨by decide, by decide⟩
  obtain ⟨T16, h16, X16, e16, W16, st16⟩ := stI X14 hx hZ e14 Ar16 (j := (6 : Int32)) hin16 (g := (mkF m 39 #[iv p1, iv p2, .unset, .unset, .unset, .unset] [(.int (65533 : Int32)), (.int (6 : Int32)), (.ref b2), (.ref b2)])) rfl rfl (hb hby at_39)
  have V16 := Arv.set Ar16 q16 S16 M16 H16 G16 rfl W16 6 rfl (Nat.le_of_ble_eq_true rfl)
  have V16' : Arv Z h16 b2 k2 .int (16 : Int32) [(.int (9 : Int32)), (.int (10 : Int32)), (.int (13 : Int32)), (.int (32 : Int32)), (.int (55295 : Int32)), (.int (57344 : Int32)), (.int (65533 : Int32)), (.int (0 : Int32)), (.int (0 : Int32)), (.int (0 : Int32)), (.int (0 : Int32)), (.int (0 : Int32)), (.int (0 : Int32)), (.int (0 : Int32)), (.int (0 : Int32)), (.int (0 : Int32))] (.int (0 : Int32)) := V16
  have N16 := Fr.snoc X16 N14 g_b2
  have Z16 : n0 ≤ h16.size := Nat.le_trans Z14 (Keep.of_wr W16).1
  have pre17 : ∀ t, SS p e below m T16 45 #[iv p1, iv p2, .unset, .unset, .unset, .unset] [(.int (65536 : Int32)), (.int (7 : Int32)), (.ref b2), (.ref b2)] t → B t := fun t kk => pre15 t (by
    refine st16 _ ?_
    show SS p e below m T16 40 #[iv p1, iv p2, .unset, .unset, .unset, .unset] [(.ref b2)] _
    refine XS.dup X16.here hx rfl (hb hby at_40) rfl rfl ?_
    show SS p e below m T16 41 #[iv p1, iv p2, .unset, .unset, .unset, .unset] [(.ref b2), (.ref b2)] _
    refine XS.bipush X16.here hx rfl (hb hby at_41) ?_
    show SS p e below m T16 43 #[iv p1, iv p2, .unset, .unset, .unset, .unset] [(.int (7 : Int32)), (.ref b2), (.ref b2)] _
    refine X16.ldcInt hx hown (mvT hZ (hw _ (List.mem_of_getElem? (i := 4) rfl))) (g := (mkF m 43 #[iv p1, iv p2, .unset, .unset, .unset, .unset] [(.int (7 : Int32)), (.ref b2), (.ref b2)])) rfl (hb hby at_43) _ ?_
    show SS p e below m T16 45 #[iv p1, iv p2, .unset, .unset, .unset, .unset] [(.int (65536 : Int32)), (.int (7 : Int32)), (.ref b2), (.ref b2)] _
    exact kk)
  obtain ⟨cl18, Ar18, q18, S18, M18, H18, G18⟩ := V16'
  have hin18 : ¬ ((7 : Int32) < 0 ∨ cl18.slots.size ≤ ((7 : Int32)).toNatClampNeg) := inb_of S18 ⟨by decide, by decide⟩
  obtain ⟨T18, h18, X18, e18, W18, st18⟩ := stI X16 hx hZ e16 Ar18 (j := (7 : Int32)) hin18 (g := (mkF m 45 #[iv p1, iv p2, .unset, .unset, .unset, .unset] [(.int (65536 : Int32)), (.int (7 : Int32)), (.ref b2), (.ref b2)])) rfl rfl (hb hby at_45)
  have V18 := Arv.set Ar18 q18 S18 M18 H18 G18 rfl W18 7 rfl (Nat.le_of_ble_eq_true rfl)
  have V18' : Arv Z h18 b2 k2 .int (16 : Int32) [(.int (9 : Int32)), (.int (10 : Int32)), (.int (13 : Int32)), (.int (32 : Int32)), (.int (55295 : Int32)), (.int (57344 : Int32)), (.int (65533 : Int32)), (.int (65536 : Int32)), (.int (0 : Int32)), (.int (0 : Int32)), (.int (0 : Int32)), (.int (0 : Int32)), (.int (0 : Int32)), (.int (0 : Int32)), (.int (0 : Int32)), (.int (0 : Int32))] (.int (0 : Int32)) := V18
  have N18 := Fr.snoc X18 N16 g_b2
  have Z18 : n0 ≤ h18.size := Nat.le_trans Z16 (Keep.of_wr W18).1
  have pre19 : ∀ t, SS p e below m T18 51 #[iv p1, iv p2, .unset, .unset, .unset, .unset] [(.int (1114111 : Int32)), (.int (8 : Int32)), (.ref b2), (.ref b2)] t → B t := fun t kk => pre17 t (by
    refine st18 _ ?_
    show SS p e below m T18 46 #[iv p1, iv p2, .unset, .unset, .unset, .unset] [(.ref b2)] _
    refine XS.dup X18.here hx rfl (hb hby at_46) rfl rfl ?_
    show SS p e below m T18 47 #[iv p1, iv p2, .unset, .unset, .unset, .unset] [(.ref b2), (.ref b2)] _
    refine XS.bipush X18.here hx rfl (hb hby at_47) ?_
    show SS p e below m T18 49 #[iv p1, iv p2, .unset, .unset, .unset, .unset] [(.int (8 : Int32)), (.ref b2), (.ref b2)] _
    refine X18.ldcInt hx hown (mvT hZ (hw _ (List.mem_of_getElem? (i := 5) rfl))) (g := (mkF m 49 #[iv p1, iv p2, .unset, .unset, .unset, .unset] [(.int (8 : Int32)), (.ref b2), (.ref b2)])) rfl (hb hby at_49) _ ?_
    show SS p e below m T18 51 #[iv p1, iv p2, .unset, .unset, .unset, .unset] [(.int (1114111 : Int32)), (.int (8 : Int32)), (.ref b2), (.ref b2)] _
    exact kk)
  obtain ⟨cl20, Ar20, q20, S20, M20, H20, G20⟩ := V18'
  have hin20 : ¬ ((8 : Int32) < 0 ∨ cl20.slots.size ≤ ((8 : Int32)).toNatClampNeg) := inb_of S20 ⟨by decide, by decide⟩
  obtain ⟨T20, h20, X20, e20, W20, st20⟩ := stI X18 hx hZ e18 Ar20 (j := (8 : Int32)) hin20 (g := (mkF m 51 #[iv p1, iv p2, .unset, .unset, .unset, .unset] [(.int (1114111 : Int32)), (.int (8 : Int32)), (.ref b2), (.ref b2)])) rfl rfl (hb hby at_51)
  have V20 := Arv.set Ar20 q20 S20 M20 H20 G20 rfl W20 8 rfl (Nat.le_of_ble_eq_true rfl)
  have V20' : Arv Z h20 b2 k2 .int (16 : Int32) [(.int (9 : Int32)), (.int (10 : Int32)), (.int (13 : Int32)), (.int (32 : Int32)), (.int (55295 : Int32)), (.int (57344 : Int32)), (.int (65533 : Int32)), (.int (65536 : Int32)), (.int (1114111 : Int32)), (.int (0 : Int32)), (.int (0 : Int32)), (.int (0 : Int32)), (.int (0 : Int32)), (.int (0 : Int32)), (.int (0 : Int32)), (.int (0 : Int32))] (.int (0 : Int32)) := V20
  have N20 := Fr.snoc X20 N18 g_b2
  have Z20 : n0 ≤ h20.size := Nat.le_trans Z18 (Keep.of_wr W20).1
  have pre21 : ∀ t, SS p e below m T20 56 #[iv p1, iv p2, .unset, .unset, .unset, .unset] [(.int (0 : Int32)), (.int (9 : Int32)), (.ref b2), (.ref b2)] t → B t := fun t kk => pre19 t (by
    refine st20 _ ?_
    show SS p e below m T20 52 #[iv p1, iv p2, .unset, .unset, .unset, .unset] [(.ref b2)] _
    refine XS.dup X20.here hx rfl (hb hby at_52) rfl rfl ?_
    show SS p e below m T20 53 #[iv p1, iv p2, .unset, .unset, .unset, .unset] [(.ref b2), (.ref b2)] _
    refine XS.bipush X20.here hx rfl (hb hby at_53) ?_
    show SS p e below m T20 55 #[iv p1, iv p2, .unset, .unset, .unset, .unset] [(.int (9 : Int32)), (.ref b2), (.ref b2)] _
    refine XS.iconst X20.here hx rfl (hb hby at_55) ?_
    show SS p e below m T20 56 #[iv p1, iv p2, .unset, .unset, .unset, .unset] [(.int (0 : Int32)), (.int (9 : Int32)), (.ref b2), (.ref b2)] _
    exact kk)
  obtain ⟨cl22, Ar22, q22, S22, M22, H22, G22⟩ := V20'
  have hin22 : ¬ ((9 : Int32) < 0 ∨ cl22.slots.size ≤ ((9 : Int32)).toNatClampNeg) := inb_of S22 ⟨by decide, by decide⟩
  obtain ⟨T22, h22, X22, e22, W22, st22⟩ := stI X20 hx hZ e20 Ar22 (j := (9 : Int32)) hin22 (g := (mkF m 56 #[iv p1, iv p2, .unset, .unset, .unset, .unset] [(.int (0 : Int32)), (.int (9 : Int32)), (.ref b2), (.ref b2)])) rfl rfl (hb hby at_56)
  have V22 := Arv.set Ar22 q22 S22 M22 H22 G22 rfl W22 9 rfl (Nat.le_of_ble_eq_true rfl)
  have V22' : Arv Z h22 b2 k2 .int (16 : Int32) [(.int (9 : Int32)), (.int (10 : Int32)), (.int (13 : Int32)), (.int (32 : Int32)), (.int (55295 : Int32)), (.int (57344 : Int32)), (.int (65533 : Int32)), (.int (65536 : Int32)), (.int (1114111 : Int32)), (.int (0 : Int32)), (.int (0 : Int32)), (.int (0 : Int32)), (.int (0 : Int32)), (.int (0 : Int32)), (.int (0 : Int32)), (.int (0 : Int32))] (.int (0 : Int32)) := V22
  have N22 := Fr.snoc X22 N20 g_b2
  have Z22 : n0 ≤ h22.size := Nat.le_trans Z20 (Keep.of_wr W22).1
  have pre23 : ∀ t, SS p e below m T22 62 #[iv p1, iv p2, .unset, .unset, .unset, .unset] [(.int (-2147483648 : Int32)), (.int (10 : Int32)), (.ref b2), (.ref b2)] t → B t := fun t kk => pre21 t (by
    refine st22 _ ?_
    show SS p e below m T22 57 #[iv p1, iv p2, .unset, .unset, .unset, .unset] [(.ref b2)] _
    refine XS.dup X22.here hx rfl (hb hby at_57) rfl rfl ?_
    show SS p e below m T22 58 #[iv p1, iv p2, .unset, .unset, .unset, .unset] [(.ref b2), (.ref b2)] _
    refine XS.bipush X22.here hx rfl (hb hby at_58) ?_
    show SS p e below m T22 60 #[iv p1, iv p2, .unset, .unset, .unset, .unset] [(.int (10 : Int32)), (.ref b2), (.ref b2)] _
    refine X22.ldcInt hx hown (mvT hZ (hw _ (List.mem_of_getElem? (i := 6) rfl))) (g := (mkF m 60 #[iv p1, iv p2, .unset, .unset, .unset, .unset] [(.int (10 : Int32)), (.ref b2), (.ref b2)])) rfl (hb hby at_60) _ ?_
    show SS p e below m T22 62 #[iv p1, iv p2, .unset, .unset, .unset, .unset] [(.int (-2147483648 : Int32)), (.int (10 : Int32)), (.ref b2), (.ref b2)] _
    exact kk)
  obtain ⟨cl24, Ar24, q24, S24, M24, H24, G24⟩ := V22'
  have hin24 : ¬ ((10 : Int32) < 0 ∨ cl24.slots.size ≤ ((10 : Int32)).toNatClampNeg) := inb_of S24 ⟨by decide, by decide⟩
  obtain ⟨T24, h24, X24, e24, W24, st24⟩ := stI X22 hx hZ e22 Ar24 (j := (10 : Int32)) hin24 (g := (mkF m 62 #[iv p1, iv p2, .unset, .unset, .unset, .unset] [(.int (-2147483648 : Int32)), (.int (10 : Int32)), (.ref b2), (.ref b2)])) rfl rfl (hb hby at_62)
  have V24 := Arv.set Ar24 q24 S24 M24 H24 G24 rfl W24 10 rfl (Nat.le_of_ble_eq_true rfl)
  have V24' : Arv Z h24 b2 k2 .int (16 : Int32) [(.int (9 : Int32)), (.int (10 : Int32)), (.int (13 : Int32)), (.int (32 : Int32)), (.int (55295 : Int32)), (.int (57344 : Int32)), (.int (65533 : Int32)), (.int (65536 : Int32)), (.int (1114111 : Int32)), (.int (0 : Int32)), (.int (-2147483648 : Int32)), (.int (0 : Int32)), (.int (0 : Int32)), (.int (0 : Int32)), (.int (0 : Int32)), (.int (0 : Int32))] (.int (0 : Int32)) := V24
  have N24 := Fr.snoc X24 N22 g_b2
  have Z24 : n0 ≤ h24.size := Nat.le_trans Z22 (Keep.of_wr W24).1
  have pre25 : ∀ t, SS p e below m T24 68 #[iv p1, iv p2, .unset, .unset, .unset, .unset] [(.int (2147483647 : Int32)), (.int (11 : Int32)), (.ref b2), (.ref b2)] t → B t := fun t kk => pre23 t (by
    refine st24 _ ?_
    show SS p e below m T24 63 #[iv p1, iv p2, .unset, .unset, .unset, .unset] [(.ref b2)] _
    refine XS.dup X24.here hx rfl (hb hby at_63) rfl rfl ?_
    show SS p e below m T24 64 #[iv p1, iv p2, .unset, .unset, .unset, .unset] [(.ref b2), (.ref b2)] _
    refine XS.bipush X24.here hx rfl (hb hby at_64) ?_
    show SS p e below m T24 66 #[iv p1, iv p2, .unset, .unset, .unset, .unset] [(.int (11 : Int32)), (.ref b2), (.ref b2)] _
    refine X24.ldcInt hx hown (mvT hZ (hw _ (List.mem_of_getElem? (i := 7) rfl))) (g := (mkF m 66 #[iv p1, iv p2, .unset, .unset, .unset, .unset] [(.int (11 : Int32)), (.ref b2), (.ref b2)])) rfl (hb hby at_66) _ ?_
    show SS p e below m T24 68 #[iv p1, iv p2, .unset, .unset, .unset, .unset] [(.int (2147483647 : Int32)), (.int (11 : Int32)), (.ref b2), (.ref b2)] _
    exact kk)
  obtain ⟨cl26, Ar26, q26, S26, M26, H26, G26⟩ := V24'
  have hin26 : ¬ ((11 : Int32) < 0 ∨ cl26.slots.size ≤ ((11 : Int32)).toNatClampNeg) := inb_of S26 ⟨by decide, by decide⟩
  obtain ⟨T26, h26, X26, e26, W26, st26⟩ := stI X24 hx hZ e24 Ar26 (j := (11 : Int32)) hin26 (g := (mkF m 68 #[iv p1, iv p2, .unset, .unset, .unset, .unset] [(.int (2147483647 : Int32)), (.int (11 : Int32)), (.ref b2), (.ref b2)])) rfl rfl (hb hby at_68)
  have V26 := Arv.set Ar26 q26 S26 M26 H26 G26 rfl W26 11 rfl (Nat.le_of_ble_eq_true rfl)
  have V26' : Arv Z h26 b2 k2 .int (16 : Int32) [(.int (9 : Int32)), (.int (10 : Int32)), (.int (13 : Int32)), (.int (32 : Int32)), (.int (55295 : Int32)), (.int (57344 : Int32)), (.int (65533 : Int32)), (.int (65536 : Int32)), (.int (1114111 : Int32)), (.int (0 : Int32)), (.int (-2147483648 : Int32)), (.int (2147483647 : Int32)), (.int (0 : Int32)), (.int (0 : Int32)), (.int (0 : Int32)), (.int (0 : Int32))] (.int (0 : Int32)) := V26
  have N26 := Fr.snoc X26 N24 g_b2
  have Z26 : n0 ≤ h26.size := Nat.le_trans Z24 (Keep.of_wr W26).1
  have pre27 : ∀ t, SS p e below m T26 74 #[iv p1, iv p2, .unset, .unset, .unset, .unset] [(.int (31 : Int32)), (.int (12 : Int32)), (.ref b2), (.ref b2)] t → B t := fun t kk => pre25 t (by
    refine st26 _ ?_
    show SS p e below m T26 69 #[iv p1, iv p2, .unset, .unset, .unset, .unset] [(.ref b2)] _
    refine XS.dup X26.here hx rfl (hb hby at_69) rfl rfl ?_
    show SS p e below m T26 70 #[iv p1, iv p2, .unset, .unset, .unset, .unset] [(.ref b2), (.ref b2)] _
    refine XS.bipush X26.here hx rfl (hb hby at_70) ?_
    show SS p e below m T26 72 #[iv p1, iv p2, .unset, .unset, .unset, .unset] [(.int (12 : Int32)), (.ref b2), (.ref b2)] _
    refine XS.bipush X26.here hx rfl (hb hby at_72) ?_
    show SS p e below m T26 74 #[iv p1, iv p2, .unset, .unset, .unset, .unset] [(.int (31 : Int32)), (.int (12 : Int32)), (.ref b2), (.ref b2)] _
    exact kk)
  obtain ⟨cl28, Ar28, q28, S28, M28, H28, G28⟩ := V26'
  have hin28 : ¬ ((12 : Int32) < 0 ∨ cl28.slots.size ≤ ((12 : Int32)).toNatClampNeg) := inb_of S28 ⟨by decide, by decide⟩
  obtain ⟨T28, h28, X28, e28, W28, st28⟩ := stI X26 hx hZ e26 Ar28 (j := (12 : Int32)) hin28 (g := (mkF m 74 #[iv p1, iv p2, .unset, .unset, .unset, .unset] [(.int (31 : Int32)), (.int (12 : Int32)), (.ref b2), (.ref b2)])) rfl rfl (hb hby at_74)
  have V28 := Arv.set Ar28 q28 S28 M28 H28 G28 rfl W28 12 rfl (Nat.le_of_ble_eq_true rfl)
  have V28' : Arv Z h28 b2 k2 .int (16 : Int32) [(.int (9 : Int32)), (.int (10 : Int32)), (.int (13 : Int32)), (.int (32 : Int32)), (.int (55295 : Int32)), (.int (57344 : Int32)), (.int (65533 : Int32)), (.int (65536 : Int32)), (.int (1114111 : Int32)), (.int (0 : Int32)), (.int (-2147483648 : Int32)), (.int (2147483647 : Int32)), (.int (31 : Int32)), (.int (0 : Int32)), (.int (0 : Int32)), (.int (0 : Int32))] (.int (0 : Int32)) := V28
  have N28 := Fr.snoc X28 N26 g_b2
  have Z28 : n0 ≤ h28.size := Nat.le_trans Z26 (Keep.of_wr W28).1
  have pre29 : ∀ t, SS p e below m T28 80 #[iv p1, iv p2, .unset, .unset, .unset, .unset] [(.int (55296 : Int32)), (.int (13 : Int32)), (.ref b2), (.ref b2)] t → B t := fun t kk => pre27 t (by
    refine st28 _ ?_
    show SS p e below m T28 75 #[iv p1, iv p2, .unset, .unset, .unset, .unset] [(.ref b2)] _
    refine XS.dup X28.here hx rfl (hb hby at_75) rfl rfl ?_
    show SS p e below m T28 76 #[iv p1, iv p2, .unset, .unset, .unset, .unset] [(.ref b2), (.ref b2)] _
    refine XS.bipush X28.here hx rfl (hb hby at_76) ?_
    show SS p e below m T28 78 #[iv p1, iv p2, .unset, .unset, .unset, .unset] [(.int (13 : Int32)), (.ref b2), (.ref b2)] _
    refine X28.ldcInt hx hown (mvT hZ (hw _ (List.mem_of_getElem? (i := 8) rfl))) (g := (mkF m 78 #[iv p1, iv p2, .unset, .unset, .unset, .unset] [(.int (13 : Int32)), (.ref b2), (.ref b2)])) rfl (hb hby at_78) _ ?_
    show SS p e below m T28 80 #[iv p1, iv p2, .unset, .unset, .unset, .unset] [(.int (55296 : Int32)), (.int (13 : Int32)), (.ref b2), (.ref b2)] _
    exact kk)
  obtain ⟨cl30, Ar30, q30, S30, M30, H30, G30⟩ := V28'
  have hin30 : ¬ ((13 : Int32) < 0 ∨ cl30.slots.size ≤ ((13 : Int32)).toNatClampNeg) := inb_of S30 ⟨by decide, by decide⟩
  obtain ⟨T30, h30, X30, e30, W30, st30⟩ := stI X28 hx hZ e28 Ar30 (j := (13 : Int32)) hin30 (g := (mkF m 80 #[iv p1, iv p2, .unset, .unset, .unset, .unset] [(.int (55296 : Int32)), (.int (13 : Int32)), (.ref b2), (.ref b2)])) rfl rfl (hb hby at_80)
  have V30 := Arv.set Ar30 q30 S30 M30 H30 G30 rfl W30 13 rfl (Nat.le_of_ble_eq_true rfl)
  have V30' : Arv Z h30 b2 k2 .int (16 : Int32) [(.int (9 : Int32)), (.int (10 : Int32)), (.int (13 : Int32)), (.int (32 : Int32)), (.int (55295 : Int32)), (.int (57344 : Int32)), (.int (65533 : Int32)), (.int (65536 : Int32)), (.int (1114111 : Int32)), (.int (0 : Int32)), (.int (-2147483648 : Int32)), (.int (2147483647 : Int32)), (.int (31 : Int32)), (.int (55296 : Int32)), (.int (0 : Int32)), (.int (0 : Int32))] (.int (0 : Int32)) := V30
  have N30 := Fr.snoc X30 N28 g_b2
  have Z30 : n0 ≤ h30.size := Nat.le_trans Z28 (Keep.of_wr W30).1
  have pre31 : ∀ t, SS p e below m T30 86 #[iv p1, iv p2, .unset, .unset, .unset, .unset] [(.int (57343 : Int32)), (.int (14 : Int32)), (.ref b2), (.ref b2)] t → B t := fun t kk => pre29 t (by
    refine st30 _ ?_
    show SS p e below m T30 81 #[iv p1, iv p2, .unset, .unset, .unset, .unset] [(.ref b2)] _
    refine XS.dup X30.here hx rfl (hb hby at_81) rfl rfl ?_
    show SS p e below m T30 82 #[iv p1, iv p2, .unset, .unset, .unset, .unset] [(.ref b2), (.ref b2)] _
    refine XS.bipush X30.here hx rfl (hb hby at_82) ?_
    show SS p e below m T30 84 #[iv p1, iv p2, .unset, .unset, .unset, .unset] [(.int (14 : Int32)), (.ref b2), (.ref b2)] _
    refine X30.ldcInt hx hown (mvT hZ (hw _ (List.mem_of_getElem? (i := 9) rfl))) (g := (mkF m 84 #[iv p1, iv p2, .unset, .unset, .unset, .unset] [(.int (14 : Int32)), (.ref b2), (.ref b2)])) rfl (hb hby at_84) _ ?_
    show SS p e below m T30 86 #[iv p1, iv p2, .unset, .unset, .unset, .unset] [(.int (57343 : Int32)), (.int (14 : Int32)), (.ref b2), (.ref b2)] _
    exact kk)
  obtain ⟨cl32, Ar32, q32, S32, M32, H32, G32⟩ := V30'
  have hin32 : ¬ ((14 : Int32) < 0 ∨ cl32.slots.size ≤ ((14 : Int32)).toNatClampNeg) := inb_of S32 ⟨by decide, by decide⟩
  obtain ⟨T32, h32, X32, e32, W32, st32⟩ := stI X30 hx hZ e30 Ar32 (j := (14 : Int32)) hin32 (g := (mkF m 86 #[iv p1, iv p2, .unset, .unset, .unset, .unset] [(.int (57343 : Int32)), (.int (14 : Int32)), (.ref b2), (.ref b2)])) rfl rfl (hb hby at_86)
  have V32 := Arv.set Ar32 q32 S32 M32 H32 G32 rfl W32 14 rfl (Nat.le_of_ble_eq_true rfl)
  have V32' : Arv Z h32 b2 k2 .int (16 : Int32) [(.int (9 : Int32)), (.int (10 : Int32)), (.int (13 : Int32)), (.int (32 : Int32)), (.int (55295 : Int32)), (.int (57344 : Int32)), (.int (65533 : Int32)), (.int (65536 : Int32)), (.int (1114111 : Int32)), (.int (0 : Int32)), (.int (-2147483648 : Int32)), (.int (2147483647 : Int32)), (.int (31 : Int32)), (.int (55296 : Int32)), (.int (57343 : Int32)), (.int (0 : Int32))] (.int (0 : Int32)) := V32
  have N32 := Fr.snoc X32 N30 g_b2
  have Z32 : n0 ≤ h32.size := Nat.le_trans Z30 (Keep.of_wr W32).1
  have pre33 : ∀ t, SS p e below m T32 92 #[iv p1, iv p2, .unset, .unset, .unset, .unset] [(.int (65534 : Int32)), (.int (15 : Int32)), (.ref b2), (.ref b2)] t → B t := fun t kk => pre31 t (by
    refine st32 _ ?_
    show SS p e below m T32 87 #[iv p1, iv p2, .unset, .unset, .unset, .unset] [(.ref b2)] _
    refine XS.dup X32.here hx rfl (hb hby at_87) rfl rfl ?_
    show SS p e below m T32 88 #[iv p1, iv p2, .unset, .unset, .unset, .unset] [(.ref b2), (.ref b2)] _
    refine XS.bipush X32.here hx rfl (hb hby at_88) ?_
    show SS p e below m T32 90 #[iv p1, iv p2, .unset, .unset, .unset, .unset] [(.int (15 : Int32)), (.ref b2), (.ref b2)] _
    refine X32.ldcInt hx hown (mvT hZ (hw _ (List.mem_of_getElem? (i := 10) rfl))) (g := (mkF m 90 #[iv p1, iv p2, .unset, .unset, .unset, .unset] [(.int (15 : Int32)), (.ref b2), (.ref b2)])) rfl (hb hby at_90) _ ?_
    show SS p e below m T32 92 #[iv p1, iv p2, .unset, .unset, .unset, .unset] [(.int (65534 : Int32)), (.int (15 : Int32)), (.ref b2), (.ref b2)] _
    exact kk)
  obtain ⟨cl34, Ar34, q34, S34, M34, H34, G34⟩ := V32'
  have hin34 : ¬ ((15 : Int32) < 0 ∨ cl34.slots.size ≤ ((15 : Int32)).toNatClampNeg) := inb_of S34 ⟨by decide, by decide⟩
  obtain ⟨T34, h34, X34, e34, W34, st34⟩ := stI X32 hx hZ e32 Ar34 (j := (15 : Int32)) hin34 (g := (mkF m 92 #[iv p1, iv p2, .unset, .unset, .unset, .unset] [(.int (65534 : Int32)), (.int (15 : Int32)), (.ref b2), (.ref b2)])) rfl rfl (hb hby at_92)
  have V34 := Arv.set Ar34 q34 S34 M34 H34 G34 rfl W34 15 rfl (Nat.le_of_ble_eq_true rfl)
  have V34' : Arv Z h34 b2 k2 .int (16 : Int32) [(.int (9 : Int32)), (.int (10 : Int32)), (.int (13 : Int32)), (.int (32 : Int32)), (.int (55295 : Int32)), (.int (57344 : Int32)), (.int (65533 : Int32)), (.int (65536 : Int32)), (.int (1114111 : Int32)), (.int (0 : Int32)), (.int (-2147483648 : Int32)), (.int (2147483647 : Int32)), (.int (31 : Int32)), (.int (55296 : Int32)), (.int (57343 : Int32)), (.int (65534 : Int32))] (.int (0 : Int32)) := V34
  have N34 := Fr.snoc X34 N32 g_b2
  have Z34 : n0 ≤ h34.size := Nat.le_trans Z32 (Keep.of_wr W34).1
  have pre35 : ∀ t, SS p e below m T34 99 #[iv p1, iv p2, rv b2, .unset, .unset, .unset] [(.int (p2 &&& (15 : Int32))), (.ref b2)] t → B t := fun t kk => pre33 t (by
    refine st34 _ ?_
    show SS p e below m T34 93 #[iv p1, iv p2, .unset, .unset, .unset, .unset] [(.ref b2)] _
    refine XS.astoreN X34.here hx rfl (hb hby at_93) rfl rfl (l' := #[iv p1, iv p2, rv b2, .unset, .unset, .unset]) rfl ?_
    show SS p e below m T34 94 #[iv p1, iv p2, rv b2, .unset, .unset, .unset] [] _
    refine XS.aloadN X34.here hx rfl (hb hby at_94) rfl rfl ?_
    show SS p e below m T34 95 #[iv p1, iv p2, rv b2, .unset, .unset, .unset] [(.ref b2)] _
    refine XS.iloadN X34.here hx rfl (hb hby at_95) rfl ?_
    show SS p e below m T34 96 #[iv p1, iv p2, rv b2, .unset, .unset, .unset] [(.int p2), (.ref b2)] _
    refine XS.bipush X34.here hx rfl (hb hby at_96) ?_
    show SS p e below m T34 98 #[iv p1, iv p2, rv b2, .unset, .unset, .unset] [(.int (15 : Int32)), (.int p2), (.ref b2)] _
    refine XS.iand X34.here hx rfl (hb hby at_98) rfl ?_
    show SS p e below m T34 99 #[iv p1, iv p2, rv b2, .unset, .unset, .unset] [(.int (p2 &&& (15 : Int32))), (.ref b2)] _
    exact kk)
  obtain ⟨cl36, Ar36, -, S36, -, H36, -⟩ := id V34'
  have hin36 : ¬ ((p2 &&& (15 : Int32)) < 0 ∨ cl36.slots.size ≤ ((p2 &&& (15 : Int32))).toNatClampNeg) := inb_of S36 (own_15 p2)
  obtain ⟨w36, gw36⟩ : ∃ z : Int32, z = ([(9 : Int32), (10 : Int32), (13 : Int32), (32 : Int32), (55295 : Int32), (57344 : Int32), (65533 : Int32), (65536 : Int32), (1114111 : Int32), (0 : Int32), (-2147483648 : Int32), (2147483647 : Int32), (31 : Int32), (55296 : Int32), (57343 : Int32), (65534 : Int32)] : List Int32).getD ((p2 &&& (15 : Int32))).toNatClampNeg 0 := ⟨_, rfl⟩
  have hat36 : cl36.slots[((p2 &&& (15 : Int32))).toNatClampNeg]? = some (.int w36) := by
    rw [H36 _ (Nat.lt_of_not_le fun q => hin36 (Or.inr q)), gw36]; exact congrArg some (own_getD [(9 : Int32), (10 : Int32), (13 : Int32), (32 : Int32), (55295 : Int32), (57344 : Int32), (65533 : Int32), (65536 : Int32), (1114111 : Int32), (0 : Int32), (-2147483648 : Int32), (2147483647 : Int32), (31 : Int32), (55296 : Int32), (57343 : Int32), (65534 : Int32)] _ 0)
  have pre38 : ∀ t, SS p e below m T34 108 #[iv p1, iv p2, rv b2, .unset, .unset, .unset] [(.int ((w36 + (((p2.toUInt32 >>> ((4 : Int32) &&& 31).toUInt32).toInt32) % (3 : Int32))) - (1 : Int32)))] t → B t := fun t kk => pre35 t (by
    refine X34.iaload hx (j := (p2 &&& (15 : Int32))) (v := (.int w36)) (by rw [e34]; exact Ar36.1) (State.isArrayOf_alike hZ.alike Ar36.2.1) Ar36.2.2 hin36 hat36 (g := (mkF m 99 #[iv p1, iv p2, rv b2, .unset, .unset, .unset] [(.int (p2 &&& (15 : Int32))), (.ref b2)])) rfl rfl (hb hby at_99) _ ?_
    show SS p e below m T34 100 #[iv p1, iv p2, rv b2, .unset, .unset, .unset] [(.int w36)] _
    refine XS.iloadN X34.here hx rfl (hb hby at_100) rfl ?_
    show SS p e below m T34 101 #[iv p1, iv p2, rv b2, .unset, .unset, .unset] [(.int p2), (.int w36)] _
    refine XS.iconst X34.here hx rfl (hb hby at_101) ?_
    show SS p e below m T34 102 #[iv p1, iv p2, rv b2, .unset, .unset, .unset] [(.int (4 : Int32)), (.int p2), (.int w36)] _
    refine XS.iushr X34.here hx rfl (hb hby at_102) rfl ?_
    show SS p e below m T34 103 #[iv p1, iv p2, rv b2, .unset, .unset, .unset] [(.int ((p2.toUInt32 >>> ((4 : Int32) &&& 31).toUInt32).toInt32)), (.int w36)] _
    refine XS.iconst X34.here hx rfl (hb hby at_103) ?_
    show SS p e below m T34 104 #[iv p1, iv p2, rv b2, .unset, .unset, .unset] [(.int (3 : Int32)), (.int ((p2.toUInt32 >>> ((4 : Int32) &&& 31).toUInt32).toInt32)), (.int w36)] _
    refine iremM (g := (mkF m 104 #[iv p1, iv p2, rv b2, .unset, .unset, .unset] [(.int (3 : Int32)), (.int ((p2.toUInt32 >>> ((4 : Int32) &&& 31).toUInt32).toInt32)), (.int w36)])) X34 hx rfl (hb hby at_104) rfl (by decide) ?_
    show SS p e below m T34 105 #[iv p1, iv p2, rv b2, .unset, .unset, .unset] [(.int (((p2.toUInt32 >>> ((4 : Int32) &&& 31).toUInt32).toInt32) % (3 : Int32))), (.int w36)] _
    refine XS.iadd X34.here hx rfl (hb hby at_105) rfl ?_
    show SS p e below m T34 106 #[iv p1, iv p2, rv b2, .unset, .unset, .unset] [(.int (w36 + (((p2.toUInt32 >>> ((4 : Int32) &&& 31).toUInt32).toInt32) % (3 : Int32))))] _
    refine XS.iconst X34.here hx rfl (hb hby at_106) ?_
    show SS p e below m T34 107 #[iv p1, iv p2, rv b2, .unset, .unset, .unset] [(.int (1 : Int32)), (.int (w36 + (((p2.toUInt32 >>> ((4 : Int32) &&& 31).toUInt32).toInt32) % (3 : Int32))))] _
    refine XS.isub X34.here hx rfl (hb hby at_107) rfl ?_
    show SS p e below m T34 108 #[iv p1, iv p2, rv b2, .unset, .unset, .unset] [(.int ((w36 + (((p2.toUInt32 >>> ((4 : Int32) &&& 31).toUInt32).toInt32) % (3 : Int32))) - (1 : Int32)))] _
    exact kk)
  obtain ⟨v37, g_v37⟩ : ∃ z, z = ((w36 + (((p2.toUInt32 >>> ((4 : Int32) &&& 31).toUInt32).toInt32) % (3 : Int32))) - (1 : Int32)) := ⟨_, rfl⟩
  rw [← g_v37] at pre38
  have pre39 : ∀ t, SS p e below m T34 110 #[iv p1, iv p2, rv b2, iv v37, .unset, .unset] [(.int p1)] t → B t := fun t kk => pre38 t (by
    refine XS.istoreN X34.here hx rfl (hb hby at_108) rfl (l' := #[iv p1, iv p2, rv b2, iv v37, .unset, .unset]) rfl ?_
    show SS p e below m T34 109 #[iv p1, iv p2, rv b2, iv v37, .unset, .unset] [] _
    refine XS.iloadN X34.here hx rfl (hb hby at_109) rfl ?_
    show SS p e below m T34 110 #[iv p1, iv p2, rv b2, iv v37, .unset, .unset] [(.int p1)] _
    exact kk)
  obtain ⟨_, _, ⟨T40, L40, k40, n40⟩, -, X40, ⟨Lc40, hQ40, l40, y40, z40⟩, st40⟩ := Jvm.LawKit.callS X34 hx (y := (⟨"com/example/mendmark/mendmark/core/XmlChars", "isChar", "(I)Z"⟩ : MethodName)) hown (mvT hZ (hw _ (List.mem_of_getElem? (i := 11) rfl))) (mvT hZ (hw _ (List.mem_of_getElem? (i := 12) rfl))) (mvT hZ (hw _ (List.mem_of_getElem? (i := 13) rfl))) (mvT hZ (hw _ (List.mem_of_getElem? (i := 14) rfl))) (by decide) (backOf (W := 0) (rm1 l Z a0 hw [] p1 h34 n0 Z34 ) hZ (hw _ (List.mem_of_getElem? (i := 14) rfl)) (hw _ (List.mem_of_getElem? (i := 13) rfl)) (by decide) (by decide)) (g := (mkF m 110 #[iv p1, iv p2, rv b2, iv v37, .unset, .unset] [(.int p1)])) rfl (by rw [hml]; rfl) (argsL := [(.int p1)]) (rest := []) (lenOf pd_0 rfl) rfl (by show 2 * 0 + _ ≤ _; exact Nat.le_of_eq rfl) (hb hby at_110) (fun _ _ => ⟨rfl, e34, (by decide : 1 + 0 ≤ _), (by decide : 16 + 0 ≤ _)⟩)
  dsimp only [Pt.U, Pt.locs, Pt.cells, Pt.slots] at X40 l40 y40 z40 st40 hQ40
  subst l40 y40 z40
  obtain ⟨rfl, N40q, e40⟩ := hQ40
  have N40 := Fr.app N34 N40q
  have pre41 : ∀ t, SS p e below m T40 114 #[iv p1, iv p2, rv b2, iv v37, .unset, .unset] [(.int p1), (.int (f1 p1))] t → B t := fun t kk => pre39 t (by
    refine st40 _ ?_
    show SS p e below m T40 113 #[iv p1, iv p2, rv b2, iv v37, .unset, .unset] [(.int (f1 p1))] _
    refine XS.iloadN X40.here hx rfl (hb hby at_113) rfl ?_
    show SS p e below m T40 114 #[iv p1, iv p2, rv b2, iv v37, .unset, .unset] [(.int p1), (.int (f1 p1))] _
    exact kk)
  obtain ⟨_, _, ⟨T42, L42, k42, n42⟩, -, X42, ⟨Lc42, hQ42, l42, y42, z42⟩, st42⟩ := Jvm.LawKit.callS X40 hx (y := (⟨"com/example/mendmark/mendmark/core/XmlCharsIsCharPinLaw", "ref", "(I)Z"⟩ : MethodName)) hown (mvT hZ (hw _ (List.mem_of_getElem? (i := 15) rfl))) (mvT hZ (hw _ (List.mem_of_getElem? (i := 16) rfl))) (mvT hZ (hw _ (List.mem_of_getElem? (i := 17) rfl))) (mvT hZ (hw _ (List.mem_of_getElem? (i := 18) rfl))) (by decide) (backOf (W := 1) (rm2 l Z a0 hw [] p1 h34 n0 Z34 ) hZ (hw _ (List.mem_of_getElem? (i := 18) rfl)) (hw _ (List.mem_of_getElem? (i := 17) rfl)) (by decide) (by decide)) (g := (mkF m 114 #[iv p1, iv p2, rv b2, iv v37, .unset, .unset] [(.int p1), (.int (f1 p1))])) rfl (by rw [hml]; rfl) (argsL := [(.int p1)]) (rest := [(.int (f1 p1))]) (lenOf pd_0 rfl) rfl (by show 2 * 0 + _ ≤ _; exact Nat.le_of_eq rfl) (hb hby at_114) (fun _ _ => ⟨rfl, e40, (by decide : 1 + 0 ≤ _), (by decide : 16 + 0 ≤ _)⟩)
  dsimp only [Pt.U, Pt.locs, Pt.cells, Pt.slots] at X42 l42 y42 z42 st42 hQ42
  subst l42 y42 z42
  obtain ⟨rfl, N42q, e42⟩ := hQ42
  have N42 := Fr.app N40 N42q
  have pre43 : ∀ t, SS p e below m T42 128 #[iv p1, iv p2, rv b2, iv v37, iv (1 : Int32), .unset] [(.int v37)] t → B t := fun t kk => pre41 t (by
    refine st42 _ ?_
    show SS p e below m T42 117 #[iv p1, iv p2, rv b2, iv v37, .unset, .unset] [(.int (f2 p1)), (.int (f1 p1))] _
    refine XS.icmpNo X42.here hx rfl (hb hby at_117) rfl (teq (own_eq p1)).2 ?_
    show SS p e below m T42 120 #[iv p1, iv p2, rv b2, iv v37, .unset, .unset] [] _
    refine XS.iconst X42.here hx rfl (hb hby at_120) ?_
    show SS p e below m T42 121 #[iv p1, iv p2, rv b2, iv v37, .unset, .unset] [(.int (1 : Int32))] _
    refine XS.goto X42.here hx rfl (pc0 := 121) (pc' := 125) rfl (hb hby at_121) (by decide) (by decide) ?_
    show SS p e below m T42 125 #[iv p1, iv p2, rv b2, iv v37, .unset, .unset] [(.int (1 : Int32))] _
    refine XS.istore X42.here hx rfl (hb hby at_125) rfl (l' := #[iv p1, iv p2, rv b2, iv v37, iv (1 : Int32), .unset]) rfl ?_
    show SS p e below m T42 127 #[iv p1, iv p2, rv b2, iv v37, iv (1 : Int32), .unset] [] _
    refine XS.iloadN X42.here hx rfl (hb hby at_127) rfl ?_
    show SS p e below m T42 128 #[iv p1, iv p2, rv b2, iv v37, iv (1 : Int32), .unset] [(.int v37)] _
    exact kk)
  obtain ⟨_, _, ⟨T44, L44, k44, n44⟩, -, X44, ⟨Lc44, hQ44, l44, y44, z44⟩, st44⟩ := Jvm.LawKit.callS X42 hx (y := (⟨"com/example/mendmark/mendmark/core/XmlChars", "isChar", "(I)Z"⟩ : MethodName)) hown (mvT hZ (hw _ (List.mem_of_getElem? (i := 11) rfl))) (mvT hZ (hw _ (List.mem_of_getElem? (i := 12) rfl))) (mvT hZ (hw _ (List.mem_of_getElem? (i := 13) rfl))) (mvT hZ (hw _ (List.mem_of_getElem? (i := 14) rfl))) (by decide) (backOf (W := 0) (rm1 l Z a0 hw [] v37 h34 n0 Z34 ) hZ (hw _ (List.mem_of_getElem? (i := 14) rfl)) (hw _ (List.mem_of_getElem? (i := 13) rfl)) (by decide) (by decide)) (g := (mkF m 128 #[iv p1, iv p2, rv b2, iv v37, iv (1 : Int32), .unset] [(.int v37)])) rfl (by rw [hml]; rfl) (argsL := [(.int v37)]) (rest := []) (lenOf pd_0 rfl) rfl (by show 2 * 0 + _ ≤ _; exact Nat.le_of_eq rfl) (hb hby at_128) (fun _ _ => ⟨rfl, e42, (by decide : 1 + 0 ≤ _), (by decide : 16 + 0 ≤ _)⟩)
  dsimp only [Pt.U, Pt.locs, Pt.cells, Pt.slots] at X44 l44 y44 z44 st44 hQ44
  subst l44 y44 z44
  obtain ⟨rfl, N44q, e44⟩ := hQ44
  have N44 := Fr.app N42 N44q
  have pre45 : ∀ t, SS p e below m T44 132 #[iv p1, iv p2, rv b2, iv v37, iv (1 : Int32), .unset] [(.int v37), (.int (f1 v37))] t → B t := fun t kk => pre43 t (by
    refine st44 _ ?_
    show SS p e below m T44 131 #[iv p1, iv p2, rv b2, iv v37, iv (1 : Int32), .unset] [(.int (f1 v37))] _
    refine XS.iloadN X44.here hx rfl (hb hby at_131) rfl ?_
    show SS p e below m T44 132 #[iv p1, iv p2, rv b2, iv v37, iv (1 : Int32), .unset] [(.int v37), (.int (f1 v37))] _
    exact kk)
  obtain ⟨_, _, ⟨T46, L46, k46, n46⟩, -, X46, ⟨Lc46, hQ46, l46, y46, z46⟩, st46⟩ := Jvm.LawKit.callS X44 hx (y := (⟨"com/example/mendmark/mendmark/core/XmlCharsIsCharPinLaw", "ref", "(I)Z"⟩ : MethodName)) hown (mvT hZ (hw _ (List.mem_of_getElem? (i := 15) rfl))) (mvT hZ (hw _ (List.mem_of_getElem? (i := 16) rfl))) (mvT hZ (hw _ (List.mem_of_getElem? (i := 17) rfl))) (mvT hZ (hw _ (List.mem_of_getElem? (i := 18) rfl))) (by decide) (backOf (W := 1) (rm2 l Z a0 hw [] v37 h34 n0 Z34 ) hZ (hw _ (List.mem_of_getElem? (i := 18) rfl)) (hw _ (List.mem_of_getElem? (i := 17) rfl)) (by decide) (by decide)) (g := (mkF m 132 #[iv p1, iv p2, rv b2, iv v37, iv (1 : Int32), .unset] [(.int v37), (.int (f1 v37))])) rfl (by rw [hml]; rfl) (argsL := [(.int v37)]) (rest := [(.int (f1 v37))]) (lenOf pd_0 rfl) rfl (by show 2 * 0 + _ ≤ _; exact Nat.le_of_eq rfl) (hb hby at_132) (fun _ _ => ⟨rfl, e44, (by decide : 1 + 0 ≤ _), (by decide : 16 + 0 ≤ _)⟩)
  dsimp only [Pt.U, Pt.locs, Pt.cells, Pt.slots] at X46 l46 y46 z46 st46 hQ46
  subst l46 y46 z46
  obtain ⟨rfl, N46q, e46⟩ := hQ46
  have N46 := Fr.app N44 N46q
  have pre47 : ∀ t, SS p e below m T46 160 #[iv p1, iv p2, rv b2, iv v37, iv (1 : Int32), iv (1 : Int32)] [(.int (1 : Int32))] t → B t := fun t kk => pre45 t (by
    refine st46 _ ?_
    show SS p e below m T46 135 #[iv p1, iv p2, rv b2, iv v37, iv (1 : Int32), .unset] [(.int (f2 v37)), (.int (f1 v37))] _
    refine XS.icmpNo X46.here hx rfl (hb hby at_135) rfl (teq (own_eq v37)).2 ?_
    show SS p e below m T46 138 #[iv p1, iv p2, rv b2, iv v37, iv (1 : Int32), .unset] [] _
    refine XS.iconst X46.here hx rfl (hb hby at_138) ?_
    show SS p e below m T46 139 #[iv p1, iv p2, rv b2, iv v37, iv (1 : Int32), .unset] [(.int (1 : Int32))] _
    refine XS.goto X46.here hx rfl (pc0 := 139) (pc' := 143) rfl (hb hby at_139) (by decide) (by decide) ?_
    show SS p e below m T46 143 #[iv p1, iv p2, rv b2, iv v37, iv (1 : Int32), .unset] [(.int (1 : Int32))] _
    refine XS.istore X46.here hx rfl (hb hby at_143) rfl (l' := #[iv p1, iv p2, rv b2, iv v37, iv (1 : Int32), iv (1 : Int32)]) rfl ?_
    show SS p e below m T46 145 #[iv p1, iv p2, rv b2, iv v37, iv (1 : Int32), iv (1 : Int32)] [] _
    refine XS.iload X46.here hx rfl (hb hby at_145) rfl ?_
    show SS p e below m T46 147 #[iv p1, iv p2, rv b2, iv v37, iv (1 : Int32), iv (1 : Int32)] [(.int (1 : Int32))] _
    refine XS.ifNo X46.here hx rfl (hb hby at_147) rfl ((if0 _ _).trans (feq (by decide : ¬ ((1 : Int32) = (0 : Int32)))).1) ?_
    show SS p e below m T46 150 #[iv p1, iv p2, rv b2, iv v37, iv (1 : Int32), iv (1 : Int32)] [] _
    refine XS.iload X46.here hx rfl (hb hby at_150) rfl ?_
    show SS p e below m T46 152 #[iv p1, iv p2, rv b2, iv v37, iv (1 : Int32), iv (1 : Int32)] [(.int (1 : Int32))] _
    refine XS.ifNo X46.here hx rfl (hb hby at_152) rfl ((if0 _ _).trans (feq (by decide : ¬ ((1 : Int32) = (0 : Int32)))).1) ?_
    show SS p e below m T46 155 #[iv p1, iv p2, rv b2, iv v37, iv (1 : Int32), iv (1 : Int32)] [] _
    refine XS.iconst X46.here hx rfl (hb hby at_155) ?_
    show SS p e below m T46 156 #[iv p1, iv p2, rv b2, iv v37, iv (1 : Int32), iv (1 : Int32)] [(.int (1 : Int32))] _
    refine XS.goto X46.here hx rfl (pc0 := 156) (pc' := 160) rfl (hb hby at_156) (by decide) (by decide) ?_
    show SS p e below m T46 160 #[iv p1, iv p2, rv b2, iv v37, iv (1 : Int32), iv (1 : Int32)] [(.int (1 : Int32))] _
    exact kk)
  obtain ⟨fs, hr, hrun, hended, hW, hsame⟩ := X46.leave (v := some (.int (1 : Int32))) (fun h => by rw [Bd.returns] at h; cases h)
  refine ⟨_, _, hB _ (pre47 _ ?_), hrun, hended, _, _, rfl, ?_, ⟨_, rfl⟩, hW, hsame.mono (by decide) (by decide)⟩
  · exact retN X46 hx (t := .boolean) Bd.returns (by simp) (hb hby at_160) hr
  · exact ⟨rfl, N46⟩
set_option maxRecDepth 65536 in
set_option maxHeartbeats 40000000 in
theorem comes_1 {Post : Tables → Env → Array Value → State → Outcome → State → Prop} (hpost : ∀ tb e args s v u, (limb_1_1.after args s (.returned v) u = true ∧ limb_1_2.after args s (.returned v) u = true ∧ True) → FrameEnd s (.returned v) u (Jvm.fieldLocs frame_1_writes args s ++ Jvm.arrayLocs frame_1_arrays args s ++ Jvm.staticLocs frame_1_statics s) 16 128 → Post tb e args s (.returned v) u) :
    ArmFor flags0 classFile x code maxLocals ret World_1 tables_1 room_1 Calls_1 rest_1 Pre_1 Post := by
  intro l hfl _ _ p e ha hc hk s m args below hf hA hF happ hP
  obtain ⟨hcalls, hrest, hpre⟩ := hP
  obtain ⟨-, -, -, hnamed, -, -, -, hat⟩ := (Spec.applies_iff hf).mp happ
  obtain ⟨hg, hn⟩ := and_e (Cond.before_iff.mp (show (Jvm.Cond.and given_1 narrow_1).before args s = true from hpre))
  obtain ⟨gg1, gg2⟩ := and_e hg
  obtain ⟨gg3, gg4⟩ := and_e gg2
  obtain ⟨w0, w1, rfl⟩ : ∃ w0 w1 : Value, args = #[w0, w1] := by
    have hs : args.size = 2 := by simpa [Cond.value, given_1] using gg1
    obtain ⟨L⟩ := args
    match L, hs with
    | [w0, w1], _ => exact ⟨w0, w1, rfl⟩
  have hw := fun d (hd : d ∈ tables_1) => atoms_spec (ws := Jvm.Cond.code x code maxLocals ret :: tables_1) hat d (List.mem_cons_of_mem _ hd)
  obtain ⟨i0, ei0⟩ := is_v gg3
  obtain rfl : w0 = (.int i0) := Option.some.inj ei0
  obtain ⟨i1, ei1⟩ := is_v gg4
  obtain rfl : w1 = (.int i1) := Option.some.inj ei1
  obtain ⟨n, o, h1, h2, h3, _, L, rfl, ⟨rfl, N⟩, hq⟩ := rm0 l s _ hw tables_1 i0 i1 s.heap s.heap.size (Nat.le_refl _)  p e ha hc hk s m _ below hf ((Spec.applies_iff_loose hf).mp happ).1 ⟨rfl, State.Warmed39.refl s, rfl⟩ trivial
  refine ⟨n, _, h1, h2, h3, hpost _ _ _ _ _ _ ⟨Cond.after_iff.mpr rfl, Cond.after_iff.mpr (eq_i res_at (Term.int_eval (1)) rfl), trivial⟩ ⟨hq.1, hq.2.1, (hq.2.2.sift fun y hy => Or.inr (N y hy)).mono (by decide) (by decide)⟩⟩
theorem main_1_1 : Claimed_1_1 := comes_1 fun _ _ _ _ _ _ h hF => ⟨h.1, hF⟩
theorem main_1_2 : Claimed_1_2 := comes_1 fun _ _ _ _ _ _ h hF => ⟨h.2.1, hF⟩
end Jvm.Pilot.@@N@@
namespace Jvm.Pilot.@@N@@
open Jvm Jvm.ClassFile Sem Op Lib Jvm.Free Jvm.Stand Jvm.Pilot.@@N@@.Jvm.D
/-! MADE BY PROGRAM (witnessworld.py) out of the Statement's table words and the real class files: 9 classes; the members and pool entries that the words name. The judged class is class 1, her method 2. -/
namespace start1
open Jvm.ClassFile
def u (s : String) : CpInfo := .utf8 (stringToUtf16 s)
/-- a pool by its gaps: so many unusable entries, then the entry; so many at the end -/
def gap : Nat → List CpInfo → List CpInfo
  | 0, r => r
  | n + 1, r => .unusable :: gap n r
def poolList (es : List (Nat × CpInfo)) (last : Nat) : List CpInfo := es.foldr (fun e r => gap e.1 (e.2 :: r)) (gap last [])
def pool (es : List (Nat × CpInfo)) (last : Nat) : Array CpInfo := ⟨poolList es last⟩
def fileOf (pool : Array CpInfo) (this : Nat) (attrs : Array Attribute := #[]) (ms : Array MethodInfo := #[]) (fl : Nat := 33) (sup : Nat := 0) (ifs : Array Nat := #[]) (fds : Array FieldInfo := #[]) : ClassFile where
  minorVersion := 0
  majorVersion := 65
  constantPool := pool
  accessFlags := fl
  thisClass := this
  superClass := sup
  interfaces := ifs
  fields := fds
  methods := ms
  attributes := attrs
def plain (name : String) (sup : Option ClassId) : Class where
  name := name
  kind := .ordinary
  loader := none
  accessFlags := 33
  super := sup
  interfaces := #[]
  cf := none
  fields := #[]
  methods := #[]
  instanceTypes := #[]
  staticTypes := #[]
  resolved := #[]
  callSites := []
  init := .initialized
  statics := none
  mirror := none

def pool0 : Array CpInfo := pool [(5, u "<init>"), (0, u "()V"), (1, .class_ 10), (1, u "java/lang/Object")] 113

def k0m0 : Method := { name := "<init>", desc := "()V", sig := { parameters := [], returnType := none }, accessFlags := 1, code := none }
/-- java/lang/Object -/
def k0 : Class := { plain "java/lang/Object" none with
  accessFlags := 33
  interfaces := #[]
  cf := some (fileOf pool0 8 #[] #[{ accessFlags := 1, nameIndex := 5, descriptorIndex := 6, attributes := #[] }] 33 0 #[] #[])
  fields := #[]
  methods := #[k0m0]
  instanceTypes := #[]
  staticTypes := #[]
  resolved := Array.replicate 124 none
  statics := none }

def pool1 : Array CpInfo := pool [(2, .class_ 4), (1, u "java/lang/Object"), (0, u "<init>"), (0, u "()V"), (0, .integer 55295), (0, .integer 57344), (0, .integer 65533), (0, .integer 65536), (0, .integer 1114111), (2, .integer 2147483648), (0, .integer 2147483647), (0, .integer 55296), (0, .integer 57343), (0, .integer 65534), (0, .methodref 20 21), (0, .class_ 22), (0, .nameAndType 23 24), (0, u "com/example/mendmark/mendmark/core/XmlChars"), (0, u "isChar"), (0, u "(I)Z"), (0, .methodref 26 27), (0, .class_ 28), (0, .nameAndType 29 24), (0, u "com/example/mendmark/mendmark/core/XmlCharsIsCharPinLaw"), (0, u "ref"), (3, u "law"), (0, u "(II)Z")] 4

def k1m0 : Method := { name := "<init>", desc := "()V", sig := { parameters := [], returnType := none }, accessFlags := 2, code := none }
def k1c1 : Code := { maxStack := 2, maxLocals := 1, code := method_2_code, exceptionTable := #[], attributes := #[] }
def k1m1 : Method := { name := "ref", desc := "(I)Z", sig := { parameters := [.int], returnType := some .boolean }, accessFlags := 10, code := some k1c1 }
def k1c2 : Code := { maxStack := 4, maxLocals := 6, code := code, exceptionTable := #[], attributes := #[] }
def k1m2 : Method := { name := "law", desc := "(II)Z", sig := { parameters := [.int, .int], returnType := some .boolean }, accessFlags := 9, code := some k1c2 }
/-- com/example/mendmark/mendmark/core/XmlCharsIsCharPinLaw -/
def k1 : Class := { plain "com/example/mendmark/mendmark/core/XmlCharsIsCharPinLaw" (some 0) with
  accessFlags := 49
  interfaces := #[]
  cf := some (fileOf pool1 26 #[] #[{ accessFlags := 2, nameIndex := 5, descriptorIndex := 6, attributes := #[] }, { accessFlags := 10, nameIndex := 29, descriptorIndex := 24, attributes := #[] }, { accessFlags := 9, nameIndex := 33, descriptorIndex := 34, attributes := #[] }] 49 2 #[] #[])
  fields := #[]
  methods := #[k1m0, k1m1, k1m2]
  instanceTypes := #[]
  staticTypes := #[]
  resolved := Array.replicate 39 none
  statics := none }

def pool2 : Array CpInfo := pool [(2, .class_ 4), (1, u "java/lang/Object"), (0, u "<init>"), (0, u "()V"), (0, .integer 55296), (0, .integer 57344), (0, .integer 65533), (0, .integer 65536), (0, .integer 1114111), (6, .class_ 20), (1, u "com/example/mendmark/mendmark/core/XmlChars"), (1, u "(I)Z"), (75, u "STAND_IN"), (0, u "C"), (2, u "NO_COLON_YET"), (0, u "I"), (6, u "isChar")] 11

def k2m0 : Method := { name := "<init>", desc := "()V", sig := { parameters := [], returnType := none }, accessFlags := 2, code := none }
def k2c1 : Code := { maxStack := 2, maxLocals := 2, code := prog_63_method_3_code, exceptionTable := #[], attributes := #[] }
def k2m1 : Method := { name := "isChar", desc := "(I)Z", sig := { parameters := [.int], returnType := some .boolean }, accessFlags := 8, code := some k2c1 }
/-- com/example/mendmark/mendmark/core/XmlChars -/
def k2 : Class := { plain "com/example/mendmark/mendmark/core/XmlChars" (some 0) with
  accessFlags := 49
  interfaces := #[]
  cf := some (fileOf pool2 18 #[] #[{ accessFlags := 2, nameIndex := 5, descriptorIndex := 6, attributes := #[] }, { accessFlags := 8, nameIndex := 110, descriptorIndex := 22, attributes := #[] }] 49 2 #[] #[{ accessFlags := 24, nameIndex := 98, descriptorIndex := 99, attributes := #[] }, { accessFlags := 24, nameIndex := 102, descriptorIndex := 103, attributes := #[] }])
  fields := #[{ name := "STAND_IN", type := .char, accessFlags := 24, slot := 0, constantValue := 0 }, { name := "NO_COLON_YET", type := .int, accessFlags := 24, slot := 1, constantValue := 0 }]
  methods := #[k2m0, k2m1]
  instanceTypes := #[]
  staticTypes := #[.char, .int]
  resolved := Array.replicate 122 none
  statics := none }

def pool3 : Array CpInfo := pool [(1, u "java/lang/Cloneable"), (0, .class_ 1), (0, u "java/lang/Object"), (0, .class_ 3)] 3

/-- java/lang/Cloneable -/
def k3 : Class := { plain "java/lang/Cloneable" (some 0) with
  accessFlags := 1537
  interfaces := #[]
  cf := some (fileOf pool3 2 #[] #[] 1537 4 #[] #[])
  fields := #[]
  methods := #[]
  instanceTypes := #[]
  staticTypes := #[]
  resolved := Array.replicate 8 none
  statics := none }

def pool4 : Array CpInfo := pool [(1, u "java/io/Serializable"), (0, .class_ 1), (0, u "java/lang/Object"), (0, .class_ 3)] 3

/-- java/io/Serializable -/
def k4 : Class := { plain "java/io/Serializable" (some 0) with
  accessFlags := 1537
  interfaces := #[]
  cf := some (fileOf pool4 2 #[] #[] 1537 4 #[] #[])
  fields := #[]
  methods := #[]
  instanceTypes := #[]
  staticTypes := #[]
  resolved := Array.replicate 8 none
  statics := none }

/-- the primitive byte -/
def k5 : Class := { plain "byte" none with kind := .primitive 'B', accessFlags := 0x411 }
/-- [B -/
def k6 : Class := { plain "[B" (some 0) with kind := .array 5 .byte, interfaces := #[3, 4], accessFlags := 1041 }

/-- the primitive int -/
def k7 : Class := { plain "int" none with kind := .primitive 'I', accessFlags := 0x411 }
/-- [I -/
def k8 : Class := { plain "[I" (some 0) with kind := .array 7 .int, interfaces := #[3, 4], accessFlags := 1041 }

def heap : Heap := #[]
def classes : Array Class := #[k0, k1, k2, k3, k4, k5, k6, k7, k8]
def interned : List (Array UInt16 × Addr) := []
def slotsUsed : Nat := 0
def theMethod : MethodId := ⟨1, 2⟩
def args0 : Array Value := #[.int 5, .int 5]
def aboutOver (below : List Frame) : State where
  vm := { classes := classes, interned := interned.toArray }
  heap := heap
  slotsUsed := slotsUsed
  threads := #[{ frames := .invoking theMethod args0 :: below }]
def below0 : List Frame := [.native { method := ⟨0, 0⟩, args := #[] }]
def about1 : State := aboutOver below0
def p0 : Program := .bare "" "" ""
def e0 : Env := launch0.env 0 0 0
theorem w_frames : about1.frames = Frame.invoking theMethod args0 :: below0 := rfl
set_option maxRecDepth 65536 in
theorem w_args : argsFit about1.vm theMethod args0 = true := by decide +kernel
set_option maxRecDepth 65536 in
theorem w_heap : heapFits about1 = true := by decide +kernel
set_option maxRecDepth 65536 in
theorem w_runnable : about1.curStatus? = some .runnable := by decide +kernel
set_option maxRecDepth 65536 in
theorem w_alone : about1.alone = true := by decide +kernel
set_option maxRecDepth 65536 in
theorem w_named : about1.methodNamed? x = some theMethod := by decide +kernel
set_option maxRecDepth 65536 in
theorem w_hears : about1.hears theMethod below0 = true := by decide +kernel
set_option maxRecDepth 65536 in
theorem w_ripe : about1.ripe theMethod args0 below0 = true := by decide +kernel
theorem w_running : about1.status = .running := rfl
set_option maxRecDepth 65536 in
theorem w_room : about1.hasRoom e0.platform room_1 = true :=
  launch0.hasRoom_least _ room_1 (by decide +kernel) (by decide +kernel) (by decide +kernel) (by decide +kernel) (by decide +kernel) (by decide +kernel)
theorem allAtoms_all (ts : List Jvm.Cond) (a : Array Jvm.Value) (st : Jvm.State) : (allAtoms ts).before a st = ts.all (fun c => c.before a st) := by
  induction ts with
  | nil => rfl
  | cons c t ih =>
    show (Jvm.Cond.and c (allAtoms t)).before a st = _
    rw [Jvm.Cond.before_and, ih, List.all_cons]
def words1 : List Jvm.Cond := Jvm.Cond.code x code maxLocals ret :: tables_1
/-- a 'code' word, met by the world's own term for the bytes: nothing is compared byte by byte -/
theorem code_word {y : MethodName} {bytes : ByteArray} {mx : Nat} {rt : Option FieldType} {a : Array Value} {s : State} {m : MethodId} {meth : Method} {c : Code} (h1 : s.methodNamed? y = some m) (h2 : s.vm.method? m = some meth) (h3 : meth.code = some c) (h4 : c.code = bytes)
    (h5 : (c.maxLocals == mx && c.exceptionTable.isEmpty && decide (c.maxStack ≤ mostOperands) && decide (meth.sig.returnType = rt) && !meth.locks && decide (parseMethodDescriptor y.desc = some meth.sig)) = true) : (Jvm.Cond.code y bytes mx rt).before a s = true := by
  simp only [Bool.and_eq_true, beq_iff_eq, Bool.not_eq_true', decide_eq_true_eq] at h5
  obtain ⟨⟨⟨⟨⟨g1, g2⟩, g3⟩, g4⟩, g5⟩, g6⟩ := h5
  simp [Cond.before, Cond.holds, Cond.value, h1, h2, h3, h4, g1, g2, g3, g4, g5, g6]
def isCode : Jvm.Cond → Bool
  | .code _ _ _ _ => true
  | _ => false
theorem all_split {L : List Jvm.Cond} {P : Jvm.Cond → Bool} (h1 : L.all (fun c => isCode c || P c) = true) (h2 : ∀ c ∈ L.filter isCode, P c = true) : L.all P = true := by
  refine List.all_eq_true.mpr fun c hc => ?_
  have h := List.all_eq_true.mp h1 c hc
  rcases Bool.eq_false_or_eq_true (isCode c) with hi | hi
  · exact h2 c (List.mem_filter.mpr ⟨hc, hi⟩)
  · simpa [hi] using h
set_option maxRecDepth 65536 in
theorem w_c0 : (Jvm.Cond.code x code maxLocals ret).before args0 about1 = true := code_word (m := ⟨1, 2⟩) (meth := k1m2) (c := k1c2) (by decide +kernel) rfl rfl rfl (by decide +kernel)
set_option maxRecDepth 65536 in
theorem w_c1 : (Jvm.Cond.code ({ cls := "com/example/mendmark/mendmark/core/XmlChars", name := "isChar", desc := "(I)Z" } : Jvm.MethodName) prog_63_method_3_code (2 : Nat) (Option.some Jvm.ClassFile.FieldType.boolean)).before args0 about1 = true := code_word (m := ⟨2, 1⟩) (meth := k2m1) (c := k2c1) (by decide +kernel) rfl rfl rfl (by decide +kernel)
set_option maxRecDepth 65536 in
theorem w_c2 : (Jvm.Cond.code ({ cls := "com/example/mendmark/mendmark/core/XmlCharsIsCharPinLaw", name := "ref", desc := "(I)Z" } : Jvm.MethodName) method_2_code (1 : Nat) (Option.some Jvm.ClassFile.FieldType.boolean)).before args0 about1 = true := code_word (m := ⟨1, 1⟩) (meth := k1m1) (c := k1c1) (by decide +kernel) rfl rfl rfl (by decide +kernel)
def codes1 : List Jvm.Cond := [Jvm.Cond.code x code maxLocals ret, Jvm.Cond.code ({ cls := "com/example/mendmark/mendmark/core/XmlChars", name := "isChar", desc := "(I)Z" } : Jvm.MethodName) prog_63_method_3_code (2 : Nat) (Option.some Jvm.ClassFile.FieldType.boolean), Jvm.Cond.code ({ cls := "com/example/mendmark/mendmark/core/XmlCharsIsCharPinLaw", name := "ref", desc := "(I)Z" } : Jvm.MethodName) method_2_code (1 : Nat) (Option.some Jvm.ClassFile.FieldType.boolean)]
set_option maxRecDepth 65536 in
theorem codes_eq : words1.filter isCode = codes1 := rfl
theorem w_codes : ∀ c ∈ words1.filter isCode, c.before args0 about1 = true := by
  rw [codes_eq]
  intro c hc
  simp only [codes1, List.mem_cons, List.not_mem_nil, or_false] at hc
  rcases hc with rfl | rfl | rfl
  · exact w_c0
  · exact w_c1
  · exact w_c2
set_option maxRecDepth 65536 in
theorem w_t1 : (words1.take 24).all (fun c => isCode c || c.before args0 about1) = true := by decide +kernel
set_option maxRecDepth 65536 in
theorem w_t2 : (words1.drop 24).all (fun c => isCode c || c.before args0 about1) = true := by decide +kernel
theorem w_tables : (allAtoms (Jvm.Cond.code x code maxLocals ret :: tables_1)).before args0 about1 = true := by
  rw [allAtoms_all]
  show words1.all (fun c => c.before args0 about1) = true
  refine all_split ?_ w_codes
  rw [← List.take_append_drop 24 words1, List.all_append, w_t1, w_t2]
  rfl
set_option maxRecDepth 65536 in
theorem w_case : (Jvm.Cond.and given_1 narrow_1).before args0 about1 = true := by decide +kernel
theorem w_applies : (headSpec (Jvm.Cond.code x code maxLocals ret :: tables_1) room_1).applies x e0.platform about1 = true :=
  (Spec.applies_iff w_frames).mpr ⟨w_running, w_runnable, w_alone, w_named, w_hears, w_ripe, w_room, w_tables⟩
theorem atStart : AtStart classFile x code maxLocals ret World_1 tables_1 room_1 Calls_1 rest_1 Pre_1 launch0 p0 e0 about1 theMethod args0 below0 :=
  ⟨lists_1, trivial, launch0.admits_env _ _ _, launch0.least_env, fairChoices_fair.cas, fairChoices_fair.clock, w_frames, w_args, w_heap, w_applies, trivial, trivial, w_case⟩
end start1
theorem witness_1 : WitnessClaimed_1 := ⟨start1.p0, start1.e0, start1.about1, start1.theMethod, start1.args0, start1.below0, start1.atStart⟩
end Jvm.Pilot.@@N@@
