import JvmDerived
import JvmDerived.Pilot.@@N@@Statement
import JvmDerived.Pilot.@@N@@Code
set_option linter.unusedVariables false
set_option linter.unusedSimpArgs false
namespace Jvm.RoadKit
open Sem ClassFile Op Lib Jvm.Stand Jvm.Free Jvm.LawKit
section New
variable {p : Program} {l : Launch} {e : Env} {R : Room} {s : State} {m : MethodId} {args : Array Value} {below : List Frame} {meth : Method} {c : Code} {T : State} {locs : List Loc} {cells slots : Nat}
theorem retI (X : Stand p l e R s m args below meth c T locs cells slots) (hx : p.tables.exec = Jvm.exec) {pc : Nat} {Ls : Array Slot} {z : Int32} {rest : List Value} (hret : meth.sig.returnType = some .int) (hd : decode c.code pc = .ok (.ireturn, 1)) {fs : List Frame}
    (hl : ∀ (f : JFrame) (acts : List Action), f.method = m → f.locked = none → f.entered = [] → (doReturn e (T.setTop f) acts (some (.int z))).1 = T.setFrames fs) : Steps p.tables e below (T.setTop (mkF m pc Ls (.int z :: rest))) (T.setFrames fs) := by
  have hm' : T.vm.method? m = some meth := X.method'
  have hn : narrow .int (.int z) = .int z := rfl
  show Steps p.tables e below (T.setTop { method := m, pc := pc, locals := Ls, stack := _ :: rest, locked := none }) _
  jvm_step X.here [X.here.top, hx, hd, hm', hret, hn]
  first | (intro acts; rw [hl _ acts rfl rfl rfl]) | rw [hl _ _ rfl rfl rfl]
  exact Steps.refl _
theorem retL (X : Stand p l e R s m args below meth c T locs cells slots) (hx : p.tables.exec = Jvm.exec) {pc : Nat} {Ls : Array Slot} {z : Int64} {rest : List Value} (hret : meth.sig.returnType = some .long) (hd : decode c.code pc = .ok (.lreturn, 1)) {fs : List Frame}
    (hl : ∀ (f : JFrame) (acts : List Action), f.method = m → f.locked = none → f.entered = [] → (doReturn e (T.setTop f) acts (some (.long z))).1 = T.setFrames fs) : Steps p.tables e below (T.setTop (mkF m pc Ls (.long z :: rest))) (T.setFrames fs) := by
  have hm' : T.vm.method? m = some meth := X.method'
  have hn : narrow .long (.long z) = .long z := rfl
  show Steps p.tables e below (T.setTop { method := m, pc := pc, locals := Ls, stack := _ :: rest, locked := none }) _
  jvm_step X.here [X.here.top, hx, hd, hm', hret, hn]
  first | (intro acts; rw [hl _ acts rfl rfl rfl]) | rw [hl _ _ rfl rfl rfl]
  exact Steps.refl _
end New
end Jvm.RoadKit
namespace Jvm.Pilot.@@N@@
open Jvm Jvm.ClassFile Sem Op Lib Jvm.Free Jvm.Stand Jvm.LawKit Jvm.RoadKit Bundle Jvm.Pilot.@@N@@.Jvm.D
/-- the run comes from pc, with these locals and this stack, to t -/
abbrev SS (p : Program) (e : Env) (below : List Frame) (m : MethodId) (T : State) (pc : Nat) (ls : Array Slot) (st : List Value) (t : State) : Prop := Steps p.tables e below (T.setTop (mkF m pc ls st)) t
/-- a method that writes nothing and returns an int -/
def QI (r : Int32) (h0 : Heap) (n0 : Nat) (v : Option Value) (h : Heap) (L : List Loc) : Prop := v = some (.int r) ∧ Fr n0 L ∧ h = h0
def QL (r : Int64) (h0 : Heap) (n0 : Nat) (v : Option Value) (h : Heap) (L : List Loc) : Prop := v = some (.long r) ∧ Fr n0 L ∧ h = h0
def QV (h0 : Heap) (n0 : Nat) (v : Option Value) (h : Heap) (L : List Loc) : Prop := v = none ∧ Fr n0 L ∧ h = h0
/-- .. that may load String constants -/
def QC (r : Int32) (W0 : Vm → Heap → Prop) (h0 : Heap) (n0 : Nat) (v : Option Value) (h : Heap) (vm : Vm) (L : List Loc) : Prop := v = some (.int r) ∧ Fr n0 L ∧ Ext h0 h ∧ W0 vm h
def QIS (r : Int32) (h0 : Heap) (n0 : Nat) (v : Option Value) (h : Heap) (L : List Loc) : Prop := v = some (.int r) ∧ Fr n0 L ∧ Ext h0 h
theorem own_ext {a b c : Heap} (h : Ext a b) (k : Ext b c) : Ext a c := ⟨Nat.le_trans h.1 k.1, fun x y q => k.2 _ _ (h.2 _ _ q)⟩
theorem own_extw {a h h' : Heap} {x : Addr} {sl : Nat} {v : Value} (E : Ext a h) (W : Wr h h' x sl v) (q : a.size ≤ x) : Ext a h' := by
  have K := Keep.of_wr W
  refine ⟨Nat.le_trans E.1 K.1, fun y c hc => K.2.1 _ _ (E.2 _ _ hc) fun hm => ?_⟩
  have hl := (Array.getElem?_eq_some_iff.mp hc).1
  rw [List.mem_singleton] at hm
  rw [hm] at hl
  exact absurd hl (Nat.not_lt.mpr q)
def QE (n0 : Nat) (v : Option Value) (h : Heap) (L : List Loc) : Prop := v = some (.int 1) ∧ Fr n0 L
theorem d1_0 : decode prog_137_method_5_code 0 = .ok (.iload_n 0, 1) := by decide +kernel
theorem d1_1 : decode prog_137_method_5_code 1 = .ok (.sipush 194, 3) := by decide +kernel
theorem d1_4 : decode prog_137_method_5_code 4 = .ok (.if_icmp .lt 15, 3) := by decide +kernel
theorem d1_7 : decode prog_137_method_5_code 7 = .ok (.iload_n 0, 1) := by decide +kernel
theorem d1_8 : decode prog_137_method_5_code 8 = .ok (.sipush 223, 3) := by decide +kernel
theorem d1_11 : decode prog_137_method_5_code 11 = .ok (.if_icmp .gt 8, 3) := by decide +kernel
theorem d1_14 : decode prog_137_method_5_code 14 = .ok (.iconst 2, 1) := by decide +kernel
theorem d1_15 : decode prog_137_method_5_code 15 = .ok (.istore_n 1, 1) := by decide +kernel
theorem d1_16 : decode prog_137_method_5_code 16 = .ok (.goto 43, 3) := by decide +kernel
theorem d1_19 : decode prog_137_method_5_code 19 = .ok (.iload_n 0, 1) := by decide +kernel
theorem d1_20 : decode prog_137_method_5_code 20 = .ok (.sipush 224, 3) := by decide +kernel
theorem d1_23 : decode prog_137_method_5_code 23 = .ok (.if_icmp .lt 15, 3) := by decide +kernel
theorem d1_26 : decode prog_137_method_5_code 26 = .ok (.iload_n 0, 1) := by decide +kernel
theorem d1_27 : decode prog_137_method_5_code 27 = .ok (.sipush 239, 3) := by decide +kernel
theorem d1_30 : decode prog_137_method_5_code 30 = .ok (.if_icmp .gt 8, 3) := by decide +kernel
theorem d1_33 : decode prog_137_method_5_code 33 = .ok (.iconst 3, 1) := by decide +kernel
theorem d1_34 : decode prog_137_method_5_code 34 = .ok (.istore_n 1, 1) := by decide +kernel
theorem d1_35 : decode prog_137_method_5_code 35 = .ok (.goto 24, 3) := by decide +kernel
theorem d1_38 : decode prog_137_method_5_code 38 = .ok (.iload_n 0, 1) := by decide +kernel
theorem d1_39 : decode prog_137_method_5_code 39 = .ok (.sipush 240, 3) := by decide +kernel
theorem d1_42 : decode prog_137_method_5_code 42 = .ok (.if_icmp .lt 15, 3) := by decide +kernel
theorem d1_45 : decode prog_137_method_5_code 45 = .ok (.iload_n 0, 1) := by decide +kernel
theorem d1_46 : decode prog_137_method_5_code 46 = .ok (.sipush 244, 3) := by decide +kernel
theorem d1_49 : decode prog_137_method_5_code 49 = .ok (.if_icmp .gt 8, 3) := by decide +kernel
theorem d1_52 : decode prog_137_method_5_code 52 = .ok (.iconst 4, 1) := by decide +kernel
theorem d1_53 : decode prog_137_method_5_code 53 = .ok (.istore_n 1, 1) := by decide +kernel
theorem d1_54 : decode prog_137_method_5_code 54 = .ok (.goto 5, 3) := by decide +kernel
theorem d1_57 : decode prog_137_method_5_code 57 = .ok (.iconst 1, 1) := by decide +kernel
theorem d1_58 : decode prog_137_method_5_code 58 = .ok (.istore_n 1, 1) := by decide +kernel
theorem d1_59 : decode prog_137_method_5_code 59 = .ok (.iload_n 1, 1) := by decide +kernel
theorem d1_60 : decode prog_137_method_5_code 60 = .ok (.ireturn, 1) := by decide +kernel
theorem pn_1 : plainName "pithline/util/Utf8" = true := by first | (simp [plainName, overriddenIn]; done) | decide +kernel
theorem ef_1 (m : MethodId) (p1 : Int32) : entryFrame m #[(.int p1)] 2 = mkF m 0 #[iv p1, .unset] [] := by first | (simp [entryFrame, mkF, argsToLocals, Value.category]; done) | rfl
def f1 (p1 : Int32)  : Int32 := (if p1 < (194 : Int32) then (if p1 < (224 : Int32) then (if p1 < (240 : Int32) then (1 : Int32) else (if (244 : Int32) < p1 then (1 : Int32) else (4 : Int32))) else (if (239 : Int32) < p1 then (if p1 < (240 : Int32) then (1 : Int32) else (if (244 : Int32) < p1 then (1 : Int32) else (4 : Int32))) else (3 : Int32))) else (if (223 : Int32) < p1 then (if p1 < (224 : Int32) then (if p1 < (240 : Int32) then (1 : Int32) else (if (244 : Int32) < p1 then (1 : Int32) else (4 : Int32))) else (if (239 : Int32) < p1 then (if p1 < (240 : Int32) then (1 : Int32) else (if (244 : Int32) < p1 then (1 : Int32) else (4 : Int32))) else (3 : Int32))) else (2 : Int32)))
set_option maxRecDepth 65536 in
set_option maxHeartbeats 40000000 in
theorem rm1 (l : Launch) (Z : State) (a0 : Array Value) (hw : ∀ d ∈ tables_1, d.before a0 Z = true) (ws : List Jvm.Cond) (p1 : Int32)  (h0 : Heap) (n0 : Nat) (Z0 : n0 ≤ h0.size)  :
    MetFree l (⟨"pithline/util/Utf8", "sequenceLength", "(I)I"⟩ : MethodName) (head1 (Jvm.Cond.code (⟨"pithline/util/Utf8", "sequenceLength", "(I)I"⟩ : MethodName) prog_137_method_5_code 2 (some .int) :: ws) ({ frames := 0, cells := 0, slots := 0, locals := 0 } : Room)) (fun a U => a = #[(.int p1)] ∧ Z.Warmed39 U.vm ∧ U.heap = h0) (fun _ _ _ _ _ => True) (fun _ U o U' => ∃ v L, o = .returned v ∧ QI (f1 p1) h0 n0 v U'.heap L ∧ FrameEnd U o U' L ({ frames := 0, cells := 0, slots := 0, locals := 0 } : Room).cells ({ frames := 0, cells := 0, slots := 0, locals := 0 } : Room).slots) := by
  refine MetFree.of_bodySF (plainFor_of_name pn_1) hisR ?_
  intro p e s m args below meth c s₁ Bd hml0 hP hK
  obtain ⟨rfl, hZ, hh⟩ := hP
  have hx := Bd.exec
  have hby := Bd.bytes
  have hml : c.maxLocals = 2 := hml0
  have hown : s.vm.findClass "pithline/util/Utf8" = some m.cls := findClass_of_methodNamed Bd.named
  have hnm := (name_of_methodNamed Bd.named Bd.method).1
  have X0 : Stand p l e ({ frames := 0, cells := 0, slots := 0, locals := 0 } : Room) s m #[(.int p1)] below meth c s₁ [] 0 0 := Stand.of_body Bd
  have e0 : s₁.heap = h0 := by rw [← hh, Bd.state]; rfl
  have N0 := Fr.nil n0
  obtain ⟨B, hB, pre0⟩ : ∃ B : State → Prop, (∀ t, B t → Steps p.tables e below (s₁.setTop (entryFrame m #[(.int p1)] 2)) t) ∧ ∀ t, SS p e below m s₁ 0 #[iv p1, .unset] [] t → B t := ⟨_, fun _ q => q, fun t kk => castTop (ef_1 m p1) kk⟩
  have pre1 : ∀ t, SS p e below m s₁ 4 #[iv p1, .unset] [(.int (194 : Int32)), (.int p1)] t → B t := fun t kk => pre0 t (by
    show SS p e below m s₁ 0 #[iv p1, .unset] [] _
    refine XS.iloadN X0.here hx rfl (hb hby d1_0) rfl ?_
    show SS p e below m s₁ 1 #[iv p1, .unset] [(.int p1)] _
    refine XS.sipush X0.here hx rfl (hb hby d1_1) ?_
    show SS p e below m s₁ 4 #[iv p1, .unset] [(.int (194 : Int32)), (.int p1)] _
    exact kk)
  by_cases hc2 : p1 < (194 : Int32)
  · have pre3 : ∀ t, SS p e below m s₁ 23 #[iv p1, .unset] [(.int (224 : Int32)), (.int p1)] t → B t := fun t kk => pre1 t (by
      refine XS.icmpYes X0.here hx rfl (pc0 := 4) (pc' := 19) rfl (hb hby d1_4) rfl (tlt hc2).1 (by decide) (by decide) ?_
      show SS p e below m s₁ 19 #[iv p1, .unset] [] _
      refine XS.iloadN X0.here hx rfl (hb hby d1_19) rfl ?_
      show SS p e below m s₁ 20 #[iv p1, .unset] [(.int p1)] _
      refine XS.sipush X0.here hx rfl (hb hby d1_20) ?_
      show SS p e below m s₁ 23 #[iv p1, .unset] [(.int (224 : Int32)), (.int p1)] _
      exact kk)
    by_cases hc4 : p1 < (224 : Int32)
    · have pre5 : ∀ t, SS p e below m s₁ 42 #[iv p1, .unset] [(.int (240 : Int32)), (.int p1)] t → B t := fun t kk => pre3 t (by
        refine XS.icmpYes X0.here hx rfl (pc0 := 23) (pc' := 38) rfl (hb hby d1_23) rfl (tlt hc4).1 (by decide) (by decide) ?_
        show SS p e below m s₁ 38 #[iv p1, .unset] [] _
        refine XS.iloadN X0.here hx rfl (hb hby d1_38) rfl ?_
        show SS p e below m s₁ 39 #[iv p1, .unset] [(.int p1)] _
        refine XS.sipush X0.here hx rfl (hb hby d1_39) ?_
        show SS p e below m s₁ 42 #[iv p1, .unset] [(.int (240 : Int32)), (.int p1)] _
        exact kk)
      by_cases hc6 : p1 < (240 : Int32)
      · have pre7 : ∀ t, SS p e below m s₁ 60 #[iv p1, iv (1 : Int32)] [(.int (1 : Int32))] t → B t := fun t kk => pre5 t (by
          refine XS.icmpYes X0.here hx rfl (pc0 := 42) (pc' := 57) rfl (hb hby d1_42) rfl (tlt hc6).1 (by decide) (by decide) ?_
          show SS p e below m s₁ 57 #[iv p1, .unset] [] _
          refine XS.iconst X0.here hx rfl (hb hby d1_57) ?_
          show SS p e below m s₁ 58 #[iv p1, .unset] [(.int (1 : Int32))] _
          refine XS.istoreN X0.here hx rfl (hb hby d1_58) rfl (l' := #[iv p1, iv (1 : Int32)]) rfl ?_
          show SS p e below m s₁ 59 #[iv p1, iv (1 : Int32)] [] _
          refine XS.iloadN X0.here hx rfl (hb hby d1_59) rfl ?_
          show SS p e below m s₁ 60 #[iv p1, iv (1 : Int32)] [(.int (1 : Int32))] _
          exact kk)
        obtain ⟨fs, hr, hrun, hended, hW, hsame⟩ := X0.leave (v := some (.int (1 : Int32))) (fun h => by rw [Bd.returns] at h; cases h)
        refine ⟨_, _, hB _ (pre7 _ ?_), hrun, hended, _, _, rfl, ?_, ⟨_, rfl⟩, hW, hsame.mono (by decide) (by decide)⟩
        · exact retI X0 hx Bd.returns (hb hby d1_60) hr
        · exact ⟨by show _ = some (Value.int (f1 p1)); rw [f1, if_pos hc2, if_pos hc4, if_pos hc6], N0, e0⟩
      · have pre8 : ∀ t, SS p e below m s₁ 49 #[iv p1, .unset] [(.int (244 : Int32)), (.int p1)] t → B t := fun t kk => pre5 t (by
          refine XS.icmpNo X0.here hx rfl (hb hby d1_42) rfl (flt hc6).1 ?_
          show SS p e below m s₁ 45 #[iv p1, .unset] [] _
          refine XS.iloadN X0.here hx rfl (hb hby d1_45) rfl ?_
          show SS p e below m s₁ 46 #[iv p1, .unset] [(.int p1)] _
          refine XS.sipush X0.here hx rfl (hb hby d1_46) ?_
          show SS p e below m s₁ 49 #[iv p1, .unset] [(.int (244 : Int32)), (.int p1)] _
          exact kk)
        by_cases hc9 : (244 : Int32) < p1
        · have pre10 : ∀ t, SS p e below m s₁ 60 #[iv p1, iv (1 : Int32)] [(.int (1 : Int32))] t → B t := fun t kk => pre8 t (by
            refine XS.icmpYes X0.here hx rfl (pc0 := 49) (pc' := 57) rfl (hb hby d1_49) rfl (tlt hc9).2.2.1 (by decide) (by decide) ?_
            show SS p e below m s₁ 57 #[iv p1, .unset] [] _
            refine XS.iconst X0.here hx rfl (hb hby d1_57) ?_
            show SS p e below m s₁ 58 #[iv p1, .unset] [(.int (1 : Int32))] _
            refine XS.istoreN X0.here hx rfl (hb hby d1_58) rfl (l' := #[iv p1, iv (1 : Int32)]) rfl ?_
            show SS p e below m s₁ 59 #[iv p1, iv (1 : Int32)] [] _
            refine XS.iloadN X0.here hx rfl (hb hby d1_59) rfl ?_
            show SS p e below m s₁ 60 #[iv p1, iv (1 : Int32)] [(.int (1 : Int32))] _
            exact kk)
          obtain ⟨fs, hr, hrun, hended, hW, hsame⟩ := X0.leave (v := some (.int (1 : Int32))) (fun h => by rw [Bd.returns] at h; cases h)
          refine ⟨_, _, hB _ (pre10 _ ?_), hrun, hended, _, _, rfl, ?_, ⟨_, rfl⟩, hW, hsame.mono (by decide) (by decide)⟩
          · exact retI X0 hx Bd.returns (hb hby d1_60) hr
          · exact ⟨by show _ = some (Value.int (f1 p1)); rw [f1, if_pos hc2, if_pos hc4, if_neg hc6, if_pos hc9], N0, e0⟩
        · have pre11 : ∀ t, SS p e below m s₁ 60 #[iv p1, iv (4 : Int32)] [(.int (4 : Int32))] t → B t := fun t kk => pre8 t (by
            refine XS.icmpNo X0.here hx rfl (hb hby d1_49) rfl (flt hc9).2.2.1 ?_
            show SS p e below m s₁ 52 #[iv p1, .unset] [] _
            refine XS.iconst X0.here hx rfl (hb hby d1_52) ?_
            show SS p e below m s₁ 53 #[iv p1, .unset] [(.int (4 : Int32))] _
            refine XS.istoreN X0.here hx rfl (hb hby d1_53) rfl (l' := #[iv p1, iv (4 : Int32)]) rfl ?_
            show SS p e below m s₁ 54 #[iv p1, iv (4 : Int32)] [] _
            refine XS.goto X0.here hx rfl (pc0 := 54) (pc' := 59) rfl (hb hby d1_54) (by decide) (by decide) ?_
            show SS p e below m s₁ 59 #[iv p1, iv (4 : Int32)] [] _
            refine XS.iloadN X0.here hx rfl (hb hby d1_59) rfl ?_
            show SS p e below m s₁ 60 #[iv p1, iv (4 : Int32)] [(.int (4 : Int32))] _
            exact kk)
          obtain ⟨fs, hr, hrun, hended, hW, hsame⟩ := X0.leave (v := some (.int (4 : Int32))) (fun h => by rw [Bd.returns] at h; cases h)
          refine ⟨_, _, hB _ (pre11 _ ?_), hrun, hended, _, _, rfl, ?_, ⟨_, rfl⟩, hW, hsame.mono (by decide) (by decide)⟩
          · exact retI X0 hx Bd.returns (hb hby d1_60) hr
          · exact ⟨by show _ = some (Value.int (f1 p1)); rw [f1, if_pos hc2, if_pos hc4, if_neg hc6, if_neg hc9], N0, e0⟩
    · have pre12 : ∀ t, SS p e below m s₁ 30 #[iv p1, .unset] [(.int (239 : Int32)), (.int p1)] t → B t := fun t kk => pre3 t (by
        refine XS.icmpNo X0.here hx rfl (hb hby d1_23) rfl (flt hc4).1 ?_
        show SS p e below m s₁ 26 #[iv p1, .unset] [] _
        refine XS.iloadN X0.here hx rfl (hb hby d1_26) rfl ?_
        show SS p e below m s₁ 27 #[iv p1, .unset] [(.int p1)] _
        refine XS.sipush X0.here hx rfl (hb hby d1_27) ?_
        show SS p e below m s₁ 30 #[iv p1, .unset] [(.int (239 : Int32)), (.int p1)] _
        exact kk)
      by_cases hc13 : (239 : Int32) < p1
      · have pre14 : ∀ t, SS p e below m s₁ 42 #[iv p1, .unset] [(.int (240 : Int32)), (.int p1)] t → B t := fun t kk => pre12 t (by
          refine XS.icmpYes X0.here hx rfl (pc0 := 30) (pc' := 38) rfl (hb hby d1_30) rfl (tlt hc13).2.2.1 (by decide) (by decide) ?_
          show SS p e below m s₁ 38 #[iv p1, .unset] [] _
          refine XS.iloadN X0.here hx rfl (hb hby d1_38) rfl ?_
          show SS p e below m s₁ 39 #[iv p1, .unset] [(.int p1)] _
          refine XS.sipush X0.here hx rfl (hb hby d1_39) ?_
          show SS p e below m s₁ 42 #[iv p1, .unset] [(.int (240 : Int32)), (.int p1)] _
          exact kk)
        by_cases hc15 : p1 < (240 : Int32)
        · have pre16 : ∀ t, SS p e below m s₁ 60 #[iv p1, iv (1 : Int32)] [(.int (1 : Int32))] t → B t := fun t kk => pre14 t (by
            refine XS.icmpYes X0.here hx rfl (pc0 := 42) (pc' := 57) rfl (hb hby d1_42) rfl (tlt hc15).1 (by decide) (by decide) ?_
            show SS p e below m s₁ 57 #[iv p1, .unset] [] _
            refine XS.iconst X0.here hx rfl (hb hby d1_57) ?_
            show SS p e below m s₁ 58 #[iv p1, .unset] [(.int (1 : Int32))] _
            refine XS.istoreN X0.here hx rfl (hb hby d1_58) rfl (l' := #[iv p1, iv (1 : Int32)]) rfl ?_
            show SS p e below m s₁ 59 #[iv p1, iv (1 : Int32)] [] _
            refine XS.iloadN X0.here hx rfl (hb hby d1_59) rfl ?_
            show SS p e below m s₁ 60 #[iv p1, iv (1 : Int32)] [(.int (1 : Int32))] _
            exact kk)
          obtain ⟨fs, hr, hrun, hended, hW, hsame⟩ := X0.leave (v := some (.int (1 : Int32))) (fun h => by rw [Bd.returns] at h; cases h)
          refine ⟨_, _, hB _ (pre16 _ ?_), hrun, hended, _, _, rfl, ?_, ⟨_, rfl⟩, hW, hsame.mono (by decide) (by decide)⟩
          · exact retI X0 hx Bd.returns (hb hby d1_60) hr
          · exact ⟨by show _ = some (Value.int (f1 p1)); rw [f1, if_pos hc2, if_neg hc4, if_pos hc13, if_pos hc15], N0, e0⟩
        · have pre17 : ∀ t, SS p e below m s₁ 49 #[iv p1, .unset] [(.int (244 : Int32)), (.int p1)] t → B t := fun t kk => pre14 t (by
            refine XS.icmpNo X0.here hx rfl (hb hby d1_42) rfl (flt hc15).1 ?_
            show SS p e below m s₁ 45 #[iv p1, .unset] [] _
            refine XS.iloadN X0.here hx rfl (hb hby d1_45) rfl ?_
            show SS p e below m s₁ 46 #[iv p1, .unset] [(.int p1)] _
            refine XS.sipush X0.here hx rfl (hb hby d1_46) ?_
            show SS p e below m s₁ 49 #[iv p1, .unset] [(.int (244 : Int32)), (.int p1)] _
            exact kk)
          by_cases hc18 : (244 : Int32) < p1
          · have pre19 : ∀ t, SS p e below m s₁ 60 #[iv p1, iv (1 : Int32)] [(.int (1 : Int32))] t → B t := fun t kk => pre17 t (by
              refine XS.icmpYes X0.here hx rfl (pc0 := 49) (pc' := 57) rfl (hb hby d1_49) rfl (tlt hc18).2.2.1 (by decide) (by decide) ?_
              show SS p e below m s₁ 57 #[iv p1, .unset] [] _
              refine XS.iconst X0.here hx rfl (hb hby d1_57) ?_
              show SS p e below m s₁ 58 #[iv p1, .unset] [(.int (1 : Int32))] _
              refine XS.istoreN X0.here hx rfl (hb hby d1_58) rfl (l' := #[iv p1, iv (1 : Int32)]) rfl ?_
              show SS p e below m s₁ 59 #[iv p1, iv (1 : Int32)] [] _
              refine XS.iloadN X0.here hx rfl (hb hby d1_59) rfl ?_
              show SS p e below m s₁ 60 #[iv p1, iv (1 : Int32)] [(.int (1 : Int32))] _
              exact kk)
            obtain ⟨fs, hr, hrun, hended, hW, hsame⟩ := X0.leave (v := some (.int (1 : Int32))) (fun h => by rw [Bd.returns] at h; cases h)
            refine ⟨_, _, hB _ (pre19 _ ?_), hrun, hended, _, _, rfl, ?_, ⟨_, rfl⟩, hW, hsame.mono (by decide) (by decide)⟩
            · exact retI X0 hx Bd.returns (hb hby d1_60) hr
            · exact ⟨by show _ = some (Value.int (f1 p1)); rw [f1, if_pos hc2, if_neg hc4, if_pos hc13, if_neg hc15, if_pos hc18], N0, e0⟩
          · have pre20 : ∀ t, SS p e below m s₁ 60 #[iv p1, iv (4 : Int32)] [(.int (4 : Int32))] t → B t := fun t kk => pre17 t (by
              refine XS.icmpNo X0.here hx rfl (hb hby d1_49) rfl (flt hc18).2.2.1 ?_
              show SS p e below m s₁ 52 #[iv p1, .unset] [] _
              refine XS.iconst X0.here hx rfl (hb hby d1_52) ?_
              show SS p e below m s₁ 53 #[iv p1, .unset] [(.int (4 : Int32))] _
              refine XS.istoreN X0.here hx rfl (hb hby d1_53) rfl (l' := #[iv p1, iv (4 : Int32)]) rfl ?_
              show SS p e below m s₁ 54 #[iv p1, iv (4 : Int32)] [] _
              refine XS.goto X0.here hx rfl (pc0 := 54) (pc' := 59) rfl (hb hby d1_54) (by decide) (by decide) ?_
              show SS p e below m s₁ 59 #[iv p1, iv (4 : Int32)] [] _
              refine XS.iloadN X0.here hx rfl (hb hby d1_59) rfl ?_
              show SS p e below m s₁ 60 #[iv p1, iv (4 : Int32)] [(.int (4 : Int32))] _
              exact kk)
            obtain ⟨fs, hr, hrun, hended, hW, hsame⟩ := X0.leave (v := some (.int (4 : Int32))) (fun h => by rw [Bd.returns] at h; cases h)
            refine ⟨_, _, hB _ (pre20 _ ?_), hrun, hended, _, _, rfl, ?_, ⟨_, rfl⟩, hW, hsame.mono (by decide) (by decide)⟩
            · exact retI X0 hx Bd.returns (hb hby d1_60) hr
            · exact ⟨by show _ = some (Value.int (f1 p1)); rw [f1, if_pos hc2, if_neg hc4, if_pos hc13, if_neg hc15, if_neg hc18], N0, e0⟩
      · have pre21 : ∀ t, SS p e below m s₁ 60 #[iv p1, iv (3 : Int32)] [(.int (3 : Int32))] t → B t := fun t kk => pre12 t (by
          refine XS.icmpNo X0.here hx rfl (hb hby d1_30) rfl (flt hc13).2.2.1 ?_
          show SS p e below m s₁ 33 #[iv p1, .unset] [] _
          refine XS.iconst X0.here hx rfl (hb hby d1_33) ?_
          show SS p e below m s₁ 34 #[iv p1, .unset] [(.int (3 : Int32))] _
          refine XS.istoreN X0.here hx rfl (hb hby d1_34) rfl (l' := #[iv p1, iv (3 : Int32)]) rfl ?_
          show SS p e below m s₁ 35 #[iv p1, iv (3 : Int32)] [] _
          refine XS.goto X0.here hx rfl (pc0 := 35) (pc' := 59) rfl (hb hby d1_35) (by decide) (by decide) ?_
          show SS p e below m s₁ 59 #[iv p1, iv (3 : Int32)] [] _
          refine XS.iloadN X0.here hx rfl (hb hby d1_59) rfl ?_
          show SS p e below m s₁ 60 #[iv p1, iv (3 : Int32)] [(.int (3 : Int32))] _
          exact kk)
        obtain ⟨fs, hr, hrun, hended, hW, hsame⟩ := X0.leave (v := some (.int (3 : Int32))) (fun h => by rw [Bd.returns] at h; cases h)
        refine ⟨_, _, hB _ (pre21 _ ?_), hrun, hended, _, _, rfl, ?_, ⟨_, rfl⟩, hW, hsame.mono (by decide) (by decide)⟩
        · exact retI X0 hx Bd.returns (hb hby d1_60) hr
        · exact ⟨by show _ = some (Value.int (f1 p1)); rw [f1, if_pos hc2, if_neg hc4, if_neg hc13], N0, e0⟩
  · have pre22 : ∀ t, SS p e below m s₁ 11 #[iv p1, .unset] [(.int (223 : Int32)), (.int p1)] t → B t := fun t kk => pre1 t (by
      refine XS.icmpNo X0.here hx rfl (hb hby d1_4) rfl (flt hc2).1 ?_
      show SS p e below m s₁ 7 #[iv p1, .unset] [] _
      refine XS.iloadN X0.here hx rfl (hb hby d1_7) rfl ?_
      show SS p e below m s₁ 8 #[iv p1, .unset] [(.int p1)] _
      refine XS.sipush X0.here hx rfl (hb hby d1_8) ?_
      show SS p e below m s₁ 11 #[iv p1, .unset] [(.int (223 : Int32)), (.int p1)] _
      exact kk)
    by_cases hc23 : (223 : Int32) < p1
    · have pre24 : ∀ t, SS p e below m s₁ 23 #[iv p1, .unset] [(.int (224 : Int32)), (.int p1)] t → B t := fun t kk => pre22 t (by
        refine XS.icmpYes X0.here hx rfl (pc0 := 11) (pc' := 19) rfl (hb hby d1_11) rfl (tlt hc23).2.2.1 (by decide) (by decide) ?_
        show SS p e below m s₁ 19 #[iv p1, .unset] [] _
        refine XS.iloadN X0.here hx rfl (hb hby d1_19) rfl ?_
        show SS p e below m s₁ 20 #[iv p1, .unset] [(.int p1)] _
        refine XS.sipush X0.here hx rfl (hb hby d1_20) ?_
        show SS p e below m s₁ 23 #[iv p1, .unset] [(.int (224 : Int32)), (.int p1)] _
        exact kk)
      by_cases hc25 : p1 < (224 : Int32)
      · have pre26 : ∀ t, SS p e below m s₁ 42 #[iv p1, .unset] [(.int (240 : Int32)), (.int p1)] t → B t := fun t kk => pre24 t (by
          refine XS.icmpYes X0.here hx rfl (pc0 := 23) (pc' := 38) rfl (hb hby d1_23) rfl (tlt hc25).1 (by decide) (by decide) ?_
          show SS p e below m s₁ 38 #[iv p1, .unset] [] _
          refine XS.iloadN X0.here hx rfl (hb hby d1_38) rfl ?_
          show SS p e below m s₁ 39 #[iv p1, .unset] [(.int p1)] _
          refine XS.sipush X0.here hx rfl (hb hby d1_39) ?_
          show SS p e below m s₁ 42 #[iv p1, .unset] [(.int (240 : Int32)), (.int p1)] _
          exact kk)
        by_cases hc27 : p1 < (240 : Int32)
        · have pre28 : ∀ t, SS p e below m s₁ 60 #[iv p1, iv (1 : Int32)] [(.int (1 : Int32))] t → B t := fun t kk => pre26 t (by
            refine XS.icmpYes X0.here hx rfl (pc0 := 42) (pc' := 57) rfl (hb hby d1_42) rfl (tlt hc27).1 (by decide) (by decide) ?_
            show SS p e below m s₁ 57 #[iv p1, .unset] [] _
            refine XS.iconst X0.here hx rfl (hb hby d1_57) ?_
            show SS p e below m s₁ 58 #[iv p1, .unset] [(.int (1 : Int32))] _
            refine XS.istoreN X0.here hx rfl (hb hby d1_58) rfl (l' := #[iv p1, iv (1 : Int32)]) rfl ?_
            show SS p e below m s₁ 59 #[iv p1, iv (1 : Int32)] [] _
            refine XS.iloadN X0.here hx rfl (hb hby d1_59) rfl ?_
            show SS p e below m s₁ 60 #[iv p1, iv (1 : Int32)] [(.int (1 : Int32))] _
            exact kk)
          obtain ⟨fs, hr, hrun, hended, hW, hsame⟩ := X0.leave (v := some (.int (1 : Int32))) (fun h => by rw [Bd.returns] at h; cases h)
          refine ⟨_, _, hB _ (pre28 _ ?_), hrun, hended, _, _, rfl, ?_, ⟨_, rfl⟩, hW, hsame.mono (by decide) (by decide)⟩
          · exact retI X0 hx Bd.returns (hb hby d1_60) hr
          · exact ⟨by show _ = some (Value.int (f1 p1)); rw [f1, if_neg hc2, if_pos hc23, if_pos hc25, if_pos hc27], N0, e0⟩
        · have pre29 : ∀ t, SS p e below m s₁ 49 #[iv p1, .unset] [(.int (244 : Int32)), (.int p1)] t → B t := fun t kk => pre26 t (by
            refine XS.icmpNo X0.here hx rfl (hb hby d1_42) rfl (flt hc27).1 ?_
            show SS p e below m s₁ 45 #[iv p1, .unset] [] _
            refine XS.iloadN X0.here hx rfl (hb hby d1_45) rfl ?_
            show SS p e below m s₁ 46 #[iv p1, .unset] [(.int p1)] _
            refine XS.sipush X0.here hx rfl (hb hby d1_46) ?_
            show SS p e below m s₁ 49 #[iv p1, .unset] [(.int (244 : Int32)), (.int p1)] _
            exact kk)
          by_cases hc30 : (244 : Int32) < p1
          · have pre31 : ∀ t, SS p e below m s₁ 60 #[iv p1, iv (1 : Int32)] [(.int (1 : Int32))] t → B t := fun t kk => pre29 t (by
              refine XS.icmpYes X0.here hx rfl (pc0 := 49) (pc' := 57) rfl (hb hby d1_49) rfl (tlt hc30).2.2.1 (by decide) (by decide) ?_
              show SS p e below m s₁ 57 #[iv p1, .unset] [] _
              refine XS.iconst X0.here hx rfl (hb hby d1_57) ?_
              show SS p e below m s₁ 58 #[iv p1, .unset] [(.int (1 : Int32))] _
              refine XS.istoreN X0.here hx rfl (hb hby d1_58) rfl (l' := #[iv p1, iv (1 : Int32)]) rfl ?_
              show SS p e below m s₁ 59 #[iv p1, iv (1 : Int32)] [] _
              refine XS.iloadN X0.here hx rfl (hb hby d1_59) rfl ?_
              show SS p e below m s₁ 60 #[iv p1, iv (1 : Int32)] [(.int (1 : Int32))] _
              exact kk)
            obtain ⟨fs, hr, hrun, hended, hW, hsame⟩ := X0.leave (v := some (.int (1 : Int32))) (fun h => by rw [Bd.returns] at h; cases h)
            refine ⟨_, _, hB _ (pre31 _ ?_), hrun, hended, _, _, rfl, ?_, ⟨_, rfl⟩, hW, hsame.mono (by decide) (by decide)⟩
            · exact retI X0 hx Bd.returns (hb hby d1_60) hr
            · exact ⟨by show _ = some (Value.int (f1 p1)); rw [f1, if_neg hc2, if_pos hc23, if_pos hc25, if_neg hc27, if_pos hc30], N0, e0⟩
          · have pre32 : ∀ t, SS p e below m s₁ 60 #[iv p1, iv (4 : Int32)] [(.int (4 : Int32))] t → B t := fun t kk => pre29 t (by
              refine XS.icmpNo X0.here hx rfl (hb hby d1_49) rfl (flt hc30).2.2.1 ?_
              show SS p e below m s₁ 52 #[iv p1, .unset] [] _
              refine XS.iconst X0.here hx rfl (hb hby d1_52) ?_
              show SS p e below m s₁ 53 #[iv p1, .unset] [(.int (4 : Int32))] _
              refine XS.istoreN X0.here hx rfl (hb hby d1_53) rfl (l' := #[iv p1, iv (4 : Int32)]) rfl ?_
              show SS p e below m s₁ 54 #[iv p1, iv (4 : Int32)] [] _
              refine XS.goto X0.here hx rfl (pc0 := 54) (pc' := 59) rfl (hb hby d1_54) (by decide) (by decide) ?_
              show SS p e below m s₁ 59 #[iv p1, iv (4 : Int32)] [] _
              refine XS.iloadN X0.here hx rfl (hb hby d1_59) rfl ?_
              show SS p e below m s₁ 60 #[iv p1, iv (4 : Int32)] [(.int (4 : Int32))] _
              exact kk)
            obtain ⟨fs, hr, hrun, hended, hW, hsame⟩ := X0.leave (v := some (.int (4 : Int32))) (fun h => by rw [Bd.returns] at h; cases h)
            refine ⟨_, _, hB _ (pre32 _ ?_), hrun, hended, _, _, rfl, ?_, ⟨_, rfl⟩, hW, hsame.mono (by decide) (by decide)⟩
            · exact retI X0 hx Bd.returns (hb hby d1_60) hr
            · exact ⟨by show _ = some (Value.int (f1 p1)); rw [f1, if_neg hc2, if_pos hc23, if_pos hc25, if_neg hc27, if_neg hc30], N0, e0⟩
      · have pre33 : ∀ t, SS p e below m s₁ 30 #[iv p1, .unset] [(.int (239 : Int32)), (.int p1)] t → B t := fun t kk => pre24 t (by
          refine XS.icmpNo X0.here hx rfl (hb hby d1_23) rfl (flt hc25).1 ?_
          show SS p e below m s₁ 26 #[iv p1, .unset] [] _
          refine XS.iloadN X0.here hx rfl (hb hby d1_26) rfl ?_
          show SS p e below m s₁ 27 #[iv p1, .unset] [(.int p1)] _
          refine XS.sipush X0.here hx rfl (hb hby d1_27) ?_
          show SS p e below m s₁ 30 #[iv p1, .unset] [(.int (239 : Int32)), (.int p1)] _
          exact kk)
        by_cases hc34 : (239 : Int32) < p1
        · have pre35 : ∀ t, SS p e below m s₁ 42 #[iv p1, .unset] [(.int (240 : Int32)), (.int p1)] t → B t := fun t kk => pre33 t (by
            refine XS.icmpYes X0.here hx rfl (pc0 := 30) (pc' := 38) rfl (hb hby d1_30) rfl (tlt hc34).2.2.1 (by decide) (by decide) ?_
            show SS p e below m s₁ 38 #[iv p1, .unset] [] _
            refine XS.iloadN X0.here hx rfl (hb hby d1_38) rfl ?_
            show SS p e below m s₁ 39 #[iv p1, .unset] [(.int p1)] _
            refine XS.sipush X0.here hx rfl (hb hby d1_39) ?_
            show SS p e below m s₁ 42 #[iv p1, .unset] [(.int (240 : Int32)), (.int p1)] _
            exact kk)
          by_cases hc36 : p1 < (240 : Int32)
          · have pre37 : ∀ t, SS p e below m s₁ 60 #[iv p1, iv (1 : Int32)] [(.int (1 : Int32))] t → B t := fun t kk => pre35 t (by
              refine XS.icmpYes X0.here hx rfl (pc0 := 42) (pc' := 57) rfl (hb hby d1_42) rfl (tlt hc36).1 (by decide) (by decide) ?_
              show SS p e below m s₁ 57 #[iv p1, .unset] [] _
              refine XS.iconst X0.here hx rfl (hb hby d1_57) ?_
              show SS p e below m s₁ 58 #[iv p1, .unset] [(.int (1 : Int32))] _
              refine XS.istoreN X0.here hx rfl (hb hby d1_58) rfl (l' := #[iv p1, iv (1 : Int32)]) rfl ?_
              show SS p e below m s₁ 59 #[iv p1, iv (1 : Int32)] [] _
              refine XS.iloadN X0.here hx rfl (hb hby d1_59) rfl ?_
              show SS p e below m s₁ 60 #[iv p1, iv (1 : Int32)] [(.int (1 : Int32))] _
              exact kk)
            obtain ⟨fs, hr, hrun, hended, hW, hsame⟩ := X0.leave (v := some (.int (1 : Int32))) (fun h => by rw [Bd.returns] at h; cases h)
            refine ⟨_, _, hB _ (pre37 _ ?_), hrun, hended, _, _, rfl, ?_, ⟨_, rfl⟩, hW, hsame.mono (by decide) (by decide)⟩
            · exact retI X0 hx Bd.returns (hb hby d1_60) hr
            · exact ⟨by show _ = some (Value.int (f1 p1)); rw [f1, if_neg hc2, if_pos hc23, if_neg hc25, if_pos hc34, if_pos hc36], N0, e0⟩
          · have pre38 : ∀ t, SS p e below m s₁ 49 #[iv p1, .unset] [(.int (244 : Int32)), (.int p1)] t → B t := fun t kk => pre35 t (by
              refine XS.icmpNo X0.here hx rfl (hb hby d1_42) rfl (flt hc36).1 ?_
              show SS p e below m s₁ 45 #[iv p1, .unset] [] _
              refine XS.iloadN X0.here hx rfl (hb hby d1_45) rfl ?_
              show SS p e below m s₁ 46 #[iv p1, .unset] [(.int p1)] _
              refine XS.sipush X0.here hx rfl (hb hby d1_46) ?_
              show SS p e below m s₁ 49 #[iv p1, .unset] [(.int (244 : Int32)), (.int p1)] _
              exact kk)
            by_cases hc39 : (244 : Int32) < p1
            · have pre40 : ∀ t, SS p e below m s₁ 60 #[iv p1, iv (1 : Int32)] [(.int (1 : Int32))] t → B t := fun t kk => pre38 t (by
                refine XS.icmpYes X0.here hx rfl (pc0 := 49) (pc' := 57) rfl (hb hby d1_49) rfl (tlt hc39).2.2.1 (by decide) (by decide) ?_
                show SS p e below m s₁ 57 #[iv p1, .unset] [] _
                refine XS.iconst X0.here hx rfl (hb hby d1_57) ?_
                show SS p e below m s₁ 58 #[iv p1, .unset] [(.int (1 : Int32))] _
                refine XS.istoreN X0.here hx rfl (hb hby d1_58) rfl (l' := #[iv p1, iv (1 : Int32)]) rfl ?_
                show SS p e below m s₁ 59 #[iv p1, iv (1 : Int32)] [] _
                refine XS.iloadN X0.here hx rfl (hb hby d1_59) rfl ?_
                show SS p e below m s₁ 60 #[iv p1, iv (1 : Int32)] [(.int (1 : Int32))] _
                exact kk)
              obtain ⟨fs, hr, hrun, hended, hW, hsame⟩ := X0.leave (v := some (.int (1 : Int32))) (fun h => by rw [Bd.returns] at h; cases h)
              refine ⟨_, _, hB _ (pre40 _ ?_), hrun, hended, _, _, rfl, ?_, ⟨_, rfl⟩, hW, hsame.mono (by decide) (by decide)⟩
              · exact retI X0 hx Bd.returns (hb hby d1_60) hr
              · exact ⟨by show _ = some (Value.int (f1 p1)); rw [f1, if_neg hc2, if_pos hc23, if_neg hc25, if_pos hc34, if_neg hc36, if_pos hc39], N0, e0⟩
            · have pre41 : ∀ t, SS p e below m s₁ 60 #[iv p1, iv (4 : Int32)] [(.int (4 : Int32))] t → B t := fun t kk => pre38 t (by
                refine XS.icmpNo X0.here hx rfl (hb hby d1_49) rfl (flt hc39).2.2.1 ?_
                show SS p e below m s₁ 52 #[iv p1, .unset] [] _
                refine XS.iconst X0.here hx rfl (hb hby d1_52) ?_
                show SS p e below m s₁ 53 #[iv p1, .unset] [(.int (4 : Int32))] _
                refine XS.istoreN X0.here hx rfl (hb hby d1_53) rfl (l' := #[iv p1, iv (4 : Int32)]) rfl ?_
                show SS p e below m s₁ 54 #[iv p1, iv (4 : Int32)] [] _
                refine XS.goto X0.here hx rfl (pc0 := 54) (pc' := 59) rfl (hb hby d1_54) (by decide) (by decide) ?_
                show SS p e below m s₁ 59 #[iv p1, iv (4 : Int32)] [] _
                refine XS.iloadN X0.here hx rfl (hb hby d1_59) rfl ?_
                show SS p e below m s₁ 60 #[iv p1, iv (4 : Int32)] [(.int (4 : Int32))] _
                exact kk)
              obtain ⟨fs, hr, hrun, hended, hW, hsame⟩ := X0.leave (v := some (.int (4 : Int32))) (fun h => by rw [Bd.returns] at h; cases h)
              refine ⟨_, _, hB _ (pre41 _ ?_), hrun, hended, _, _, rfl, ?_, ⟨_, rfl⟩, hW, hsame.mono (by decide) (by decide)⟩
              · exact retI X0 hx Bd.returns (hb hby d1_60) hr
              · exact ⟨by show _ = some (Value.int (f1 p1)); rw [f1, if_neg hc2, if_pos hc23, if_neg hc25, if_pos hc34, if_neg hc36, if_neg hc39], N0, e0⟩
        · have pre42 : ∀ t, SS p e below m s₁ 60 #[iv p1, iv (3 : Int32)] [(.int (3 : Int32))] t → B t := fun t kk => pre33 t (by
            refine XS.icmpNo X0.here hx rfl (hb hby d1_30) rfl (flt hc34).2.2.1 ?_
            show SS p e below m s₁ 33 #[iv p1, .unset] [] _
            refine XS.iconst X0.here hx rfl (hb hby d1_33) ?_
            show SS p e below m s₁ 34 #[iv p1, .unset] [(.int (3 : Int32))] _
            refine XS.istoreN X0.here hx rfl (hb hby d1_34) rfl (l' := #[iv p1, iv (3 : Int32)]) rfl ?_
            show SS p e below m s₁ 35 #[iv p1, iv (3 : Int32)] [] _
            refine XS.goto X0.here hx rfl (pc0 := 35) (pc' := 59) rfl (hb hby d1_35) (by decide) (by decide) ?_
            show SS p e below m s₁ 59 #[iv p1, iv (3 : Int32)] [] _
            refine XS.iloadN X0.here hx rfl (hb hby d1_59) rfl ?_
            show SS p e below m s₁ 60 #[iv p1, iv (3 : Int32)] [(.int (3 : Int32))] _
            exact kk)
          obtain ⟨fs, hr, hrun, hended, hW, hsame⟩ := X0.leave (v := some (.int (3 : Int32))) (fun h => by rw [Bd.returns] at h; cases h)
          refine ⟨_, _, hB _ (pre42 _ ?_), hrun, hended, _, _, rfl, ?_, ⟨_, rfl⟩, hW, hsame.mono (by decide) (by decide)⟩
          · exact retI X0 hx Bd.returns (hb hby d1_60) hr
          · exact ⟨by show _ = some (Value.int (f1 p1)); rw [f1, if_neg hc2, if_pos hc23, if_neg hc25, if_neg hc34], N0, e0⟩
    · have pre43 : ∀ t, SS p e below m s₁ 60 #[iv p1, iv (2 : Int32)] [(.int (2 : Int32))] t → B t := fun t kk => pre22 t (by
        refine XS.icmpNo X0.here hx rfl (hb hby d1_11) rfl (flt hc23).2.2.1 ?_
        show SS p e below m s₁ 14 #[iv p1, .unset] [] _
        refine XS.iconst X0.here hx rfl (hb hby d1_14) ?_
        show SS p e below m s₁ 15 #[iv p1, .unset] [(.int (2 : Int32))] _
        refine XS.istoreN X0.here hx rfl (hb hby d1_15) rfl (l' := #[iv p1, iv (2 : Int32)]) rfl ?_
        show SS p e below m s₁ 16 #[iv p1, iv (2 : Int32)] [] _
        refine XS.goto X0.here hx rfl (pc0 := 16) (pc' := 59) rfl (hb hby d1_16) (by decide) (by decide) ?_
        show SS p e below m s₁ 59 #[iv p1, iv (2 : Int32)] [] _
        refine XS.iloadN X0.here hx rfl (hb hby d1_59) rfl ?_
        show SS p e below m s₁ 60 #[iv p1, iv (2 : Int32)] [(.int (2 : Int32))] _
        exact kk)
      obtain ⟨fs, hr, hrun, hended, hW, hsame⟩ := X0.leave (v := some (.int (2 : Int32))) (fun h => by rw [Bd.returns] at h; cases h)
      refine ⟨_, _, hB _ (pre43 _ ?_), hrun, hended, _, _, rfl, ?_, ⟨_, rfl⟩, hW, hsame.mono (by decide) (by decide)⟩
      · exact retI X0 hx Bd.returns (hb hby d1_60) hr
      · exact ⟨by show _ = some (Value.int (f1 p1)); rw [f1, if_neg hc2, if_neg hc23], N0, e0⟩
theorem pn_0 : plainName "pithline/util/Utf8SequenceLengthPinLaw" = true := by first | (simp [plainName, overriddenIn]; done) | decide +kernel
theorem pd_0 : parseMethodDescriptor "(I)I" = some ⟨[.int], some .int⟩ := by decide +kernel
theorem ef_0 (m : MethodId) (p1 : Int32) : entryFrame m #[(.int p1)] maxLocals = mkF m 0 #[iv p1, .unset, .unset] [] := by first | (simp [entryFrame, mkF, argsToLocals, Value.category, maxLocals]; done) | rfl
theorem own_l0_0 (v1 : Int32) (hb : 0 ≤ v1.toInt ∧ v1.toInt < 256) (hc4 : (v1 >>> ((5 : Int32) &&& 31)) = (6 : Int32)) (hc6 : v1 < (194 : Int32)) (hc8 : (v1 >>> ((4 : Int32) &&& 31)) = (14 : Int32)) : (f1 v1) = (3 : Int32) := by
  have L1 : (1 : Int32).toInt = 1 := by decide
  have L2 : (2 : Int32).toInt = 2 := by decide
  have L3 : (3 : Int32).toInt = 3 := by decide
  have L4 : (4 : Int32).toInt = 4 := by decide
  have L5 : (5 : Int32).toInt = 5 := by decide
  have L6 : (6 : Int32).toInt = 6 := by decide
  have L14 : (14 : Int32).toInt = 14 := by decide
  have L30 : (30 : Int32).toInt = 30 := by decide
  have L194 : (194 : Int32).toInt = 194 := by decide
  have L223 : (223 : Int32).toInt = 223 := by decide
  have L224 : (224 : Int32).toInt = 224 := by decide
  have L239 : (239 : Int32).toInt = 239 := by decide
  have L240 : (240 : Int32).toInt = 240 := by decide
  have L244 : (244 : Int32).toInt = 244 := by decide
  have s5 : (v1 >>> ((5 : Int32) &&& 31)).toInt = v1.toInt / 32 := c_ishr v1 5 5 (by decide)
  have s4 : (v1 >>> ((4 : Int32) &&& 31)).toInt = v1.toInt / 16 := c_ishr v1 4 4 (by decide)
  have s3 : (v1 >>> ((3 : Int32) &&& 31)).toInt = v1.toInt / 8 := c_ishr v1 3 3 (by decide)
  unfold f1
  simp only [Int32.lt_iff_toInt_lt, ← Int32.toInt_inj] at *
  repeat' split
  all_goals omega
theorem own_l0_1 (v1 : Int32) (hb : 0 ≤ v1.toInt ∧ v1.toInt < 256) (hc4 : (v1 >>> ((5 : Int32) &&& 31)) = (6 : Int32)) (hc6 : v1 < (194 : Int32)) (hc8 : ¬ ((v1 >>> ((4 : Int32) &&& 31)) = (14 : Int32))) (hc13 : (v1 >>> ((3 : Int32) &&& 31)) = (30 : Int32)) (hc15 : (244 : Int32) < v1) : (f1 v1) = (1 : Int32) := by
  have L1 : (1 : Int32).toInt = 1 := by decide
  have L2 : (2 : Int32).toInt = 2 := by decide
  have L3 : (3 : Int32).toInt = 3 := by decide
  have L4 : (4 : Int32).toInt = 4 := by decide
  have L5 : (5 : Int32).toInt = 5 := by decide
  have L6 : (6 : Int32).toInt = 6 := by decide
  have L14 : (14 : Int32).toInt = 14 := by decide
  have L30 : (30 : Int32).toInt = 30 := by decide
  have L194 : (194 : Int32).toInt = 194 := by decide
  have L223 : (223 : Int32).toInt = 223 := by decide
  have L224 : (224 : Int32).toInt = 224 := by decide
  have L239 : (239 : Int32).toInt = 239 := by decide
  have L240 : (240 : Int32).toInt = 240 := by decide
  have L244 : (244 : Int32).toInt = 244 := by decide
  have s5 : (v1 >>> ((5 : Int32) &&& 31)).toInt = v1.toInt / 32 := c_ishr v1 5 5 (by decide)
  have s4 : (v1 >>> ((4 : Int32) &&& 31)).toInt = v1.toInt / 16 := c_ishr v1 4 4 (by decide)
  have s3 : (v1 >>> ((3 : Int32) &&& 31)).toInt = v1.toInt / 8 := c_ishr v1 3 3 (by decide)
  unfold f1
  simp only [Int32.lt_iff_toInt_lt, ← Int32.toInt_inj] at *
  repeat' split
  all_goals omega
theorem own_l0_2 (v1 : Int32) (hb : 0 ≤ v1.toInt ∧ v1.toInt < 256) (hc4 : (v1 >>> ((5 : Int32) &&& 31)) = (6 : Int32)) (hc6 : v1 < (194 : Int32)) (hc8 : ¬ ((v1 >>> ((4 : Int32) &&& 31)) = (14 : Int32))) (hc13 : (v1 >>> ((3 : Int32) &&& 31)) = (30 : Int32)) (hc15 : ¬ ((244 : Int32) < v1)) : (f1 v1) = (4 : Int32) := by
  have L1 : (1 : Int32).toInt = 1 := by decide
  have L2 : (2 : Int32).toInt = 2 := by decide
  have L3 : (3 : Int32).toInt = 3 := by decide
  have L4 : (4 : Int32).toInt = 4 := by decide
  have L5 : (5 : Int32).toInt = 5 := by decide
  have L6 : (6 : Int32).toInt = 6 := by decide
  have L14 : (14 : Int32).toInt = 14 := by decide
  have L30 : (30 : Int32).toInt = 30 := by decide
  have L194 : (194 : Int32).toInt = 194 := by decide
  have L223 : (223 : Int32).toInt = 223 := by decide
  have L224 : (224 : Int32).toInt = 224 := by decide
  have L239 : (239 : Int32).toInt = 239 := by decide
  have L240 : (240 : Int32).toInt = 240 := by decide
  have L244 : (244 : Int32).toInt = 244 := by decide
  have s5 : (v1 >>> ((5 : Int32) &&& 31)).toInt = v1.toInt / 32 := c_ishr v1 5 5 (by decide)
  have s4 : (v1 >>> ((4 : Int32) &&& 31)).toInt = v1.toInt / 16 := c_ishr v1 4 4 (by decide)
  have s3 : (v1 >>> ((3 : Int32) &&& 31)).toInt = v1.toInt / 8 := c_ishr v1 3 3 (by decide)
  unfold f1
  simp only [Int32.lt_iff_toInt_lt, ← Int32.toInt_inj] at *
  repeat' split
  all_goals omega
theorem own_l0_3 (v1 : Int32) (hb : 0 ≤ v1.toInt ∧ v1.toInt < 256) (hc4 : (v1 >>> ((5 : Int32) &&& 31)) = (6 : Int32)) (hc6 : v1 < (194 : Int32)) (hc8 : ¬ ((v1 >>> ((4 : Int32) &&& 31)) = (14 : Int32))) (hc13 : ¬ ((v1 >>> ((3 : Int32) &&& 31)) = (30 : Int32))) : (f1 v1) = (1 : Int32) := by
  have L1 : (1 : Int32).toInt = 1 := by decide
  have L2 : (2 : Int32).toInt = 2 := by decide
  have L3 : (3 : Int32).toInt = 3 := by decide
  have L4 : (4 : Int32).toInt = 4 := by decide
  have L5 : (5 : Int32).toInt = 5 := by decide
  have L6 : (6 : Int32).toInt = 6 := by decide
  have L14 : (14 : Int32).toInt = 14 := by decide
  have L30 : (30 : Int32).toInt = 30 := by decide
  have L194 : (194 : Int32).toInt = 194 := by decide
  have L223 : (223 : Int32).toInt = 223 := by decide
  have L224 : (224 : Int32).toInt = 224 := by decide
  have L239 : (239 : Int32).toInt = 239 := by decide
  have L240 : (240 : Int32).toInt = 240 := by decide
  have L244 : (244 : Int32).toInt = 244 := by decide
  have s5 : (v1 >>> ((5 : Int32) &&& 31)).toInt = v1.toInt / 32 := c_ishr v1 5 5 (by decide)
  have s4 : (v1 >>> ((4 : Int32) &&& 31)).toInt = v1.toInt / 16 := c_ishr v1 4 4 (by decide)
  have s3 : (v1 >>> ((3 : Int32) &&& 31)).toInt = v1.toInt / 8 := c_ishr v1 3 3 (by decide)
  unfold f1
  simp only [Int32.lt_iff_toInt_lt, ← Int32.toInt_inj] at *
  repeat' split
  all_goals omega
theorem own_l0_4 (v1 : Int32) (hb : 0 ≤ v1.toInt ∧ v1.toInt < 256) (hc4 : (v1 >>> ((5 : Int32) &&& 31)) = (6 : Int32)) (hc6 : ¬ (v1 < (194 : Int32))) : (f1 v1) = (2 : Int32) := by
  have L1 : (1 : Int32).toInt = 1 := by decide
  have L2 : (2 : Int32).toInt = 2 := by decide
  have L3 : (3 : Int32).toInt = 3 := by decide
  have L4 : (4 : Int32).toInt = 4 := by decide
  have L5 : (5 : Int32).toInt = 5 := by decide
  have L6 : (6 : Int32).toInt = 6 := by decide
  have L14 : (14 : Int32).toInt = 14 := by decide
  have L30 : (30 : Int32).toInt = 30 := by decide
  have L194 : (194 : Int32).toInt = 194 := by decide
  have L223 : (223 : Int32).toInt = 223 := by decide
  have L224 : (224 : Int32).toInt = 224 := by decide
  have L239 : (239 : Int32).toInt = 239 := by decide
  have L240 : (240 : Int32).toInt = 240 := by decide
  have L244 : (244 : Int32).toInt = 244 := by decide
  have s5 : (v1 >>> ((5 : Int32) &&& 31)).toInt = v1.toInt / 32 := c_ishr v1 5 5 (by decide)
  have s4 : (v1 >>> ((4 : Int32) &&& 31)).toInt = v1.toInt / 16 := c_ishr v1 4 4 (by decide)
  have s3 : (v1 >>> ((3 : Int32) &&& 31)).toInt = v1.toInt / 8 := c_ishr v1 3 3 (by decide)
  unfold f1
  simp only [Int32.lt_iff_toInt_lt, ← Int32.toInt_inj] at *
  repeat' split
  all_goals omega
theorem own_l0_5 (v1 : Int32) (hb : 0 ≤ v1.toInt ∧ v1.toInt < 256) (hc4 : ¬ ((v1 >>> ((5 : Int32) &&& 31)) = (6 : Int32))) (hc29 : (v1 >>> ((4 : Int32) &&& 31)) = (14 : Int32)) : (f1 v1) = (3 : Int32) := by
  have L1 : (1 : Int32).toInt = 1 := by decide
  have L2 : (2 : Int32).toInt = 2 := by decide
  have L3 : (3 : Int32).toInt = 3 := by decide
  have L4 : (4 : Int32).toInt = 4 := by decide
  have L5 : (5 : Int32).toInt = 5 := by decide
  have L6 : (6 : Int32).toInt = 6 := by decide
  have L14 : (14 : Int32).toInt = 14 := by decide
  have L30 : (30 : Int32).toInt = 30 := by decide
  have L194 : (194 : Int32).toInt = 194 := by decide
  have L223 : (223 : Int32).toInt = 223 := by decide
  have L224 : (224 : Int32).toInt = 224 := by decide
  have L239 : (239 : Int32).toInt = 239 := by decide
  have L240 : (240 : Int32).toInt = 240 := by decide
  have L244 : (244 : Int32).toInt = 244 := by decide
  have s5 : (v1 >>> ((5 : Int32) &&& 31)).toInt = v1.toInt / 32 := c_ishr v1 5 5 (by decide)
  have s4 : (v1 >>> ((4 : Int32) &&& 31)).toInt = v1.toInt / 16 := c_ishr v1 4 4 (by decide)
  have s3 : (v1 >>> ((3 : Int32) &&& 31)).toInt = v1.toInt / 8 := c_ishr v1 3 3 (by decide)
  unfold f1
  simp only [Int32.lt_iff_toInt_lt, ← Int32.toInt_inj] at *
  repeat' split
  all_goals omega
theorem own_l0_6 (v1 : Int32) (hb : 0 ≤ v1.toInt ∧ v1.toInt < 256) (hc4 : ¬ ((v1 >>> ((5 : Int32) &&& 31)) = (6 : Int32))) (hc29 : ¬ ((v1 >>> ((4 : Int32) &&& 31)) = (14 : Int32))) (hc34 : (v1 >>> ((3 : Int32) &&& 31)) = (30 : Int32)) (hc36 : (244 : Int32) < v1) : (f1 v1) = (1 : Int32) := by
  have L1 : (1 : Int32).toInt = 1 := by decide
  have L2 : (2 : Int32).toInt = 2 := by decide
  have L3 : (3 : Int32).toInt = 3 := by decide
  have L4 : (4 : Int32).toInt = 4 := by decide
  have L5 : (5 : Int32).toInt = 5 := by decide
  have L6 : (6 : Int32).toInt = 6 := by decide
  have L14 : (14 : Int32).toInt = 14 := by decide
  have L30 : (30 : Int32).toInt = 30 := by decide
  have L194 : (194 : Int32).toInt = 194 := by decide
  have L223 : (223 : Int32).toInt = 223 := by decide
  have L224 : (224 : Int32).toInt = 224 := by decide
  have L239 : (239 : Int32).toInt = 239 := by decide
  have L240 : (240 : Int32).toInt = 240 := by decide
  have L244 : (244 : Int32).toInt = 244 := by decide
  have s5 : (v1 >>> ((5 : Int32) &&& 31)).toInt = v1.toInt / 32 := c_ishr v1 5 5 (by decide)
  have s4 : (v1 >>> ((4 : Int32) &&& 31)).toInt = v1.toInt / 16 := c_ishr v1 4 4 (by decide)
  have s3 : (v1 >>> ((3 : Int32) &&& 31)).toInt = v1.toInt / 8 := c_ishr v1 3 3 (by decide)
  unfold f1
  simp only [Int32.lt_iff_toInt_lt, ← Int32.toInt_inj] at *
  repeat' split
  all_goals omega
theorem own_l0_7 (v1 : Int32) (hb : 0 ≤ v1.toInt ∧ v1.toInt < 256) (hc4 : ¬ ((v1 >>> ((5 : Int32) &&& 31)) = (6 : Int32))) (hc29 : ¬ ((v1 >>> ((4 : Int32) &&& 31)) = (14 : Int32))) (hc34 : (v1 >>> ((3 : Int32) &&& 31)) = (30 : Int32)) (hc36 : ¬ ((244 : Int32) < v1)) : (f1 v1) = (4 : Int32) := by
  have L1 : (1 : Int32).toInt = 1 := by decide
  have L2 : (2 : Int32).toInt = 2 := by decide
  have L3 : (3 : Int32).toInt = 3 := by decide
  have L4 : (4 : Int32).toInt = 4 := by decide
  have L5 : (5 : Int32).toInt = 5 := by decide
  have L6 : (6 : Int32).toInt = 6 := by decide
  have L14 : (14 : Int32).toInt = 14 := by decide
  have L30 : (30 : Int32).toInt = 30 := by decide
  have L194 : (194 : Int32).toInt = 194 := by decide
  have L223 : (223 : Int32).toInt = 223 := by decide
  have L224 : (224 : Int32).toInt = 224 := by decide
  have L239 : (239 : Int32).toInt = 239 := by decide
  have L240 : (240 : Int32).toInt = 240 := by decide
  have L244 : (244 : Int32).toInt = 244 := by decide
  have s5 : (v1 >>> ((5 : Int32) &&& 31)).toInt = v1.toInt / 32 := c_ishr v1 5 5 (by decide)
  have s4 : (v1 >>> ((4 : Int32) &&& 31)).toInt = v1.toInt / 16 := c_ishr v1 4 4 (by decide)
  have s3 : (v1 >>> ((3 : Int32) &&& 31)).toInt = v1.toInt / 8 := c_ishr v1 3 3 (by decide)
  unfold f1
  simp only [Int32.lt_iff_toInt_lt, ← Int32.toInt_inj] at *
  repeat' split
  all_goals omega
theorem own_l0_8 (v1 : Int32) (hb : 0 ≤ v1.toInt ∧ v1.toInt < 256) (hc4 : ¬ ((v1 >>> ((5 : Int32) &&& 31)) = (6 : Int32))) (hc29 : ¬ ((v1 >>> ((4 : Int32) &&& 31)) = (14 : Int32))) (hc34 : ¬ ((v1 >>> ((3 : Int32) &&& 31)) = (30 : Int32))) : (f1 v1) = (1 : Int32) := by
  have L1 : (1 : Int32).toInt = 1 := by decide
  have L2 : (2 : Int32).toInt = 2 := by decide
  have L3 : (3 : Int32).toInt = 3 := by decide
  have L4 : (4 : Int32).toInt = 4 := by decide
  have L5 : (5 : Int32).toInt = 5 := by decide
  have L6 : (6 : Int32).toInt = 6 := by decide
  have L14 : (14 : Int32).toInt = 14 := by decide
  have L30 : (30 : Int32).toInt = 30 := by decide
  have L194 : (194 : Int32).toInt = 194 := by decide
  have L223 : (223 : Int32).toInt = 223 := by decide
  have L224 : (224 : Int32).toInt = 224 := by decide
  have L239 : (239 : Int32).toInt = 239 := by decide
  have L240 : (240 : Int32).toInt = 240 := by decide
  have L244 : (244 : Int32).toInt = 244 := by decide
  have s5 : (v1 >>> ((5 : Int32) &&& 31)).toInt = v1.toInt / 32 := c_ishr v1 5 5 (by decide)
  have s4 : (v1 >>> ((4 : Int32) &&& 31)).toInt = v1.toInt / 16 := c_ishr v1 4 4 (by decide)
  have s3 : (v1 >>> ((3 : Int32) &&& 31)).toInt = v1.toInt / 8 := c_ishr v1 3 3 (by decide)
  unfold f1
  simp only [Int32.lt_iff_toInt_lt, ← Int32.toInt_inj] at *
  repeat' split
  all_goals omega
set_option maxRecDepth 65536 in
set_option maxHeartbeats 40000000 in
theorem rm0 (l : Launch) (Z : State) (a0 : Array Value) (hw : ∀ d ∈ tables_1, d.before a0 Z = true) (ws : List Jvm.Cond) (p1 : Int32)  (h0 : Heap) (n0 : Nat) (Z0 : n0 ≤ h0.size)  :
    MetFree l x (head1 (Jvm.Cond.code x code maxLocals ret :: ws) room_1) (fun a U => a = #[(.int p1)] ∧ Z.Warmed39 U.vm ∧ U.heap = h0) (fun _ _ _ _ _ => True) (fun _ U o U' => ∃ v L, o = .returned v ∧ QE n0 v U'.heap L ∧ FrameEnd U o U' L room_1.cells room_1.slots) := by
  refine MetFree.of_bodySF (plainFor_of_name pn_0) hisR ?_
  intro p e s m args below meth c s₁ Bd hml0 hP hK
  obtain ⟨rfl, hZ, hh⟩ := hP
  have hx := Bd.exec
  have hby := Bd.bytes
  have hml : c.maxLocals = 3 := hml0
  have hown : s.vm.findClass "pithline/util/Utf8SequenceLengthPinLaw" = some m.cls := findClass_of_methodNamed Bd.named
  have hnm := (name_of_methodNamed Bd.named Bd.method).1
  have X0 : Stand p l e room_1 s m #[(.int p1)] below meth c s₁ [] 0 0 := Stand.of_body Bd
  have e0 : s₁.heap = h0 := by rw [← hh, Bd.state]; rfl
  have N0 := Fr.nil n0
  obtain ⟨B, hB, pre0⟩ : ∃ B : State → Prop, (∀ t, B t → Steps p.tables e below (s₁.setTop (entryFrame m #[(.int p1)] maxLocals)) t) ∧ ∀ t, SS p e below m s₁ 0 #[iv p1, .unset, .unset] [] t → B t := ⟨_, fun _ q => q, fun t kk => castTop (ef_0 m p1) kk⟩
  have pre2 : ∀ t, SS p e below m s₁ 5 #[iv p1, .unset, .unset] [(.int (p1 &&& (255 : Int32)))] t → B t := fun t kk => pre0 t (by
    show SS p e below m s₁ 0 #[iv p1, .unset, .unset] [] _
    refine XS.iloadN X0.here hx rfl (hb hby at_0) rfl ?_
    show SS p e below m s₁ 1 #[iv p1, .unset, .unset] [(.int p1)] _
    refine XS.sipush X0.here hx rfl (hb hby at_1) ?_
    show SS p e below m s₁ 4 #[iv p1, .unset, .unset] [(.int (255 : Int32)), (.int p1)] _
    refine XS.iand X0.here hx rfl (hb hby at_4) rfl ?_
    show SS p e below m s₁ 5 #[iv p1, .unset, .unset] [(.int (p1 &&& (255 : Int32)))] _
    exact kk)
  obtain ⟨v1, g_v1⟩ : ∃ z, z = (p1 &&& (255 : Int32)) := ⟨_, rfl⟩
  rw [← g_v1] at pre2
  have hb0 : 0 ≤ v1.toInt ∧ v1.toInt < 256 := by
    have q : (p1 &&& (255 : Int32)).toInt = p1.toInt % 256 := c_mask p1 255 8 (by decide) (by decide)
    rw [g_v1, q]; omega
  have pre3 : ∀ t, SS p e below m s₁ 11 #[iv p1, iv v1, .unset] [(.int (6 : Int32)), (.int (v1 >>> ((5 : Int32) &&& 31)))] t → B t := fun t kk => pre2 t (by
    refine XS.istoreN X0.here hx rfl (hb hby at_5) rfl (l' := #[iv p1, iv v1, .unset]) rfl ?_
    show SS p e below m s₁ 6 #[iv p1, iv v1, .unset] [] _
    refine XS.iloadN X0.here hx rfl (hb hby at_6) rfl ?_
    show SS p e below m s₁ 7 #[iv p1, iv v1, .unset] [(.int v1)] _
    refine XS.iconst X0.here hx rfl (hb hby at_7) ?_
    show SS p e below m s₁ 8 #[iv p1, iv v1, .unset] [(.int (5 : Int32)), (.int v1)] _
    refine XS.ishr X0.here hx rfl (hb hby at_8) rfl ?_
    show SS p e below m s₁ 9 #[iv p1, iv v1, .unset] [(.int (v1 >>> ((5 : Int32) &&& 31)))] _
    refine XS.bipush X0.here hx rfl (hb hby at_9) ?_
    show SS p e below m s₁ 11 #[iv p1, iv v1, .unset] [(.int (6 : Int32)), (.int (v1 >>> ((5 : Int32) &&& 31)))] _
    exact kk)
  by_cases hc4 : (v1 >>> ((5 : Int32) &&& 31)) = (6 : Int32)
  · have pre5 : ∀ t, SS p e below m s₁ 18 #[iv p1, iv v1, .unset] [(.int (194 : Int32)), (.int v1)] t → B t := fun t kk => pre3 t (by
      refine XS.icmpNo X0.here hx rfl (hb hby at_11) rfl (teq hc4).2 ?_
      show SS p e below m s₁ 14 #[iv p1, iv v1, .unset] [] _
      refine XS.iloadN X0.here hx rfl (hb hby at_14) rfl ?_
      show SS p e below m s₁ 15 #[iv p1, iv v1, .unset] [(.int v1)] _
      refine XS.sipush X0.here hx rfl (hb hby at_15) ?_
      show SS p e below m s₁ 18 #[iv p1, iv v1, .unset] [(.int (194 : Int32)), (.int v1)] _
      exact kk)
    by_cases hc6 : v1 < (194 : Int32)
    · have pre7 : ∀ t, SS p e below m s₁ 31 #[iv p1, iv v1, .unset] [(.int (14 : Int32)), (.int (v1 >>> ((4 : Int32) &&& 31)))] t → B t := fun t kk => pre5 t (by
        refine XS.icmpYes X0.here hx rfl (pc0 := 18) (pc' := 26) rfl (hb hby at_18) rfl (tlt hc6).1 (by decide) (by decide) ?_
        show SS p e below m s₁ 26 #[iv p1, iv v1, .unset] [] _
        refine XS.iloadN X0.here hx rfl (hb hby at_26) rfl ?_
        show SS p e below m s₁ 27 #[iv p1, iv v1, .unset] [(.int v1)] _
        refine XS.iconst X0.here hx rfl (hb hby at_27) ?_
        show SS p e below m s₁ 28 #[iv p1, iv v1, .unset] [(.int (4 : Int32)), (.int v1)] _
        refine XS.ishr X0.here hx rfl (hb hby at_28) rfl ?_
        show SS p e below m s₁ 29 #[iv p1, iv v1, .unset] [(.int (v1 >>> ((4 : Int32) &&& 31)))] _
        refine XS.bipush X0.here hx rfl (hb hby at_29) ?_
        show SS p e below m s₁ 31 #[iv p1, iv v1, .unset] [(.int (14 : Int32)), (.int (v1 >>> ((4 : Int32) &&& 31)))] _
        exact kk)
      by_cases hc8 : (v1 >>> ((4 : Int32) &&& 31)) = (14 : Int32)
      · have pre9 : ∀ t, SS p e below m s₁ 62 #[iv p1, iv v1, iv (3 : Int32)] [(.int v1)] t → B t := fun t kk => pre7 t (by
          refine XS.icmpNo X0.here hx rfl (hb hby at_31) rfl (teq hc8).2 ?_
          show SS p e below m s₁ 34 #[iv p1, iv v1, .unset] [] _
          refine XS.iconst X0.here hx rfl (hb hby at_34) ?_
          show SS p e below m s₁ 35 #[iv p1, iv v1, .unset] [(.int (3 : Int32))] _
          refine XS.istoreN X0.here hx rfl (hb hby at_35) rfl (l' := #[iv p1, iv v1, iv (3 : Int32)]) rfl ?_
          show SS p e below m s₁ 36 #[iv p1, iv v1, iv (3 : Int32)] [] _
          refine XS.goto X0.here hx rfl (pc0 := 36) (pc' := 61) rfl (hb hby at_36) (by decide) (by decide) ?_
          show SS p e below m s₁ 61 #[iv p1, iv v1, iv (3 : Int32)] [] _
          refine XS.iloadN X0.here hx rfl (hb hby at_61) rfl ?_
          show SS p e below m s₁ 62 #[iv p1, iv v1, iv (3 : Int32)] [(.int v1)] _
          exact kk)
        obtain ⟨_, _, ⟨T10, L10, k10, n10⟩, -, X10, ⟨Lc10, hQ10, l10, y10, z10⟩, st10⟩ := Jvm.LawKit.callS X0 hx (y := (⟨"pithline/util/Utf8", "sequenceLength", "(I)I"⟩ : MethodName)) hown (mvT hZ (hw _ (List.mem_of_getElem? (i := 0) rfl))) (mvT hZ (hw _ (List.mem_of_getElem? (i := 1) rfl))) (mvT hZ (hw _ (List.mem_of_getElem? (i := 2) rfl))) (mvT hZ (hw _ (List.mem_of_getElem? (i := 3) rfl))) (by decide) (backOf (W := 0) (rm1 l Z a0 hw [] v1 h0 n0 Z0 ) hZ (hw _ (List.mem_of_getElem? (i := 3) rfl)) (hw _ (List.mem_of_getElem? (i := 2) rfl)) (by decide) (by decide)) (g := (mkF m 62 #[iv p1, iv v1, iv (3 : Int32)] [(.int v1)])) rfl (by rw [hml]; rfl) (argsL := [(.int v1)]) (rest := []) (lenOf pd_0 rfl) rfl (by show 2 * 0 + _ ≤ _; exact Nat.le_of_eq rfl) (hb hby at_62) (fun _ _ => ⟨rfl, e0, (by decide : 0 + 0 ≤ _), (by decide : 0 + 0 ≤ _)⟩)
        dsimp only [Pt.U, Pt.locs, Pt.cells, Pt.slots] at X10 l10 y10 z10 st10 hQ10
        subst l10 y10 z10
        obtain ⟨rfl, N10q, e10⟩ := hQ10
        have N10 := Fr.app N0 N10q
        have pre11 : ∀ t, SS p e below m T10 74 #[iv p1, iv v1, iv (3 : Int32)] [(.int (1 : Int32))] t → B t := fun t kk => pre9 t (by
          refine st10 _ ?_
          show SS p e below m T10 65 #[iv p1, iv v1, iv (3 : Int32)] [(.int (f1 v1))] _
          refine XS.iloadN X10.here hx rfl (hb hby at_65) rfl ?_
          show SS p e below m T10 66 #[iv p1, iv v1, iv (3 : Int32)] [(.int (3 : Int32)), (.int (f1 v1))] _
          refine XS.icmpNo X10.here hx rfl (hb hby at_66) rfl (teq (own_l0_0 v1 hb0 hc4 hc6 hc8)).2 ?_
          show SS p e below m T10 69 #[iv p1, iv v1, iv (3 : Int32)] [] _
          refine XS.iconst X10.here hx rfl (hb hby at_69) ?_
          show SS p e below m T10 70 #[iv p1, iv v1, iv (3 : Int32)] [(.int (1 : Int32))] _
          refine XS.goto X10.here hx rfl (pc0 := 70) (pc' := 74) rfl (hb hby at_70) (by decide) (by decide) ?_
          show SS p e below m T10 74 #[iv p1, iv v1, iv (3 : Int32)] [(.int (1 : Int32))] _
          exact kk)
        obtain ⟨fs, hr, hrun, hended, hW, hsame⟩ := X10.leave (v := some (.int (1 : Int32))) (fun h => by rw [Bd.returns] at h; cases h)
        refine ⟨_, _, hB _ (pre11 _ ?_), hrun, hended, _, _, rfl, ?_, ⟨_, rfl⟩, hW, hsame.mono (by decide) (by decide)⟩
        · exact retN X10 hx (t := .boolean) Bd.returns (by simp) (hb hby at_74) hr
        · exact ⟨rfl, N10⟩
      · have pre12 : ∀ t, SS p e below m s₁ 44 #[iv p1, iv v1, .unset] [(.int (30 : Int32)), (.int (v1 >>> ((3 : Int32) &&& 31)))] t → B t := fun t kk => pre7 t (by
          refine XS.icmpYes X0.here hx rfl (pc0 := 31) (pc' := 39) rfl (hb hby at_31) rfl (feq hc8).2 (by decide) (by decide) ?_
          show SS p e below m s₁ 39 #[iv p1, iv v1, .unset] [] _
          refine XS.iloadN X0.here hx rfl (hb hby at_39) rfl ?_
          show SS p e below m s₁ 40 #[iv p1, iv v1, .unset] [(.int v1)] _
          refine XS.iconst X0.here hx rfl (hb hby at_40) ?_
          show SS p e below m s₁ 41 #[iv p1, iv v1, .unset] [(.int (3 : Int32)), (.int v1)] _
          refine XS.ishr X0.here hx rfl (hb hby at_41) rfl ?_
          show SS p e below m s₁ 42 #[iv p1, iv v1, .unset] [(.int (v1 >>> ((3 : Int32) &&& 31)))] _
          refine XS.bipush X0.here hx rfl (hb hby at_42) ?_
          show SS p e below m s₁ 44 #[iv p1, iv v1, .unset] [(.int (30 : Int32)), (.int (v1 >>> ((3 : Int32) &&& 31)))] _
          exact kk)
        by_cases hc13 : (v1 >>> ((3 : Int32) &&& 31)) = (30 : Int32)
        · have pre14 : ∀ t, SS p e below m s₁ 51 #[iv p1, iv v1, .unset] [(.int (244 : Int32)), (.int v1)] t → B t := fun t kk => pre12 t (by
            refine XS.icmpNo X0.here hx rfl (hb hby at_44) rfl (teq hc13).2 ?_
            show SS p e below m s₁ 47 #[iv p1, iv v1, .unset] [] _
            refine XS.iloadN X0.here hx rfl (hb hby at_47) rfl ?_
            show SS p e below m s₁ 48 #[iv p1, iv v1, .unset] [(.int v1)] _
            refine XS.sipush X0.here hx rfl (hb hby at_48) ?_
            show SS p e below m s₁ 51 #[iv p1, iv v1, .unset] [(.int (244 : Int32)), (.int v1)] _
            exact kk)
          by_cases hc15 : (244 : Int32) < v1
          · have pre16 : ∀ t, SS p e below m s₁ 62 #[iv p1, iv v1, iv (1 : Int32)] [(.int v1)] t → B t := fun t kk => pre14 t (by
              refine XS.icmpYes X0.here hx rfl (pc0 := 51) (pc' := 59) rfl (hb hby at_51) rfl (tlt hc15).2.2.1 (by decide) (by decide) ?_
              show SS p e below m s₁ 59 #[iv p1, iv v1, .unset] [] _
              refine XS.iconst X0.here hx rfl (hb hby at_59) ?_
              show SS p e below m s₁ 60 #[iv p1, iv v1, .unset] [(.int (1 : Int32))] _
              refine XS.istoreN X0.here hx rfl (hb hby at_60) rfl (l' := #[iv p1, iv v1, iv (1 : Int32)]) rfl ?_
              show SS p e below m s₁ 61 #[iv p1, iv v1, iv (1 : Int32)] [] _
              refine XS.iloadN X0.here hx rfl (hb hby at_61) rfl ?_
              show SS p e below m s₁ 62 #[iv p1, iv v1, iv (1 : Int32)] [(.int v1)] _
              exact kk)
            obtain ⟨_, _, ⟨T17, L17, k17, n17⟩, -, X17, ⟨Lc17, hQ17, l17, y17, z17⟩, st17⟩ := Jvm.LawKit.callS X0 hx (y := (⟨"pithline/util/Utf8", "sequenceLength", "(I)I"⟩ : MethodName)) hown (mvT hZ (hw _ (List.mem_of_getElem? (i := 0) rfl))) (mvT hZ (hw _ (List.mem_of_getElem? (i := 1) rfl))) (mvT hZ (hw _ (List.mem_of_getElem? (i := 2) rfl))) (mvT hZ (hw _ (List.mem_of_getElem? (i := 3) rfl))) (by decide) (backOf (W := 0) (rm1 l Z a0 hw [] v1 h0 n0 Z0 ) hZ (hw _ (List.mem_of_getElem? (i := 3) rfl)) (hw _ (List.mem_of_getElem? (i := 2) rfl)) (by decide) (by decide)) (g := (mkF m 62 #[iv p1, iv v1, iv (1 : Int32)] [(.int v1)])) rfl (by rw [hml]; rfl) (argsL := [(.int v1)]) (rest := []) (lenOf pd_0 rfl) rfl (by show 2 * 0 + _ ≤ _; exact Nat.le_of_eq rfl) (hb hby at_62) (fun _ _ => ⟨rfl, e0, (by decide : 0 + 0 ≤ _), (by decide : 0 + 0 ≤ _)⟩)
            dsimp only [Pt.U, Pt.locs, Pt.cells, Pt.slots] at X17 l17 y17 z17 st17 hQ17
            subst l17 y17 z17
            obtain ⟨rfl, N17q, e17⟩ := hQ17
            have N17 := Fr.app N0 N17q
            have pre18 : ∀ t, SS p e below m T17 74 #[iv p1, iv v1, iv (1 : Int32)] [(.int (1 : Int32))] t → B t := fun t kk => pre16 t (by
              refine st17 _ ?_
              show SS p e below m T17 65 #[iv p1, iv v1, iv (1 : Int32)] [(.int (f1 v1))] _
              refine XS.iloadN X17.here hx rfl (hb hby at_65) rfl ?_
              show SS p e below m T17 66 #[iv p1, iv v1, iv (1 : Int32)] [(.int (1 : Int32)), (.int (f1 v1))] _
              refine XS.icmpNo X17.here hx rfl (hb hby at_66) rfl (teq (own_l0_1 v1 hb0 hc4 hc6 hc8 hc13 hc15)).2 ?_
              show SS p e below m T17 69 #[iv p1, iv v1, iv (1 : Int32)] [] _
              refine XS.iconst X17.here hx rfl (hb hby at_69) ?_
              show SS p e below m T17 70 #[iv p1, iv v1, iv (1 : Int32)] [(.int (1 : Int32))] _
              refine XS.goto X17.here hx rfl (pc0 := 70) (pc' := 74) rfl (hb hby at_70) (by decide) (by decide) ?_
              show SS p e below m T17 74 #[iv p1, iv v1, iv (1 : Int32)] [(.int (1 : Int32))] _
              exact kk)
            obtain ⟨fs, hr, hrun, hended, hW, hsame⟩ := X17.leave (v := some (.int (1 : Int32))) (fun h => by rw [Bd.returns] at h; cases h)
            refine ⟨_, _, hB _ (pre18 _ ?_), hrun, hended, _, _, rfl, ?_, ⟨_, rfl⟩, hW, hsame.mono (by decide) (by decide)⟩
            · exact retN X17 hx (t := .boolean) Bd.returns (by simp) (hb hby at_74) hr
            · exact ⟨rfl, N17⟩
          · have pre19 : ∀ t, SS p e below m s₁ 62 #[iv p1, iv v1, iv (4 : Int32)] [(.int v1)] t → B t := fun t kk => pre14 t (by
              refine XS.icmpNo X0.here hx rfl (hb hby at_51) rfl (flt hc15).2.2.1 ?_
              show SS p e below m s₁ 54 #[iv p1, iv v1, .unset] [] _
              refine XS.iconst X0.here hx rfl (hb hby at_54) ?_
              show SS p e below m s₁ 55 #[iv p1, iv v1, .unset] [(.int (4 : Int32))] _
              refine XS.istoreN X0.here hx rfl (hb hby at_55) rfl (l' := #[iv p1, iv v1, iv (4 : Int32)]) rfl ?_
              show SS p e below m s₁ 56 #[iv p1, iv v1, iv (4 : Int32)] [] _
              refine XS.goto X0.here hx rfl (pc0 := 56) (pc' := 61) rfl (hb hby at_56) (by decide) (by decide) ?_
              show SS p e below m s₁ 61 #[iv p1, iv v1, iv (4 : Int32)] [] _
              refine XS.iloadN X0.here hx rfl (hb hby at_61) rfl ?_
              show SS p e below m s₁ 62 #[iv p1, iv v1, iv (4 : Int32)] [(.int v1)] _
              exact kk)
            obtain ⟨_, _, ⟨T20, L20, k20, n20⟩, -, X20, ⟨Lc20, hQ20, l20, y20, z20⟩, st20⟩ := Jvm.LawKit.callS X0 hx (y := (⟨"pithline/util/Utf8", "sequenceLength", "(I)I"⟩ : MethodName)) hown (mvT hZ (hw _ (List.mem_of_getElem? (i := 0) rfl))) (mvT hZ (hw _ (List.mem_of_getElem? (i := 1) rfl))) (mvT hZ (hw _ (List.mem_of_getElem? (i := 2) rfl))) (mvT hZ (hw _ (List.mem_of_getElem? (i := 3) rfl))) (by decide) (backOf (W := 0) (rm1 l Z a0 hw [] v1 h0 n0 Z0 ) hZ (hw _ (List.mem_of_getElem? (i := 3) rfl)) (hw _ (List.mem_of_getElem? (i := 2) rfl)) (by decide) (by decide)) (g := (mkF m 62 #[iv p1, iv v1, iv (4 : Int32)] [(.int v1)])) rfl (by rw [hml]; rfl) (argsL := [(.int v1)]) (rest := []) (lenOf pd_0 rfl) rfl (by show 2 * 0 + _ ≤ _; exact Nat.le_of_eq rfl) (hb hby at_62) (fun _ _ => ⟨rfl, e0, (by decide : 0 + 0 ≤ _), (by decide : 0 + 0 ≤ _)⟩)
            dsimp only [Pt.U, Pt.locs, Pt.cells, Pt.slots] at X20 l20 y20 z20 st20 hQ20
            subst l20 y20 z20
            obtain ⟨rfl, N20q, e20⟩ := hQ20
            have N20 := Fr.app N0 N20q
            have pre21 : ∀ t, SS p e below m T20 74 #[iv p1, iv v1, iv (4 : Int32)] [(.int (1 : Int32))] t → B t := fun t kk => pre19 t (by
              refine st20 _ ?_
              show SS p e below m T20 65 #[iv p1, iv v1, iv (4 : Int32)] [(.int (f1 v1))] _
              refine XS.iloadN X20.here hx rfl (hb hby at_65) rfl ?_
              show SS p e below m T20 66 #[iv p1, iv v1, iv (4 : Int32)] [(.int (4 : Int32)), (.int (f1 v1))] _
              refine XS.icmpNo X20.here hx rfl (hb hby at_66) rfl (teq (own_l0_2 v1 hb0 hc4 hc6 hc8 hc13 hc15)).2 ?_
              show SS p e below m T20 69 #[iv p1, iv v1, iv (4 : Int32)] [] _
              refine XS.iconst X20.here hx rfl (hb hby at_69) ?_
              show SS p e below m T20 70 #[iv p1, iv v1, iv (4 : Int32)] [(.int (1 : Int32))] _
              refine XS.goto X20.here hx rfl (pc0 := 70) (pc' := 74) rfl (hb hby at_70) (by decide) (by decide) ?_
              show SS p e below m T20 74 #[iv p1, iv v1, iv (4 : Int32)] [(.int (1 : Int32))] _
              exact kk)
            obtain ⟨fs, hr, hrun, hended, hW, hsame⟩ := X20.leave (v := some (.int (1 : Int32))) (fun h => by rw [Bd.returns] at h; cases h)
            refine ⟨_, _, hB _ (pre21 _ ?_), hrun, hended, _, _, rfl, ?_, ⟨_, rfl⟩, hW, hsame.mono (by decide) (by decide)⟩
            · exact retN X20 hx (t := .boolean) Bd.returns (by simp) (hb hby at_74) hr
            · exact ⟨rfl, N20⟩
        · have pre22 : ∀ t, SS p e below m s₁ 62 #[iv p1, iv v1, iv (1 : Int32)] [(.int v1)] t → B t := fun t kk => pre12 t (by
            refine XS.icmpYes X0.here hx rfl (pc0 := 44) (pc' := 59) rfl (hb hby at_44) rfl (feq hc13).2 (by decide) (by decide) ?_
            show SS p e below m s₁ 59 #[iv p1, iv v1, .unset] [] _
            refine XS.iconst X0.here hx rfl (hb hby at_59) ?_
            show SS p e below m s₁ 60 #[iv p1, iv v1, .unset] [(.int (1 : Int32))] _
            refine XS.istoreN X0.here hx rfl (hb hby at_60) rfl (l' := #[iv p1, iv v1, iv (1 : Int32)]) rfl ?_
            show SS p e below m s₁ 61 #[iv p1, iv v1, iv (1 : Int32)] [] _
            refine XS.iloadN X0.here hx rfl (hb hby at_61) rfl ?_
            show SS p e below m s₁ 62 #[iv p1, iv v1, iv (1 : Int32)] [(.int v1)] _
            exact kk)
          obtain ⟨_, _, ⟨T23, L23, k23, n23⟩, -, X23, ⟨Lc23, hQ23, l23, y23, z23⟩, st23⟩ := Jvm.LawKit.callS X0 hx (y := (⟨"pithline/util/Utf8", "sequenceLength", "(I)I"⟩ : MethodName)) hown (mvT hZ (hw _ (List.mem_of_getElem? (i := 0) rfl))) (mvT hZ (hw _ (List.mem_of_getElem? (i := 1) rfl))) (mvT hZ (hw _ (List.mem_of_getElem? (i := 2) rfl))) (mvT hZ (hw _ (List.mem_of_getElem? (i := 3) rfl))) (by decide) (backOf (W := 0) (rm1 l Z a0 hw [] v1 h0 n0 Z0 ) hZ (hw _ (List.mem_of_getElem? (i := 3) rfl)) (hw _ (List.mem_of_getElem? (i := 2) rfl)) (by decide) (by decide)) (g := (mkF m 62 #[iv p1, iv v1, iv (1 : Int32)] [(.int v1)])) rfl (by rw [hml]; rfl) (argsL := [(.int v1)]) (rest := []) (lenOf pd_0 rfl) rfl (by show 2 * 0 + _ ≤ _; exact Nat.le_of_eq rfl) (hb hby at_62) (fun _ _ => ⟨rfl, e0, (by decide : 0 + 0 ≤ _), (by decide : 0 + 0 ≤ _)⟩)
          dsimp only [Pt.U, Pt.locs, Pt.cells, Pt.slots] at X23 l23 y23 z23 st23 hQ23
          subst l23 y23 z23
          obtain ⟨rfl, N23q, e23⟩ := hQ23
          have N23 := Fr.app N0 N23q
          have pre24 : ∀ t, SS p e below m T23 74 #[iv p1, iv v1, iv (1 : Int32)] [(.int (1 : Int32))] t → B t := fun t kk => pre22 t (by
            refine st23 _ ?_
            show SS p e below m T23 65 #[iv p1, iv v1, iv (1 : Int32)] [(.int (f1 v1))] _
            refine XS.iloadN X23.here hx rfl (hb hby at_65) rfl ?_
            show SS p e below m T23 66 #[iv p1, iv v1, iv (1 : Int32)] [(.int (1 : Int32)), (.int (f1 v1))] _
            refine XS.icmpNo X23.here hx rfl (hb hby at_66) rfl (teq (own_l0_3 v1 hb0 hc4 hc6 hc8 hc13)).2 ?_
            show SS p e below m T23 69 #[iv p1, iv v1, iv (1 : Int32)] [] _
            refine XS.iconst X23.here hx rfl (hb hby at_69) ?_
            show SS p e below m T23 70 #[iv p1, iv v1, iv (1 : Int32)] [(.int (1 : Int32))] _
            refine XS.goto X23.here hx rfl (pc0 := 70) (pc' := 74) rfl (hb hby at_70) (by decide) (by decide) ?_
            show SS p e below m T23 74 #[iv p1, iv v1, iv (1 : Int32)] [(.int (1 : Int32))] _
            exact kk)
          obtain ⟨fs, hr, hrun, hended, hW, hsame⟩ := X23.leave (v := some (.int (1 : Int32))) (fun h => by rw [Bd.returns] at h; cases h)
          refine ⟨_, _, hB _ (pre24 _ ?_), hrun, hended, _, _, rfl, ?_, ⟨_, rfl⟩, hW, hsame.mono (by decide) (by decide)⟩
          · exact retN X23 hx (t := .boolean) Bd.returns (by simp) (hb hby at_74) hr
          · exact ⟨rfl, N23⟩
    · have pre25 : ∀ t, SS p e below m s₁ 62 #[iv p1, iv v1, iv (2 : Int32)] [(.int v1)] t → B t := fun t kk => pre5 t (by
        refine XS.icmpNo X0.here hx rfl (hb hby at_18) rfl (flt hc6).1 ?_
        show SS p e below m s₁ 21 #[iv p1, iv v1, .unset] [] _
        refine XS.iconst X0.here hx rfl (hb hby at_21) ?_
        show SS p e below m s₁ 22 #[iv p1, iv v1, .unset] [(.int (2 : Int32))] _
        refine XS.istoreN X0.here hx rfl (hb hby at_22) rfl (l' := #[iv p1, iv v1, iv (2 : Int32)]) rfl ?_
        show SS p e below m s₁ 23 #[iv p1, iv v1, iv (2 : Int32)] [] _
        refine XS.goto X0.here hx rfl (pc0 := 23) (pc' := 61) rfl (hb hby at_23) (by decide) (by decide) ?_
        show SS p e below m s₁ 61 #[iv p1, iv v1, iv (2 : Int32)] [] _
        refine XS.iloadN X0.here hx rfl (hb hby at_61) rfl ?_
        show SS p e below m s₁ 62 #[iv p1, iv v1, iv (2 : Int32)] [(.int v1)] _
        exact kk)
      obtain ⟨_, _, ⟨T26, L26, k26, n26⟩, -, X26, ⟨Lc26, hQ26, l26, y26, z26⟩, st26⟩ := Jvm.LawKit.callS X0 hx (y := (⟨"pithline/util/Utf8", "sequenceLength", "(I)I"⟩ : MethodName)) hown (mvT hZ (hw _ (List.mem_of_getElem? (i := 0) rfl))) (mvT hZ (hw _ (List.mem_of_getElem? (i := 1) rfl))) (mvT hZ (hw _ (List.mem_of_getElem? (i := 2) rfl))) (mvT hZ (hw _ (List.mem_of_getElem? (i := 3) rfl))) (by decide) (backOf (W := 0) (rm1 l Z a0 hw [] v1 h0 n0 Z0 ) hZ (hw _ (List.mem_of_getElem? (i := 3) rfl)) (hw _ (List.mem_of_getElem? (i := 2) rfl)) (by decide) (by decide)) (g := (mkF m 62 #[iv p1, iv v1, iv (2 : Int32)] [(.int v1)])) rfl (by rw [hml]; rfl) (argsL := [(.int v1)]) (rest := []) (lenOf pd_0 rfl) rfl (by show 2 * 0 + _ ≤ _; exact Nat.le_of_eq rfl) (hb hby at_62) (fun _ _ => ⟨rfl, e0, (by decide : 0 + 0 ≤ _), (by decide : 0 + 0 ≤ _)⟩)
      dsimp only [Pt.U, Pt.locs, Pt.cells, Pt.slots] at X26 l26 y26 z26 st26 hQ26
      subst l26 y26 z26
      obtain ⟨rfl, N26q, e26⟩ := hQ26
      have N26 := Fr.app N0 N26q
      have pre27 : ∀ t, SS p e below m T26 74 #[iv p1, iv v1, iv (2 : Int32)] [(.int (1 : Int32))] t → B t := fun t kk => pre25 t (by
        refine st26 _ ?_
        show SS p e below m T26 65 #[iv p1, iv v1, iv (2 : Int32)] [(.int (f1 v1))] _
        refine XS.iloadN X26.here hx rfl (hb hby at_65) rfl ?_
        show SS p e below m T26 66 #[iv p1, iv v1, iv (2 : Int32)] [(.int (2 : Int32)), (.int (f1 v1))] _
        refine XS.icmpNo X26.here hx rfl (hb hby at_66) rfl (teq (own_l0_4 v1 hb0 hc4 hc6)).2 ?_
        show SS p e below m T26 69 #[iv p1, iv v1, iv (2 : Int32)] [] _
        refine XS.iconst X26.here hx rfl (hb hby at_69) ?_
        show SS p e below m T26 70 #[iv p1, iv v1, iv (2 : Int32)] [(.int (1 : Int32))] _
        refine XS.goto X26.here hx rfl (pc0 := 70) (pc' := 74) rfl (hb hby at_70) (by decide) (by decide) ?_
        show SS p e below m T26 74 #[iv p1, iv v1, iv (2 : Int32)] [(.int (1 : Int32))] _
        exact kk)
      obtain ⟨fs, hr, hrun, hended, hW, hsame⟩ := X26.leave (v := some (.int (1 : Int32))) (fun h => by rw [Bd.returns] at h; cases h)
      refine ⟨_, _, hB _ (pre27 _ ?_), hrun, hended, _, _, rfl, ?_, ⟨_, rfl⟩, hW, hsame.mono (by decide) (by decide)⟩
      · exact retN X26 hx (t := .boolean) Bd.returns (by simp) (hb hby at_74) hr
      · exact ⟨rfl, N26⟩
  · have pre28 : ∀ t, SS p e below m s₁ 31 #[iv p1, iv v1, .unset] [(.int (14 : Int32)), (.int (v1 >>> ((4 : Int32) &&& 31)))] t → B t := fun t kk => pre3 t (by
      refine XS.icmpYes X0.here hx rfl (pc0 := 11) (pc' := 26) rfl (hb hby at_11) rfl (feq hc4).2 (by decide) (by decide) ?_
      show SS p e below m s₁ 26 #[iv p1, iv v1, .unset] [] _
      refine XS.iloadN X0.here hx rfl (hb hby at_26) rfl ?_
      show SS p e below m s₁ 27 #[iv p1, iv v1, .unset] [(.int v1)] _
      refine XS.iconst X0.here hx rfl (hb hby at_27) ?_
      show SS p e below m s₁ 28 #[iv p1, iv v1, .unset] [(.int (4 : Int32)), (.int v1)] _
      refine XS.ishr X0.here hx rfl (hb hby at_28) rfl ?_
      show SS p e below m s₁ 29 #[iv p1, iv v1, .unset] [(.int (v1 >>> ((4 : Int32) &&& 31)))] _
      refine XS.bipush X0.here hx rfl (hb hby at_29) ?_
      show SS p e below m s₁ 31 #[iv p1, iv v1, .unset] [(.int (14 : Int32)), (.int (v1 >>> ((4 : Int32) &&& 31)))] _
      exact kk)
    by_cases hc29 : (v1 >>> ((4 : Int32) &&& 31)) = (14 : Int32)
    · have pre30 : ∀ t, SS p e below m s₁ 62 #[iv p1, iv v1, iv (3 : Int32)] [(.int v1)] t → B t := fun t kk => pre28 t (by
        refine XS.icmpNo X0.here hx rfl (hb hby at_31) rfl (teq hc29).2 ?_
        show SS p e below m s₁ 34 #[iv p1, iv v1, .unset] [] _
        refine XS.iconst X0.here hx rfl (hb hby at_34) ?_
        show SS p e below m s₁ 35 #[iv p1, iv v1, .unset] [(.int (3 : Int32))] _
        refine XS.istoreN X0.here hx rfl (hb hby at_35) rfl (l' := #[iv p1, iv v1, iv (3 : Int32)]) rfl ?_
        show SS p e below m s₁ 36 #[iv p1, iv v1, iv (3 : Int32)] [] _
        refine XS.goto X0.here hx rfl (pc0 := 36) (pc' := 61) rfl (hb hby at_36) (by decide) (by decide) ?_
        show SS p e below m s₁ 61 #[iv p1, iv v1, iv (3 : Int32)] [] _
        refine XS.iloadN X0.here hx rfl (hb hby at_61) rfl ?_
        show SS p e below m s₁ 62 #[iv p1, iv v1, iv (3 : Int32)] [(.int v1)] _
        exact kk)
      obtain ⟨_, _, ⟨T31, L31, k31, n31⟩, -, X31, ⟨Lc31, hQ31, l31, y31, z31⟩, st31⟩ := Jvm.LawKit.callS X0 hx (y := (⟨"pithline/util/Utf8", "sequenceLength", "(I)I"⟩ : MethodName)) hown (mvT hZ (hw _ (List.mem_of_getElem? (i := 0) rfl))) (mvT hZ (hw _ (List.mem_of_getElem? (i := 1) rfl))) (mvT hZ (hw _ (List.mem_of_getElem? (i := 2) rfl))) (mvT hZ (hw _ (List.mem_of_getElem? (i := 3) rfl))) (by decide) (backOf (W := 0) (rm1 l Z a0 hw [] v1 h0 n0 Z0 ) hZ (hw _ (List.mem_of_getElem? (i := 3) rfl)) (hw _ (List.mem_of_getElem? (i := 2) rfl)) (by decide) (by decide)) (g := (mkF m 62 #[iv p1, iv v1, iv (3 : Int32)] [(.int v1)])) rfl (by rw [hml]; rfl) (argsL := [(.int v1)]) (rest := []) (lenOf pd_0 rfl) rfl (by show 2 * 0 + _ ≤ _; exact Nat.le_of_eq rfl) (hb hby at_62) (fun _ _ => ⟨rfl, e0, (by decide : 0 + 0 ≤ _), (by decide : 0 + 0 ≤ _)⟩)
      dsimp only [Pt.U, Pt.locs, Pt.cells, Pt.slots] at X31 l31 y31 z31 st31 hQ31
      subst l31 y31 z31
      obtain ⟨rfl, N31q, e31⟩ := hQ31
      have N31 := Fr.app N0 N31q
      have pre32 : ∀ t, SS p e below m T31 74 #[iv p1, iv v1, iv (3 : Int32)] [(.int (1 : Int32))] t → B t := fun t kk => pre30 t (by
        refine st31 _ ?_
        show SS p e below m T31 65 #[iv p1, iv v1, iv (3 : Int32)] [(.int (f1 v1))] _
        refine XS.iloadN X31.here hx rfl (hb hby at_65) rfl ?_
        show SS p e below m T31 66 #[iv p1, iv v1, iv (3 : Int32)] [(.int (3 : Int32)), (.int (f1 v1))] _
        refine XS.icmpNo X31.here hx rfl (hb hby at_66) rfl (teq (own_l0_5 v1 hb0 hc4 hc29)).2 ?_
        show SS p e below m T31 69 #[iv p1, iv v1, iv (3 : Int32)] [] _
        refine XS.iconst X31.here hx rfl (hb hby at_69) ?_
        show SS p e below m T31 70 #[iv p1, iv v1, iv (3 : Int32)] [(.int (1 : Int32))] _
        refine XS.goto X31.here hx rfl (pc0 := 70) (pc' := 74) rfl (hb hby at_70) (by decide) (by decide) ?_
        show SS p e below m T31 74 #[iv p1, iv v1, iv (3 : Int32)] [(.int (1 : Int32))] _
        exact kk)
      obtain ⟨fs, hr, hrun, hended, hW, hsame⟩ := X31.leave (v := some (.int (1 : Int32))) (fun h => by rw [Bd.returns] at h; cases h)
      refine ⟨_, _, hB _ (pre32 _ ?_), hrun, hended, _, _, rfl, ?_, ⟨_, rfl⟩, hW, hsame.mono (by decide) (by decide)⟩
      · exact retN X31 hx (t := .boolean) Bd.returns (by simp) (hb hby at_74) hr
      · exact ⟨rfl, N31⟩
    · have pre33 : ∀ t, SS p e below m s₁ 44 #[iv p1, iv v1, .unset] [(.int (30 : Int32)), (.int (v1 >>> ((3 : Int32) &&& 31)))] t → B t := fun t kk => pre28 t (by
        refine XS.icmpYes X0.here hx rfl (pc0 := 31) (pc' := 39) rfl (hb hby at_31) rfl (feq hc29).2 (by decide) (by decide) ?_
        show SS p e below m s₁ 39 #[iv p1, iv v1, .unset] [] _
        refine XS.iloadN X0.here hx rfl (hb hby at_39) rfl ?_
        show SS p e below m s₁ 40 #[iv p1, iv v1, .unset] [(.int v1)] _
        refine XS.iconst X0.here hx rfl (hb hby at_40) ?_
        show SS p e below m s₁ 41 #[iv p1, iv v1, .unset] [(.int (3 : Int32)), (.int v1)] _
        refine XS.ishr X0.here hx rfl (hb hby at_41) rfl ?_
        show SS p e below m s₁ 42 #[iv p1, iv v1, .unset] [(.int (v1 >>> ((3 : Int32) &&& 31)))] _
        refine XS.bipush X0.here hx rfl (hb hby at_42) ?_
        show SS p e below m s₁ 44 #[iv p1, iv v1, .unset] [(.int (30 : Int32)), (.int (v1 >>> ((3 : Int32) &&& 31)))] _
        exact kk)
      by_cases hc34 : (v1 >>> ((3 : Int32) &&& 31)) = (30 : Int32)
      · have pre35 : ∀ t, SS p e below m s₁ 51 #[iv p1, iv v1, .unset] [(.int (244 : Int32)), (.int v1)] t → B t := fun t kk => pre33 t (by
          refine XS.icmpNo X0.here hx rfl (hb hby at_44) rfl (teq hc34).2 ?_
          show SS p e below m s₁ 47 #[iv p1, iv v1, .unset] [] _
          refine XS.iloadN X0.here hx rfl (hb hby at_47) rfl ?_
          show SS p e below m s₁ 48 #[iv p1, iv v1, .unset] [(.int v1)] _
          refine XS.sipush X0.here hx rfl (hb hby at_48) ?_
          show SS p e below m s₁ 51 #[iv p1, iv v1, .unset] [(.int (244 : Int32)), (.int v1)] _
          exact kk)
        by_cases hc36 : (244 : Int32) < v1
        · have pre37 : ∀ t, SS p e below m s₁ 62 #[iv p1, iv v1, iv (1 : Int32)] [(.int v1)] t → B t := fun t kk => pre35 t (by
            refine XS.icmpYes X0.here hx rfl (pc0 := 51) (pc' := 59) rfl (hb hby at_51) rfl (tlt hc36).2.2.1 (by decide) (by decide) ?_
            show SS p e below m s₁ 59 #[iv p1, iv v1, .unset] [] _
            refine XS.iconst X0.here hx rfl (hb hby at_59) ?_
            show SS p e below m s₁ 60 #[iv p1, iv v1, .unset] [(.int (1 : Int32))] _
            refine XS.istoreN X0.here hx rfl (hb hby at_60) rfl (l' := #[iv p1, iv v1, iv (1 : Int32)]) rfl ?_
            show SS p e below m s₁ 61 #[iv p1, iv v1, iv (1 : Int32)] [] _
            refine XS.iloadN X0.here hx rfl (hb hby at_61) rfl ?_
            show SS p e below m s₁ 62 #[iv p1, iv v1, iv (1 : Int32)] [(.int v1)] _
            exact kk)
          obtain ⟨_, _, ⟨T38, L38, k38, n38⟩, -, X38, ⟨Lc38, hQ38, l38, y38, z38⟩, st38⟩ := Jvm.LawKit.callS X0 hx (y := (⟨"pithline/util/Utf8", "sequenceLength", "(I)I"⟩ : MethodName)) hown (mvT hZ (hw _ (List.mem_of_getElem? (i := 0) rfl))) (mvT hZ (hw _ (List.mem_of_getElem? (i := 1) rfl))) (mvT hZ (hw _ (List.mem_of_getElem? (i := 2) rfl))) (mvT hZ (hw _ (List.mem_of_getElem? (i := 3) rfl))) (by decide) (backOf (W := 0) (rm1 l Z a0 hw [] v1 h0 n0 Z0 ) hZ (hw _ (List.mem_of_getElem? (i := 3) rfl)) (hw _ (List.mem_of_getElem? (i := 2) rfl)) (by decide) (by decide)) (g := (mkF m 62 #[iv p1, iv v1, iv (1 : Int32)] [(.int v1)])) rfl (by rw [hml]; rfl) (argsL := [(.int v1)]) (rest := []) (lenOf pd_0 rfl) rfl (by show 2 * 0 + _ ≤ _; exact Nat.le_of_eq rfl) (hb hby at_62) (fun _ _ => ⟨rfl, e0, (by decide : 0 + 0 ≤ _), (by decide : 0 + 0 ≤ _)⟩)
          dsimp only [Pt.U, Pt.locs, Pt.cells, Pt.slots] at X38 l38 y38 z38 st38 hQ38
          subst l38 y38 z38
          obtain ⟨rfl, N38q, e38⟩ := hQ38
          have N38 := Fr.app N0 N38q
          have pre39 : ∀ t, SS p e below m T38 74 #[iv p1, iv v1, iv (1 : Int32)] [(.int (1 : Int32))] t → B t := fun t kk => pre37 t (by
            refine st38 _ ?_
            show SS p e below m T38 65 #[iv p1, iv v1, iv (1 : Int32)] [(.int (f1 v1))] _
            refine XS.iloadN X38.here hx rfl (hb hby at_65) rfl ?_
            show SS p e below m T38 66 #[iv p1, iv v1, iv (1 : Int32)] [(.int (1 : Int32)), (.int (f1 v1))] _
            refine XS.icmpNo X38.here hx rfl (hb hby at_66) rfl (teq (own_l0_6 v1 hb0 hc4 hc29 hc34 hc36)).2 ?_
            show SS p e below m T38 69 #[iv p1, iv v1, iv (1 : Int32)] [] _
            refine XS.iconst X38.here hx rfl (hb hby at_69) ?_
            show SS p e below m T38 70 #[iv p1, iv v1, iv (1 : Int32)] [(.int (1 : Int32))] _
            refine XS.goto X38.here hx rfl (pc0 := 70) (pc' := 74) rfl (hb hby at_70) (by decide) (by decide) ?_
            show SS p e below m T38 74 #[iv p1, iv v1, iv (1 : Int32)] [(.int (1 : Int32))] _
            exact kk)
          obtain ⟨fs, hr, hrun, hended, hW, hsame⟩ := X38.leave (v := some (.int (1 : Int32))) (fun h => by rw [Bd.returns] at h; cases h)
          refine ⟨_, _, hB _ (pre39 _ ?_), hrun, hended, _, _, rfl, ?_, ⟨_, rfl⟩, hW, hsame.mono (by decide) (by decide)⟩
          · exact retN X38 hx (t := .boolean) Bd.returns (by simp) (hb hby at_74) hr
          · exact ⟨rfl, N38⟩
        · have pre40 : ∀ t, SS p e below m s₁ 62 #[iv p1, iv v1, iv (4 : Int32)] [(.int v1)] t → B t := fun t kk => pre35 t (by
            refine XS.icmpNo X0.here hx rfl (hb hby at_51) rfl (flt hc36).2.2.1 ?_
            show SS p e below m s₁ 54 #[iv p1, iv v1, .unset] [] _
            refine XS.iconst X0.here hx rfl (hb hby at_54) ?_
            show SS p e below m s₁ 55 #[iv p1, iv v1, .unset] [(.int (4 : Int32))] _
            refine XS.istoreN X0.here hx rfl (hb hby at_55) rfl (l' := #[iv p1, iv v1, iv (4 : Int32)]) rfl ?_
            show SS p e below m s₁ 56 #[iv p1, iv v1, iv (4 : Int32)] [] _
            refine XS.goto X0.here hx rfl (pc0 := 56) (pc' := 61) rfl (hb hby at_56) (by decide) (by decide) ?_
            show SS p e below m s₁ 61 #[iv p1, iv v1, iv (4 : Int32)] [] _
            refine XS.iloadN X0.here hx rfl (hb hby at_61) rfl ?_
            show SS p e below m s₁ 62 #[iv p1, iv v1, iv (4 : Int32)] [(.int v1)] _
            exact kk)
          obtain ⟨_, _, ⟨T41, L41, k41, n41⟩, -, X41, ⟨Lc41, hQ41, l41, y41, z41⟩, st41⟩ := Jvm.LawKit.callS X0 hx (y := (⟨"pithline/util/Utf8", "sequenceLength", "(I)I"⟩ : MethodName)) hown (mvT hZ (hw _ (List.mem_of_getElem? (i := 0) rfl))) (mvT hZ (hw _ (List.mem_of_getElem? (i := 1) rfl))) (mvT hZ (hw _ (List.mem_of_getElem? (i := 2) rfl))) (mvT hZ (hw _ (List.mem_of_getElem? (i := 3) rfl))) (by decide) (backOf (W := 0) (rm1 l Z a0 hw [] v1 h0 n0 Z0 ) hZ (hw _ (List.mem_of_getElem? (i := 3) rfl)) (hw _ (List.mem_of_getElem? (i := 2) rfl)) (by decide) (by decide)) (g := (mkF m 62 #[iv p1, iv v1, iv (4 : Int32)] [(.int v1)])) rfl (by rw [hml]; rfl) (argsL := [(.int v1)]) (rest := []) (lenOf pd_0 rfl) rfl (by show 2 * 0 + _ ≤ _; exact Nat.le_of_eq rfl) (hb hby at_62) (fun _ _ => ⟨rfl, e0, (by decide : 0 + 0 ≤ _), (by decide : 0 + 0 ≤ _)⟩)
          dsimp only [Pt.U, Pt.locs, Pt.cells, Pt.slots] at X41 l41 y41 z41 st41 hQ41
          subst l41 y41 z41
          obtain ⟨rfl, N41q, e41⟩ := hQ41
          have N41 := Fr.app N0 N41q
          have pre42 : ∀ t, SS p e below m T41 74 #[iv p1, iv v1, iv (4 : Int32)] [(.int (1 : Int32))] t → B t := fun t kk => pre40 t (by
            refine st41 _ ?_
            show SS p e below m T41 65 #[iv p1, iv v1, iv (4 : Int32)] [(.int (f1 v1))] _
            refine XS.iloadN X41.here hx rfl (hb hby at_65) rfl ?_
            show SS p e below m T41 66 #[iv p1, iv v1, iv (4 : Int32)] [(.int (4 : Int32)), (.int (f1 v1))] _
            refine XS.icmpNo X41.here hx rfl (hb hby at_66) rfl (teq (own_l0_7 v1 hb0 hc4 hc29 hc34 hc36)).2 ?_
            show SS p e below m T41 69 #[iv p1, iv v1, iv (4 : Int32)] [] _
            refine XS.iconst X41.here hx rfl (hb hby at_69) ?_
            show SS p e below m T41 70 #[iv p1, iv v1, iv (4 : Int32)] [(.int (1 : Int32))] _
            refine XS.goto X41.here hx rfl (pc0 := 70) (pc' := 74) rfl (hb hby at_70) (by decide) (by decide) ?_
            show SS p e below m T41 74 #[iv p1, iv v1, iv (4 : Int32)] [(.int (1 : Int32))] _
            exact kk)
          obtain ⟨fs, hr, hrun, hended, hW, hsame⟩ := X41.leave (v := some (.int (1 : Int32))) (fun h => by rw [Bd.returns] at h; cases h)
          refine ⟨_, _, hB _ (pre42 _ ?_), hrun, hended, _, _, rfl, ?_, ⟨_, rfl⟩, hW, hsame.mono (by decide) (by decide)⟩
          · exact retN X41 hx (t := .boolean) Bd.returns (by simp) (hb hby at_74) hr
          · exact ⟨rfl, N41⟩
      · have pre43 : ∀ t, SS p e below m s₁ 62 #[iv p1, iv v1, iv (1 : Int32)] [(.int v1)] t → B t := fun t kk => pre33 t (by
          refine XS.icmpYes X0.here hx rfl (pc0 := 44) (pc' := 59) rfl (hb hby at_44) rfl (feq hc34).2 (by decide) (by decide) ?_
          show SS p e below m s₁ 59 #[iv p1, iv v1, .unset] [] _
          refine XS.iconst X0.here hx rfl (hb hby at_59) ?_
          show SS p e below m s₁ 60 #[iv p1, iv v1, .unset] [(.int (1 : Int32))] _
          refine XS.istoreN X0.here hx rfl (hb hby at_60) rfl (l' := #[iv p1, iv v1, iv (1 : Int32)]) rfl ?_
          show SS p e below m s₁ 61 #[iv p1, iv v1, iv (1 : Int32)] [] _
          refine XS.iloadN X0.here hx rfl (hb hby at_61) rfl ?_
          show SS p e below m s₁ 62 #[iv p1, iv v1, iv (1 : Int32)] [(.int v1)] _
          exact kk)
        obtain ⟨_, _, ⟨T44, L44, k44, n44⟩, -, X44, ⟨Lc44, hQ44, l44, y44, z44⟩, st44⟩ := Jvm.LawKit.callS X0 hx (y := (⟨"pithline/util/Utf8", "sequenceLength", "(I)I"⟩ : MethodName)) hown (mvT hZ (hw _ (List.mem_of_getElem? (i := 0) rfl))) (mvT hZ (hw _ (List.mem_of_getElem? (i := 1) rfl))) (mvT hZ (hw _ (List.mem_of_getElem? (i := 2) rfl))) (mvT hZ (hw _ (List.mem_of_getElem? (i := 3) rfl))) (by decide) (backOf (W := 0) (rm1 l Z a0 hw [] v1 h0 n0 Z0 ) hZ (hw _ (List.mem_of_getElem? (i := 3) rfl)) (hw _ (List.mem_of_getElem? (i := 2) rfl)) (by decide) (by decide)) (g := (mkF m 62 #[iv p1, iv v1, iv (1 : Int32)] [(.int v1)])) rfl (by rw [hml]; rfl) (argsL := [(.int v1)]) (rest := []) (lenOf pd_0 rfl) rfl (by show 2 * 0 + _ ≤ _; exact Nat.le_of_eq rfl) (hb hby at_62) (fun _ _ => ⟨rfl, e0, (by decide : 0 + 0 ≤ _), (by decide : 0 + 0 ≤ _)⟩)
        dsimp only [Pt.U, Pt.locs, Pt.cells, Pt.slots] at X44 l44 y44 z44 st44 hQ44
        subst l44 y44 z44
        obtain ⟨rfl, N44q, e44⟩ := hQ44
        have N44 := Fr.app N0 N44q
        have pre45 : ∀ t, SS p e below m T44 74 #[iv p1, iv v1, iv (1 : Int32)] [(.int (1 : Int32))] t → B t := fun t kk => pre43 t (by
          refine st44 _ ?_
          show SS p e below m T44 65 #[iv p1, iv v1, iv (1 : Int32)] [(.int (f1 v1))] _
          refine XS.iloadN X44.here hx rfl (hb hby at_65) rfl ?_
          show SS p e below m T44 66 #[iv p1, iv v1, iv (1 : Int32)] [(.int (1 : Int32)), (.int (f1 v1))] _
          refine XS.icmpNo X44.here hx rfl (hb hby at_66) rfl (teq (own_l0_8 v1 hb0 hc4 hc29 hc34)).2 ?_
          show SS p e below m T44 69 #[iv p1, iv v1, iv (1 : Int32)] [] _
          refine XS.iconst X44.here hx rfl (hb hby at_69) ?_
          show SS p e below m T44 70 #[iv p1, iv v1, iv (1 : Int32)] [(.int (1 : Int32))] _
          refine XS.goto X44.here hx rfl (pc0 := 70) (pc' := 74) rfl (hb hby at_70) (by decide) (by decide) ?_
          show SS p e below m T44 74 #[iv p1, iv v1, iv (1 : Int32)] [(.int (1 : Int32))] _
          exact kk)
        obtain ⟨fs, hr, hrun, hended, hW, hsame⟩ := X44.leave (v := some (.int (1 : Int32))) (fun h => by rw [Bd.returns] at h; cases h)
        refine ⟨_, _, hB _ (pre45 _ ?_), hrun, hended, _, _, rfl, ?_, ⟨_, rfl⟩, hW, hsame.mono (by decide) (by decide)⟩
        · exact retN X44 hx (t := .boolean) Bd.returns (by simp) (hb hby at_74) hr
        · exact ⟨rfl, N44⟩
set_option maxRecDepth 65536 in
set_option maxHeartbeats 40000000 in
theorem comes_1 {Post : Tables → Env → Array Value → State → Outcome → State → Prop} (hpost : ∀ tb e args s v u, (limb_1_1.after args s (.returned v) u = true ∧ limb_1_2.after args s (.returned v) u = true ∧ True) → FrameEnd s (.returned v) u (Jvm.fieldLocs frame_1_writes args s ++ Jvm.arrayLocs frame_1_arrays args s ++ Jvm.staticLocs frame_1_statics s) 0 0 → Post tb e args s (.returned v) u) :
    ArmFor flags0 classFile x code maxLocals ret World_1 tables_1 room_1 Calls_1 rest_1 Pre_1 Post := by
  intro l hfl _ _ p e ha hc hk s m args below hf hA hF happ hP
  obtain ⟨hcalls, hrest, hpre⟩ := hP
  obtain ⟨-, -, -, hnamed, -, -, -, hat⟩ := (Spec.applies_iff hf).mp happ
  obtain ⟨hg, hn⟩ := and_e (Cond.before_iff.mp (show (Jvm.Cond.and given_1 narrow_1).before args s = true from hpre))
  obtain ⟨gg1, gg2⟩ := and_e hg
  obtain ⟨w0, rfl⟩ : ∃ w0 : Value, args = #[w0] := by
    have hs : args.size = 1 := by simpa [Cond.value, given_1] using gg1
    obtain ⟨L⟩ := args
    match L, hs with
    | [w0], _ => exact ⟨w0, rfl⟩
  have hw := fun d (hd : d ∈ tables_1) => atoms_spec (ws := Jvm.Cond.code x code maxLocals ret :: tables_1) hat d (List.mem_cons_of_mem _ hd)
  obtain ⟨i0, ei0⟩ := is_v gg2
  obtain rfl : w0 = (.int i0) := Option.some.inj ei0
  obtain ⟨n, o, h1, h2, h3, _, L, rfl, ⟨rfl, N⟩, hq⟩ := rm0 l s _ hw tables_1 i0 s.heap s.heap.size (Nat.le_refl _)  p e ha hc hk s m _ below hf ((Spec.applies_iff_loose hf).mp happ).1 ⟨rfl, State.Warmed39.refl s, rfl⟩ trivial
  refine ⟨n, _, h1, h2, h3, hpost _ _ _ _ _ _ ⟨Cond.after_iff.mpr rfl, Cond.after_iff.mpr (eq_i res_at (Term.int_eval (1)) rfl), trivial⟩ ⟨hq.1, hq.2.1, (hq.2.2.sift fun y hy => Or.inr (N y hy)).mono (by decide) (by decide)⟩⟩
theorem main_1_1 : Claimed_1_1 := comes_1 fun _ _ _ _ _ _ h hF => ⟨h.1, hF⟩
theorem main_1_2 : Claimed_1_2 := comes_1 fun _ _ _ _ _ _ h hF => ⟨h.2.1, hF⟩
end Jvm.Pilot.@@N@@
namespace Jvm.Pilot.@@N@@
open Jvm Jvm.ClassFile Sem Op Lib Jvm.Free Jvm.Stand Jvm.Pilot.@@N@@.Jvm.D
/-! MADE BY PROGRAM (witnessworld.py) out of the Statement's table words and the real class files: 9 classes; the members and pool entries that the words name. The judged class is class 1, her method 1. -/
namespace start1
open Jvm.ClassFile
def u (s : String) : CpInfo := .utf8 (stringToUtf16 s)
/-- a pool by its gaps: so many unusable entries, then the entry; so many at the end -/
def gap : Nat → List CpInfo → List CpInfo
  | 0, r => r
  | n + 1, r => .unusable :: gap n r
def poolList (es : List (Nat × CpInfo)) (last : Nat) : List CpInfo := es.foldr (fun e r => gap e.1 (e.2 :: r)) (gap last [])
def pool (es : List (Nat × CpInfo)) (last : Nat) : Array CpInfo := ⟨poolList es last⟩
def fileOf (pool : Array CpInfo) (this : Nat) (attrs : Array Attribute := #[]) (ms : Array MethodInfo := #[]) (fl : Nat := 33) (sup : Nat := 0) (ifs : Array Nat := #[]) (fds : Array FieldInfo := #[]) : ClassFile where
  minorVersion := 0
  majorVersion := 65
  constantPool := pool
  accessFlags := fl
  thisClass := this
  superClass := sup
  interfaces := ifs
  fields := fds
  methods := ms
  attributes := attrs
def plain (name : String) (sup : Option ClassId) : Class where
  name := name
  kind := .ordinary
  loader := none
  accessFlags := 33
  super := sup
  interfaces := #[]
  cf := none
  fields := #[]
  methods := #[]
  instanceTypes := #[]
  staticTypes := #[]
  resolved := #[]
  callSites := []
  init := .initialized
  statics := none
  mirror := none

def pool0 : Array CpInfo := pool [(5, u "<init>"), (0, u "()V"), (1, .class_ 10), (1, u "java/lang/Object")] 113

def k0m0 : Method := { name := "<init>", desc := "()V", sig := { parameters := [], returnType := none }, accessFlags := 1, code := none }
/-- java/lang/Object -/
def k0 : Class := { plain "java/lang/Object" none with
  accessFlags := 33
  interfaces := #[]
  cf := some (fileOf pool0 8 #[] #[{ accessFlags := 1, nameIndex := 5, descriptorIndex := 6, attributes := #[] }] 33 0 #[] #[])
  fields := #[]
  methods := #[k0m0]
  instanceTypes := #[]
  staticTypes := #[]
  resolved := Array.replicate 124 none
  statics := none }

def pool1 : Array CpInfo := pool [(2, .class_ 4), (1, u "java/lang/Object"), (0, u "<init>"), (0, u "()V"), (0, .methodref 8 9), (0, .class_ 10), (0, .nameAndType 11 12), (0, u "pithline/util/Utf8"), (0, u "sequenceLength"), (0, u "(I)I"), (0, .class_ 14), (0, u "pithline/util/Utf8SequenceLengthPinLaw"), (2, u "law"), (0, u "(I)Z")] 3

def k1m0 : Method := { name := "<init>", desc := "()V", sig := { parameters := [], returnType := none }, accessFlags := 2, code := none }
def k1c1 : Code := { maxStack := 2, maxLocals := 3, code := code, exceptionTable := #[], attributes := #[] }
def k1m1 : Method := { name := "law", desc := "(I)Z", sig := { parameters := [.int], returnType := some .boolean }, accessFlags := 9, code := some k1c1 }
/-- pithline/util/Utf8SequenceLengthPinLaw -/
def k1 : Class := { plain "pithline/util/Utf8SequenceLengthPinLaw" (some 0) with
  accessFlags := 49
  interfaces := #[]
  cf := some (fileOf pool1 13 #[] #[{ accessFlags := 2, nameIndex := 5, descriptorIndex := 6, attributes := #[] }, { accessFlags := 9, nameIndex := 17, descriptorIndex := 18, attributes := #[] }] 49 2 #[] #[])
  fields := #[]
  methods := #[k1m0, k1m1]
  instanceTypes := #[]
  staticTypes := #[]
  resolved := Array.replicate 22 none
  statics := none }

def pool2 : Array CpInfo := pool [(2, .class_ 4), (1, u "java/lang/Object"), (0, u "<init>"), (0, u "()V"), (0, .class_ 8), (0, u "pithline/util/Utf8"), (22, u "sequenceLength"), (0, u "(I)I"), (3, u "NOT_WELL_FORMED"), (0, u "I"), (2, u "FIRST_OF_TWO"), (1, u "FIRST_OF_THREE")] 10

def k2m0 : Method := { name := "<init>", desc := "()V", sig := { parameters := [], returnType := none }, accessFlags := 2, code := none }
def k2c1 : Code := { maxStack := 2, maxLocals := 2, code := prog_137_method_5_code, exceptionTable := #[], attributes := #[] }
def k2m1 : Method := { name := "sequenceLength", desc := "(I)I", sig := { parameters := [.int], returnType := some .int }, accessFlags := 9, code := some k2c1 }
/-- pithline/util/Utf8 -/
def k2 : Class := { plain "pithline/util/Utf8" (some 0) with
  accessFlags := 49
  interfaces := #[]
  cf := some (fileOf pool2 7 #[] #[{ accessFlags := 2, nameIndex := 5, descriptorIndex := 6, attributes := #[] }, { accessFlags := 9, nameIndex := 31, descriptorIndex := 32, attributes := #[] }] 49 2 #[] #[{ accessFlags := 25, nameIndex := 36, descriptorIndex := 37, attributes := #[] }, { accessFlags := 26, nameIndex := 40, descriptorIndex := 37, attributes := #[] }, { accessFlags := 26, nameIndex := 42, descriptorIndex := 37, attributes := #[] }])
  fields := #[{ name := "NOT_WELL_FORMED", type := .int, accessFlags := 25, slot := 0, constantValue := 0 }, { name := "FIRST_OF_TWO", type := .int, accessFlags := 26, slot := 1, constantValue := 0 }, { name := "FIRST_OF_THREE", type := .int, accessFlags := 26, slot := 2, constantValue := 0 }]
  methods := #[k2m0, k2m1]
  instanceTypes := #[]
  staticTypes := #[.int, .int, .int]
  resolved := Array.replicate 53 none
  statics := none }

def pool3 : Array CpInfo := pool [(1, u "java/lang/Cloneable"), (0, .class_ 1), (0, u "java/lang/Object"), (0, .class_ 3)] 3

/-- java/lang/Cloneable -/
def k3 : Class := { plain "java/lang/Cloneable" (some 0) with
  accessFlags := 1537
  interfaces := #[]
  cf := some (fileOf pool3 2 #[] #[] 1537 4 #[] #[])
  fields := #[]
  methods := #[]
  instanceTypes := #[]
  staticTypes := #[]
  resolved := Array.replicate 8 none
  statics := none }

def pool4 : Array CpInfo := pool [(1, u "java/io/Serializable"), (0, .class_ 1), (0, u "java/lang/Object"), (0, .class_ 3)] 3

/-- java/io/Serializable -/
def k4 : Class := { plain "java/io/Serializable" (some 0) with
  accessFlags := 1537
  interfaces := #[]
  cf := some (fileOf pool4 2 #[] #[] 1537 4 #[] #[])
  fields := #[]
  methods := #[]
  instanceTypes := #[]
  staticTypes := #[]
  resolved := Array.replicate 8 none
  statics := none }

/-- the primitive byte -/
def k5 : Class := { plain "byte" none with kind := .primitive 'B', accessFlags := 0x411 }
/-- [B -/
def k6 : Class := { plain "[B" (some 0) with kind := .array 5 .byte, interfaces := #[3, 4], accessFlags := 1041 }

/-- the primitive int -/
def k7 : Class := { plain "int" none with kind := .primitive 'I', accessFlags := 0x411 }
/-- [I -/
def k8 : Class := { plain "[I" (some 0) with kind := .array 7 .int, interfaces := #[3, 4], accessFlags := 1041 }

def heap : Heap := #[]
def classes : Array Class := #[k0, k1, k2, k3, k4, k5, k6, k7, k8]
def interned : List (Array UInt16 × Addr) := []
def slotsUsed : Nat := 0
def theMethod : MethodId := ⟨1, 1⟩
def args0 : Array Value := #[.int 5]
def aboutOver (below : List Frame) : State where
  vm := { classes := classes, interned := interned.toArray }
  heap := heap
  slotsUsed := slotsUsed
  threads := #[{ frames := .invoking theMethod args0 :: below }]
def below0 : List Frame := [.native { method := ⟨0, 0⟩, args := #[] }]
def about1 : State := aboutOver below0
def p0 : Program := .bare "" "" ""
def e0 : Env := launch0.env 0 0 0
theorem w_frames : about1.frames = Frame.invoking theMethod args0 :: below0 := rfl
set_option maxRecDepth 65536 in
theorem w_args : argsFit about1.vm theMethod args0 = true := by decide +kernel
set_option maxRecDepth 65536 in
theorem w_heap : heapFits about1 = true := by decide +kernel
set_option maxRecDepth 65536 in
theorem w_runnable : about1.curStatus? = some .runnable := by decide +kernel
set_option maxRecDepth 65536 in
theorem w_alone : about1.alone = true := by decide +kernel
set_option maxRecDepth 65536 in
theorem w_named : about1.methodNamed? x = some theMethod := by decide +kernel
set_option maxRecDepth 65536 in
theorem w_hears : about1.hears theMethod below0 = true := by decide +kernel
set_option maxRecDepth 65536 in
theorem w_ripe : about1.ripe theMethod args0 below0 = true := by decide +kernel
theorem w_running : about1.status = .running := rfl
set_option maxRecDepth 65536 in
theorem w_room : about1.hasRoom e0.platform room_1 = true :=
  launch0.hasRoom_least _ room_1 (by decide +kernel) (by decide +kernel) (by decide +kernel) (by decide +kernel) (by decide +kernel) (by decide +kernel)
theorem allAtoms_all (ts : List Jvm.Cond) (a : Array Jvm.Value) (st : Jvm.State) : (allAtoms ts).before a st = ts.all (fun c => c.before a st) := by
  induction ts with
  | nil => rfl
  | cons c t ih =>
    show (Jvm.Cond.and c (allAtoms t)).before a st = _
    rw [Jvm.Cond.before_and, ih, List.all_cons]
def words1 : List Jvm.Cond := Jvm.Cond.code x code maxLocals ret :: tables_1
/-- a 'code' word, met by the world's own term for the bytes: nothing is compared byte by byte -/
theorem code_word {y : MethodName} {bytes : ByteArray} {mx : Nat} {rt : Option FieldType} {a : Array Value} {s : State} {m : MethodId} {meth : Method} {c : Code} (h1 : s.methodNamed? y = some m) (h2 : s.vm.method? m = some meth) (h3 : meth.code = some c) (h4 : c.code = bytes)
    (h5 : (c.maxLocals == mx && c.exceptionTable.isEmpty && decide (c.maxStack ≤ mostOperands) && decide (meth.sig.returnType = rt) && !meth.locks && decide (parseMethodDescriptor y.desc = some meth.sig)) = true) : (Jvm.Cond.code y bytes mx rt).before a s = true := by
  simp only [Bool.and_eq_true, beq_iff_eq, Bool.not_eq_true', decide_eq_true_eq] at h5
  obtain ⟨⟨⟨⟨⟨g1, g2⟩, g3⟩, g4⟩, g5⟩, g6⟩ := h5
  simp [Cond.before, Cond.holds, Cond.value, h1, h2, h3, h4, g1, g2, g3, g4, g5, g6]
def isCode : Jvm.Cond → Bool
  | .code _ _ _ _ => true
  | _ => false
theorem all_split {L : List Jvm.Cond} {P : Jvm.Cond → Bool} (h1 : L.all (fun c => isCode c || P c) = true) (h2 : ∀ c ∈ L.filter isCode, P c = true) : L.all P = true := by
  refine List.all_eq_true.mpr fun c hc => ?_
  have h := List.all_eq_true.mp h1 c hc
  rcases Bool.eq_false_or_eq_true (isCode c) with hi | hi
  · exact h2 c (List.mem_filter.mpr ⟨hc, hi⟩)
  · simpa [hi] using h
set_option maxRecDepth 65536 in
theorem w_c0 : (Jvm.Cond.code x code maxLocals ret).before args0 about1 = true := code_word (m := ⟨1, 1⟩) (meth := k1m1) (c := k1c1) (by decide +kernel) rfl rfl rfl (by decide +kernel)
set_option maxRecDepth 65536 in
theorem w_c1 : (Jvm.Cond.code ({ cls := "pithline/util/Utf8", name := "sequenceLength", desc := "(I)I" } : Jvm.MethodName) prog_137_method_5_code (2 : Nat) (Option.some Jvm.ClassFile.FieldType.int)).before args0 about1 = true := code_word (m := ⟨2, 1⟩) (meth := k2m1) (c := k2c1) (by decide +kernel) rfl rfl rfl (by decide +kernel)
def codes1 : List Jvm.Cond := [Jvm.Cond.code x code maxLocals ret, Jvm.Cond.code ({ cls := "pithline/util/Utf8", name := "sequenceLength", desc := "(I)I" } : Jvm.MethodName) prog_137_method_5_code (2 : Nat) (Option.some Jvm.ClassFile.FieldType.int)]
set_option maxRecDepth 65536 in
theorem codes_eq : words1.filter isCode = codes1 := rfl
theorem w_codes : ∀ c ∈ words1.filter isCode, c.before args0 about1 = true := by
  rw [codes_eq]
  intro c hc
  simp only [codes1, List.mem_cons, List.not_mem_nil, or_false] at hc
  rcases hc with rfl | rfl
  · exact w_c0
  · exact w_c1
set_option maxRecDepth 65536 in
theorem w_t1 : words1.all (fun c => isCode c || c.before args0 about1) = true := by decide +kernel
theorem w_tables : (allAtoms (Jvm.Cond.code x code maxLocals ret :: tables_1)).before args0 about1 = true := by
  rw [allAtoms_all]
  show words1.all (fun c => c.before args0 about1) = true
  refine all_split ?_ w_codes
  rw [w_t1]
set_option maxRecDepth 65536 in
theorem w_case : (Jvm.Cond.and given_1 narrow_1).before args0 about1 = true := by decide +kernel
theorem w_applies : (headSpec (Jvm.Cond.code x code maxLocals ret :: tables_1) room_1).applies x e0.platform about1 = true :=
  (Spec.applies_iff w_frames).mpr ⟨w_running, w_runnable, w_alone, w_named, w_hears, w_ripe, w_room, w_tables⟩
theorem atStart : AtStart classFile x code maxLocals ret World_1 tables_1 room_1 Calls_1 rest_1 Pre_1 launch0 p0 e0 about1 theMethod args0 below0 :=
  ⟨lists_1, trivial, launch0.admits_env _ _ _, launch0.least_env, fairChoices_fair.cas, fairChoices_fair.clock, w_frames, w_args, w_heap, w_applies, trivial, trivial, w_case⟩
end start1
theorem witness_1 : WitnessClaimed_1 := ⟨start1.p0, start1.e0, start1.about1, start1.theMethod, start1.args0, start1.below0, start1.atStart⟩
end Jvm.Pilot.@@N@@
