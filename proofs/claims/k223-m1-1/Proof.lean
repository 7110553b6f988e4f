import JvmDerived
import JvmDerived.Pilot.@@N@@Statement
import JvmDerived.Pilot.@@N@@Code
set_option linter.unusedVariables false
set_option linter.unusedSimpArgs false
namespace Jvm.RoadKit
open Sem ClassFile Op Lib Jvm.Stand Jvm.Free Jvm.LawKit
section New
variable {p : Program} {l : Launch} {e : Env} {R : Room} {s : State} {m : MethodId} {args : Array Value} {below : List Frame} {meth : Method} {c : Code} {T : State} {locs : List Loc} {cells slots : Nat}
theorem retI (X : Stand p l e R s m args below meth c T locs cells slots) (hx : p.tables.exec = Jvm.exec) {pc : Nat} {Ls : Array Slot} {z : Int32} {rest : List Value} (hret : meth.sig.returnType = some .int) (hd : decode c.code pc = .ok (.ireturn, 1)) {fs : List Frame}
    (hl : ∀ (f : JFrame) (acts : List Action), f.method = m → f.locked = none → f.entered = [] → (doReturn e (T.setTop f) acts (some (.int z))).1 = T.setFrames fs) : Steps p.tables e below (T.setTop (mkF m pc Ls (.int z :: rest))) (T.setFrames fs) := by
  have hm' : T.vm.method? m = some meth := X.method'
  have hn : narrow .int (.int z) = .int z := rfl
  show Steps p.tables e below (T.setTop { method := m, pc := pc, locals := Ls, stack := _ :: rest, locked := none }) _
  jvm_step X.here [X.here.top, hx, hd, hm', hret, hn]
  first | (intro acts; rw [hl _ acts rfl rfl rfl]) | rw [hl _ _ rfl rfl rfl]
  exact Steps.refl _
theorem retL (X : Stand p l e R s m args below meth c T locs cells slots) (hx : p.tables.exec = Jvm.exec) {pc : Nat} {Ls : Array Slot} {z : Int64} {rest : List Value} (hret : meth.sig.returnType = some .long) (hd : decode c.code pc = .ok (.lreturn, 1)) {fs : List Frame}
    (hl : ∀ (f : JFrame) (acts : List Action), f.method = m → f.locked = none → f.entered = [] → (doReturn e (T.setTop f) acts (some (.long z))).1 = T.setFrames fs) : Steps p.tables e below (T.setTop (mkF m pc Ls (.long z :: rest))) (T.setFrames fs) := by
  have hm' : T.vm.method? m = some meth := X.method'
  have hn : narrow .long (.long z) = .long z := rfl
  show Steps p.tables e below (T.setTop { method := m, pc := pc, locals := Ls, stack := _ :: rest, locked := none }) _
  jvm_step X.here [X.here.top, hx, hd, hm', hret, hn]
  first | (intro acts; rw [hl _ acts rfl rfl rfl]) | rw [hl _ _ rfl rfl rfl]
  exact Steps.refl _
end New
end Jvm.RoadKit
namespace Jvm.Pilot.@@N@@
open Jvm Jvm.ClassFile Sem Op Lib Jvm.Free Jvm.Stand Jvm.LawKit Jvm.RoadKit Bundle Jvm.Pilot.@@N@@.Jvm.D
/-- the run comes from pc, with these locals and this stack, to t -/
abbrev SS (p : Program) (e : Env) (below : List Frame) (m : MethodId) (T : State) (pc : Nat) (ls : Array Slot) (st : List Value) (t : State) : Prop := Steps p.tables e below (T.setTop (mkF m pc ls st)) t
/-- a method that writes nothing and returns an int -/
def QI (r : Int32) (h0 : Heap) (n0 : Nat) (v : Option Value) (h : Heap) (L : List Loc) : Prop := v = some (.int r) ∧ Fr n0 L ∧ h = h0
def QL (r : Int64) (h0 : Heap) (n0 : Nat) (v : Option Value) (h : Heap) (L : List Loc) : Prop := v = some (.long r) ∧ Fr n0 L ∧ h = h0
def QV (h0 : Heap) (n0 : Nat) (v : Option Value) (h : Heap) (L : List Loc) : Prop := v = none ∧ Fr n0 L ∧ h = h0
/-- .. that may load String constants -/
def QC (r : Int32) (W0 : Vm → Heap → Prop) (h0 : Heap) (n0 : Nat) (v : Option Value) (h : Heap) (vm : Vm) (L : List Loc) : Prop := v = some (.int r) ∧ Fr n0 L ∧ Ext h0 h ∧ W0 vm h
def QIS (r : Int32) (h0 : Heap) (n0 : Nat) (v : Option Value) (h : Heap) (L : List Loc) : Prop := v = some (.int r) ∧ Fr n0 L ∧ Ext h0 h
theorem own_ext {a b c : Heap} (h : Ext a b) (k : Ext b c) : Ext a c := ⟨Nat.le_trans h.1 k.1, fun x y q => k.2 _ _ (h.2 _ _ q)⟩
theorem own_extw {a h h' : Heap} {x : Addr} {sl : Nat} {v : Value} (E : Ext a h) (W : Wr h h' x sl v) (q : a.size ≤ x) : Ext a h' := by
  have K := Keep.of_wr W
  refine ⟨Nat.le_trans E.1 K.1, fun y c hc => K.2.1 _ _ (E.2 _ _ hc) fun hm => ?_⟩
  have hl := (Array.getElem?_eq_some_iff.mp hc).1
  rw [List.mem_singleton] at hm
  rw [hm] at hl
  exact absurd hl (Nat.not_lt.mpr q)
def QE (n0 : Nat) (v : Option Value) (h : Heap) (L : List Loc) : Prop := v = some (.int 1) ∧ Fr n0 L
theorem own_getD (l : List Int32) (k : Nat) (d : Int32) : (l.map Value.int).getD k (.int d) = .int (l.getD k d) := by
  rw [List.getD_eq_getElem?_getD, List.getD_eq_getElem?_getD, List.getElem?_map]
  cases l[k]? <;> rfl
theorem own_wS {Z : State} {a0 : Array Value} (hw : ∀ d ∈ tables_1, d.before a0 Z = true) : ∀ a ∈ Bundle.stringAtoms, a.before a0 Z = true := fun a ha => by
  simp only [Bundle.stringAtoms, List.mem_cons, List.not_mem_nil, or_false] at ha
  rcases ha with rfl | rfl | rfl | rfl | rfl | rfl | rfl
  · exact hw _ (List.mem_of_getElem? (i := 21) rfl)
  · exact hw _ (List.mem_of_getElem? (i := 22) rfl)
  · exact hw _ (List.mem_of_getElem? (i := 23) rfl)
  · exact hw _ (List.mem_of_getElem? (i := 24) rfl)
  · exact hw _ (List.mem_of_getElem? (i := 25) rfl)
  · exact hw _ (List.mem_of_getElem? (i := 26) rfl)
  · exact hw _ (List.mem_of_getElem? (i := 27) rfl)
def own_vs : List Int32 := [(115 : Int32), (99 : Int32), (114 : Int32), (105 : Int32), (112 : Int32), (116 : Int32)]
theorem own_litA {o text : String} {i : Nat} (h : tables_1[20]? = some (Jvm.Cond.stringLink o i text)) : (∀ c ∈ text.toList, c.toNat < 256) ∧ text.toList.map (fun c => Value.int (Jvm.Lit.byteI c.toNat.toUInt16)) = own_vs.map Value.int := by
  have e := (rfl : some _ = tables_1[20]?).trans h
  cases e
  decide +kernel
theorem own_litnA {o text : String} {i : Nat} (h : tables_1[20]? = some (Jvm.Cond.stringLink o i text)) : 4 * text.toList.length ≤ 24 := by
  have e := (rfl : some _ = tables_1[20]?).trans h
  cases e
  decide +kernel
theorem own_litB {o text : String} {i : Nat} (h : tables_1[59]? = some (Jvm.Cond.stringLink o i text)) : (∀ c ∈ text.toList, c.toNat < 256) ∧ text.toList.map (fun c => Value.int (Jvm.Lit.byteI c.toNat.toUInt16)) = own_vs.map Value.int := by
  have e := (rfl : some _ = tables_1[59]?).trans h
  cases e
  decide +kernel
theorem own_litnB {o text : String} {i : Nat} (h : tables_1[59]? = some (Jvm.Cond.stringLink o i text)) : 4 * text.toList.length ≤ 24 := by
  have e := (rfl : some _ = tables_1[59]?).trans h
  cases e
  decide +kernel
/-- entry ix of own is loaded, and its String says that text -/
def LitAt (Z : State) (own : String) (ix : Nat) (vm : Vm) (h : Heap) (a b : Addr) (kb : ClassId) : Prop := Lit (Z.setVm vm) own ix a ∧ Exa Z h a "java/lang/String" ∧ Fld Z h a "java/lang/String" "coder" "B" (.int (0 : Int32)) ∧ Fld Z h a "java/lang/String" "value" "[B" (.ref b) ∧ Arv Z h b kb .byte (6 : Int32) (own_vs.map Value.int) (.int (0 : Int32))
def LitS (Z : State) (own : String) (ix : Nat) (vm : Vm) (h : Heap) : Prop := ∃ (a b : Addr) (kb : ClassId), LitAt Z own ix vm h a b kb
def LW (Z : State) (aA aB : Addr) (vm : Vm) : Prop := Lit (Z.setVm vm) "pithline/html/ScriptDataOpenTagLengthPinLaw" 29 aA ∧ Lit (Z.setVm vm) "pithline/html/ScriptData" 62 aB
theorem LW.stays {Z s : State} {aA aB : Addr} {vm0 vm1 : Vm} (L : LW Z aA aB vm0) (hW : (s.setVm vm0).Warmed39 vm1) : LW Z aA aB vm1 := ⟨Lit.stays (s := s) (show Lit (s.setVm vm0) _ _ _ from L.1) hW, Lit.stays (s := s) (show Lit (s.setVm vm0) _ _ _ from L.2) hW⟩
section Pay
variable {p : Program} {l : Launch} {e : Env} {R : Room} {s : State} {args : Array Value} {below : List Frame} {Z : State} {a0 : Array Value} {EL : List (String × Nat)} {h : Heap} {vm0 : Vm}
/-- backOf for a callee that asks a word of the tables besides -/
theorem own_backL {y : MethodName} {bytes : ByteArray} {maxL : Nat} {ret : Option FieldType} {rm : Room} {len W : Nat} {as' : Array Value} {Q : Option Value → Heap → List Loc → Prop} {W0 : Vm → Prop}
    (hM : MetFree l y (head1 [Cond.code y bytes maxL ret] rm) (fun a U => a = as' ∧ Z.Warmed39 U.vm ∧ U.heap = h ∧ W0 U.vm) (fun _ _ _ _ _ => True) (fun _ U o U' => ∃ v L, o = .returned v ∧ Q v U'.heap L ∧ FrameEnd U o U' L rm.cells rm.slots))
    (hZ : Z.Warmed39 s.vm) (hW0 : ∀ vm1, s.WarmedH vm1 → W0 vm1) (wc : (Cond.code y bytes maxL ret).before a0 Z = true) (wz : (Cond.initialized y.cls).before a0 Z = true) (hf : rm.frames + 1 ≤ R.frames) (hl : W + (maxL + 11) + rm.locals ≤ R.locals) :
    Back l R p e below s args y len W (fun A a => a = as' ∧ A.U.heap = h ∧ A.cells + rm.cells ≤ R.cells ∧ A.slots + rm.slots ≤ R.slots)
      (fun A _ v B => ∃ L, Q v B.U.heap L ∧ B.locs = A.locs ++ L ∧ B.cells = A.cells + rm.cells ∧ B.slots = A.slots + rm.slots) := by
  refine Back.of_free (bytes := bytes) (maxL := maxL) (ret := ret) (E := fun _ _ o t L k n => k = rm.cells ∧ n = rm.slots ∧ ∃ v, o = .returned v ∧ Q v t.heap L) hM hf hl ?_ ?_ (fun _ _ _ _ _ _ _ _ _ => trivial) ?_ ?_
  · intro m meth c A a Y hp
    have hU : Z.Warmed39 A.U.vm := wtrans hZ Y.warmed
    refine ⟨?_, mv hU wc, mv hU wz, hp.2.2.1, hp.2.2.2⟩
    show (Cond.and _ .tt).before a A.U = true
    rw [Cond.before_and, mv hU wc]; rfl
  · intro m meth c A a g mk Y hp
    exact ⟨hp.1, wtrans hZ Y.warmed, hp.2.1, hW0 _ Y.warmed⟩
  · rintro _ _ _ _ ⟨v, L, h1, h2, h3⟩
    exact ⟨L, _, _, h3, rfl, rfl, v, h1, h2⟩
  · rintro m meth c A a g mk v t L k n Y hp _ _ ⟨e1, e2, v', e3, e4⟩
    cases e3; subst e1 e2
    exact ⟨L, e4, rfl, rfl, rfl⟩
/-- backOfSH for a callee whose end says something of the tables besides -/
theorem own_backS {y : MethodName} {bytes : ByteArray} {maxL : Nat} {ret : Option FieldType} {rm : Room} {len W : Nat} {as' : Array Value} {Q : Option Value → Heap → Vm → List Loc → Prop}
    (hM : MetFree l y (head1 [Cond.code y bytes maxL ret] rm) (fun a U => a = as' ∧ Z.Warmed39 U.vm ∧ U.heap = h ∧ CHv Z EL U.vm h) (fun _ _ _ _ _ => True) (fun _ U o U' => ∃ v L, o = .returned v ∧ Q v U'.heap U'.vm L ∧ CHr Z EL U.vm U.heap U'.vm U'.heap ∧ ReturnedEndW U o U' L rm.cells rm.slots))
    (hZ : Z.Warmed39 vm0) (wc : (Cond.code y bytes maxL ret).before a0 Z = true) (wz : (Cond.initialized y.cls).before a0 Z = true) (hf : rm.frames + 1 ≤ R.frames) (hl : W + (maxL + 11) + rm.locals ≤ R.locals) (hEL : EW Z a0 EL) (H : CHv Z EL vm0 h) :
    BackS l R p e below (s.setVm vm0) args y len W (fun A a => a = as' ∧ A.U.heap = h ∧ A.cells + rm.cells ≤ R.cells ∧ A.slots + rm.slots ≤ R.slots)
      (fun A _ v B => ∃ L, Q v B.U.heap B.U.vm L ∧ B.locs = A.locs ++ L ∧ B.cells = A.cells + rm.cells ∧ B.slots = A.slots + rm.slots ∧ CHr Z EL vm0 h B.U.vm B.U.heap) := by
  refine BackS.of_freeW (bytes := bytes) (maxL := maxL) (ret := ret) (E := fun _ first o t L k n => k = rm.cells ∧ n = rm.slots ∧ (∃ v, o = .returned v ∧ Q v t.heap t.vm L) ∧ CHr Z EL first.vm first.heap t.vm t.heap) hM hf hl ?_ ?_ (fun _ _ _ _ _ _ _ _ _ => trivial) ?_ ?_
  · intro m meth c A a Y hp
    have hU : Z.Warmed39 A.U.vm := wtrans (s := s.setVm vm0) hZ Y.warmed
    refine ⟨?_, mv hU wc, mv hU wz, hp.2.2.1, hp.2.2.2⟩
    show (Cond.and _ .tt).before a A.U = true
    rw [Cond.before_and, mv hU wc]; rfl
  · intro m meth c A a g mk Y hp
    exact ⟨hp.1, wtrans (s := s.setVm vm0) hZ Y.warmed, hp.2.1, (CHv.at Y hZ hEL H).1⟩
  · rintro _ _ _ _ ⟨v, L, h1, h2, h3, h4⟩
    exact ⟨L, _, _, h4, rfl, rfl, ⟨v, h1, h2⟩, h3⟩
  · rintro m meth c A a g mk v t L k n Y hp _ _ ⟨e1, e2, ⟨v', e3, e4⟩, e5⟩
    cases e3; subst e1 e2
    refine ⟨L, e4, rfl, rfl, rfl, (CHv.at Y hZ hEL H).trans ?_⟩
    rw [← hp.2.1]; exact e5
end Pay
theorem d10_0 : decode jdk_41_method_11_code 0 = .ok (.iload_n 0, 1) := by decide +kernel
theorem d10_1 : decode jdk_41_method_11_code 1 = .ok (.ifCond .lt 8, 3) := by decide +kernel
theorem d10_4 : decode jdk_41_method_11_code 4 = .ok (.iload_n 0, 1) := by decide +kernel
theorem d10_5 : decode jdk_41_method_11_code 5 = .ok (.iload_n 1, 1) := by decide +kernel
theorem d10_6 : decode jdk_41_method_11_code 6 = .ok (.if_icmp .lt 10, 3) := by decide +kernel
theorem d10_16 : decode jdk_41_method_11_code 16 = .ok (.iload_n 0, 1) := by decide +kernel
theorem d10_17 : decode jdk_41_method_11_code 17 = .ok (.ireturn, 1) := by decide +kernel
theorem pn_10 : plainName "jdk/internal/util/Preconditions" = true := by first | (simp [plainName, overriddenIn]; done) | decide +kernel
theorem ef_rmPn (m : MethodId) (p1 : Int32) (p2 : Int32) : entryFrame m #[(.int p1), (.int p2), .null] 3 = mkF m 0 #[iv p1, iv p2, .val .null] [] := by first | (simp [entryFrame, mkF, argsToLocals, Value.category]; done) | rfl
def fPn (p1 : Int32) (p2 : Int32)  : Int32 := p1
set_option maxRecDepth 65536 in
set_option maxHeartbeats 40000000 in
theorem rmPn (l : Launch) (Z : State) (a0 : Array Value) (hw : ∀ d ∈ tables_1, d.before a0 Z = true) (ws : List Jvm.Cond) (p1 : Int32) (p2 : Int32)  (h0 : Heap) (n0 : Nat) (Z0 : n0 ≤ h0.size) (hlo : ¬ (p1 < (0 : Int32))) (hhi : p1 < p2) :
    MetFree l (⟨"jdk/internal/util/Preconditions", "checkIndex", "(IILjava/util/function/BiFunction;)I"⟩ : MethodName) (head1 (Jvm.Cond.code (⟨"jdk/internal/util/Preconditions", "checkIndex", "(IILjava/util/function/BiFunction;)I"⟩ : MethodName) jdk_41_method_11_code 3 (some .int) :: ws) ({ frames := 0, cells := 0, slots := 0, locals := 0 } : Room)) (fun a U => a = #[(.int p1), (.int p2), .null] ∧ Z.Warmed39 U.vm ∧ U.heap = h0) (fun _ _ _ _ _ => True) (fun _ U o U' => ∃ v L, o = .returned v ∧ QI (fPn p1 p2) h0 n0 v U'.heap L ∧ FrameEnd U o U' L ({ frames := 0, cells := 0, slots := 0, locals := 0 } : Room).cells ({ frames := 0, cells := 0, slots := 0, locals := 0 } : Room).slots) := by
  refine MetFree.of_bodySF (plainFor_of_name pn_10) hisR ?_
  intro p e s m args below meth c s₁ Bd hml0 hP hK
  obtain ⟨rfl, hZ, hh⟩ := hP
  have hx := Bd.exec
  have hby := Bd.bytes
  have hml : c.maxLocals = 3 := hml0
  have hown : s.vm.findClass "jdk/internal/util/Preconditions" = some m.cls := findClass_of_methodNamed Bd.named
  have hnm := (name_of_methodNamed Bd.named Bd.method).1
  have X0 : Stand p l e ({ frames := 0, cells := 0, slots := 0, locals := 0 } : Room) s m #[(.int p1), (.int p2), .null] below meth c s₁ [] 0 0 := Stand.of_body Bd
  have e0 : s₁.heap = h0 := by rw [← hh, Bd.state]; rfl
  have N0 := Fr.nil n0
  obtain ⟨B, hB, pre0⟩ : ∃ B : State → Prop, (∀ t, B t → Steps p.tables e below (s₁.setTop (entryFrame m #[(.int p1), (.int p2), .null] 3)) t) ∧ ∀ t, SS p e below m s₁ 0 #[iv p1, iv p2, .val .null] [] t → B t := ⟨_, fun _ q => q, fun t kk => castTop (ef_rmPn m p1 p2) kk⟩
  have pre1 : ∀ t, SS p e below m s₁ 17 #[iv p1, iv p2, .val .null] [(.int p1)] t → B t := fun t kk => pre0 t (by
    show SS p e below m s₁ 0 #[iv p1, iv p2, .val .null] [] _
    refine XS.iloadN X0.here hx rfl (hb hby d10_0) rfl ?_
    refine XS.ifNo X0.here hx rfl (hb hby d10_1) rfl ((if0 _ _).trans (flt hlo).1) ?_
    refine XS.iloadN X0.here hx rfl (hb hby d10_4) rfl ?_
    show SS p e below m s₁ 5 #[iv p1, iv p2, .val .null] [(.int p1)] _
    refine XS.iloadN X0.here hx rfl (hb hby d10_5) rfl ?_
    refine XS.icmpYes X0.here hx rfl (pc0 := 6) (pc' := 16) rfl (hb hby d10_6) rfl (tlt hhi).1 (by decide) (by decide) ?_
    refine XS.iloadN X0.here hx rfl (hb hby d10_16) rfl ?_
    show SS p e below m s₁ 17 #[iv p1, iv p2, .val .null] [(.int p1)] _
    exact kk)
  obtain ⟨fs, hr, hrun, hended, hW, hsame⟩ := X0.leave (v := some (.int p1)) (fun h => by rw [Bd.returns] at h; cases h)
  refine ⟨_, _, hB _ (pre1 _ ?_), hrun, hended, _, _, rfl, ?_, ⟨_, rfl⟩, hW, hsame.mono (by decide) (by decide)⟩
  · exact retI X0 hx Bd.returns (hb hby d10_17) hr
  · exact ⟨by show _ = some (Value.int (fPn p1 p2)); rw [fPn], N0, e0⟩
theorem ef_rmPr (m : MethodId) (p1 : Int32) (p2 : Int32) (a3 : Addr) : entryFrame m #[(.int p1), (.int p2), (.ref a3)] 3 = mkF m 0 #[iv p1, iv p2, rv a3] [] := by first | (simp [entryFrame, mkF, argsToLocals, Value.category]; done) | rfl
def fPr (p1 : Int32) (p2 : Int32)  : Int32 := p1
set_option maxRecDepth 65536 in
set_option maxHeartbeats 40000000 in
theorem rmPr (l : Launch) (Z : State) (a0 : Array Value) (hw : ∀ d ∈ tables_1, d.before a0 Z = true) (ws : List Jvm.Cond) (p1 : Int32) (p2 : Int32) (a3 : Addr)  (h0 : Heap) (n0 : Nat) (Z0 : n0 ≤ h0.size) (hlo : ¬ (p1 < (0 : Int32))) (hhi : p1 < p2) :
    MetFree l (⟨"jdk/internal/util/Preconditions", "checkIndex", "(IILjava/util/function/BiFunction;)I"⟩ : MethodName) (head1 (Jvm.Cond.code (⟨"jdk/internal/util/Preconditions", "checkIndex", "(IILjava/util/function/BiFunction;)I"⟩ : MethodName) jdk_41_method_11_code 3 (some .int) :: ws) ({ frames := 0, cells := 0, slots := 0, locals := 0 } : Room)) (fun a U => a = #[(.int p1), (.int p2), (.ref a3)] ∧ Z.Warmed39 U.vm ∧ U.heap = h0) (fun _ _ _ _ _ => True) (fun _ U o U' => ∃ v L, o = .returned v ∧ QI (fPr p1 p2) h0 n0 v U'.heap L ∧ FrameEnd U o U' L ({ frames := 0, cells := 0, slots := 0, locals := 0 } : Room).cells ({ frames := 0, cells := 0, slots := 0, locals := 0 } : Room).slots) := by
  refine MetFree.of_bodySF (plainFor_of_name pn_10) hisR ?_
  intro p e s m args below meth c s₁ Bd hml0 hP hK
  obtain ⟨rfl, hZ, hh⟩ := hP
  have hx := Bd.exec
  have hby := Bd.bytes
  have hml : c.maxLocals = 3 := hml0
  have hown : s.vm.findClass "jdk/internal/util/Preconditions" = some m.cls := findClass_of_methodNamed Bd.named
  have hnm := (name_of_methodNamed Bd.named Bd.method).1
  have X0 : Stand p l e ({ frames := 0, cells := 0, slots := 0, locals := 0 } : Room) s m #[(.int p1), (.int p2), (.ref a3)] below meth c s₁ [] 0 0 := Stand.of_body Bd
  have e0 : s₁.heap = h0 := by rw [← hh, Bd.state]; rfl
  have N0 := Fr.nil n0
  obtain ⟨B, hB, pre0⟩ : ∃ B : State → Prop, (∀ t, B t → Steps p.tables e below (s₁.setTop (entryFrame m #[(.int p1), (.int p2), (.ref a3)] 3)) t) ∧ ∀ t, SS p e below m s₁ 0 #[iv p1, iv p2, rv a3] [] t → B t := ⟨_, fun _ q => q, fun t kk => castTop (ef_rmPr m p1 p2 a3) kk⟩
  have pre1 : ∀ t, SS p e below m s₁ 17 #[iv p1, iv p2, rv a3] [(.int p1)] t → B t := fun t kk => pre0 t (by
    show SS p e below m s₁ 0 #[iv p1, iv p2, rv a3] [] _
    refine XS.iloadN X0.here hx rfl (hb hby d10_0) rfl ?_
    refine XS.ifNo X0.here hx rfl (hb hby d10_1) rfl ((if0 _ _).trans (flt hlo).1) ?_
    refine XS.iloadN X0.here hx rfl (hb hby d10_4) rfl ?_
    show SS p e below m s₁ 5 #[iv p1, iv p2, rv a3] [(.int p1)] _
    refine XS.iloadN X0.here hx rfl (hb hby d10_5) rfl ?_
    refine XS.icmpYes X0.here hx rfl (pc0 := 6) (pc' := 16) rfl (hb hby d10_6) rfl (tlt hhi).1 (by decide) (by decide) ?_
    refine XS.iloadN X0.here hx rfl (hb hby d10_16) rfl ?_
    show SS p e below m s₁ 17 #[iv p1, iv p2, rv a3] [(.int p1)] _
    exact kk)
  obtain ⟨fs, hr, hrun, hended, hW, hsame⟩ := X0.leave (v := some (.int p1)) (fun h => by rw [Bd.returns] at h; cases h)
  refine ⟨_, _, hB _ (pre1 _ ?_), hrun, hended, _, _, rfl, ?_, ⟨_, rfl⟩, hW, hsame.mono (by decide) (by decide)⟩
  · exact retI X0 hx Bd.returns (hb hby d10_17) hr
  · exact ⟨by show _ = some (Value.int (fPr p1 p2)); rw [fPr], N0, e0⟩
theorem d9_0 : decode jdk_42_method_155_code 0 = .ok (.iload_n 0, 1) := by decide +kernel
theorem d9_1 : decode jdk_42_method_155_code 1 = .ok (.iload_n 1, 1) := by decide +kernel
theorem d9_2 : decode jdk_42_method_155_code 2 = .ok (.getstatic 1053, 3) := by decide +kernel
theorem d9_5 : decode jdk_42_method_155_code 5 = .ok (.invokestatic 1059, 3) := by decide +kernel
theorem d9_8 : decode jdk_42_method_155_code 8 = .ok (.pop, 1) := by decide +kernel
theorem d9_9 : decode jdk_42_method_155_code 9 = .ok (.return_, 1) := by decide +kernel
theorem pn_9 : plainName "java/lang/String" = true := by first | (simp [plainName, overriddenIn]; done) | decide +kernel
theorem pd_0 : parseMethodDescriptor "(IILjava/util/function/BiFunction;)I" = some ⟨[.int, .int, (.object "java/util/function/BiFunction")], some .int⟩ := by decide +kernel
theorem ef_9 (m : MethodId) (p1 : Int32) (p2 : Int32) : entryFrame m #[(.int p1), (.int p2)] 2 = mkF m 0 #[iv p1, iv p2] [] := by first | (simp [entryFrame, mkF, argsToLocals, Value.category]; done) | rfl
set_option maxRecDepth 65536 in
set_option maxHeartbeats 40000000 in
theorem rm9 (l : Launch) (Z : State) (a0 : Array Value) (hw : ∀ d ∈ tables_1, d.before a0 Z = true) (ws : List Jvm.Cond) (p1 : Int32) (p2 : Int32) (fm : Value) (h0 : Heap) (n0 : Nat) (Z0 : n0 ≤ h0.size) (Sfm : Sta Z h0 "jdk/internal/util/Preconditions" "SIOOBE_FORMATTER" "Ljava/util/function/BiFunction;" fm) (hfm : fm.isRef = true) (hlo : ¬ (p1 < (0 : Int32))) (hhi : p1 < p2) :
    MetFree l (⟨"java/lang/String", "checkIndex", "(II)V"⟩ : MethodName) (head1 (Jvm.Cond.code (⟨"java/lang/String", "checkIndex", "(II)V"⟩ : MethodName) jdk_42_method_155_code 2 none :: ws) ({ frames := 1, cells := 0, slots := 0, locals := 14 } : Room)) (fun a U => a = #[(.int p1), (.int p2)] ∧ Z.Warmed39 U.vm ∧ U.heap = h0) (fun _ _ _ _ _ => True) (fun _ U o U' => ∃ v L, o = .returned v ∧ QV h0 n0 v U'.heap L ∧ FrameEnd U o U' L ({ frames := 1, cells := 0, slots := 0, locals := 14 } : Room).cells ({ frames := 1, cells := 0, slots := 0, locals := 14 } : Room).slots) := by
  refine MetFree.of_bodySF (plainFor_of_name pn_9) hisR ?_
  intro p e s m args below meth c s₁ Bd hml0 hP hK
  obtain ⟨rfl, hZ, hh⟩ := hP
  have hx := Bd.exec
  have hby := Bd.bytes
  have hml : c.maxLocals = 2 := hml0
  have hown : s.vm.findClass "java/lang/String" = some m.cls := findClass_of_methodNamed Bd.named
  have hnm := (name_of_methodNamed Bd.named Bd.method).1
  have X0 : Stand p l e ({ frames := 1, cells := 0, slots := 0, locals := 14 } : Room) s m #[(.int p1), (.int p2)] below meth c s₁ [] 0 0 := Stand.of_body Bd
  have e0 : s₁.heap = h0 := by rw [← hh, Bd.state]; rfl
  have N0 := Fr.nil n0
  obtain ⟨B, hB, pre0⟩ : ∃ B : State → Prop, (∀ t, B t → Steps p.tables e below (s₁.setTop (entryFrame m #[(.int p1), (.int p2)] 2)) t) ∧ ∀ t, SS p e below m s₁ 0 #[iv p1, iv p2] [] t → B t := ⟨_, fun _ q => q, fun t kk => castTop (ef_9 m p1 p2) kk⟩
  have pre1 : ∀ t, SS p e below m s₁ 2 #[iv p1, iv p2] [(.int p2), (.int p1)] t → B t := fun t kk => pre0 t (by
    show SS p e below m s₁ 0 #[iv p1, iv p2] [] _
    refine XS.iloadN X0.here hx rfl (hb hby d9_0) rfl ?_
    refine XS.iloadN X0.here hx rfl (hb hby d9_1) rfl ?_
    exact kk)
  rcases ref_cases hfm with rfl | ⟨fa, rfl⟩
  · obtain ⟨T2, X2, e2, st2⟩ := getS2 X0 hx hZ hown (host := "") (Or.inl (hw _ (List.mem_of_getElem? (i := 48) rfl))) Via.refl e0 Sfm (g := (mkF m 2 #[iv p1, iv p2] [(.int p2), (.int p1)])) rfl (hb hby d9_2)
    have pre3 : ∀ t, SS p e below m T2 5 #[iv p1, iv p2] [.null, (.int p2), (.int p1)] t → B t := fun t kk => pre1 t (by
      refine st2 _ ?_
      exact kk)
    obtain ⟨_, _, ⟨T4, L4, k4, n4⟩, -, X4, ⟨Lc4, hQ4, l4, y4, z4⟩, st4⟩ := Jvm.LawKit.callS X2 hx (y := (⟨"jdk/internal/util/Preconditions", "checkIndex", "(IILjava/util/function/BiFunction;)I"⟩ : MethodName)) hown (mvT hZ (hw _ (List.mem_of_getElem? (i := 50) rfl))) (mvT hZ (hw _ (List.mem_of_getElem? (i := 51) rfl))) (mvT hZ (hw _ (List.mem_of_getElem? (i := 49) rfl))) (mvT hZ (hw _ (List.mem_of_getElem? (i := 52) rfl))) (by decide) (backOf (W := 0) (rmPn l Z a0 hw [] p1 p2 h0 n0 Z0 hlo hhi) hZ (hw _ (List.mem_of_getElem? (i := 52) rfl)) (hw _ (List.mem_of_getElem? (i := 49) rfl)) (by decide) (by decide)) (g := (mkF m 5 #[iv p1, iv p2] [.null, (.int p2), (.int p1)])) rfl (by rw [hml]; rfl) (argsL := [(.int p1), (.int p2), .null]) (rest := []) (lenOf pd_0 rfl) rfl (by show 2 * 0 + _ ≤ _; exact Nat.le_of_eq rfl) (hb hby d9_5) (fun _ _ => ⟨rfl, e2, (by decide : 0 + 0 ≤ _), (by decide : 0 + 0 ≤ _)⟩)
    dsimp only [Pt.U, Pt.locs, Pt.cells, Pt.slots] at X4 l4 y4 z4 st4 hQ4
    subst l4 y4 z4
    obtain ⟨rfl, N4q, e4⟩ := hQ4
    have N4 := Fr.app N0 N4q
    have pre5 : ∀ t, SS p e below m T4 9 #[iv p1, iv p2] [] t → B t := fun t kk => pre3 t (by
      refine st4 _ ?_
      refine XS.pop X4.here hx rfl (hb hby d9_8) rfl rfl ?_
      exact kk)
    obtain ⟨fs, hr, hrun, hended, hW, hsame⟩ := X4.leave (v := none) (fun _ => rfl)
    refine ⟨_, _, hB _ (pre5 _ ?_), hrun, hended, _, _, rfl, ?_, ⟨_, rfl⟩, hW, hsame.mono (by decide) (by decide)⟩
    · exact X4.returnOut hx Bd.returns (hb hby d9_9) hr
    · exact ⟨rfl, N4, e4⟩
  · obtain ⟨T6, X6, e6, st6⟩ := getS2 X0 hx hZ hown (host := "") (Or.inl (hw _ (List.mem_of_getElem? (i := 48) rfl))) Via.refl e0 Sfm (g := (mkF m 2 #[iv p1, iv p2] [(.int p2), (.int p1)])) rfl (hb hby d9_2)
    have pre7 : ∀ t, SS p e below m T6 5 #[iv p1, iv p2] [(.ref fa), (.int p2), (.int p1)] t → B t := fun t kk => pre1 t (by
      refine st6 _ ?_
      exact kk)
    obtain ⟨_, _, ⟨T8, L8, k8, n8⟩, -, X8, ⟨Lc8, hQ8, l8, y8, z8⟩, st8⟩ := Jvm.LawKit.callS X6 hx (y := (⟨"jdk/internal/util/Preconditions", "checkIndex", "(IILjava/util/function/BiFunction;)I"⟩ : MethodName)) hown (mvT hZ (hw _ (List.mem_of_getElem? (i := 50) rfl))) (mvT hZ (hw _ (List.mem_of_getElem? (i := 51) rfl))) (mvT hZ (hw _ (List.mem_of_getElem? (i := 49) rfl))) (mvT hZ (hw _ (List.mem_of_getElem? (i := 52) rfl))) (by decide) (backOf (W := 0) (rmPr l Z a0 hw [] p1 p2 fa h0 n0 Z0 hlo hhi) hZ (hw _ (List.mem_of_getElem? (i := 52) rfl)) (hw _ (List.mem_of_getElem? (i := 49) rfl)) (by decide) (by decide)) (g := (mkF m 5 #[iv p1, iv p2] [(.ref fa), (.int p2), (.int p1)])) rfl (by rw [hml]; rfl) (argsL := [(.int p1), (.int p2), (.ref fa)]) (rest := []) (lenOf pd_0 rfl) rfl (by show 2 * 0 + _ ≤ _; exact Nat.le_of_eq rfl) (hb hby d9_5) (fun _ _ => ⟨rfl, e6, (by decide : 0 + 0 ≤ _), (by decide : 0 + 0 ≤ _)⟩)
    dsimp only [Pt.U, Pt.locs, Pt.cells, Pt.slots] at X8 l8 y8 z8 st8 hQ8
    subst l8 y8 z8
    obtain ⟨rfl, N8q, e8⟩ := hQ8
    have N8 := Fr.app N0 N8q
    have pre9 : ∀ t, SS p e below m T8 9 #[iv p1, iv p2] [] t → B t := fun t kk => pre7 t (by
      refine st8 _ ?_
      refine XS.pop X8.here hx rfl (hb hby d9_8) rfl rfl ?_
      exact kk)
    obtain ⟨fs, hr, hrun, hended, hW, hsame⟩ := X8.leave (v := none) (fun _ => rfl)
    refine ⟨_, _, hB _ (pre9 _ ?_), hrun, hended, _, _, rfl, ?_, ⟨_, rfl⟩, hW, hsame.mono (by decide) (by decide)⟩
    · exact X8.returnOut hx Bd.returns (hb hby d9_9) hr
    · exact ⟨rfl, N8, e8⟩
theorem d8_0 : decode jdk_43_method_2_code 0 = .ok (.iload_n 1, 1) := by decide +kernel
theorem d8_1 : decode jdk_43_method_2_code 1 = .ok (.aload_n 0, 1) := by decide +kernel
theorem d8_2 : decode jdk_43_method_2_code 2 = .ok (.arraylength, 1) := by decide +kernel
theorem d8_3 : decode jdk_43_method_2_code 3 = .ok (.invokestatic 9, 3) := by decide +kernel
theorem d8_6 : decode jdk_43_method_2_code 6 = .ok (.aload_n 0, 1) := by decide +kernel
theorem d8_7 : decode jdk_43_method_2_code 7 = .ok (.iload_n 1, 1) := by decide +kernel
theorem d8_8 : decode jdk_43_method_2_code 8 = .ok (.baload, 1) := by decide +kernel
theorem d8_9 : decode jdk_43_method_2_code 9 = .ok (.sipush 255, 3) := by decide +kernel
theorem d8_12 : decode jdk_43_method_2_code 12 = .ok (.iand, 1) := by decide +kernel
theorem d8_13 : decode jdk_43_method_2_code 13 = .ok (.i2c, 1) := by decide +kernel
theorem d8_14 : decode jdk_43_method_2_code 14 = .ok (.ireturn, 1) := by decide +kernel
theorem pn_8 : plainName "java/lang/StringLatin1" = true := by first | (simp [plainName, overriddenIn]; done) | decide +kernel
theorem pd_1 : parseMethodDescriptor "(II)V" = some ⟨[.int, .int], none⟩ := by decide +kernel
theorem ef_8 (m : MethodId) (a1 : Addr) (p2 : Int32) : entryFrame m #[(.ref a1), (.int p2)] 2 = mkF m 0 #[rv a1, iv p2] [] := by first | (simp [entryFrame, mkF, argsToLocals, Value.category]; done) | rfl
def f8 (p2 : Int32) (vs : List Int32) : Int32 := (nar .char (((vs.getD (p2).toNatClampNeg 0) &&& (255 : Int32)).toUInt32.toUInt16.toUInt32.toInt32))
set_option maxRecDepth 65536 in
set_option maxHeartbeats 40000000 in
theorem rm8 (l : Launch) (Z : State) (a0 : Array Value) (hw : ∀ d ∈ tables_1, d.before a0 Z = true) (ws : List Jvm.Cond) (a1 : Addr) (p2 : Int32) (fm : Value) (kb : ClassId) (zn : Int32) (vs : List Int32) (h0 : Heap) (n0 : Nat) (Z0 : n0 ≤ h0.size) (Sfm : Sta Z h0 "jdk/internal/util/Preconditions" "SIOOBE_FORMATTER" "Ljava/util/function/BiFunction;" fm) (hfm : fm.isRef = true) (V_a1 : Arv Z h0 a1 kb .byte zn (vs.map Value.int) (.int (0 : Int32))) (hlo : ¬ (p2 < (0 : Int32))) (hhi : p2 < zn) :
    MetFree l (⟨"java/lang/StringLatin1", "charAt", "([BI)C"⟩ : MethodName) (head1 (Jvm.Cond.code (⟨"java/lang/StringLatin1", "charAt", "([BI)C"⟩ : MethodName) jdk_43_method_2_code 2 (some .char) :: ws) ({ frames := 2, cells := 0, slots := 0, locals := 27 } : Room)) (fun a U => a = #[(.ref a1), (.int p2)] ∧ Z.Warmed39 U.vm ∧ U.heap = h0) (fun _ _ _ _ _ => True) (fun _ U o U' => ∃ v L, o = .returned v ∧ QI (f8 p2 vs) h0 n0 v U'.heap L ∧ FrameEnd U o U' L ({ frames := 2, cells := 0, slots := 0, locals := 27 } : Room).cells ({ frames := 2, cells := 0, slots := 0, locals := 27 } : Room).slots) := by
  refine MetFree.of_bodySF (plainFor_of_name pn_8) hisR ?_
  intro p e s m args below meth c s₁ Bd hml0 hP hK
  obtain ⟨rfl, hZ, hh⟩ := hP
  have hx := Bd.exec
  have hby := Bd.bytes
  have hml : c.maxLocals = 2 := hml0
  have hown : s.vm.findClass "java/lang/StringLatin1" = some m.cls := findClass_of_methodNamed Bd.named
  have hnm := (name_of_methodNamed Bd.named Bd.method).1
  have X0 : Stand p l e ({ frames := 2, cells := 0, slots := 0, locals := 27 } : Room) s m #[(.ref a1), (.int p2)] below meth c s₁ [] 0 0 := Stand.of_body Bd
  have e0 : s₁.heap = h0 := by rw [← hh, Bd.state]; rfl
  have N0 := Fr.nil n0
  obtain ⟨B, hB, pre0⟩ : ∃ B : State → Prop, (∀ t, B t → Steps p.tables e below (s₁.setTop (entryFrame m #[(.ref a1), (.int p2)] 2)) t) ∧ ∀ t, SS p e below m s₁ 0 #[rv a1, iv p2] [] t → B t := ⟨_, fun _ q => q, fun t kk => castTop (ef_8 m a1 p2) kk⟩
  have pre1 : ∀ t, SS p e below m s₁ 2 #[rv a1, iv p2] [(.ref a1), (.int p2)] t → B t := fun t kk => pre0 t (by
    show SS p e below m s₁ 0 #[rv a1, iv p2] [] _
    refine XS.iloadN X0.here hx rfl (hb hby d8_0) rfl ?_
    refine XS.aloadN X0.here hx rfl (hb hby d8_1) rfl rfl ?_
    exact kk)
  obtain ⟨cl2, Ar2, -, S2, M2, -, -⟩ := id V_a1
  have pre3 : ∀ t, SS p e below m s₁ 3 #[rv a1, iv p2] [(.int zn), (.int p2)] t → B t := fun t kk => pre1 t (by
    refine X0.arraylength hx (by rw [e0]; exact Ar2.1) (State.isArrayOf_alike hZ.alike Ar2.2.1) (g := (mkF m 2 #[rv a1, iv p2] [(.ref a1), (.int p2)])) rfl rfl (hb hby d8_2) _ ?_
    rw [len_of S2 M2]
    exact kk)
  obtain ⟨_, _, ⟨T4, L4, k4, n4⟩, -, X4, ⟨Lc4, hQ4, l4, y4, z4⟩, st4⟩ := Jvm.LawKit.callS X0 hx (y := (⟨"java/lang/String", "checkIndex", "(II)V"⟩ : MethodName)) hown (mvT hZ (hw _ (List.mem_of_getElem? (i := 45) rfl))) (mvT hZ (hw _ (List.mem_of_getElem? (i := 46) rfl))) (mvT hZ (hw _ (List.mem_of_getElem? (i := 21) rfl))) (mvT hZ (hw _ (List.mem_of_getElem? (i := 47) rfl))) (by decide) (backOf (W := 0) (rm9 l Z a0 hw [] p2 zn fm h0 n0 Z0 Sfm hfm hlo hhi) hZ (hw _ (List.mem_of_getElem? (i := 47) rfl)) (hw _ (List.mem_of_getElem? (i := 21) rfl)) (by decide) (by decide)) (g := (mkF m 3 #[rv a1, iv p2] [(.int zn), (.int p2)])) rfl (by rw [hml]; rfl) (argsL := [(.int p2), (.int zn)]) (rest := []) (lenOf pd_1 rfl) rfl (by show 2 * 0 + _ ≤ _; exact Nat.le_of_eq rfl) (hb hby d8_3) (fun _ _ => ⟨rfl, e0, (by decide : 0 + 0 ≤ _), (by decide : 0 + 0 ≤ _)⟩)
  dsimp only [Pt.U, Pt.locs, Pt.cells, Pt.slots] at X4 l4 y4 z4 st4 hQ4
  subst l4 y4 z4
  obtain ⟨rfl, N4q, e4⟩ := hQ4
  have N4 := Fr.app N0 N4q
  have pre5 : ∀ t, SS p e below m T4 8 #[rv a1, iv p2] [(.int p2), (.ref a1)] t → B t := fun t kk => pre3 t (by
    refine st4 _ ?_
    refine XS.aloadN X4.here hx rfl (hb hby d8_6) rfl rfl ?_
    refine XS.iloadN X4.here hx rfl (hb hby d8_7) rfl ?_
    show SS p e below m T4 8 #[rv a1, iv p2] [(.int p2), (.ref a1)] _
    exact kk)
  obtain ⟨cl6, Ar6, -, S6, -, H6, -⟩ := id V_a1
  have hin6 : ¬ (p2 < 0 ∨ cl6.slots.size ≤ (p2).toNatClampNeg) := inb_of S6 ⟨hlo, hhi⟩
  have hat6 : cl6.slots[(p2).toNatClampNeg]? = some (.int (vs.getD (p2).toNatClampNeg 0)) := by
    rw [H6 _ (Nat.lt_of_not_le fun q => hin6 (Or.inr q))]; exact congrArg some (own_getD vs _ 0)
  have pre7 : ∀ t, SS p e below m T4 14 #[rv a1, iv p2] [(.int (((vs.getD (p2).toNatClampNeg 0) &&& (255 : Int32)).toUInt32.toUInt16.toUInt32.toInt32))] t → B t := fun t kk => pre5 t (by
    refine X4.baloadBytes hx (j := p2) (v := (.int (vs.getD (p2).toNatClampNeg 0))) (by rw [e4]; exact Ar6.1) (State.isArrayOf_alike hZ.alike Ar6.2.1) Ar6.2.2 hin6 hat6 (g := (mkF m 8 #[rv a1, iv p2] [(.int p2), (.ref a1)])) rfl rfl (hb hby d8_8) _ ?_
    refine XS.sipush X4.here hx rfl (hb hby d8_9) ?_
    refine XS.iand X4.here hx rfl (hb hby d8_12) rfl ?_
    show SS p e below m T4 13 #[rv a1, iv p2] [(.int ((vs.getD (p2).toNatClampNeg 0) &&& (255 : Int32)))] _
    refine XS.i2c X4.here hx rfl (hb hby d8_13) rfl ?_
    exact kk)
  obtain ⟨fs, hr, hrun, hended, hW, hsame⟩ := X4.leave (v := some (.int (nar .char (((vs.getD (p2).toNatClampNeg 0) &&& (255 : Int32)).toUInt32.toUInt16.toUInt32.toInt32)))) (fun h => by rw [Bd.returns] at h; cases h)
  refine ⟨_, _, hB _ (pre7 _ ?_), hrun, hended, _, _, rfl, ?_, ⟨_, rfl⟩, hW, hsame.mono (by decide) (by decide)⟩
  · exact retN X4 hx (t := .char) Bd.returns (by simp) (hb hby d8_14) hr
  · exact ⟨by show _ = some (Value.int (f8 p2 vs)); rw [f8], N4, e4⟩
theorem d7_0 : decode jdk_42_method_154_code 0 = .ok (.getstatic 38, 3) := by decide +kernel
theorem d7_3 : decode jdk_42_method_154_code 3 = .ok (.ifCond .eq 14, 3) := by decide +kernel
theorem d7_6 : decode jdk_42_method_154_code 6 = .ok (.aload_n 0, 1) := by decide +kernel
theorem d7_7 : decode jdk_42_method_154_code 7 = .ok (.getfield 15, 3) := by decide +kernel
theorem d7_10 : decode jdk_42_method_154_code 10 = .ok (.ifCond .ne 7, 3) := by decide +kernel
theorem d7_13 : decode jdk_42_method_154_code 13 = .ok (.iconst 1, 1) := by decide +kernel
theorem d7_14 : decode jdk_42_method_154_code 14 = .ok (.goto 4, 3) := by decide +kernel
theorem d7_18 : decode jdk_42_method_154_code 18 = .ok (.ireturn, 1) := by decide +kernel
theorem pn_7 : plainName "java/lang/String" = true := by first | (simp [plainName, overriddenIn]; done) | decide +kernel
theorem ef_7 (m : MethodId) (a1 : Addr) : entryFrame m #[(.ref a1)] 1 = mkF m 0 #[rv a1] [] := by first | (simp [entryFrame, mkF, argsToLocals, Value.category]; done) | rfl
def f7   : Int32 := (1 : Int32)
set_option maxRecDepth 65536 in
set_option maxHeartbeats 40000000 in
theorem rm7 (l : Launch) (Z : State) (a0 : Array Value) (hw : ∀ d ∈ tables_1, d.before a0 Z = true) (ws : List Jvm.Cond) (a1 : Addr) (cz : Int32) (h0 : Heap) (n0 : Nat) (Z0 : n0 ≤ h0.size) (Scs : Sta Z h0 "java/lang/String" "COMPACT_STRINGS" "Z" (.int cz)) (hcz : ¬ (cz = (0 : Int32))) (F_coder : Fld Z h0 a1 "java/lang/String" "coder" "B" (.int (0 : Int32))) :
    MetFree l (⟨"java/lang/String", "isLatin1", "()Z"⟩ : MethodName) (head1 (Jvm.Cond.code (⟨"java/lang/String", "isLatin1", "()Z"⟩ : MethodName) jdk_42_method_154_code 1 (some .boolean) :: ws) ({ frames := 0, cells := 0, slots := 0, locals := 0 } : Room)) (fun a U => a = #[(.ref a1)] ∧ Z.Warmed39 U.vm ∧ U.heap = h0) (fun _ _ _ _ _ => True) (fun _ U o U' => ∃ v L, o = .returned v ∧ QI f7 h0 n0 v U'.heap L ∧ FrameEnd U o U' L ({ frames := 0, cells := 0, slots := 0, locals := 0 } : Room).cells ({ frames := 0, cells := 0, slots := 0, locals := 0 } : Room).slots) := by
  refine MetFree.of_bodySF (plainFor_of_name pn_7) hisR ?_
  intro p e s m args below meth c s₁ Bd hml0 hP hK
  obtain ⟨rfl, hZ, hh⟩ := hP
  have hx := Bd.exec
  have hby := Bd.bytes
  have hml : c.maxLocals = 1 := hml0
  have hown : s.vm.findClass "java/lang/String" = some m.cls := findClass_of_methodNamed Bd.named
  have hnm := (name_of_methodNamed Bd.named Bd.method).1
  have X0 : Stand p l e ({ frames := 0, cells := 0, slots := 0, locals := 0 } : Room) s m #[(.ref a1)] below meth c s₁ [] 0 0 := Stand.of_body Bd
  have e0 : s₁.heap = h0 := by rw [← hh, Bd.state]; rfl
  have N0 := Fr.nil n0
  obtain ⟨B, hB, pre0⟩ : ∃ B : State → Prop, (∀ t, B t → Steps p.tables e below (s₁.setTop (entryFrame m #[(.ref a1)] 1)) t) ∧ ∀ t, SS p e below m s₁ 0 #[rv a1] [] t → B t := ⟨_, fun _ q => q, fun t kk => castTop (ef_7 m a1) kk⟩
  have pre1 : ∀ t, SS p e below m s₁ 0 #[rv a1] [] t → B t := fun t kk => pre0 t (by
    show SS p e below m s₁ 0 #[rv a1] [] _
    exact kk)
  obtain ⟨T2, X2, e2, st2⟩ := getS2 X0 hx hZ hown (host := "") (Or.inl (hw _ (List.mem_of_getElem? (i := 38) rfl))) Via.refl e0 Scs (g := (mkF m 0 #[rv a1] [])) rfl (hb hby d7_0)
  have pre3 : ∀ t, SS p e below m T2 7 #[rv a1] [(.ref a1)] t → B t := fun t kk => pre1 t (by
    refine st2 _ ?_
    refine XS.ifNo X2.here hx rfl (hb hby d7_3) rfl ((if0 _ _).trans (feq hcz).1) ?_
    refine XS.aloadN X2.here hx rfl (hb hby d7_6) rfl rfl ?_
    show SS p e below m T2 7 #[rv a1] [(.ref a1)] _
    exact kk)
  obtain ⟨T4, X4, e4, st4⟩ := getF X2 hx hZ hown (host := "") (Or.inl (hw _ (List.mem_of_getElem? (i := 39) rfl))) Via.refl e2 F_coder (g := (mkF m 7 #[rv a1] [(.ref a1)])) rfl rfl (hb hby d7_7)
  have pre5 : ∀ t, SS p e below m T4 18 #[rv a1] [(.int (1 : Int32))] t → B t := fun t kk => pre3 t (by
    refine st4 _ ?_
    refine XS.ifNo X4.here hx rfl (hb hby d7_10) rfl ((if0 _ _).trans (teq (by decide : ((0 : Int32) = (0 : Int32)))).2) ?_
    refine XS.iconst X4.here hx rfl (hb hby d7_13) ?_
    show SS p e below m T4 14 #[rv a1] [(.int (1 : Int32))] _
    refine XS.goto X4.here hx rfl (pc0 := 14) (pc' := 18) rfl (hb hby d7_14) (by decide) (by decide) ?_
    exact kk)
  obtain ⟨fs, hr, hrun, hended, hW, hsame⟩ := X4.leave (v := some (.int (1 : Int32))) (fun h => by rw [Bd.returns] at h; cases h)
  refine ⟨_, _, hB _ (pre5 _ ?_), hrun, hended, _, _, rfl, ?_, ⟨_, rfl⟩, hW, hsame.mono (by decide) (by decide)⟩
  · exact retN X4 hx (t := .boolean) Bd.returns (by simp) (hb hby d7_18) hr
  · exact ⟨by show _ = some (Value.int f7); rw [f7], N0, e4⟩
theorem own_il : f7 = (1 : Int32) := rfl
theorem d6_0 : decode jdk_42_method_56_code 0 = .ok (.aload_n 0, 1) := by decide +kernel
theorem d6_1 : decode jdk_42_method_56_code 1 = .ok (.invokevirtual 492, 3) := by decide +kernel
theorem d6_4 : decode jdk_42_method_56_code 4 = .ok (.ifCond .eq 12, 3) := by decide +kernel
theorem d6_7 : decode jdk_42_method_56_code 7 = .ok (.aload_n 0, 1) := by decide +kernel
theorem d6_8 : decode jdk_42_method_56_code 8 = .ok (.getfield 9, 3) := by decide +kernel
theorem d6_11 : decode jdk_42_method_56_code 11 = .ok (.iload_n 1, 1) := by decide +kernel
theorem d6_12 : decode jdk_42_method_56_code 12 = .ok (.invokestatic 495, 3) := by decide +kernel
theorem d6_15 : decode jdk_42_method_56_code 15 = .ok (.ireturn, 1) := by decide +kernel
theorem pn_6 : plainName "java/lang/String" = true := by first | (simp [plainName, overriddenIn]; done) | decide +kernel
theorem pd_2 : parseMethodDescriptor "()Z" = some ⟨[], some .boolean⟩ := by decide +kernel
theorem pd_3 : parseMethodDescriptor "([BI)C" = some ⟨[(.array .byte), .int], some .char⟩ := by decide +kernel
theorem ef_6 (m : MethodId) (a1 : Addr) (p2 : Int32) : entryFrame m #[(.ref a1), (.int p2)] 2 = mkF m 0 #[rv a1, iv p2] [] := by first | (simp [entryFrame, mkF, argsToLocals, Value.category]; done) | rfl
def f6 (p2 : Int32) (vs : List Int32) : Int32 := (nar .char (f8 p2 vs))
set_option maxRecDepth 65536 in
set_option maxHeartbeats 40000000 in
theorem rm6 (l : Launch) (Z : State) (a0 : Array Value) (hw : ∀ d ∈ tables_1, d.before a0 Z = true) (ws : List Jvm.Cond) (a1 : Addr) (p2 : Int32) (cz : Int32) (fm : Value) (b : Addr) (kb : ClassId) (zn : Int32) (vs : List Int32) (h0 : Heap) (n0 : Nat) (Z0 : n0 ≤ h0.size) (Scs : Sta Z h0 "java/lang/String" "COMPACT_STRINGS" "Z" (.int cz)) (hcz : ¬ (cz = (0 : Int32))) (Sfm : Sta Z h0 "jdk/internal/util/Preconditions" "SIOOBE_FORMATTER" "Ljava/util/function/BiFunction;" fm) (hfm : fm.isRef = true) (E_a1 : Exa Z h0 a1 "java/lang/String") (F_coder : Fld Z h0 a1 "java/lang/String" "coder" "B" (.int (0 : Int32))) (F_value : Fld Z h0 a1 "java/lang/String" "value" "[B" (.ref b)) (V_b : Arv Z h0 b kb .byte zn (vs.map Value.int) (.int (0 : Int32))) (hlo : ¬ (p2 < (0 : Int32))) (hhi : p2 < zn) :
    MetFree l (⟨"java/lang/String", "charAt", "(I)C"⟩ : MethodName) (head1 (Jvm.Cond.code (⟨"java/lang/String", "charAt", "(I)C"⟩ : MethodName) jdk_42_method_56_code 2 (some .char) :: ws) ({ frames := 3, cells := 0, slots := 0, locals := 40 } : Room)) (fun a U => a = #[(.ref a1), (.int p2)] ∧ Z.Warmed39 U.vm ∧ U.heap = h0) (fun _ _ _ _ _ => True) (fun _ U o U' => ∃ v L, o = .returned v ∧ QI (f6 p2 vs) h0 n0 v U'.heap L ∧ FrameEnd U o U' L ({ frames := 3, cells := 0, slots := 0, locals := 40 } : Room).cells ({ frames := 3, cells := 0, slots := 0, locals := 40 } : Room).slots) := by
  refine MetFree.of_bodySF (plainFor_of_name pn_6) hisR ?_
  intro p e s m args below meth c s₁ Bd hml0 hP hK
  obtain ⟨rfl, hZ, hh⟩ := hP
  have hx := Bd.exec
  have hby := Bd.bytes
  have hml : c.maxLocals = 2 := hml0
  have hown : s.vm.findClass "java/lang/String" = some m.cls := findClass_of_methodNamed Bd.named
  have hnm := (name_of_methodNamed Bd.named Bd.method).1
  have X0 : Stand p l e ({ frames := 3, cells := 0, slots := 0, locals := 40 } : Room) s m #[(.ref a1), (.int p2)] below meth c s₁ [] 0 0 := Stand.of_body Bd
  have e0 : s₁.heap = h0 := by rw [← hh, Bd.state]; rfl
  have N0 := Fr.nil n0
  obtain ⟨B, hB, pre0⟩ : ∃ B : State → Prop, (∀ t, B t → Steps p.tables e below (s₁.setTop (entryFrame m #[(.ref a1), (.int p2)] 2)) t) ∧ ∀ t, SS p e below m s₁ 0 #[rv a1, iv p2] [] t → B t := ⟨_, fun _ q => q, fun t kk => castTop (ef_6 m a1 p2) kk⟩
  have pre1 : ∀ t, SS p e below m s₁ 1 #[rv a1, iv p2] [(.ref a1)] t → B t := fun t kk => pre0 t (by
    show SS p e below m s₁ 0 #[rv a1, iv p2] [] _
    refine XS.aloadN X0.here hx rfl (hb hby d6_0) rfl rfl ?_
    exact kk)
  obtain ⟨cq2, kq2, q2a, q2b, q2c⟩ := isOf hZ e0 E_a1
  obtain ⟨_, _, ⟨T2, L2, k2, n2⟩, -, X2, ⟨Lc2, hQ2, l2, y2, z2⟩, st2⟩ := X0.virtualBack hx (y := (⟨"java/lang/String", "isLatin1", "()Z"⟩ : MethodName)) (z := (⟨"java/lang/String", "isLatin1", "()Z"⟩ : MethodName)) hown (mvT hZ (hw _ (List.mem_of_getElem? (i := 33) rfl))) (mvT hZ (hw _ (List.mem_of_getElem? (i := 34) rfl))) (notFace_of_selects (args := #[]) (mvT hZ (hw _ (List.mem_of_getElem? (i := 36) rfl)))) (mvT hZ (hw _ (List.mem_of_getElem? (i := 36) rfl))) (mvT hZ (hw _ (List.mem_of_getElem? (i := 35) rfl))) (by decide) (backOf (W := 0) (rm7 l Z a0 hw [] a1 cz h0 n0 Z0 Scs hcz F_coder) hZ (hw _ (List.mem_of_getElem? (i := 37) rfl)) (hw _ (List.mem_of_getElem? (i := 21) rfl)) (by decide) (by decide)) q2a q2c (g := (mkF m 1 #[rv a1, iv p2] [(.ref a1)])) rfl (by rw [hml]; rfl) (Steps.refl _) (argsL := []) (rest := []) (lenOf pd_2 rfl) rfl (by show 2 * 0 + _ ≤ _; exact Nat.le_of_eq rfl) (hb hby d6_1) (fun _ _ => ⟨rfl, e0, (by decide : 0 + 0 ≤ _), (by decide : 0 + 0 ≤ _)⟩)
  dsimp only [Pt.U, Pt.locs, Pt.cells, Pt.slots] at X2 l2 y2 z2 st2 hQ2
  subst l2 y2 z2
  obtain ⟨rfl, N2q, e2⟩ := hQ2
  have N2 := Fr.app N0 N2q
  have pre3 : ∀ t, SS p e below m T2 8 #[rv a1, iv p2] [(.ref a1)] t → B t := fun t kk => pre1 t (by
    refine st2.trans ?_
    refine XS.ifNo X2.here hx rfl (hb hby d6_4) rfl ((if0 _ _).trans (feq (by decide : ¬ (f7 = (0 : Int32)))).1) ?_
    refine XS.aloadN X2.here hx rfl (hb hby d6_7) rfl rfl ?_
    show SS p e below m T2 8 #[rv a1, iv p2] [(.ref a1)] _
    exact kk)
  obtain ⟨T4, X4, e4, st4⟩ := getF X2 hx hZ hown (host := "") (Or.inl (hw _ (List.mem_of_getElem? (i := 40) rfl))) Via.refl e2 F_value (g := (mkF m 8 #[rv a1, iv p2] [(.ref a1)])) rfl rfl (hb hby d6_8)
  have pre5 : ∀ t, SS p e below m T4 12 #[rv a1, iv p2] [(.int p2), (.ref b)] t → B t := fun t kk => pre3 t (by
    refine st4 _ ?_
    refine XS.iloadN X4.here hx rfl (hb hby d6_11) rfl ?_
    exact kk)
  obtain ⟨_, _, ⟨T6, L6, k6, n6⟩, -, X6, ⟨Lc6, hQ6, l6, y6, z6⟩, st6⟩ := Jvm.LawKit.callS X4 hx (y := (⟨"java/lang/StringLatin1", "charAt", "([BI)C"⟩ : MethodName)) hown (mvT hZ (hw _ (List.mem_of_getElem? (i := 41) rfl))) (mvT hZ (hw _ (List.mem_of_getElem? (i := 42) rfl))) (mvT hZ (hw _ (List.mem_of_getElem? (i := 43) rfl))) (mvT hZ (hw _ (List.mem_of_getElem? (i := 44) rfl))) (by decide) (backOf (W := 0) (rm8 l Z a0 hw [] b p2 fm kb zn vs h0 n0 Z0 Sfm hfm V_b hlo hhi) hZ (hw _ (List.mem_of_getElem? (i := 44) rfl)) (hw _ (List.mem_of_getElem? (i := 43) rfl)) (by decide) (by decide)) (g := (mkF m 12 #[rv a1, iv p2] [(.int p2), (.ref b)])) rfl (by rw [hml]; rfl) (argsL := [(.ref b), (.int p2)]) (rest := []) (lenOf pd_3 rfl) rfl (by show 2 * 0 + _ ≤ _; exact Nat.le_of_eq rfl) (hb hby d6_12) (fun _ _ => ⟨rfl, e4, (by decide : 0 + 0 ≤ _), (by decide : 0 + 0 ≤ _)⟩)
  dsimp only [Pt.U, Pt.locs, Pt.cells, Pt.slots] at X6 l6 y6 z6 st6 hQ6
  subst l6 y6 z6
  obtain ⟨rfl, N6q, e6⟩ := hQ6
  have N6 := Fr.app N2 N6q
  have pre7 : ∀ t, SS p e below m T6 15 #[rv a1, iv p2] [(.int (f8 p2 vs))] t → B t := fun t kk => pre5 t (by
    refine st6 _ ?_
    exact kk)
  obtain ⟨fs, hr, hrun, hended, hW, hsame⟩ := X6.leave (v := some (.int (nar .char (f8 p2 vs)))) (fun h => by rw [Bd.returns] at h; cases h)
  refine ⟨_, _, hB _ (pre7 _ ?_), hrun, hended, _, _, rfl, ?_, ⟨_, rfl⟩, hW, hsame.mono (by decide) (by decide)⟩
  · exact retN X6 hx (t := .char) Bd.returns (by simp) (hb hby d6_15) hr
  · exact ⟨by show _ = some (Value.int (f6 p2 vs)); rw [f6], N6, e6⟩
theorem d14_0 : decode jdk_42_method_152_code 0 = .ok (.getstatic 38, 3) := by decide +kernel
theorem d14_3 : decode jdk_42_method_152_code 3 = .ok (.ifCond .eq 10, 3) := by decide +kernel
theorem d14_6 : decode jdk_42_method_152_code 6 = .ok (.aload_n 0, 1) := by decide +kernel
theorem d14_7 : decode jdk_42_method_152_code 7 = .ok (.getfield 15, 3) := by decide +kernel
theorem d14_10 : decode jdk_42_method_152_code 10 = .ok (.goto 4, 3) := by decide +kernel
theorem d14_14 : decode jdk_42_method_152_code 14 = .ok (.ireturn, 1) := by decide +kernel
theorem pn_14 : plainName "java/lang/String" = true := by first | (simp [plainName, overriddenIn]; done) | decide +kernel
theorem ef_14 (m : MethodId) (a1 : Addr) : entryFrame m #[(.ref a1)] 1 = mkF m 0 #[rv a1] [] := by first | (simp [entryFrame, mkF, argsToLocals, Value.category]; done) | rfl
def f14   : Int32 := (0 : Int32)
set_option maxRecDepth 65536 in
set_option maxHeartbeats 40000000 in
theorem rm14 (l : Launch) (Z : State) (a0 : Array Value) (hw : ∀ d ∈ tables_1, d.before a0 Z = true) (ws : List Jvm.Cond) (a1 : Addr) (cz : Int32) (h0 : Heap) (n0 : Nat) (Z0 : n0 ≤ h0.size) (Scs : Sta Z h0 "java/lang/String" "COMPACT_STRINGS" "Z" (.int cz)) (hcz : ¬ (cz = (0 : Int32))) (F_coder : Fld Z h0 a1 "java/lang/String" "coder" "B" (.int (0 : Int32))) :
    MetFree l (⟨"java/lang/String", "coder", "()B"⟩ : MethodName) (head1 (Jvm.Cond.code (⟨"java/lang/String", "coder", "()B"⟩ : MethodName) jdk_42_method_152_code 1 (some .byte) :: ws) ({ frames := 0, cells := 0, slots := 0, locals := 0 } : Room)) (fun a U => a = #[(.ref a1)] ∧ Z.Warmed39 U.vm ∧ U.heap = h0) (fun _ _ _ _ _ => True) (fun _ U o U' => ∃ v L, o = .returned v ∧ QI f14 h0 n0 v U'.heap L ∧ FrameEnd U o U' L ({ frames := 0, cells := 0, slots := 0, locals := 0 } : Room).cells ({ frames := 0, cells := 0, slots := 0, locals := 0 } : Room).slots) := by
  refine MetFree.of_bodySF (plainFor_of_name pn_14) hisR ?_
  intro p e s m args below meth c s₁ Bd hml0 hP hK
  obtain ⟨rfl, hZ, hh⟩ := hP
  have hx := Bd.exec
  have hby := Bd.bytes
  have hml : c.maxLocals = 1 := hml0
  have hown : s.vm.findClass "java/lang/String" = some m.cls := findClass_of_methodNamed Bd.named
  have hnm := (name_of_methodNamed Bd.named Bd.method).1
  have X0 : Stand p l e ({ frames := 0, cells := 0, slots := 0, locals := 0 } : Room) s m #[(.ref a1)] below meth c s₁ [] 0 0 := Stand.of_body Bd
  have e0 : s₁.heap = h0 := by rw [← hh, Bd.state]; rfl
  have N0 := Fr.nil n0
  obtain ⟨B, hB, pre0⟩ : ∃ B : State → Prop, (∀ t, B t → Steps p.tables e below (s₁.setTop (entryFrame m #[(.ref a1)] 1)) t) ∧ ∀ t, SS p e below m s₁ 0 #[rv a1] [] t → B t := ⟨_, fun _ q => q, fun t kk => castTop (ef_14 m a1) kk⟩
  have pre1 : ∀ t, SS p e below m s₁ 0 #[rv a1] [] t → B t := fun t kk => pre0 t (by
    show SS p e below m s₁ 0 #[rv a1] [] _
    exact kk)
  obtain ⟨T2, X2, e2, st2⟩ := getS2 X0 hx hZ hown (host := "") (Or.inl (hw _ (List.mem_of_getElem? (i := 38) rfl))) Via.refl e0 Scs (g := (mkF m 0 #[rv a1] [])) rfl (hb hby d14_0)
  have pre3 : ∀ t, SS p e below m T2 7 #[rv a1] [(.ref a1)] t → B t := fun t kk => pre1 t (by
    refine st2 _ ?_
    refine XS.ifNo X2.here hx rfl (hb hby d14_3) rfl ((if0 _ _).trans (feq hcz).1) ?_
    refine XS.aloadN X2.here hx rfl (hb hby d14_6) rfl rfl ?_
    show SS p e below m T2 7 #[rv a1] [(.ref a1)] _
    exact kk)
  obtain ⟨T4, X4, e4, st4⟩ := getF X2 hx hZ hown (host := "") (Or.inl (hw _ (List.mem_of_getElem? (i := 39) rfl))) Via.refl e2 F_coder (g := (mkF m 7 #[rv a1] [(.ref a1)])) rfl rfl (hb hby d14_7)
  have pre5 : ∀ t, SS p e below m T4 14 #[rv a1] [(.int (0 : Int32))] t → B t := fun t kk => pre3 t (by
    refine st4 _ ?_
    refine XS.goto X4.here hx rfl (pc0 := 10) (pc' := 14) rfl (hb hby d14_10) (by decide) (by decide) ?_
    exact kk)
  obtain ⟨fs, hr, hrun, hended, hW, hsame⟩ := X4.leave (v := some (.int (0 : Int32))) (fun h => by rw [Bd.returns] at h; cases h)
  refine ⟨_, _, hB _ (pre5 _ ?_), hrun, hended, _, _, rfl, ?_, ⟨_, rfl⟩, hW, hsame.mono (by decide) (by decide)⟩
  · exact retN X4 hx (t := .byte) Bd.returns (by simp) (hb hby d14_14) hr
  · exact ⟨by show _ = some (Value.int f14); rw [f14], N0, e4⟩
theorem d13_0 : decode jdk_42_method_54_code 0 = .ok (.aload_n 0, 1) := by decide +kernel
theorem d13_1 : decode jdk_42_method_54_code 1 = .ok (.getfield 9, 3) := by decide +kernel
theorem d13_4 : decode jdk_42_method_54_code 4 = .ok (.arraylength, 1) := by decide +kernel
theorem d13_5 : decode jdk_42_method_54_code 5 = .ok (.aload_n 0, 1) := by decide +kernel
theorem d13_6 : decode jdk_42_method_54_code 6 = .ok (.invokevirtual 335, 3) := by decide +kernel
theorem d13_9 : decode jdk_42_method_54_code 9 = .ok (.ishr, 1) := by decide +kernel
theorem d13_10 : decode jdk_42_method_54_code 10 = .ok (.ireturn, 1) := by decide +kernel
theorem pn_13 : plainName "java/lang/String" = true := by first | (simp [plainName, overriddenIn]; done) | decide +kernel
theorem pd_4 : parseMethodDescriptor "()B" = some ⟨[], some .byte⟩ := by decide +kernel
theorem ef_13 (m : MethodId) (a1 : Addr) : entryFrame m #[(.ref a1)] 1 = mkF m 0 #[rv a1] [] := by first | (simp [entryFrame, mkF, argsToLocals, Value.category]; done) | rfl
def f13  (zn : Int32) : Int32 := (zn >>> (f14 &&& 31))
set_option maxRecDepth 65536 in
set_option maxHeartbeats 40000000 in
theorem rm13 (l : Launch) (Z : State) (a0 : Array Value) (hw : ∀ d ∈ tables_1, d.before a0 Z = true) (ws : List Jvm.Cond) (a1 : Addr) (cz : Int32) (b : Addr) (kb : ClassId) (zn : Int32) (vs : List Int32) (h0 : Heap) (n0 : Nat) (Z0 : n0 ≤ h0.size) (Scs : Sta Z h0 "java/lang/String" "COMPACT_STRINGS" "Z" (.int cz)) (hcz : ¬ (cz = (0 : Int32))) (F_coder : Fld Z h0 a1 "java/lang/String" "coder" "B" (.int (0 : Int32))) (E_a1 : Exa Z h0 a1 "java/lang/String") (F_value : Fld Z h0 a1 "java/lang/String" "value" "[B" (.ref b)) (V_b : Arv Z h0 b kb .byte zn (vs.map Value.int) (.int (0 : Int32))) :
    MetFree l (⟨"java/lang/String", "length", "()I"⟩ : MethodName) (head1 (Jvm.Cond.code (⟨"java/lang/String", "length", "()I"⟩ : MethodName) jdk_42_method_54_code 1 (some .int) :: ws) ({ frames := 1, cells := 0, slots := 0, locals := 13 } : Room)) (fun a U => a = #[(.ref a1)] ∧ Z.Warmed39 U.vm ∧ U.heap = h0) (fun _ _ _ _ _ => True) (fun _ U o U' => ∃ v L, o = .returned v ∧ QI (f13 zn) h0 n0 v U'.heap L ∧ FrameEnd U o U' L ({ frames := 1, cells := 0, slots := 0, locals := 13 } : Room).cells ({ frames := 1, cells := 0, slots := 0, locals := 13 } : Room).slots) := by
  refine MetFree.of_bodySF (plainFor_of_name pn_13) hisR ?_
  intro p e s m args below meth c s₁ Bd hml0 hP hK
  obtain ⟨rfl, hZ, hh⟩ := hP
  have hx := Bd.exec
  have hby := Bd.bytes
  have hml : c.maxLocals = 1 := hml0
  have hown : s.vm.findClass "java/lang/String" = some m.cls := findClass_of_methodNamed Bd.named
  have hnm := (name_of_methodNamed Bd.named Bd.method).1
  have X0 : Stand p l e ({ frames := 1, cells := 0, slots := 0, locals := 13 } : Room) s m #[(.ref a1)] below meth c s₁ [] 0 0 := Stand.of_body Bd
  have e0 : s₁.heap = h0 := by rw [← hh, Bd.state]; rfl
  have N0 := Fr.nil n0
  obtain ⟨B, hB, pre0⟩ : ∃ B : State → Prop, (∀ t, B t → Steps p.tables e below (s₁.setTop (entryFrame m #[(.ref a1)] 1)) t) ∧ ∀ t, SS p e below m s₁ 0 #[rv a1] [] t → B t := ⟨_, fun _ q => q, fun t kk => castTop (ef_13 m a1) kk⟩
  have pre1 : ∀ t, SS p e below m s₁ 1 #[rv a1] [(.ref a1)] t → B t := fun t kk => pre0 t (by
    show SS p e below m s₁ 0 #[rv a1] [] _
    refine XS.aloadN X0.here hx rfl (hb hby d13_0) rfl rfl ?_
    exact kk)
  obtain ⟨T2, X2, e2, st2⟩ := getF X0 hx hZ hown (host := "") (Or.inl (hw _ (List.mem_of_getElem? (i := 40) rfl))) Via.refl e0 F_value (g := (mkF m 1 #[rv a1] [(.ref a1)])) rfl rfl (hb hby d13_1)
  have pre3 : ∀ t, SS p e below m T2 4 #[rv a1] [(.ref b)] t → B t := fun t kk => pre1 t (by
    refine st2 _ ?_
    exact kk)
  obtain ⟨cl4, Ar4, -, S4, M4, -, -⟩ := id V_b
  have pre5 : ∀ t, SS p e below m T2 6 #[rv a1] [(.ref a1), (.int zn)] t → B t := fun t kk => pre3 t (by
    refine X2.arraylength hx (by rw [e2]; exact Ar4.1) (State.isArrayOf_alike hZ.alike Ar4.2.1) (g := (mkF m 4 #[rv a1] [(.ref b)])) rfl rfl (hb hby d13_4) _ ?_
    rw [len_of S4 M4]
    refine XS.aloadN X2.here hx rfl (hb hby d13_5) rfl rfl ?_
    exact kk)
  obtain ⟨cq6, kq6, q6a, q6b, q6c⟩ := isOf hZ e2 E_a1
  obtain ⟨_, _, ⟨T6, L6, k6, n6⟩, -, X6, ⟨Lc6, hQ6, l6, y6, z6⟩, st6⟩ := X2.virtualBack hx (y := (⟨"java/lang/String", "coder", "()B"⟩ : MethodName)) (z := (⟨"java/lang/String", "coder", "()B"⟩ : MethodName)) hown (mvT hZ (hw _ (List.mem_of_getElem? (i := 65) rfl))) (mvT hZ (hw _ (List.mem_of_getElem? (i := 66) rfl))) (notFace_of_selects (args := #[]) (mvT hZ (hw _ (List.mem_of_getElem? (i := 68) rfl)))) (mvT hZ (hw _ (List.mem_of_getElem? (i := 68) rfl))) (mvT hZ (hw _ (List.mem_of_getElem? (i := 67) rfl))) (by decide) (backOf (W := 1) (rm14 l Z a0 hw [] a1 cz h0 n0 Z0 Scs hcz F_coder) hZ (hw _ (List.mem_of_getElem? (i := 69) rfl)) (hw _ (List.mem_of_getElem? (i := 21) rfl)) (by decide) (by decide)) q6a q6c (g := (mkF m 6 #[rv a1] [(.ref a1), (.int zn)])) rfl (by rw [hml]; rfl) (Steps.refl _) (argsL := []) (rest := [(.int zn)]) (lenOf pd_4 rfl) rfl (by show 2 * 0 + _ ≤ _; exact Nat.le_of_eq rfl) (hb hby d13_6) (fun _ _ => ⟨rfl, e2, (by decide : 0 + 0 ≤ _), (by decide : 0 + 0 ≤ _)⟩)
  dsimp only [Pt.U, Pt.locs, Pt.cells, Pt.slots] at X6 l6 y6 z6 st6 hQ6
  subst l6 y6 z6
  obtain ⟨rfl, N6q, e6⟩ := hQ6
  have N6 := Fr.app N0 N6q
  have pre7 : ∀ t, SS p e below m T6 10 #[rv a1] [(.int (zn >>> (f14 &&& 31)))] t → B t := fun t kk => pre5 t (by
    refine st6.trans ?_
    refine XS.ishr X6.here hx rfl (hb hby d13_9) rfl ?_
    exact kk)
  obtain ⟨fs, hr, hrun, hended, hW, hsame⟩ := X6.leave (v := some (.int (zn >>> (f14 &&& 31)))) (fun h => by rw [Bd.returns] at h; cases h)
  refine ⟨_, _, hB _ (pre7 _ ?_), hrun, hended, _, _, rfl, ?_, ⟨_, rfl⟩, hW, hsame.mono (by decide) (by decide)⟩
  · exact retI X6 hx Bd.returns (hb hby d13_10) hr
  · exact ⟨by show _ = some (Value.int (f13 zn)); rw [f13], N6, e6⟩
theorem d15_0 : decode prog_124_method_4_code 0 = .ok (.iload_n 0, 1) := by decide +kernel
theorem d15_1 : decode prog_124_method_4_code 1 = .ok (.bipush 65, 2) := by decide +kernel
theorem d15_3 : decode prog_124_method_4_code 3 = .ok (.if_icmp .lt 19, 3) := by decide +kernel
theorem d15_6 : decode prog_124_method_4_code 6 = .ok (.iload_n 0, 1) := by decide +kernel
theorem d15_7 : decode prog_124_method_4_code 7 = .ok (.bipush 90, 2) := by decide +kernel
theorem d15_9 : decode prog_124_method_4_code 9 = .ok (.if_icmp .gt 13, 3) := by decide +kernel
theorem d15_12 : decode prog_124_method_4_code 12 = .ok (.iload_n 0, 1) := by decide +kernel
theorem d15_13 : decode prog_124_method_4_code 13 = .ok (.bipush 65, 2) := by decide +kernel
theorem d15_15 : decode prog_124_method_4_code 15 = .ok (.isub, 1) := by decide +kernel
theorem d15_16 : decode prog_124_method_4_code 16 = .ok (.bipush 97, 2) := by decide +kernel
theorem d15_18 : decode prog_124_method_4_code 18 = .ok (.iadd, 1) := by decide +kernel
theorem d15_19 : decode prog_124_method_4_code 19 = .ok (.goto 4, 3) := by decide +kernel
theorem d15_22 : decode prog_124_method_4_code 22 = .ok (.iload_n 0, 1) := by decide +kernel
theorem d15_23 : decode prog_124_method_4_code 23 = .ok (.i2c, 1) := by decide +kernel
theorem d15_24 : decode prog_124_method_4_code 24 = .ok (.ireturn, 1) := by decide +kernel
theorem pn_15 : plainName "pithline/util/Ascii" = true := by first | (simp [plainName, overriddenIn]; done) | decide +kernel
theorem ef_15 (m : MethodId) (p1 : Int32) : entryFrame m #[(.int p1)] 1 = mkF m 0 #[iv p1] [] := by first | (simp [entryFrame, mkF, argsToLocals, Value.category]; done) | rfl
def f15 (p1 : Int32)  : Int32 := (if p1 < (65 : Int32) then (nar .char (p1.toUInt32.toUInt16.toUInt32.toInt32)) else (if (90 : Int32) < p1 then (nar .char (p1.toUInt32.toUInt16.toUInt32.toInt32)) else (nar .char (((p1 - (65 : Int32)) + (97 : Int32)).toUInt32.toUInt16.toUInt32.toInt32))))
set_option maxRecDepth 65536 in
set_option maxHeartbeats 40000000 in
theorem rm15 (l : Launch) (Z : State) (a0 : Array Value) (hw : ∀ d ∈ tables_1, d.before a0 Z = true) (ws : List Jvm.Cond) (p1 : Int32)  (h0 : Heap) (n0 : Nat) (Z0 : n0 ≤ h0.size)  :
    MetFree l (⟨"pithline/util/Ascii", "lowerCase", "(I)C"⟩ : MethodName) (head1 (Jvm.Cond.code (⟨"pithline/util/Ascii", "lowerCase", "(I)C"⟩ : MethodName) prog_124_method_4_code 1 (some .char) :: ws) ({ frames := 0, cells := 0, slots := 0, locals := 0 } : Room)) (fun a U => a = #[(.int p1)] ∧ Z.Warmed39 U.vm ∧ U.heap = h0) (fun _ _ _ _ _ => True) (fun _ U o U' => ∃ v L, o = .returned v ∧ QI (f15 p1) h0 n0 v U'.heap L ∧ FrameEnd U o U' L ({ frames := 0, cells := 0, slots := 0, locals := 0 } : Room).cells ({ frames := 0, cells := 0, slots := 0, locals := 0 } : Room).slots) := by
  refine MetFree.of_bodySF (plainFor_of_name pn_15) hisR ?_
  intro p e s m args below meth c s₁ Bd hml0 hP hK
  obtain ⟨rfl, hZ, hh⟩ := hP
  have hx := Bd.exec
  have hby := Bd.bytes
  have hml : c.maxLocals = 1 := hml0
  have hown : s.vm.findClass "pithline/util/Ascii" = some m.cls := findClass_of_methodNamed Bd.named
  have hnm := (name_of_methodNamed Bd.named Bd.method).1
  have X0 : Stand p l e ({ frames := 0, cells := 0, slots := 0, locals := 0 } : Room) s m #[(.int p1)] below meth c s₁ [] 0 0 := Stand.of_body Bd
  have e0 : s₁.heap = h0 := by rw [← hh, Bd.state]; rfl
  have N0 := Fr.nil n0
  obtain ⟨B, hB, pre0⟩ : ∃ B : State → Prop, (∀ t, B t → Steps p.tables e below (s₁.setTop (entryFrame m #[(.int p1)] 1)) t) ∧ ∀ t, SS p e below m s₁ 0 #[iv p1] [] t → B t := ⟨_, fun _ q => q, fun t kk => castTop (ef_15 m p1) kk⟩
  have pre1 : ∀ t, SS p e below m s₁ 3 #[iv p1] [(.int (65 : Int32)), (.int p1)] t → B t := fun t kk => pre0 t (by
    show SS p e below m s₁ 0 #[iv p1] [] _
    refine XS.iloadN X0.here hx rfl (hb hby d15_0) rfl ?_
    refine XS.bipush X0.here hx rfl (hb hby d15_1) ?_
    exact kk)
  by_cases hc2 : p1 < (65 : Int32)
  · have pre3 : ∀ t, SS p e below m s₁ 24 #[iv p1] [(.int (p1.toUInt32.toUInt16.toUInt32.toInt32))] t → B t := fun t kk => pre1 t (by
      refine XS.icmpYes X0.here hx rfl (pc0 := 3) (pc' := 22) rfl (hb hby d15_3) rfl (tlt hc2).1 (by decide) (by decide) ?_
      refine XS.iloadN X0.here hx rfl (hb hby d15_22) rfl ?_
      refine XS.i2c X0.here hx rfl (hb hby d15_23) rfl ?_
      show SS p e below m s₁ 24 #[iv p1] [(.int (p1.toUInt32.toUInt16.toUInt32.toInt32))] _
      exact kk)
    obtain ⟨fs, hr, hrun, hended, hW, hsame⟩ := X0.leave (v := some (.int (nar .char (p1.toUInt32.toUInt16.toUInt32.toInt32)))) (fun h => by rw [Bd.returns] at h; cases h)
    refine ⟨_, _, hB _ (pre3 _ ?_), hrun, hended, _, _, rfl, ?_, ⟨_, rfl⟩, hW, hsame.mono (by decide) (by decide)⟩
    · exact retN X0 hx (t := .char) Bd.returns (by simp) (hb hby d15_24) hr
    · exact ⟨by show _ = some (Value.int (f15 p1)); rw [f15, if_pos hc2], N0, e0⟩
  · have pre4 : ∀ t, SS p e below m s₁ 9 #[iv p1] [(.int (90 : Int32)), (.int p1)] t → B t := fun t kk => pre1 t (by
      refine XS.icmpNo X0.here hx rfl (hb hby d15_3) rfl (flt hc2).1 ?_
      refine XS.iloadN X0.here hx rfl (hb hby d15_6) rfl ?_
      refine XS.bipush X0.here hx rfl (hb hby d15_7) ?_
      show SS p e below m s₁ 9 #[iv p1] [(.int (90 : Int32)), (.int p1)] _
      exact kk)
    by_cases hc5 : (90 : Int32) < p1
    · have pre6 : ∀ t, SS p e below m s₁ 24 #[iv p1] [(.int (p1.toUInt32.toUInt16.toUInt32.toInt32))] t → B t := fun t kk => pre4 t (by
        refine XS.icmpYes X0.here hx rfl (pc0 := 9) (pc' := 22) rfl (hb hby d15_9) rfl (tlt hc5).2.2.1 (by decide) (by decide) ?_
        refine XS.iloadN X0.here hx rfl (hb hby d15_22) rfl ?_
        refine XS.i2c X0.here hx rfl (hb hby d15_23) rfl ?_
        show SS p e below m s₁ 24 #[iv p1] [(.int (p1.toUInt32.toUInt16.toUInt32.toInt32))] _
        exact kk)
      obtain ⟨fs, hr, hrun, hended, hW, hsame⟩ := X0.leave (v := some (.int (nar .char (p1.toUInt32.toUInt16.toUInt32.toInt32)))) (fun h => by rw [Bd.returns] at h; cases h)
      refine ⟨_, _, hB _ (pre6 _ ?_), hrun, hended, _, _, rfl, ?_, ⟨_, rfl⟩, hW, hsame.mono (by decide) (by decide)⟩
      · exact retN X0 hx (t := .char) Bd.returns (by simp) (hb hby d15_24) hr
      · exact ⟨by show _ = some (Value.int (f15 p1)); rw [f15, if_neg hc2, if_pos hc5], N0, e0⟩
    · have pre7 : ∀ t, SS p e below m s₁ 24 #[iv p1] [(.int (((p1 - (65 : Int32)) + (97 : Int32)).toUInt32.toUInt16.toUInt32.toInt32))] t → B t := fun t kk => pre4 t (by
        refine XS.icmpNo X0.here hx rfl (hb hby d15_9) rfl (flt hc5).2.2.1 ?_
        refine XS.iloadN X0.here hx rfl (hb hby d15_12) rfl ?_
        refine XS.bipush X0.here hx rfl (hb hby d15_13) ?_
        show SS p e below m s₁ 15 #[iv p1] [(.int (65 : Int32)), (.int p1)] _
        refine XS.isub X0.here hx rfl (hb hby d15_15) rfl ?_
        refine XS.bipush X0.here hx rfl (hb hby d15_16) ?_
        refine XS.iadd X0.here hx rfl (hb hby d15_18) rfl ?_
        show SS p e below m s₁ 19 #[iv p1] [(.int ((p1 - (65 : Int32)) + (97 : Int32)))] _
        refine XS.goto X0.here hx rfl (pc0 := 19) (pc' := 23) rfl (hb hby d15_19) (by decide) (by decide) ?_
        refine XS.i2c X0.here hx rfl (hb hby d15_23) rfl ?_
        exact kk)
      obtain ⟨fs, hr, hrun, hended, hW, hsame⟩ := X0.leave (v := some (.int (nar .char (((p1 - (65 : Int32)) + (97 : Int32)).toUInt32.toUInt16.toUInt32.toInt32)))) (fun h => by rw [Bd.returns] at h; cases h)
      refine ⟨_, _, hB _ (pre7 _ ?_), hrun, hended, _, _, rfl, ?_, ⟨_, rfl⟩, hW, hsame.mono (by decide) (by decide)⟩
      · exact retN X0 hx (t := .char) Bd.returns (by simp) (hb hby d15_24) hr
      · exact ⟨by show _ = some (Value.int (f15 p1)); rw [f15, if_neg hc2, if_neg hc5], N0, e0⟩
theorem d19_0 : decode prog_124_method_2_code 0 = .ok (.iload_n 0, 1) := by decide +kernel
theorem d19_1 : decode prog_124_method_2_code 1 = .ok (.bipush 9, 2) := by decide +kernel
theorem d19_3 : decode prog_124_method_2_code 3 = .ok (.if_icmp .eq 27, 3) := by decide +kernel
theorem d19_6 : decode prog_124_method_2_code 6 = .ok (.iload_n 0, 1) := by decide +kernel
theorem d19_7 : decode prog_124_method_2_code 7 = .ok (.bipush 10, 2) := by decide +kernel
theorem d19_9 : decode prog_124_method_2_code 9 = .ok (.if_icmp .eq 21, 3) := by decide +kernel
theorem d19_12 : decode prog_124_method_2_code 12 = .ok (.iload_n 0, 1) := by decide +kernel
theorem d19_13 : decode prog_124_method_2_code 13 = .ok (.bipush 12, 2) := by decide +kernel
theorem d19_15 : decode prog_124_method_2_code 15 = .ok (.if_icmp .eq 15, 3) := by decide +kernel
theorem d19_18 : decode prog_124_method_2_code 18 = .ok (.iload_n 0, 1) := by decide +kernel
theorem d19_19 : decode prog_124_method_2_code 19 = .ok (.bipush 13, 2) := by decide +kernel
theorem d19_21 : decode prog_124_method_2_code 21 = .ok (.if_icmp .eq 9, 3) := by decide +kernel
theorem d19_24 : decode prog_124_method_2_code 24 = .ok (.iload_n 0, 1) := by decide +kernel
theorem d19_25 : decode prog_124_method_2_code 25 = .ok (.bipush 32, 2) := by decide +kernel
theorem d19_27 : decode prog_124_method_2_code 27 = .ok (.if_icmp .ne 7, 3) := by decide +kernel
theorem d19_30 : decode prog_124_method_2_code 30 = .ok (.iconst 1, 1) := by decide +kernel
theorem d19_31 : decode prog_124_method_2_code 31 = .ok (.goto 4, 3) := by decide +kernel
theorem d19_34 : decode prog_124_method_2_code 34 = .ok (.iconst 0, 1) := by decide +kernel
theorem d19_35 : decode prog_124_method_2_code 35 = .ok (.ireturn, 1) := by decide +kernel
theorem pn_19 : plainName "pithline/util/Ascii" = true := by first | (simp [plainName, overriddenIn]; done) | decide +kernel
theorem ef_19 (m : MethodId) (p1 : Int32) : entryFrame m #[(.int p1)] 1 = mkF m 0 #[iv p1] [] := by first | (simp [entryFrame, mkF, argsToLocals, Value.category]; done) | rfl
def f19 (p1 : Int32)  : Int32 := (if p1 = (9 : Int32) then (1 : Int32) else (if p1 = (10 : Int32) then (1 : Int32) else (if p1 = (12 : Int32) then (1 : Int32) else (if p1 = (13 : Int32) then (1 : Int32) else (if p1 = (32 : Int32) then (1 : Int32) else (0 : Int32))))))
set_option maxRecDepth 65536 in
set_option maxHeartbeats 40000000 in
theorem rm19 (l : Launch) (Z : State) (a0 : Array Value) (hw : ∀ d ∈ tables_1, d.before a0 Z = true) (ws : List Jvm.Cond) (p1 : Int32)  (h0 : Heap) (n0 : Nat) (Z0 : n0 ≤ h0.size)  :
    MetFree l (⟨"pithline/util/Ascii", "isWhiteSpace", "(I)Z"⟩ : MethodName) (head1 (Jvm.Cond.code (⟨"pithline/util/Ascii", "isWhiteSpace", "(I)Z"⟩ : MethodName) prog_124_method_2_code 1 (some .boolean) :: ws) ({ frames := 0, cells := 0, slots := 0, locals := 0 } : Room)) (fun a U => a = #[(.int p1)] ∧ Z.Warmed39 U.vm ∧ U.heap = h0) (fun _ _ _ _ _ => True) (fun _ U o U' => ∃ v L, o = .returned v ∧ QI (f19 p1) h0 n0 v U'.heap L ∧ FrameEnd U o U' L ({ frames := 0, cells := 0, slots := 0, locals := 0 } : Room).cells ({ frames := 0, cells := 0, slots := 0, locals := 0 } : Room).slots) := by
  refine MetFree.of_bodySF (plainFor_of_name pn_19) hisR ?_
  intro p e s m args below meth c s₁ Bd hml0 hP hK
  obtain ⟨rfl, hZ, hh⟩ := hP
  have hx := Bd.exec
  have hby := Bd.bytes
  have hml : c.maxLocals = 1 := hml0
  have hown : s.vm.findClass "pithline/util/Ascii" = some m.cls := findClass_of_methodNamed Bd.named
  have hnm := (name_of_methodNamed Bd.named Bd.method).1
  have X0 : Stand p l e ({ frames := 0, cells := 0, slots := 0, locals := 0 } : Room) s m #[(.int p1)] below meth c s₁ [] 0 0 := Stand.of_body Bd
  have e0 : s₁.heap = h0 := by rw [← hh, Bd.state]; rfl
  have N0 := Fr.nil n0
  obtain ⟨B, hB, pre0⟩ : ∃ B : State → Prop, (∀ t, B t → Steps p.tables e below (s₁.setTop (entryFrame m #[(.int p1)] 1)) t) ∧ ∀ t, SS p e below m s₁ 0 #[iv p1] [] t → B t := ⟨_, fun _ q => q, fun t kk => castTop (ef_19 m p1) kk⟩
  have pre1 : ∀ t, SS p e below m s₁ 3 #[iv p1] [(.int (9 : Int32)), (.int p1)] t → B t := fun t kk => pre0 t (by
    show SS p e below m s₁ 0 #[iv p1] [] _
    refine XS.iloadN X0.here hx rfl (hb hby d19_0) rfl ?_
    refine XS.bipush X0.here hx rfl (hb hby d19_1) ?_
    exact kk)
  by_cases hc2 : p1 = (9 : Int32)
  · have pre3 : ∀ t, SS p e below m s₁ 35 #[iv p1] [(.int (1 : Int32))] t → B t := fun t kk => pre1 t (by
      refine XS.icmpYes X0.here hx rfl (pc0 := 3) (pc' := 30) rfl (hb hby d19_3) rfl (teq hc2).1 (by decide) (by decide) ?_
      refine XS.iconst X0.here hx rfl (hb hby d19_30) ?_
      refine XS.goto X0.here hx rfl (pc0 := 31) (pc' := 35) rfl (hb hby d19_31) (by decide) (by decide) ?_
      show SS p e below m s₁ 35 #[iv p1] [(.int (1 : Int32))] _
      exact kk)
    obtain ⟨fs, hr, hrun, hended, hW, hsame⟩ := X0.leave (v := some (.int (1 : Int32))) (fun h => by rw [Bd.returns] at h; cases h)
    refine ⟨_, _, hB _ (pre3 _ ?_), hrun, hended, _, _, rfl, ?_, ⟨_, rfl⟩, hW, hsame.mono (by decide) (by decide)⟩
    · exact retN X0 hx (t := .boolean) Bd.returns (by simp) (hb hby d19_35) hr
    · exact ⟨by show _ = some (Value.int (f19 p1)); rw [f19, if_pos hc2], N0, e0⟩
  · have pre4 : ∀ t, SS p e below m s₁ 9 #[iv p1] [(.int (10 : Int32)), (.int p1)] t → B t := fun t kk => pre1 t (by
      refine XS.icmpNo X0.here hx rfl (hb hby d19_3) rfl (feq hc2).1 ?_
      refine XS.iloadN X0.here hx rfl (hb hby d19_6) rfl ?_
      refine XS.bipush X0.here hx rfl (hb hby d19_7) ?_
      show SS p e below m s₁ 9 #[iv p1] [(.int (10 : Int32)), (.int p1)] _
      exact kk)
    by_cases hc5 : p1 = (10 : Int32)
    · have pre6 : ∀ t, SS p e below m s₁ 35 #[iv p1] [(.int (1 : Int32))] t → B t := fun t kk => pre4 t (by
        refine XS.icmpYes X0.here hx rfl (pc0 := 9) (pc' := 30) rfl (hb hby d19_9) rfl (teq hc5).1 (by decide) (by decide) ?_
        refine XS.iconst X0.here hx rfl (hb hby d19_30) ?_
        refine XS.goto X0.here hx rfl (pc0 := 31) (pc' := 35) rfl (hb hby d19_31) (by decide) (by decide) ?_
        show SS p e below m s₁ 35 #[iv p1] [(.int (1 : Int32))] _
        exact kk)
      obtain ⟨fs, hr, hrun, hended, hW, hsame⟩ := X0.leave (v := some (.int (1 : Int32))) (fun h => by rw [Bd.returns] at h; cases h)
      refine ⟨_, _, hB _ (pre6 _ ?_), hrun, hended, _, _, rfl, ?_, ⟨_, rfl⟩, hW, hsame.mono (by decide) (by decide)⟩
      · exact retN X0 hx (t := .boolean) Bd.returns (by simp) (hb hby d19_35) hr
      · exact ⟨by show _ = some (Value.int (f19 p1)); rw [f19, if_neg hc2, if_pos hc5], N0, e0⟩
    · have pre7 : ∀ t, SS p e below m s₁ 15 #[iv p1] [(.int (12 : Int32)), (.int p1)] t → B t := fun t kk => pre4 t (by
        refine XS.icmpNo X0.here hx rfl (hb hby d19_9) rfl (feq hc5).1 ?_
        refine XS.iloadN X0.here hx rfl (hb hby d19_12) rfl ?_
        refine XS.bipush X0.here hx rfl (hb hby d19_13) ?_
        show SS p e below m s₁ 15 #[iv p1] [(.int (12 : Int32)), (.int p1)] _
        exact kk)
      by_cases hc8 : p1 = (12 : Int32)
      · have pre9 : ∀ t, SS p e below m s₁ 35 #[iv p1] [(.int (1 : Int32))] t → B t := fun t kk => pre7 t (by
          refine XS.icmpYes X0.here hx rfl (pc0 := 15) (pc' := 30) rfl (hb hby d19_15) rfl (teq hc8).1 (by decide) (by decide) ?_
          refine XS.iconst X0.here hx rfl (hb hby d19_30) ?_
          refine XS.goto X0.here hx rfl (pc0 := 31) (pc' := 35) rfl (hb hby d19_31) (by decide) (by decide) ?_
          show SS p e below m s₁ 35 #[iv p1] [(.int (1 : Int32))] _
          exact kk)
        obtain ⟨fs, hr, hrun, hended, hW, hsame⟩ := X0.leave (v := some (.int (1 : Int32))) (fun h => by rw [Bd.returns] at h; cases h)
        refine ⟨_, _, hB _ (pre9 _ ?_), hrun, hended, _, _, rfl, ?_, ⟨_, rfl⟩, hW, hsame.mono (by decide) (by decide)⟩
        · exact retN X0 hx (t := .boolean) Bd.returns (by simp) (hb hby d19_35) hr
        · exact ⟨by show _ = some (Value.int (f19 p1)); rw [f19, if_neg hc2, if_neg hc5, if_pos hc8], N0, e0⟩
      · have pre10 : ∀ t, SS p e below m s₁ 21 #[iv p1] [(.int (13 : Int32)), (.int p1)] t → B t := fun t kk => pre7 t (by
          refine XS.icmpNo X0.here hx rfl (hb hby d19_15) rfl (feq hc8).1 ?_
          refine XS.iloadN X0.here hx rfl (hb hby d19_18) rfl ?_
          refine XS.bipush X0.here hx rfl (hb hby d19_19) ?_
          show SS p e below m s₁ 21 #[iv p1] [(.int (13 : Int32)), (.int p1)] _
          exact kk)
        by_cases hc11 : p1 = (13 : Int32)
        · have pre12 : ∀ t, SS p e below m s₁ 35 #[iv p1] [(.int (1 : Int32))] t → B t := fun t kk => pre10 t (by
            refine XS.icmpYes X0.here hx rfl (pc0 := 21) (pc' := 30) rfl (hb hby d19_21) rfl (teq hc11).1 (by decide) (by decide) ?_
            refine XS.iconst X0.here hx rfl (hb hby d19_30) ?_
            refine XS.goto X0.here hx rfl (pc0 := 31) (pc' := 35) rfl (hb hby d19_31) (by decide) (by decide) ?_
            show SS p e below m s₁ 35 #[iv p1] [(.int (1 : Int32))] _
            exact kk)
          obtain ⟨fs, hr, hrun, hended, hW, hsame⟩ := X0.leave (v := some (.int (1 : Int32))) (fun h => by rw [Bd.returns] at h; cases h)
          refine ⟨_, _, hB _ (pre12 _ ?_), hrun, hended, _, _, rfl, ?_, ⟨_, rfl⟩, hW, hsame.mono (by decide) (by decide)⟩
          · exact retN X0 hx (t := .boolean) Bd.returns (by simp) (hb hby d19_35) hr
          · exact ⟨by show _ = some (Value.int (f19 p1)); rw [f19, if_neg hc2, if_neg hc5, if_neg hc8, if_pos hc11], N0, e0⟩
        · have pre13 : ∀ t, SS p e below m s₁ 27 #[iv p1] [(.int (32 : Int32)), (.int p1)] t → B t := fun t kk => pre10 t (by
            refine XS.icmpNo X0.here hx rfl (hb hby d19_21) rfl (feq hc11).1 ?_
            refine XS.iloadN X0.here hx rfl (hb hby d19_24) rfl ?_
            refine XS.bipush X0.here hx rfl (hb hby d19_25) ?_
            show SS p e below m s₁ 27 #[iv p1] [(.int (32 : Int32)), (.int p1)] _
            exact kk)
          by_cases hc14 : p1 = (32 : Int32)
          · have pre15 : ∀ t, SS p e below m s₁ 35 #[iv p1] [(.int (1 : Int32))] t → B t := fun t kk => pre13 t (by
              refine XS.icmpNo X0.here hx rfl (hb hby d19_27) rfl (teq hc14).2 ?_
              refine XS.iconst X0.here hx rfl (hb hby d19_30) ?_
              refine XS.goto X0.here hx rfl (pc0 := 31) (pc' := 35) rfl (hb hby d19_31) (by decide) (by decide) ?_
              show SS p e below m s₁ 35 #[iv p1] [(.int (1 : Int32))] _
              exact kk)
            obtain ⟨fs, hr, hrun, hended, hW, hsame⟩ := X0.leave (v := some (.int (1 : Int32))) (fun h => by rw [Bd.returns] at h; cases h)
            refine ⟨_, _, hB _ (pre15 _ ?_), hrun, hended, _, _, rfl, ?_, ⟨_, rfl⟩, hW, hsame.mono (by decide) (by decide)⟩
            · exact retN X0 hx (t := .boolean) Bd.returns (by simp) (hb hby d19_35) hr
            · exact ⟨by show _ = some (Value.int (f19 p1)); rw [f19, if_neg hc2, if_neg hc5, if_neg hc8, if_neg hc11, if_pos hc14], N0, e0⟩
          · have pre16 : ∀ t, SS p e below m s₁ 35 #[iv p1] [(.int (0 : Int32))] t → B t := fun t kk => pre13 t (by
              refine XS.icmpYes X0.here hx rfl (pc0 := 27) (pc' := 34) rfl (hb hby d19_27) rfl (feq hc14).2 (by decide) (by decide) ?_
              refine XS.iconst X0.here hx rfl (hb hby d19_34) ?_
              exact kk)
            obtain ⟨fs, hr, hrun, hended, hW, hsame⟩ := X0.leave (v := some (.int (0 : Int32))) (fun h => by rw [Bd.returns] at h; cases h)
            refine ⟨_, _, hB _ (pre16 _ ?_), hrun, hended, _, _, rfl, ?_, ⟨_, rfl⟩, hW, hsame.mono (by decide) (by decide)⟩
            · exact retN X0 hx (t := .boolean) Bd.returns (by simp) (hb hby d19_35) hr
            · exact ⟨by show _ = some (Value.int (f19 p1)); rw [f19, if_neg hc2, if_neg hc5, if_neg hc8, if_neg hc11, if_neg hc14], N0, e0⟩
theorem d4_0 : decode prog_41_method_9_code 0 = .ok (.iload_n 1, 1) := by decide +kernel
theorem d4_1 : decode prog_41_method_9_code 1 = .ok (.bipush 45, 2) := by decide +kernel
theorem d4_3 : decode prog_41_method_9_code 3 = .ok (.if_icmp .ne 20, 3) := by decide +kernel
theorem d4_6 : decode prog_41_method_9_code 6 = .ok (.iload_n 0, 1) := by decide +kernel
theorem d4_7 : decode prog_41_method_9_code 7 = .ok (.bipush 40, 2) := by decide +kernel
theorem d4_9 : decode prog_41_method_9_code 9 = .ok (.if_icmp .ne 8, 3) := by decide +kernel
theorem d4_12 : decode prog_41_method_9_code 12 = .ok (.bipush 48, 2) := by decide +kernel
theorem d4_14 : decode prog_41_method_9_code 14 = .ok (.goto 5, 3) := by decide +kernel
theorem d4_17 : decode prog_41_method_9_code 17 = .ok (.bipush 56, 2) := by decide +kernel
theorem d4_19 : decode prog_41_method_9_code 19 = .ok (.istore_n 2, 1) := by decide +kernel
theorem d4_20 : decode prog_41_method_9_code 20 = .ok (.goto 35, 3) := by decide +kernel
theorem d4_23 : decode prog_41_method_9_code 23 = .ok (.iload_n 1, 1) := by decide +kernel
theorem d4_24 : decode prog_41_method_9_code 24 = .ok (.bipush 60, 2) := by decide +kernel
theorem d4_26 : decode prog_41_method_9_code 26 = .ok (.if_icmp .ne 9, 3) := by decide +kernel
theorem d4_29 : decode prog_41_method_9_code 29 = .ok (.bipush 64, 2) := by decide +kernel
theorem d4_31 : decode prog_41_method_9_code 31 = .ok (.istore_n 2, 1) := by decide +kernel
theorem d4_32 : decode prog_41_method_9_code 32 = .ok (.goto 23, 3) := by decide +kernel
theorem d4_35 : decode prog_41_method_9_code 35 = .ok (.iload_n 1, 1) := by decide +kernel
theorem d4_36 : decode prog_41_method_9_code 36 = .ok (.bipush 62, 2) := by decide +kernel
theorem d4_38 : decode prog_41_method_9_code 38 = .ok (.if_icmp .ne 14, 3) := by decide +kernel
theorem d4_41 : decode prog_41_method_9_code 41 = .ok (.iload_n 0, 1) := by decide +kernel
theorem d4_42 : decode prog_41_method_9_code 42 = .ok (.bipush 56, 2) := by decide +kernel
theorem d4_44 : decode prog_41_method_9_code 44 = .ok (.if_icmp .ne 8, 3) := by decide +kernel
theorem d4_47 : decode prog_41_method_9_code 47 = .ok (.iconst 0, 1) := by decide +kernel
theorem d4_48 : decode prog_41_method_9_code 48 = .ok (.istore_n 2, 1) := by decide +kernel
theorem d4_49 : decode prog_41_method_9_code 49 = .ok (.goto 6, 3) := by decide +kernel
theorem d4_52 : decode prog_41_method_9_code 52 = .ok (.bipush 40, 2) := by decide +kernel
theorem d4_54 : decode prog_41_method_9_code 54 = .ok (.istore_n 2, 1) := by decide +kernel
theorem d4_55 : decode prog_41_method_9_code 55 = .ok (.iload_n 2, 1) := by decide +kernel
theorem d4_56 : decode prog_41_method_9_code 56 = .ok (.ireturn, 1) := by decide +kernel
theorem pn_4 : plainName "pithline/html/ScriptData" = true := by first | (simp [plainName, overriddenIn]; done) | decide +kernel
theorem ef_4 (m : MethodId) (p1 : Int32) (p2 : Int32) : entryFrame m #[(.int p1), (.int p2)] 3 = mkF m 0 #[iv p1, iv p2, .unset] [] := by first | (simp [entryFrame, mkF, argsToLocals, Value.category]; done) | rfl
def f4 (p1 : Int32) (p2 : Int32)  : Int32 := (if p2 = (45 : Int32) then (if p1 = (40 : Int32) then (48 : Int32) else (56 : Int32)) else (if p2 = (60 : Int32) then (64 : Int32) else (if p2 = (62 : Int32) then (if p1 = (56 : Int32) then (0 : Int32) else (40 : Int32)) else (40 : Int32))))
set_option maxRecDepth 65536 in
set_option maxHeartbeats 40000000 in
theorem rm4 (l : Launch) (Z : State) (a0 : Array Value) (hw : ∀ d ∈ tables_1, d.before a0 Z = true) (ws : List Jvm.Cond) (p1 : Int32) (p2 : Int32)  (h0 : Heap) (n0 : Nat) (Z0 : n0 ≤ h0.size)  :
    MetFree l (⟨"pithline/html/ScriptData", "escaped", "(II)I"⟩ : MethodName) (head1 (Jvm.Cond.code (⟨"pithline/html/ScriptData", "escaped", "(II)I"⟩ : MethodName) prog_41_method_9_code 3 (some .int) :: ws) ({ frames := 0, cells := 0, slots := 0, locals := 0 } : Room)) (fun a U => a = #[(.int p1), (.int p2)] ∧ Z.Warmed39 U.vm ∧ U.heap = h0) (fun _ _ _ _ _ => True) (fun _ U o U' => ∃ v L, o = .returned v ∧ QI (f4 p1 p2) h0 n0 v U'.heap L ∧ FrameEnd U o U' L ({ frames := 0, cells := 0, slots := 0, locals := 0 } : Room).cells ({ frames := 0, cells := 0, slots := 0, locals := 0 } : Room).slots) := by
  refine MetFree.of_bodySF (plainFor_of_name pn_4) hisR ?_
  intro p e s m args below meth c s₁ Bd hml0 hP hK
  obtain ⟨rfl, hZ, hh⟩ := hP
  have hx := Bd.exec
  have hby := Bd.bytes
  have hml : c.maxLocals = 3 := hml0
  have hown : s.vm.findClass "pithline/html/ScriptData" = some m.cls := findClass_of_methodNamed Bd.named
  have hnm := (name_of_methodNamed Bd.named Bd.method).1
  have X0 : Stand p l e ({ frames := 0, cells := 0, slots := 0, locals := 0 } : Room) s m #[(.int p1), (.int p2)] below meth c s₁ [] 0 0 := Stand.of_body Bd
  have e0 : s₁.heap = h0 := by rw [← hh, Bd.state]; rfl
  have N0 := Fr.nil n0
  obtain ⟨B, hB, pre0⟩ : ∃ B : State → Prop, (∀ t, B t → Steps p.tables e below (s₁.setTop (entryFrame m #[(.int p1), (.int p2)] 3)) t) ∧ ∀ t, SS p e below m s₁ 0 #[iv p1, iv p2, .unset] [] t → B t := ⟨_, fun _ q => q, fun t kk => castTop (ef_4 m p1 p2) kk⟩
  have pre1 : ∀ t, SS p e below m s₁ 3 #[iv p1, iv p2, .unset] [(.int (45 : Int32)), (.int p2)] t → B t := fun t kk => pre0 t (by
    show SS p e below m s₁ 0 #[iv p1, iv p2, .unset] [] _
    refine XS.iloadN X0.here hx rfl (hb hby d4_0) rfl ?_
    refine XS.bipush X0.here hx rfl (hb hby d4_1) ?_
    exact kk)
  by_cases hc2 : p2 = (45 : Int32)
  · have pre3 : ∀ t, SS p e below m s₁ 9 #[iv p1, iv p2, .unset] [(.int (40 : Int32)), (.int p1)] t → B t := fun t kk => pre1 t (by
      refine XS.icmpNo X0.here hx rfl (hb hby d4_3) rfl (teq hc2).2 ?_
      refine XS.iloadN X0.here hx rfl (hb hby d4_6) rfl ?_
      refine XS.bipush X0.here hx rfl (hb hby d4_7) ?_
      show SS p e below m s₁ 9 #[iv p1, iv p2, .unset] [(.int (40 : Int32)), (.int p1)] _
      exact kk)
    by_cases hc4 : p1 = (40 : Int32)
    · have pre5 : ∀ t, SS p e below m s₁ 56 #[iv p1, iv p2, iv (48 : Int32)] [(.int (48 : Int32))] t → B t := fun t kk => pre3 t (by
        refine XS.icmpNo X0.here hx rfl (hb hby d4_9) rfl (teq hc4).2 ?_
        refine XS.bipush X0.here hx rfl (hb hby d4_12) ?_
        refine XS.goto X0.here hx rfl (pc0 := 14) (pc' := 19) rfl (hb hby d4_14) (by decide) (by decide) ?_
        show SS p e below m s₁ 19 #[iv p1, iv p2, .unset] [(.int (48 : Int32))] _
        refine XS.istoreN X0.here hx rfl (hb hby d4_19) rfl (l' := #[iv p1, iv p2, iv (48 : Int32)]) rfl ?_
        refine XS.goto X0.here hx rfl (pc0 := 20) (pc' := 55) rfl (hb hby d4_20) (by decide) (by decide) ?_
        refine XS.iloadN X0.here hx rfl (hb hby d4_55) rfl ?_
        show SS p e below m s₁ 56 #[iv p1, iv p2, iv (48 : Int32)] [(.int (48 : Int32))] _
        exact kk)
      obtain ⟨fs, hr, hrun, hended, hW, hsame⟩ := X0.leave (v := some (.int (48 : Int32))) (fun h => by rw [Bd.returns] at h; cases h)
      refine ⟨_, _, hB _ (pre5 _ ?_), hrun, hended, _, _, rfl, ?_, ⟨_, rfl⟩, hW, hsame.mono (by decide) (by decide)⟩
      · exact retI X0 hx Bd.returns (hb hby d4_56) hr
      · exact ⟨by show _ = some (Value.int (f4 p1 p2)); rw [f4, if_pos hc2, if_pos hc4], N0, e0⟩
    · have pre6 : ∀ t, SS p e below m s₁ 56 #[iv p1, iv p2, iv (56 : Int32)] [(.int (56 : Int32))] t → B t := fun t kk => pre3 t (by
        refine XS.icmpYes X0.here hx rfl (pc0 := 9) (pc' := 17) rfl (hb hby d4_9) rfl (feq hc4).2 (by decide) (by decide) ?_
        refine XS.bipush X0.here hx rfl (hb hby d4_17) ?_
        refine XS.istoreN X0.here hx rfl (hb hby d4_19) rfl (l' := #[iv p1, iv p2, iv (56 : Int32)]) rfl ?_
        show SS p e below m s₁ 20 #[iv p1, iv p2, iv (56 : Int32)] [] _
        refine XS.goto X0.here hx rfl (pc0 := 20) (pc' := 55) rfl (hb hby d4_20) (by decide) (by decide) ?_
        refine XS.iloadN X0.here hx rfl (hb hby d4_55) rfl ?_
        exact kk)
      obtain ⟨fs, hr, hrun, hended, hW, hsame⟩ := X0.leave (v := some (.int (56 : Int32))) (fun h => by rw [Bd.returns] at h; cases h)
      refine ⟨_, _, hB _ (pre6 _ ?_), hrun, hended, _, _, rfl, ?_, ⟨_, rfl⟩, hW, hsame.mono (by decide) (by decide)⟩
      · exact retI X0 hx Bd.returns (hb hby d4_56) hr
      · exact ⟨by show _ = some (Value.int (f4 p1 p2)); rw [f4, if_pos hc2, if_neg hc4], N0, e0⟩
  · have pre7 : ∀ t, SS p e below m s₁ 26 #[iv p1, iv p2, .unset] [(.int (60 : Int32)), (.int p2)] t → B t := fun t kk => pre1 t (by
      refine XS.icmpYes X0.here hx rfl (pc0 := 3) (pc' := 23) rfl (hb hby d4_3) rfl (feq hc2).2 (by decide) (by decide) ?_
      refine XS.iloadN X0.here hx rfl (hb hby d4_23) rfl ?_
      refine XS.bipush X0.here hx rfl (hb hby d4_24) ?_
      show SS p e below m s₁ 26 #[iv p1, iv p2, .unset] [(.int (60 : Int32)), (.int p2)] _
      exact kk)
    by_cases hc8 : p2 = (60 : Int32)
    · have pre9 : ∀ t, SS p e below m s₁ 56 #[iv p1, iv p2, iv (64 : Int32)] [(.int (64 : Int32))] t → B t := fun t kk => pre7 t (by
        refine XS.icmpNo X0.here hx rfl (hb hby d4_26) rfl (teq hc8).2 ?_
        refine XS.bipush X0.here hx rfl (hb hby d4_29) ?_
        refine XS.istoreN X0.here hx rfl (hb hby d4_31) rfl (l' := #[iv p1, iv p2, iv (64 : Int32)]) rfl ?_
        show SS p e below m s₁ 32 #[iv p1, iv p2, iv (64 : Int32)] [] _
        refine XS.goto X0.here hx rfl (pc0 := 32) (pc' := 55) rfl (hb hby d4_32) (by decide) (by decide) ?_
        refine XS.iloadN X0.here hx rfl (hb hby d4_55) rfl ?_
        exact kk)
      obtain ⟨fs, hr, hrun, hended, hW, hsame⟩ := X0.leave (v := some (.int (64 : Int32))) (fun h => by rw [Bd.returns] at h; cases h)
      refine ⟨_, _, hB _ (pre9 _ ?_), hrun, hended, _, _, rfl, ?_, ⟨_, rfl⟩, hW, hsame.mono (by decide) (by decide)⟩
      · exact retI X0 hx Bd.returns (hb hby d4_56) hr
      · exact ⟨by show _ = some (Value.int (f4 p1 p2)); rw [f4, if_neg hc2, if_pos hc8], N0, e0⟩
    · have pre10 : ∀ t, SS p e below m s₁ 38 #[iv p1, iv p2, .unset] [(.int (62 : Int32)), (.int p2)] t → B t := fun t kk => pre7 t (by
        refine XS.icmpYes X0.here hx rfl (pc0 := 26) (pc' := 35) rfl (hb hby d4_26) rfl (feq hc8).2 (by decide) (by decide) ?_
        refine XS.iloadN X0.here hx rfl (hb hby d4_35) rfl ?_
        refine XS.bipush X0.here hx rfl (hb hby d4_36) ?_
        show SS p e below m s₁ 38 #[iv p1, iv p2, .unset] [(.int (62 : Int32)), (.int p2)] _
        exact kk)
      by_cases hc11 : p2 = (62 : Int32)
      · have pre12 : ∀ t, SS p e below m s₁ 44 #[iv p1, iv p2, .unset] [(.int (56 : Int32)), (.int p1)] t → B t := fun t kk => pre10 t (by
          refine XS.icmpNo X0.here hx rfl (hb hby d4_38) rfl (teq hc11).2 ?_
          refine XS.iloadN X0.here hx rfl (hb hby d4_41) rfl ?_
          refine XS.bipush X0.here hx rfl (hb hby d4_42) ?_
          show SS p e below m s₁ 44 #[iv p1, iv p2, .unset] [(.int (56 : Int32)), (.int p1)] _
          exact kk)
        by_cases hc13 : p1 = (56 : Int32)
        · have pre14 : ∀ t, SS p e below m s₁ 56 #[iv p1, iv p2, iv (0 : Int32)] [(.int (0 : Int32))] t → B t := fun t kk => pre12 t (by
            refine XS.icmpNo X0.here hx rfl (hb hby d4_44) rfl (teq hc13).2 ?_
            refine XS.iconst X0.here hx rfl (hb hby d4_47) ?_
            refine XS.istoreN X0.here hx rfl (hb hby d4_48) rfl (l' := #[iv p1, iv p2, iv (0 : Int32)]) rfl ?_
            show SS p e below m s₁ 49 #[iv p1, iv p2, iv (0 : Int32)] [] _
            refine XS.goto X0.here hx rfl (pc0 := 49) (pc' := 55) rfl (hb hby d4_49) (by decide) (by decide) ?_
            refine XS.iloadN X0.here hx rfl (hb hby d4_55) rfl ?_
            exact kk)
          obtain ⟨fs, hr, hrun, hended, hW, hsame⟩ := X0.leave (v := some (.int (0 : Int32))) (fun h => by rw [Bd.returns] at h; cases h)
          refine ⟨_, _, hB _ (pre14 _ ?_), hrun, hended, _, _, rfl, ?_, ⟨_, rfl⟩, hW, hsame.mono (by decide) (by decide)⟩
          · exact retI X0 hx Bd.returns (hb hby d4_56) hr
          · exact ⟨by show _ = some (Value.int (f4 p1 p2)); rw [f4, if_neg hc2, if_neg hc8, if_pos hc11, if_pos hc13], N0, e0⟩
        · have pre15 : ∀ t, SS p e below m s₁ 56 #[iv p1, iv p2, iv (40 : Int32)] [(.int (40 : Int32))] t → B t := fun t kk => pre12 t (by
            refine XS.icmpYes X0.here hx rfl (pc0 := 44) (pc' := 52) rfl (hb hby d4_44) rfl (feq hc13).2 (by decide) (by decide) ?_
            refine XS.bipush X0.here hx rfl (hb hby d4_52) ?_
            refine XS.istoreN X0.here hx rfl (hb hby d4_54) rfl (l' := #[iv p1, iv p2, iv (40 : Int32)]) rfl ?_
            show SS p e below m s₁ 55 #[iv p1, iv p2, iv (40 : Int32)] [] _
            refine XS.iloadN X0.here hx rfl (hb hby d4_55) rfl ?_
            exact kk)
          obtain ⟨fs, hr, hrun, hended, hW, hsame⟩ := X0.leave (v := some (.int (40 : Int32))) (fun h => by rw [Bd.returns] at h; cases h)
          refine ⟨_, _, hB _ (pre15 _ ?_), hrun, hended, _, _, rfl, ?_, ⟨_, rfl⟩, hW, hsame.mono (by decide) (by decide)⟩
          · exact retI X0 hx Bd.returns (hb hby d4_56) hr
          · exact ⟨by show _ = some (Value.int (f4 p1 p2)); rw [f4, if_neg hc2, if_neg hc8, if_pos hc11, if_neg hc13], N0, e0⟩
      · have pre16 : ∀ t, SS p e below m s₁ 56 #[iv p1, iv p2, iv (40 : Int32)] [(.int (40 : Int32))] t → B t := fun t kk => pre10 t (by
          refine XS.icmpYes X0.here hx rfl (pc0 := 38) (pc' := 52) rfl (hb hby d4_38) rfl (feq hc11).2 (by decide) (by decide) ?_
          refine XS.bipush X0.here hx rfl (hb hby d4_52) ?_
          refine XS.istoreN X0.here hx rfl (hb hby d4_54) rfl (l' := #[iv p1, iv p2, iv (40 : Int32)]) rfl ?_
          show SS p e below m s₁ 55 #[iv p1, iv p2, iv (40 : Int32)] [] _
          refine XS.iloadN X0.here hx rfl (hb hby d4_55) rfl ?_
          exact kk)
        obtain ⟨fs, hr, hrun, hended, hW, hsame⟩ := X0.leave (v := some (.int (40 : Int32))) (fun h => by rw [Bd.returns] at h; cases h)
        refine ⟨_, _, hB _ (pre16 _ ?_), hrun, hended, _, _, rfl, ?_, ⟨_, rfl⟩, hW, hsame.mono (by decide) (by decide)⟩
        · exact retI X0 hx Bd.returns (hb hby d4_56) hr
        · exact ⟨by show _ = some (Value.int (f4 p1 p2)); rw [f4, if_neg hc2, if_neg hc8, if_neg hc11], N0, e0⟩
theorem d20_0 : decode prog_41_method_11_code 0 = .ok (.iload_n 1, 1) := by decide +kernel
theorem d20_1 : decode prog_41_method_11_code 1 = .ok (.bipush 45, 2) := by decide +kernel
theorem d20_3 : decode prog_41_method_11_code 3 = .ok (.if_icmp .ne 20, 3) := by decide +kernel
theorem d20_6 : decode prog_41_method_11_code 6 = .ok (.iload_n 0, 1) := by decide +kernel
theorem d20_7 : decode prog_41_method_11_code 7 = .ok (.bipush 88, 2) := by decide +kernel
theorem d20_9 : decode prog_41_method_11_code 9 = .ok (.if_icmp .ne 8, 3) := by decide +kernel
theorem d20_12 : decode prog_41_method_11_code 12 = .ok (.bipush 96, 2) := by decide +kernel
theorem d20_14 : decode prog_41_method_11_code 14 = .ok (.goto 5, 3) := by decide +kernel
theorem d20_17 : decode prog_41_method_11_code 17 = .ok (.bipush 104, 2) := by decide +kernel
theorem d20_19 : decode prog_41_method_11_code 19 = .ok (.istore_n 2, 1) := by decide +kernel
theorem d20_20 : decode prog_41_method_11_code 20 = .ok (.goto 35, 3) := by decide +kernel
theorem d20_23 : decode prog_41_method_11_code 23 = .ok (.iload_n 1, 1) := by decide +kernel
theorem d20_24 : decode prog_41_method_11_code 24 = .ok (.bipush 60, 2) := by decide +kernel
theorem d20_26 : decode prog_41_method_11_code 26 = .ok (.if_icmp .ne 9, 3) := by decide +kernel
theorem d20_29 : decode prog_41_method_11_code 29 = .ok (.bipush 112, 2) := by decide +kernel
theorem d20_31 : decode prog_41_method_11_code 31 = .ok (.istore_n 2, 1) := by decide +kernel
theorem d20_32 : decode prog_41_method_11_code 32 = .ok (.goto 23, 3) := by decide +kernel
theorem d20_35 : decode prog_41_method_11_code 35 = .ok (.iload_n 1, 1) := by decide +kernel
theorem d20_36 : decode prog_41_method_11_code 36 = .ok (.bipush 62, 2) := by decide +kernel
theorem d20_38 : decode prog_41_method_11_code 38 = .ok (.if_icmp .ne 14, 3) := by decide +kernel
theorem d20_41 : decode prog_41_method_11_code 41 = .ok (.iload_n 0, 1) := by decide +kernel
theorem d20_42 : decode prog_41_method_11_code 42 = .ok (.bipush 104, 2) := by decide +kernel
theorem d20_44 : decode prog_41_method_11_code 44 = .ok (.if_icmp .ne 8, 3) := by decide +kernel
theorem d20_47 : decode prog_41_method_11_code 47 = .ok (.iconst 0, 1) := by decide +kernel
theorem d20_48 : decode prog_41_method_11_code 48 = .ok (.istore_n 2, 1) := by decide +kernel
theorem d20_49 : decode prog_41_method_11_code 49 = .ok (.goto 6, 3) := by decide +kernel
theorem d20_52 : decode prog_41_method_11_code 52 = .ok (.bipush 88, 2) := by decide +kernel
theorem d20_54 : decode prog_41_method_11_code 54 = .ok (.istore_n 2, 1) := by decide +kernel
theorem d20_55 : decode prog_41_method_11_code 55 = .ok (.iload_n 2, 1) := by decide +kernel
theorem d20_56 : decode prog_41_method_11_code 56 = .ok (.ireturn, 1) := by decide +kernel
theorem pn_20 : plainName "pithline/html/ScriptData" = true := by first | (simp [plainName, overriddenIn]; done) | decide +kernel
theorem ef_20 (m : MethodId) (p1 : Int32) (p2 : Int32) : entryFrame m #[(.int p1), (.int p2)] 3 = mkF m 0 #[iv p1, iv p2, .unset] [] := by first | (simp [entryFrame, mkF, argsToLocals, Value.category]; done) | rfl
def f20 (p1 : Int32) (p2 : Int32)  : Int32 := (if p2 = (45 : Int32) then (if p1 = (88 : Int32) then (96 : Int32) else (104 : Int32)) else (if p2 = (60 : Int32) then (112 : Int32) else (if p2 = (62 : Int32) then (if p1 = (104 : Int32) then (0 : Int32) else (88 : Int32)) else (88 : Int32))))
set_option maxRecDepth 65536 in
set_option maxHeartbeats 40000000 in
theorem rm20 (l : Launch) (Z : State) (a0 : Array Value) (hw : ∀ d ∈ tables_1, d.before a0 Z = true) (ws : List Jvm.Cond) (p1 : Int32) (p2 : Int32)  (h0 : Heap) (n0 : Nat) (Z0 : n0 ≤ h0.size)  :
    MetFree l (⟨"pithline/html/ScriptData", "doublyEscaped", "(II)I"⟩ : MethodName) (head1 (Jvm.Cond.code (⟨"pithline/html/ScriptData", "doublyEscaped", "(II)I"⟩ : MethodName) prog_41_method_11_code 3 (some .int) :: ws) ({ frames := 0, cells := 0, slots := 0, locals := 0 } : Room)) (fun a U => a = #[(.int p1), (.int p2)] ∧ Z.Warmed39 U.vm ∧ U.heap = h0) (fun _ _ _ _ _ => True) (fun _ U o U' => ∃ v L, o = .returned v ∧ QI (f20 p1 p2) h0 n0 v U'.heap L ∧ FrameEnd U o U' L ({ frames := 0, cells := 0, slots := 0, locals := 0 } : Room).cells ({ frames := 0, cells := 0, slots := 0, locals := 0 } : Room).slots) := by
  refine MetFree.of_bodySF (plainFor_of_name pn_20) hisR ?_
  intro p e s m args below meth c s₁ Bd hml0 hP hK
  obtain ⟨rfl, hZ, hh⟩ := hP
  have hx := Bd.exec
  have hby := Bd.bytes
  have hml : c.maxLocals = 3 := hml0
  have hown : s.vm.findClass "pithline/html/ScriptData" = some m.cls := findClass_of_methodNamed Bd.named
  have hnm := (name_of_methodNamed Bd.named Bd.method).1
  have X0 : Stand p l e ({ frames := 0, cells := 0, slots := 0, locals := 0 } : Room) s m #[(.int p1), (.int p2)] below meth c s₁ [] 0 0 := Stand.of_body Bd
  have e0 : s₁.heap = h0 := by rw [← hh, Bd.state]; rfl
  have N0 := Fr.nil n0
  obtain ⟨B, hB, pre0⟩ : ∃ B : State → Prop, (∀ t, B t → Steps p.tables e below (s₁.setTop (entryFrame m #[(.int p1), (.int p2)] 3)) t) ∧ ∀ t, SS p e below m s₁ 0 #[iv p1, iv p2, .unset] [] t → B t := ⟨_, fun _ q => q, fun t kk => castTop (ef_20 m p1 p2) kk⟩
  have pre1 : ∀ t, SS p e below m s₁ 3 #[iv p1, iv p2, .unset] [(.int (45 : Int32)), (.int p2)] t → B t := fun t kk => pre0 t (by
    show SS p e below m s₁ 0 #[iv p1, iv p2, .unset] [] _
    refine XS.iloadN X0.here hx rfl (hb hby d20_0) rfl ?_
    refine XS.bipush X0.here hx rfl (hb hby d20_1) ?_
    exact kk)
  by_cases hc2 : p2 = (45 : Int32)
  · have pre3 : ∀ t, SS p e below m s₁ 9 #[iv p1, iv p2, .unset] [(.int (88 : Int32)), (.int p1)] t → B t := fun t kk => pre1 t (by
      refine XS.icmpNo X0.here hx rfl (hb hby d20_3) rfl (teq hc2).2 ?_
      refine XS.iloadN X0.here hx rfl (hb hby d20_6) rfl ?_
      refine XS.bipush X0.here hx rfl (hb hby d20_7) ?_
      show SS p e below m s₁ 9 #[iv p1, iv p2, .unset] [(.int (88 : Int32)), (.int p1)] _
      exact kk)
    by_cases hc4 : p1 = (88 : Int32)
    · have pre5 : ∀ t, SS p e below m s₁ 56 #[iv p1, iv p2, iv (96 : Int32)] [(.int (96 : Int32))] t → B t := fun t kk => pre3 t (by
        refine XS.icmpNo X0.here hx rfl (hb hby d20_9) rfl (teq hc4).2 ?_
        refine XS.bipush X0.here hx rfl (hb hby d20_12) ?_
        refine XS.goto X0.here hx rfl (pc0 := 14) (pc' := 19) rfl (hb hby d20_14) (by decide) (by decide) ?_
        show SS p e below m s₁ 19 #[iv p1, iv p2, .unset] [(.int (96 : Int32))] _
        refine XS.istoreN X0.here hx rfl (hb hby d20_19) rfl (l' := #[iv p1, iv p2, iv (96 : Int32)]) rfl ?_
        refine XS.goto X0.here hx rfl (pc0 := 20) (pc' := 55) rfl (hb hby d20_20) (by decide) (by decide) ?_
        refine XS.iloadN X0.here hx rfl (hb hby d20_55) rfl ?_
        show SS p e below m s₁ 56 #[iv p1, iv p2, iv (96 : Int32)] [(.int (96 : Int32))] _
        exact kk)
      obtain ⟨fs, hr, hrun, hended, hW, hsame⟩ := X0.leave (v := some (.int (96 : Int32))) (fun h => by rw [Bd.returns] at h; cases h)
      refine ⟨_, _, hB _ (pre5 _ ?_), hrun, hended, _, _, rfl, ?_, ⟨_, rfl⟩, hW, hsame.mono (by decide) (by decide)⟩
      · exact retI X0 hx Bd.returns (hb hby d20_56) hr
      · exact ⟨by show _ = some (Value.int (f20 p1 p2)); rw [f20, if_pos hc2, if_pos hc4], N0, e0⟩
    · have pre6 : ∀ t, SS p e below m s₁ 56 #[iv p1, iv p2, iv (104 : Int32)] [(.int (104 : Int32))] t → B t := fun t kk => pre3 t (by
        refine XS.icmpYes X0.here hx rfl (pc0 := 9) (pc' := 17) rfl (hb hby d20_9) rfl (feq hc4).2 (by decide) (by decide) ?_
        refine XS.bipush X0.here hx rfl (hb hby d20_17) ?_
        refine XS.istoreN X0.here hx rfl (hb hby d20_19) rfl (l' := #[iv p1, iv p2, iv (104 : Int32)]) rfl ?_
        show SS p e below m s₁ 20 #[iv p1, iv p2, iv (104 : Int32)] [] _
        refine XS.goto X0.here hx rfl (pc0 := 20) (pc' := 55) rfl (hb hby d20_20) (by decide) (by decide) ?_
        refine XS.iloadN X0.here hx rfl (hb hby d20_55) rfl ?_
        exact kk)
      obtain ⟨fs, hr, hrun, hended, hW, hsame⟩ := X0.leave (v := some (.int (104 : Int32))) (fun h => by rw [Bd.returns] at h; cases h)
      refine ⟨_, _, hB _ (pre6 _ ?_), hrun, hended, _, _, rfl, ?_, ⟨_, rfl⟩, hW, hsame.mono (by decide) (by decide)⟩
      · exact retI X0 hx Bd.returns (hb hby d20_56) hr
      · exact ⟨by show _ = some (Value.int (f20 p1 p2)); rw [f20, if_pos hc2, if_neg hc4], N0, e0⟩
  · have pre7 : ∀ t, SS p e below m s₁ 26 #[iv p1, iv p2, .unset] [(.int (60 : Int32)), (.int p2)] t → B t := fun t kk => pre1 t (by
      refine XS.icmpYes X0.here hx rfl (pc0 := 3) (pc' := 23) rfl (hb hby d20_3) rfl (feq hc2).2 (by decide) (by decide) ?_
      refine XS.iloadN X0.here hx rfl (hb hby d20_23) rfl ?_
      refine XS.bipush X0.here hx rfl (hb hby d20_24) ?_
      show SS p e below m s₁ 26 #[iv p1, iv p2, .unset] [(.int (60 : Int32)), (.int p2)] _
      exact kk)
    by_cases hc8 : p2 = (60 : Int32)
    · have pre9 : ∀ t, SS p e below m s₁ 56 #[iv p1, iv p2, iv (112 : Int32)] [(.int (112 : Int32))] t → B t := fun t kk => pre7 t (by
        refine XS.icmpNo X0.here hx rfl (hb hby d20_26) rfl (teq hc8).2 ?_
        refine XS.bipush X0.here hx rfl (hb hby d20_29) ?_
        refine XS.istoreN X0.here hx rfl (hb hby d20_31) rfl (l' := #[iv p1, iv p2, iv (112 : Int32)]) rfl ?_
        show SS p e below m s₁ 32 #[iv p1, iv p2, iv (112 : Int32)] [] _
        refine XS.goto X0.here hx rfl (pc0 := 32) (pc' := 55) rfl (hb hby d20_32) (by decide) (by decide) ?_
        refine XS.iloadN X0.here hx rfl (hb hby d20_55) rfl ?_
        exact kk)
      obtain ⟨fs, hr, hrun, hended, hW, hsame⟩ := X0.leave (v := some (.int (112 : Int32))) (fun h => by rw [Bd.returns] at h; cases h)
      refine ⟨_, _, hB _ (pre9 _ ?_), hrun, hended, _, _, rfl, ?_, ⟨_, rfl⟩, hW, hsame.mono (by decide) (by decide)⟩
      · exact retI X0 hx Bd.returns (hb hby d20_56) hr
      · exact ⟨by show _ = some (Value.int (f20 p1 p2)); rw [f20, if_neg hc2, if_pos hc8], N0, e0⟩
    · have pre10 : ∀ t, SS p e below m s₁ 38 #[iv p1, iv p2, .unset] [(.int (62 : Int32)), (.int p2)] t → B t := fun t kk => pre7 t (by
        refine XS.icmpYes X0.here hx rfl (pc0 := 26) (pc' := 35) rfl (hb hby d20_26) rfl (feq hc8).2 (by decide) (by decide) ?_
        refine XS.iloadN X0.here hx rfl (hb hby d20_35) rfl ?_
        refine XS.bipush X0.here hx rfl (hb hby d20_36) ?_
        show SS p e below m s₁ 38 #[iv p1, iv p2, .unset] [(.int (62 : Int32)), (.int p2)] _
        exact kk)
      by_cases hc11 : p2 = (62 : Int32)
      · have pre12 : ∀ t, SS p e below m s₁ 44 #[iv p1, iv p2, .unset] [(.int (104 : Int32)), (.int p1)] t → B t := fun t kk => pre10 t (by
          refine XS.icmpNo X0.here hx rfl (hb hby d20_38) rfl (teq hc11).2 ?_
          refine XS.iloadN X0.here hx rfl (hb hby d20_41) rfl ?_
          refine XS.bipush X0.here hx rfl (hb hby d20_42) ?_
          show SS p e below m s₁ 44 #[iv p1, iv p2, .unset] [(.int (104 : Int32)), (.int p1)] _
          exact kk)
        by_cases hc13 : p1 = (104 : Int32)
        · have pre14 : ∀ t, SS p e below m s₁ 56 #[iv p1, iv p2, iv (0 : Int32)] [(.int (0 : Int32))] t → B t := fun t kk => pre12 t (by
            refine XS.icmpNo X0.here hx rfl (hb hby d20_44) rfl (teq hc13).2 ?_
            refine XS.iconst X0.here hx rfl (hb hby d20_47) ?_
            refine XS.istoreN X0.here hx rfl (hb hby d20_48) rfl (l' := #[iv p1, iv p2, iv (0 : Int32)]) rfl ?_
            show SS p e below m s₁ 49 #[iv p1, iv p2, iv (0 : Int32)] [] _
            refine XS.goto X0.here hx rfl (pc0 := 49) (pc' := 55) rfl (hb hby d20_49) (by decide) (by decide) ?_
            refine XS.iloadN X0.here hx rfl (hb hby d20_55) rfl ?_
            exact kk)
          obtain ⟨fs, hr, hrun, hended, hW, hsame⟩ := X0.leave (v := some (.int (0 : Int32))) (fun h => by rw [Bd.returns] at h; cases h)
          refine ⟨_, _, hB _ (pre14 _ ?_), hrun, hended, _, _, rfl, ?_, ⟨_, rfl⟩, hW, hsame.mono (by decide) (by decide)⟩
          · exact retI X0 hx Bd.returns (hb hby d20_56) hr
          · exact ⟨by show _ = some (Value.int (f20 p1 p2)); rw [f20, if_neg hc2, if_neg hc8, if_pos hc11, if_pos hc13], N0, e0⟩
        · have pre15 : ∀ t, SS p e below m s₁ 56 #[iv p1, iv p2, iv (88 : Int32)] [(.int (88 : Int32))] t → B t := fun t kk => pre12 t (by
            refine XS.icmpYes X0.here hx rfl (pc0 := 44) (pc' := 52) rfl (hb hby d20_44) rfl (feq hc13).2 (by decide) (by decide) ?_
            refine XS.bipush X0.here hx rfl (hb hby d20_52) ?_
            refine XS.istoreN X0.here hx rfl (hb hby d20_54) rfl (l' := #[iv p1, iv p2, iv (88 : Int32)]) rfl ?_
            show SS p e below m s₁ 55 #[iv p1, iv p2, iv (88 : Int32)] [] _
            refine XS.iloadN X0.here hx rfl (hb hby d20_55) rfl ?_
            exact kk)
          obtain ⟨fs, hr, hrun, hended, hW, hsame⟩ := X0.leave (v := some (.int (88 : Int32))) (fun h => by rw [Bd.returns] at h; cases h)
          refine ⟨_, _, hB _ (pre15 _ ?_), hrun, hended, _, _, rfl, ?_, ⟨_, rfl⟩, hW, hsame.mono (by decide) (by decide)⟩
          · exact retI X0 hx Bd.returns (hb hby d20_56) hr
          · exact ⟨by show _ = some (Value.int (f20 p1 p2)); rw [f20, if_neg hc2, if_neg hc8, if_pos hc11, if_neg hc13], N0, e0⟩
      · have pre16 : ∀ t, SS p e below m s₁ 56 #[iv p1, iv p2, iv (88 : Int32)] [(.int (88 : Int32))] t → B t := fun t kk => pre10 t (by
          refine XS.icmpYes X0.here hx rfl (pc0 := 38) (pc' := 52) rfl (hb hby d20_38) rfl (feq hc11).2 (by decide) (by decide) ?_
          refine XS.bipush X0.here hx rfl (hb hby d20_52) ?_
          refine XS.istoreN X0.here hx rfl (hb hby d20_54) rfl (l' := #[iv p1, iv p2, iv (88 : Int32)]) rfl ?_
          show SS p e below m s₁ 55 #[iv p1, iv p2, iv (88 : Int32)] [] _
          refine XS.iloadN X0.here hx rfl (hb hby d20_55) rfl ?_
          exact kk)
        obtain ⟨fs, hr, hrun, hended, hW, hsame⟩ := X0.leave (v := some (.int (88 : Int32))) (fun h => by rw [Bd.returns] at h; cases h)
        refine ⟨_, _, hB _ (pre16 _ ?_), hrun, hended, _, _, rfl, ?_, ⟨_, rfl⟩, hW, hsame.mono (by decide) (by decide)⟩
        · exact retI X0 hx Bd.returns (hb hby d20_56) hr
        · exact ⟨by show _ = some (Value.int (f20 p1 p2)); rw [f20, if_neg hc2, if_neg hc8, if_neg hc11], N0, e0⟩
theorem d16_0 : decode prog_41_method_6_code 0 = .ok (.iload_n 0, 1) := by decide +kernel
theorem d16_1 : decode prog_41_method_6_code 1 = .ok (.iload_n 0, 1) := by decide +kernel
theorem d16_2 : decode prog_41_method_6_code 2 = .ok (.bipush 8, 2) := by decide +kernel
theorem d16_4 : decode prog_41_method_6_code 4 = .ok (.irem, 1) := by decide +kernel
theorem d16_5 : decode prog_41_method_6_code 5 = .ok (.isub, 1) := by decide +kernel
theorem d16_6 : decode prog_41_method_6_code 6 = .ok (.istore_n 1, 1) := by decide +kernel
theorem d16_7 : decode prog_41_method_6_code 7 = .ok (.iload_n 0, 1) := by decide +kernel
theorem d16_8 : decode prog_41_method_6_code 8 = .ok (.bipush 8, 2) := by decide +kernel
theorem d16_10 : decode prog_41_method_6_code 10 = .ok (.irem, 1) := by decide +kernel
theorem d16_11 : decode prog_41_method_6_code 11 = .ok (.istore_n 2, 1) := by decide +kernel
theorem d16_12 : decode prog_41_method_6_code 12 = .ok (.iload_n 1, 1) := by decide +kernel
theorem d16_13 : decode prog_41_method_6_code 13 = .ok (.bipush 64, 2) := by decide +kernel
theorem d16_15 : decode prog_41_method_6_code 15 = .ok (.if_icmp .eq 9, 3) := by decide +kernel
theorem d16_18 : decode prog_41_method_6_code 18 = .ok (.iload_n 1, 1) := by decide +kernel
theorem d16_19 : decode prog_41_method_6_code 19 = .ok (.bipush 112, 2) := by decide +kernel
theorem d16_21 : decode prog_41_method_6_code 21 = .ok (.if_icmp .ne 8, 3) := by decide +kernel
theorem d16_24 : decode prog_41_method_6_code 24 = .ok (.iconst 1, 1) := by decide +kernel
theorem d16_25 : decode prog_41_method_6_code 25 = .ok (.istore_n 3, 1) := by decide +kernel
theorem d16_26 : decode prog_41_method_6_code 26 = .ok (.goto 38, 3) := by decide +kernel
theorem d16_29 : decode prog_41_method_6_code 29 = .ok (.iload_n 1, 1) := by decide +kernel
theorem d16_30 : decode prog_41_method_6_code 30 = .ok (.bipush 80, 2) := by decide +kernel
theorem d16_32 : decode prog_41_method_6_code 32 = .ok (.if_icmp .eq 10, 3) := by decide +kernel
theorem d16_35 : decode prog_41_method_6_code 35 = .ok (.iload_n 1, 1) := by decide +kernel
theorem d16_36 : decode prog_41_method_6_code 36 = .ok (.sipush 128, 3) := by decide +kernel
theorem d16_39 : decode prog_41_method_6_code 39 = .ok (.if_icmp .ne 10, 3) := by decide +kernel
theorem d16_42 : decode prog_41_method_6_code 42 = .ok (.iconst 1, 1) := by decide +kernel
theorem d16_43 : decode prog_41_method_6_code 43 = .ok (.iload_n 2, 1) := by decide +kernel
theorem d16_44 : decode prog_41_method_6_code 44 = .ok (.iadd, 1) := by decide +kernel
theorem d16_45 : decode prog_41_method_6_code 45 = .ok (.istore_n 3, 1) := by decide +kernel
theorem d16_46 : decode prog_41_method_6_code 46 = .ok (.goto 18, 3) := by decide +kernel
theorem d16_49 : decode prog_41_method_6_code 49 = .ok (.iload_n 1, 1) := by decide +kernel
theorem d16_50 : decode prog_41_method_6_code 50 = .ok (.bipush 120, 2) := by decide +kernel
theorem d16_52 : decode prog_41_method_6_code 52 = .ok (.if_icmp .ne 10, 3) := by decide +kernel
theorem d16_55 : decode prog_41_method_6_code 55 = .ok (.iconst 2, 1) := by decide +kernel
theorem d16_56 : decode prog_41_method_6_code 56 = .ok (.iload_n 2, 1) := by decide +kernel
theorem d16_57 : decode prog_41_method_6_code 57 = .ok (.iadd, 1) := by decide +kernel
theorem d16_58 : decode prog_41_method_6_code 58 = .ok (.istore_n 3, 1) := by decide +kernel
theorem d16_59 : decode prog_41_method_6_code 59 = .ok (.goto 5, 3) := by decide +kernel
theorem d16_62 : decode prog_41_method_6_code 62 = .ok (.iconst 0, 1) := by decide +kernel
theorem d16_63 : decode prog_41_method_6_code 63 = .ok (.istore_n 3, 1) := by decide +kernel
theorem d16_64 : decode prog_41_method_6_code 64 = .ok (.iload_n 3, 1) := by decide +kernel
theorem d16_65 : decode prog_41_method_6_code 65 = .ok (.ireturn, 1) := by decide +kernel
theorem pn_16 : plainName "pithline/html/ScriptData" = true := by first | (simp [plainName, overriddenIn]; done) | decide +kernel
theorem ef_16 (m : MethodId) (p1 : Int32) : entryFrame m #[(.int p1)] 4 = mkF m 0 #[iv p1, .unset, .unset, .unset] [] := by first | (simp [entryFrame, mkF, argsToLocals, Value.category]; done) | rfl
def f16 (p1 : Int32)  : Int32 := (if (p1 - (p1 % (8 : Int32))) = (64 : Int32) then (1 : Int32) else (if (p1 - (p1 % (8 : Int32))) = (112 : Int32) then (1 : Int32) else (if (p1 - (p1 % (8 : Int32))) = (80 : Int32) then ((1 : Int32) + (p1 % (8 : Int32))) else (if (p1 - (p1 % (8 : Int32))) = (128 : Int32) then ((1 : Int32) + (p1 % (8 : Int32))) else (if (p1 - (p1 % (8 : Int32))) = (120 : Int32) then ((2 : Int32) + (p1 % (8 : Int32))) else (0 : Int32))))))
set_option maxRecDepth 65536 in
set_option maxHeartbeats 40000000 in
theorem rm16 (l : Launch) (Z : State) (a0 : Array Value) (hw : ∀ d ∈ tables_1, d.before a0 Z = true) (ws : List Jvm.Cond) (p1 : Int32)  (h0 : Heap) (n0 : Nat) (Z0 : n0 ≤ h0.size)  :
    MetFree l (⟨"pithline/html/ScriptData", "openTagLength", "(I)I"⟩ : MethodName) (head1 (Jvm.Cond.code (⟨"pithline/html/ScriptData", "openTagLength", "(I)I"⟩ : MethodName) prog_41_method_6_code 4 (some .int) :: ws) ({ frames := 0, cells := 0, slots := 0, locals := 0 } : Room)) (fun a U => a = #[(.int p1)] ∧ Z.Warmed39 U.vm ∧ U.heap = h0) (fun _ _ _ _ _ => True) (fun _ U o U' => ∃ v L, o = .returned v ∧ QI (f16 p1) h0 n0 v U'.heap L ∧ FrameEnd U o U' L ({ frames := 0, cells := 0, slots := 0, locals := 0 } : Room).cells ({ frames := 0, cells := 0, slots := 0, locals := 0 } : Room).slots) := by
  refine MetFree.of_bodySF (plainFor_of_name pn_16) hisR ?_
  intro p e s m args below meth c s₁ Bd hml0 hP hK
  obtain ⟨rfl, hZ, hh⟩ := hP
  have hx := Bd.exec
  have hby := Bd.bytes
  have hml : c.maxLocals = 4 := hml0
  have hown : s.vm.findClass "pithline/html/ScriptData" = some m.cls := findClass_of_methodNamed Bd.named
  have hnm := (name_of_methodNamed Bd.named Bd.method).1
  have X0 : Stand p l e ({ frames := 0, cells := 0, slots := 0, locals := 0 } : Room) s m #[(.int p1)] below meth c s₁ [] 0 0 := Stand.of_body Bd
  have e0 : s₁.heap = h0 := by rw [← hh, Bd.state]; rfl
  have N0 := Fr.nil n0
  obtain ⟨B, hB, pre0⟩ : ∃ B : State → Prop, (∀ t, B t → Steps p.tables e below (s₁.setTop (entryFrame m #[(.int p1)] 4)) t) ∧ ∀ t, SS p e below m s₁ 0 #[iv p1, .unset, .unset, .unset] [] t → B t := ⟨_, fun _ q => q, fun t kk => castTop (ef_16 m p1) kk⟩
  have pre1 : ∀ t, SS p e below m s₁ 15 #[iv p1, iv (p1 - (p1 % (8 : Int32))), iv (p1 % (8 : Int32)), .unset] [(.int (64 : Int32)), (.int (p1 - (p1 % (8 : Int32))))] t → B t := fun t kk => pre0 t (by
    show SS p e below m s₁ 0 #[iv p1, .unset, .unset, .unset] [] _
    refine XS.iloadN X0.here hx rfl (hb hby d16_0) rfl ?_
    refine XS.iloadN X0.here hx rfl (hb hby d16_1) rfl ?_
    refine XS.bipush X0.here hx rfl (hb hby d16_2) ?_
    show SS p e below m s₁ 4 #[iv p1, .unset, .unset, .unset] [(.int (8 : Int32)), (.int p1), (.int p1)] _
    refine iremM (g := (mkF m 4 #[iv p1, .unset, .unset, .unset] [(.int (8 : Int32)), (.int p1), (.int p1)])) X0 hx rfl (hb hby d16_4) rfl (by decide) ?_
    refine XS.isub X0.here hx rfl (hb hby d16_5) rfl ?_
    refine XS.istoreN X0.here hx rfl (hb hby d16_6) rfl (l' := #[iv p1, iv (p1 - (p1 % (8 : Int32))), .unset, .unset]) rfl ?_
    show SS p e below m s₁ 7 #[iv p1, iv (p1 - (p1 % (8 : Int32))), .unset, .unset] [] _
    refine XS.iloadN X0.here hx rfl (hb hby d16_7) rfl ?_
    refine XS.bipush X0.here hx rfl (hb hby d16_8) ?_
    refine iremM (g := (mkF m 10 #[iv p1, iv (p1 - (p1 % (8 : Int32))), .unset, .unset] [(.int (8 : Int32)), (.int p1)])) X0 hx rfl (hb hby d16_10) rfl (by decide) ?_
    show SS p e below m s₁ 11 #[iv p1, iv (p1 - (p1 % (8 : Int32))), .unset, .unset] [(.int (p1 % (8 : Int32)))] _
    refine XS.istoreN X0.here hx rfl (hb hby d16_11) rfl (l' := #[iv p1, iv (p1 - (p1 % (8 : Int32))), iv (p1 % (8 : Int32)), .unset]) rfl ?_
    refine XS.iloadN X0.here hx rfl (hb hby d16_12) rfl ?_
    refine XS.bipush X0.here hx rfl (hb hby d16_13) ?_
    show SS p e below m s₁ 15 #[iv p1, iv (p1 - (p1 % (8 : Int32))), iv (p1 % (8 : Int32)), .unset] [(.int (64 : Int32)), (.int (p1 - (p1 % (8 : Int32))))] _
    exact kk)
  by_cases hc2 : (p1 - (p1 % (8 : Int32))) = (64 : Int32)
  · have pre3 : ∀ t, SS p e below m s₁ 65 #[iv p1, iv (p1 - (p1 % (8 : Int32))), iv (p1 % (8 : Int32)), iv (1 : Int32)] [(.int (1 : Int32))] t → B t := fun t kk => pre1 t (by
      refine XS.icmpYes X0.here hx rfl (pc0 := 15) (pc' := 24) rfl (hb hby d16_15) rfl (teq hc2).1 (by decide) (by decide) ?_
      refine XS.iconst X0.here hx rfl (hb hby d16_24) ?_
      refine XS.istoreN X0.here hx rfl (hb hby d16_25) rfl (l' := #[iv p1, iv (p1 - (p1 % (8 : Int32))), iv (p1 % (8 : Int32)), iv (1 : Int32)]) rfl ?_
      show SS p e below m s₁ 26 #[iv p1, iv (p1 - (p1 % (8 : Int32))), iv (p1 % (8 : Int32)), iv (1 : Int32)] [] _
      refine XS.goto X0.here hx rfl (pc0 := 26) (pc' := 64) rfl (hb hby d16_26) (by decide) (by decide) ?_
      refine XS.iloadN X0.here hx rfl (hb hby d16_64) rfl ?_
      exact kk)
    obtain ⟨fs, hr, hrun, hended, hW, hsame⟩ := X0.leave (v := some (.int (1 : Int32))) (fun h => by rw [Bd.returns] at h; cases h)
    refine ⟨_, _, hB _ (pre3 _ ?_), hrun, hended, _, _, rfl, ?_, ⟨_, rfl⟩, hW, hsame.mono (by decide) (by decide)⟩
    · exact retI X0 hx Bd.returns (hb hby d16_65) hr
    · exact ⟨by show _ = some (Value.int (f16 p1)); rw [f16, if_pos hc2], N0, e0⟩
  · have pre4 : ∀ t, SS p e below m s₁ 21 #[iv p1, iv (p1 - (p1 % (8 : Int32))), iv (p1 % (8 : Int32)), .unset] [(.int (112 : Int32)), (.int (p1 - (p1 % (8 : Int32))))] t → B t := fun t kk => pre1 t (by
      refine XS.icmpNo X0.here hx rfl (hb hby d16_15) rfl (feq hc2).1 ?_
      refine XS.iloadN X0.here hx rfl (hb hby d16_18) rfl ?_
      refine XS.bipush X0.here hx rfl (hb hby d16_19) ?_
      show SS p e below m s₁ 21 #[iv p1, iv (p1 - (p1 % (8 : Int32))), iv (p1 % (8 : Int32)), .unset] [(.int (112 : Int32)), (.int (p1 - (p1 % (8 : Int32))))] _
      exact kk)
    by_cases hc5 : (p1 - (p1 % (8 : Int32))) = (112 : Int32)
    · have pre6 : ∀ t, SS p e below m s₁ 65 #[iv p1, iv (p1 - (p1 % (8 : Int32))), iv (p1 % (8 : Int32)), iv (1 : Int32)] [(.int (1 : Int32))] t → B t := fun t kk => pre4 t (by
        refine XS.icmpNo X0.here hx rfl (hb hby d16_21) rfl (teq hc5).2 ?_
        refine XS.iconst X0.here hx rfl (hb hby d16_24) ?_
        refine XS.istoreN X0.here hx rfl (hb hby d16_25) rfl (l' := #[iv p1, iv (p1 - (p1 % (8 : Int32))), iv (p1 % (8 : Int32)), iv (1 : Int32)]) rfl ?_
        show SS p e below m s₁ 26 #[iv p1, iv (p1 - (p1 % (8 : Int32))), iv (p1 % (8 : Int32)), iv (1 : Int32)] [] _
        refine XS.goto X0.here hx rfl (pc0 := 26) (pc' := 64) rfl (hb hby d16_26) (by decide) (by decide) ?_
        refine XS.iloadN X0.here hx rfl (hb hby d16_64) rfl ?_
        exact kk)
      obtain ⟨fs, hr, hrun, hended, hW, hsame⟩ := X0.leave (v := some (.int (1 : Int32))) (fun h => by rw [Bd.returns] at h; cases h)
      refine ⟨_, _, hB _ (pre6 _ ?_), hrun, hended, _, _, rfl, ?_, ⟨_, rfl⟩, hW, hsame.mono (by decide) (by decide)⟩
      · exact retI X0 hx Bd.returns (hb hby d16_65) hr
      · exact ⟨by show _ = some (Value.int (f16 p1)); rw [f16, if_neg hc2, if_pos hc5], N0, e0⟩
    · have pre7 : ∀ t, SS p e below m s₁ 32 #[iv p1, iv (p1 - (p1 % (8 : Int32))), iv (p1 % (8 : Int32)), .unset] [(.int (80 : Int32)), (.int (p1 - (p1 % (8 : Int32))))] t → B t := fun t kk => pre4 t (by
        refine XS.icmpYes X0.here hx rfl (pc0 := 21) (pc' := 29) rfl (hb hby d16_21) rfl (feq hc5).2 (by decide) (by decide) ?_
        refine XS.iloadN X0.here hx rfl (hb hby d16_29) rfl ?_
        refine XS.bipush X0.here hx rfl (hb hby d16_30) ?_
        show SS p e below m s₁ 32 #[iv p1, iv (p1 - (p1 % (8 : Int32))), iv (p1 % (8 : Int32)), .unset] [(.int (80 : Int32)), (.int (p1 - (p1 % (8 : Int32))))] _
        exact kk)
      by_cases hc8 : (p1 - (p1 % (8 : Int32))) = (80 : Int32)
      · have pre9 : ∀ t, SS p e below m s₁ 65 #[iv p1, iv (p1 - (p1 % (8 : Int32))), iv (p1 % (8 : Int32)), iv ((1 : Int32) + (p1 % (8 : Int32)))] [(.int ((1 : Int32) + (p1 % (8 : Int32))))] t → B t := fun t kk => pre7 t (by
          refine XS.icmpYes X0.here hx rfl (pc0 := 32) (pc' := 42) rfl (hb hby d16_32) rfl (teq hc8).1 (by decide) (by decide) ?_
          refine XS.iconst X0.here hx rfl (hb hby d16_42) ?_
          refine XS.iloadN X0.here hx rfl (hb hby d16_43) rfl ?_
          show SS p e below m s₁ 44 #[iv p1, iv (p1 - (p1 % (8 : Int32))), iv (p1 % (8 : Int32)), .unset] [(.int (p1 % (8 : Int32))), (.int (1 : Int32))] _
          refine XS.iadd X0.here hx rfl (hb hby d16_44) rfl ?_
          refine XS.istoreN X0.here hx rfl (hb hby d16_45) rfl (l' := #[iv p1, iv (p1 - (p1 % (8 : Int32))), iv (p1 % (8 : Int32)), iv ((1 : Int32) + (p1 % (8 : Int32)))]) rfl ?_
          refine XS.goto X0.here hx rfl (pc0 := 46) (pc' := 64) rfl (hb hby d16_46) (by decide) (by decide) ?_
          show SS p e below m s₁ 64 #[iv p1, iv (p1 - (p1 % (8 : Int32))), iv (p1 % (8 : Int32)), iv ((1 : Int32) + (p1 % (8 : Int32)))] [] _
          refine XS.iloadN X0.here hx rfl (hb hby d16_64) rfl ?_
          exact kk)
        obtain ⟨fs, hr, hrun, hended, hW, hsame⟩ := X0.leave (v := some (.int ((1 : Int32) + (p1 % (8 : Int32))))) (fun h => by rw [Bd.returns] at h; cases h)
        refine ⟨_, _, hB _ (pre9 _ ?_), hrun, hended, _, _, rfl, ?_, ⟨_, rfl⟩, hW, hsame.mono (by decide) (by decide)⟩
        · exact retI X0 hx Bd.returns (hb hby d16_65) hr
        · exact ⟨by show _ = some (Value.int (f16 p1)); rw [f16, if_neg hc2, if_neg hc5, if_pos hc8], N0, e0⟩
      · have pre10 : ∀ t, SS p e below m s₁ 39 #[iv p1, iv (p1 - (p1 % (8 : Int32))), iv (p1 % (8 : Int32)), .unset] [(.int (128 : Int32)), (.int (p1 - (p1 % (8 : Int32))))] t → B t := fun t kk => pre7 t (by
          refine XS.icmpNo X0.here hx rfl (hb hby d16_32) rfl (feq hc8).1 ?_
          refine XS.iloadN X0.here hx rfl (hb hby d16_35) rfl ?_
          refine XS.sipush X0.here hx rfl (hb hby d16_36) ?_
          show SS p e below m s₁ 39 #[iv p1, iv (p1 - (p1 % (8 : Int32))), iv (p1 % (8 : Int32)), .unset] [(.int (128 : Int32)), (.int (p1 - (p1 % (8 : Int32))))] _
          exact kk)
        by_cases hc11 : (p1 - (p1 % (8 : Int32))) = (128 : Int32)
        · have pre12 : ∀ t, SS p e below m s₁ 65 #[iv p1, iv (p1 - (p1 % (8 : Int32))), iv (p1 % (8 : Int32)), iv ((1 : Int32) + (p1 % (8 : Int32)))] [(.int ((1 : Int32) + (p1 % (8 : Int32))))] t → B t := fun t kk => pre10 t (by
            refine XS.icmpNo X0.here hx rfl (hb hby d16_39) rfl (teq hc11).2 ?_
            refine XS.iconst X0.here hx rfl (hb hby d16_42) ?_
            refine XS.iloadN X0.here hx rfl (hb hby d16_43) rfl ?_
            show SS p e below m s₁ 44 #[iv p1, iv (p1 - (p1 % (8 : Int32))), iv (p1 % (8 : Int32)), .unset] [(.int (p1 % (8 : Int32))), (.int (1 : Int32))] _
            refine XS.iadd X0.here hx rfl (hb hby d16_44) rfl ?_
            refine XS.istoreN X0.here hx rfl (hb hby d16_45) rfl (l' := #[iv p1, iv (p1 - (p1 % (8 : Int32))), iv (p1 % (8 : Int32)), iv ((1 : Int32) + (p1 % (8 : Int32)))]) rfl ?_
            refine XS.goto X0.here hx rfl (pc0 := 46) (pc' := 64) rfl (hb hby d16_46) (by decide) (by decide) ?_
            show SS p e below m s₁ 64 #[iv p1, iv (p1 - (p1 % (8 : Int32))), iv (p1 % (8 : Int32)), iv ((1 : Int32) + (p1 % (8 : Int32)))] [] _
            refine XS.iloadN X0.here hx rfl (hb hby d16_64) rfl ?_
            exact kk)
          obtain ⟨fs, hr, hrun, hended, hW, hsame⟩ := X0.leave (v := some (.int ((1 : Int32) + (p1 % (8 : Int32))))) (fun h => by rw [Bd.returns] at h; cases h)
          refine ⟨_, _, hB _ (pre12 _ ?_), hrun, hended, _, _, rfl, ?_, ⟨_, rfl⟩, hW, hsame.mono (by decide) (by decide)⟩
          · exact retI X0 hx Bd.returns (hb hby d16_65) hr
          · exact ⟨by show _ = some (Value.int (f16 p1)); rw [f16, if_neg hc2, if_neg hc5, if_neg hc8, if_pos hc11], N0, e0⟩
        · have pre13 : ∀ t, SS p e below m s₁ 52 #[iv p1, iv (p1 - (p1 % (8 : Int32))), iv (p1 % (8 : Int32)), .unset] [(.int (120 : Int32)), (.int (p1 - (p1 % (8 : Int32))))] t → B t := fun t kk => pre10 t (by
            refine XS.icmpYes X0.here hx rfl (pc0 := 39) (pc' := 49) rfl (hb hby d16_39) rfl (feq hc11).2 (by decide) (by decide) ?_
            refine XS.iloadN X0.here hx rfl (hb hby d16_49) rfl ?_
            refine XS.bipush X0.here hx rfl (hb hby d16_50) ?_
            show SS p e below m s₁ 52 #[iv p1, iv (p1 - (p1 % (8 : Int32))), iv (p1 % (8 : Int32)), .unset] [(.int (120 : Int32)), (.int (p1 - (p1 % (8 : Int32))))] _
            exact kk)
          by_cases hc14 : (p1 - (p1 % (8 : Int32))) = (120 : Int32)
          · have pre15 : ∀ t, SS p e below m s₁ 65 #[iv p1, iv (p1 - (p1 % (8 : Int32))), iv (p1 % (8 : Int32)), iv ((2 : Int32) + (p1 % (8 : Int32)))] [(.int ((2 : Int32) + (p1 % (8 : Int32))))] t → B t := fun t kk => pre13 t (by
              refine XS.icmpNo X0.here hx rfl (hb hby d16_52) rfl (teq hc14).2 ?_
              refine XS.iconst X0.here hx rfl (hb hby d16_55) ?_
              refine XS.iloadN X0.here hx rfl (hb hby d16_56) rfl ?_
              show SS p e below m s₁ 57 #[iv p1, iv (p1 - (p1 % (8 : Int32))), iv (p1 % (8 : Int32)), .unset] [(.int (p1 % (8 : Int32))), (.int (2 : Int32))] _
              refine XS.iadd X0.here hx rfl (hb hby d16_57) rfl ?_
              refine XS.istoreN X0.here hx rfl (hb hby d16_58) rfl (l' := #[iv p1, iv (p1 - (p1 % (8 : Int32))), iv (p1 % (8 : Int32)), iv ((2 : Int32) + (p1 % (8 : Int32)))]) rfl ?_
              refine XS.goto X0.here hx rfl (pc0 := 59) (pc' := 64) rfl (hb hby d16_59) (by decide) (by decide) ?_
              show SS p e below m s₁ 64 #[iv p1, iv (p1 - (p1 % (8 : Int32))), iv (p1 % (8 : Int32)), iv ((2 : Int32) + (p1 % (8 : Int32)))] [] _
              refine XS.iloadN X0.here hx rfl (hb hby d16_64) rfl ?_
              exact kk)
            obtain ⟨fs, hr, hrun, hended, hW, hsame⟩ := X0.leave (v := some (.int ((2 : Int32) + (p1 % (8 : Int32))))) (fun h => by rw [Bd.returns] at h; cases h)
            refine ⟨_, _, hB _ (pre15 _ ?_), hrun, hended, _, _, rfl, ?_, ⟨_, rfl⟩, hW, hsame.mono (by decide) (by decide)⟩
            · exact retI X0 hx Bd.returns (hb hby d16_65) hr
            · exact ⟨by show _ = some (Value.int (f16 p1)); rw [f16, if_neg hc2, if_neg hc5, if_neg hc8, if_neg hc11, if_pos hc14], N0, e0⟩
          · have pre16 : ∀ t, SS p e below m s₁ 65 #[iv p1, iv (p1 - (p1 % (8 : Int32))), iv (p1 % (8 : Int32)), iv (0 : Int32)] [(.int (0 : Int32))] t → B t := fun t kk => pre13 t (by
              refine XS.icmpYes X0.here hx rfl (pc0 := 52) (pc' := 62) rfl (hb hby d16_52) rfl (feq hc14).2 (by decide) (by decide) ?_
              refine XS.iconst X0.here hx rfl (hb hby d16_62) ?_
              refine XS.istoreN X0.here hx rfl (hb hby d16_63) rfl (l' := #[iv p1, iv (p1 - (p1 % (8 : Int32))), iv (p1 % (8 : Int32)), iv (0 : Int32)]) rfl ?_
              show SS p e below m s₁ 64 #[iv p1, iv (p1 - (p1 % (8 : Int32))), iv (p1 % (8 : Int32)), iv (0 : Int32)] [] _
              refine XS.iloadN X0.here hx rfl (hb hby d16_64) rfl ?_
              exact kk)
            obtain ⟨fs, hr, hrun, hended, hW, hsame⟩ := X0.leave (v := some (.int (0 : Int32))) (fun h => by rw [Bd.returns] at h; cases h)
            refine ⟨_, _, hB _ (pre16 _ ?_), hrun, hended, _, _, rfl, ?_, ⟨_, rfl⟩, hW, hsame.mono (by decide) (by decide)⟩
            · exact retI X0 hx Bd.returns (hb hby d16_65) hr
            · exact ⟨by show _ = some (Value.int (f16 p1)); rw [f16, if_neg hc2, if_neg hc5, if_neg hc8, if_neg hc11, if_neg hc14], N0, e0⟩
theorem d17_0 : decode method_3_code 0 = .ok (.iload_n 0, 1) := by decide +kernel
theorem d17_1 : decode method_3_code 1 = .ok (.ifCond .ne 12, 3) := by decide +kernel
theorem d17_4 : decode method_3_code 4 = .ok (.iload_n 1, 1) := by decide +kernel
theorem d17_5 : decode method_3_code 5 = .ok (.ifCond .eq 8, 3) := by decide +kernel
theorem d17_8 : decode method_3_code 8 = .ok (.iconst 0, 1) := by decide +kernel
theorem d17_9 : decode method_3_code 9 = .ok (.istore_n 3, 1) := by decide +kernel
theorem d17_10 : decode method_3_code 10 = .ok (.goto 18, 3) := by decide +kernel
theorem d17_13 : decode method_3_code 13 = .ok (.iload_n 1, 1) := by decide +kernel
theorem d17_14 : decode method_3_code 14 = .ok (.ifCond .eq 10, 3) := by decide +kernel
theorem d17_17 : decode method_3_code 17 = .ok (.iconst 2, 1) := by decide +kernel
theorem d17_18 : decode method_3_code 18 = .ok (.iload_n 2, 1) := by decide +kernel
theorem d17_19 : decode method_3_code 19 = .ok (.iadd, 1) := by decide +kernel
theorem d17_20 : decode method_3_code 20 = .ok (.istore_n 3, 1) := by decide +kernel
theorem d17_21 : decode method_3_code 21 = .ok (.goto 7, 3) := by decide +kernel
theorem d17_24 : decode method_3_code 24 = .ok (.iconst 1, 1) := by decide +kernel
theorem d17_25 : decode method_3_code 25 = .ok (.iload_n 2, 1) := by decide +kernel
theorem d17_26 : decode method_3_code 26 = .ok (.iadd, 1) := by decide +kernel
theorem d17_27 : decode method_3_code 27 = .ok (.istore_n 3, 1) := by decide +kernel
theorem d17_28 : decode method_3_code 28 = .ok (.iload_n 3, 1) := by decide +kernel
theorem d17_29 : decode method_3_code 29 = .ok (.ireturn, 1) := by decide +kernel
theorem pn_17 : plainName "pithline/html/ScriptDataOpenTagLengthPinLaw" = true := by first | (simp [plainName, overriddenIn]; done) | decide +kernel
theorem ef_17 (m : MethodId) (p1 : Int32) (p2 : Int32) (p3 : Int32) : entryFrame m #[(.int p1), (.int p2), (.int p3)] 4 = mkF m 0 #[iv p1, iv p2, iv p3, .unset] [] := by first | (simp [entryFrame, mkF, argsToLocals, Value.category]; done) | rfl
def f17 (p1 : Int32) (p2 : Int32) (p3 : Int32)  : Int32 := (if p1 = (0 : Int32) then (if p2 = (0 : Int32) then ((1 : Int32) + p3) else (0 : Int32)) else (if p2 = (0 : Int32) then ((1 : Int32) + p3) else ((2 : Int32) + p3)))
set_option maxRecDepth 65536 in
set_option maxHeartbeats 40000000 in
theorem rm17 (l : Launch) (Z : State) (a0 : Array Value) (hw : ∀ d ∈ tables_1, d.before a0 Z = true) (ws : List Jvm.Cond) (p1 : Int32) (p2 : Int32) (p3 : Int32)  (h0 : Heap) (n0 : Nat) (Z0 : n0 ≤ h0.size)  :
    MetFree l (⟨"pithline/html/ScriptDataOpenTagLengthPinLaw", "base", "(ZZI)I"⟩ : MethodName) (head1 (Jvm.Cond.code (⟨"pithline/html/ScriptDataOpenTagLengthPinLaw", "base", "(ZZI)I"⟩ : MethodName) method_3_code 4 (some .int) :: ws) ({ frames := 0, cells := 0, slots := 0, locals := 0 } : Room)) (fun a U => a = #[(.int p1), (.int p2), (.int p3)] ∧ Z.Warmed39 U.vm ∧ U.heap = h0) (fun _ _ _ _ _ => True) (fun _ U o U' => ∃ v L, o = .returned v ∧ QI (f17 p1 p2 p3) h0 n0 v U'.heap L ∧ FrameEnd U o U' L ({ frames := 0, cells := 0, slots := 0, locals := 0 } : Room).cells ({ frames := 0, cells := 0, slots := 0, locals := 0 } : Room).slots) := by
  refine MetFree.of_bodySF (plainFor_of_name pn_17) hisR ?_
  intro p e s m args below meth c s₁ Bd hml0 hP hK
  obtain ⟨rfl, hZ, hh⟩ := hP
  have hx := Bd.exec
  have hby := Bd.bytes
  have hml : c.maxLocals = 4 := hml0
  have hown : s.vm.findClass "pithline/html/ScriptDataOpenTagLengthPinLaw" = some m.cls := findClass_of_methodNamed Bd.named
  have hnm := (name_of_methodNamed Bd.named Bd.method).1
  have X0 : Stand p l e ({ frames := 0, cells := 0, slots := 0, locals := 0 } : Room) s m #[(.int p1), (.int p2), (.int p3)] below meth c s₁ [] 0 0 := Stand.of_body Bd
  have e0 : s₁.heap = h0 := by rw [← hh, Bd.state]; rfl
  have N0 := Fr.nil n0
  obtain ⟨B, hB, pre0⟩ : ∃ B : State → Prop, (∀ t, B t → Steps p.tables e below (s₁.setTop (entryFrame m #[(.int p1), (.int p2), (.int p3)] 4)) t) ∧ ∀ t, SS p e below m s₁ 0 #[iv p1, iv p2, iv p3, .unset] [] t → B t := ⟨_, fun _ q => q, fun t kk => castTop (ef_17 m p1 p2 p3) kk⟩
  have pre1 : ∀ t, SS p e below m s₁ 1 #[iv p1, iv p2, iv p3, .unset] [(.int p1)] t → B t := fun t kk => pre0 t (by
    show SS p e below m s₁ 0 #[iv p1, iv p2, iv p3, .unset] [] _
    refine XS.iloadN X0.here hx rfl (hb hby d17_0) rfl ?_
    exact kk)
  by_cases hc2 : p1 = (0 : Int32)
  · have pre3 : ∀ t, SS p e below m s₁ 5 #[iv p1, iv p2, iv p3, .unset] [(.int p2)] t → B t := fun t kk => pre1 t (by
      refine XS.ifNo X0.here hx rfl (hb hby d17_1) rfl ((if0 _ _).trans (teq hc2).2) ?_
      refine XS.iloadN X0.here hx rfl (hb hby d17_4) rfl ?_
      exact kk)
    by_cases hc4 : p2 = (0 : Int32)
    · have pre5 : ∀ t, SS p e below m s₁ 29 #[iv p1, iv p2, iv p3, iv ((1 : Int32) + p3)] [(.int ((1 : Int32) + p3))] t → B t := fun t kk => pre3 t (by
        refine XS.ifYes X0.here hx rfl (pc0 := 5) (pc' := 13) rfl (hb hby d17_5) rfl ((if0 _ _).trans (teq hc4).1) (by decide) (by decide) ?_
        refine XS.iloadN X0.here hx rfl (hb hby d17_13) rfl ?_
        refine XS.ifYes X0.here hx rfl (pc0 := 14) (pc' := 24) rfl (hb hby d17_14) rfl ((if0 _ _).trans (teq hc4).1) (by decide) (by decide) ?_
        show SS p e below m s₁ 24 #[iv p1, iv p2, iv p3, .unset] [] _
        refine XS.iconst X0.here hx rfl (hb hby d17_24) ?_
        refine XS.iloadN X0.here hx rfl (hb hby d17_25) rfl ?_
        refine XS.iadd X0.here hx rfl (hb hby d17_26) rfl ?_
        show SS p e below m s₁ 27 #[iv p1, iv p2, iv p3, .unset] [(.int ((1 : Int32) + p3))] _
        refine XS.istoreN X0.here hx rfl (hb hby d17_27) rfl (l' := #[iv p1, iv p2, iv p3, iv ((1 : Int32) + p3)]) rfl ?_
        refine XS.iloadN X0.here hx rfl (hb hby d17_28) rfl ?_
        exact kk)
      obtain ⟨fs, hr, hrun, hended, hW, hsame⟩ := X0.leave (v := some (.int ((1 : Int32) + p3))) (fun h => by rw [Bd.returns] at h; cases h)
      refine ⟨_, _, hB _ (pre5 _ ?_), hrun, hended, _, _, rfl, ?_, ⟨_, rfl⟩, hW, hsame.mono (by decide) (by decide)⟩
      · exact retI X0 hx Bd.returns (hb hby d17_29) hr
      · exact ⟨by show _ = some (Value.int (f17 p1 p2 p3)); rw [f17, if_pos hc2, if_pos hc4], N0, e0⟩
    · have pre6 : ∀ t, SS p e below m s₁ 29 #[iv p1, iv p2, iv p3, iv (0 : Int32)] [(.int (0 : Int32))] t → B t := fun t kk => pre3 t (by
        refine XS.ifNo X0.here hx rfl (hb hby d17_5) rfl ((if0 _ _).trans (feq hc4).1) ?_
        refine XS.iconst X0.here hx rfl (hb hby d17_8) ?_
        refine XS.istoreN X0.here hx rfl (hb hby d17_9) rfl (l' := #[iv p1, iv p2, iv p3, iv (0 : Int32)]) rfl ?_
        show SS p e below m s₁ 10 #[iv p1, iv p2, iv p3, iv (0 : Int32)] [] _
        refine XS.goto X0.here hx rfl (pc0 := 10) (pc' := 28) rfl (hb hby d17_10) (by decide) (by decide) ?_
        refine XS.iloadN X0.here hx rfl (hb hby d17_28) rfl ?_
        exact kk)
      obtain ⟨fs, hr, hrun, hended, hW, hsame⟩ := X0.leave (v := some (.int (0 : Int32))) (fun h => by rw [Bd.returns] at h; cases h)
      refine ⟨_, _, hB _ (pre6 _ ?_), hrun, hended, _, _, rfl, ?_, ⟨_, rfl⟩, hW, hsame.mono (by decide) (by decide)⟩
      · exact retI X0 hx Bd.returns (hb hby d17_29) hr
      · exact ⟨by show _ = some (Value.int (f17 p1 p2 p3)); rw [f17, if_pos hc2, if_neg hc4], N0, e0⟩
  · have pre7 : ∀ t, SS p e below m s₁ 14 #[iv p1, iv p2, iv p3, .unset] [(.int p2)] t → B t := fun t kk => pre1 t (by
      refine XS.ifYes X0.here hx rfl (pc0 := 1) (pc' := 13) rfl (hb hby d17_1) rfl ((if0 _ _).trans (feq hc2).2) (by decide) (by decide) ?_
      refine XS.iloadN X0.here hx rfl (hb hby d17_13) rfl ?_
      exact kk)
    by_cases hc8 : p2 = (0 : Int32)
    · have pre9 : ∀ t, SS p e below m s₁ 29 #[iv p1, iv p2, iv p3, iv ((1 : Int32) + p3)] [(.int ((1 : Int32) + p3))] t → B t := fun t kk => pre7 t (by
        refine XS.ifYes X0.here hx rfl (pc0 := 14) (pc' := 24) rfl (hb hby d17_14) rfl ((if0 _ _).trans (teq hc8).1) (by decide) (by decide) ?_
        refine XS.iconst X0.here hx rfl (hb hby d17_24) ?_
        refine XS.iloadN X0.here hx rfl (hb hby d17_25) rfl ?_
        show SS p e below m s₁ 26 #[iv p1, iv p2, iv p3, .unset] [(.int p3), (.int (1 : Int32))] _
        refine XS.iadd X0.here hx rfl (hb hby d17_26) rfl ?_
        refine XS.istoreN X0.here hx rfl (hb hby d17_27) rfl (l' := #[iv p1, iv p2, iv p3, iv ((1 : Int32) + p3)]) rfl ?_
        refine XS.iloadN X0.here hx rfl (hb hby d17_28) rfl ?_
        show SS p e below m s₁ 29 #[iv p1, iv p2, iv p3, iv ((1 : Int32) + p3)] [(.int ((1 : Int32) + p3))] _
        exact kk)
      obtain ⟨fs, hr, hrun, hended, hW, hsame⟩ := X0.leave (v := some (.int ((1 : Int32) + p3))) (fun h => by rw [Bd.returns] at h; cases h)
      refine ⟨_, _, hB _ (pre9 _ ?_), hrun, hended, _, _, rfl, ?_, ⟨_, rfl⟩, hW, hsame.mono (by decide) (by decide)⟩
      · exact retI X0 hx Bd.returns (hb hby d17_29) hr
      · exact ⟨by show _ = some (Value.int (f17 p1 p2 p3)); rw [f17, if_neg hc2, if_pos hc8], N0, e0⟩
    · have pre10 : ∀ t, SS p e below m s₁ 29 #[iv p1, iv p2, iv p3, iv ((2 : Int32) + p3)] [(.int ((2 : Int32) + p3))] t → B t := fun t kk => pre7 t (by
        refine XS.ifNo X0.here hx rfl (hb hby d17_14) rfl ((if0 _ _).trans (feq hc8).1) ?_
        refine XS.iconst X0.here hx rfl (hb hby d17_17) ?_
        refine XS.iloadN X0.here hx rfl (hb hby d17_18) rfl ?_
        show SS p e below m s₁ 19 #[iv p1, iv p2, iv p3, .unset] [(.int p3), (.int (2 : Int32))] _
        refine XS.iadd X0.here hx rfl (hb hby d17_19) rfl ?_
        refine XS.istoreN X0.here hx rfl (hb hby d17_20) rfl (l' := #[iv p1, iv p2, iv p3, iv ((2 : Int32) + p3)]) rfl ?_
        refine XS.goto X0.here hx rfl (pc0 := 21) (pc' := 28) rfl (hb hby d17_21) (by decide) (by decide) ?_
        show SS p e below m s₁ 28 #[iv p1, iv p2, iv p3, iv ((2 : Int32) + p3)] [] _
        refine XS.iloadN X0.here hx rfl (hb hby d17_28) rfl ?_
        exact kk)
      obtain ⟨fs, hr, hrun, hended, hW, hsame⟩ := X0.leave (v := some (.int ((2 : Int32) + p3))) (fun h => by rw [Bd.returns] at h; cases h)
      refine ⟨_, _, hB _ (pre10 _ ?_), hrun, hended, _, _, rfl, ?_, ⟨_, rfl⟩, hW, hsame.mono (by decide) (by decide)⟩
      · exact retI X0 hx Bd.returns (hb hby d17_29) hr
      · exact ⟨by show _ = some (Value.int (f17 p1 p2 p3)); rw [f17, if_neg hc2, if_neg hc8], N0, e0⟩
theorem d22_0 : decode method_4_code 0 = .ok (.iload_n 0, 1) := by decide +kernel
theorem d22_1 : decode method_4_code 1 = .ok (.bipush 9, 2) := by decide +kernel
theorem d22_3 : decode method_4_code 3 = .ok (.if_icmp .eq 39, 3) := by decide +kernel
theorem d22_6 : decode method_4_code 6 = .ok (.iload_n 0, 1) := by decide +kernel
theorem d22_7 : decode method_4_code 7 = .ok (.bipush 10, 2) := by decide +kernel
theorem d22_9 : decode method_4_code 9 = .ok (.if_icmp .eq 33, 3) := by decide +kernel
theorem d22_12 : decode method_4_code 12 = .ok (.iload_n 0, 1) := by decide +kernel
theorem d22_13 : decode method_4_code 13 = .ok (.bipush 12, 2) := by decide +kernel
theorem d22_15 : decode method_4_code 15 = .ok (.if_icmp .eq 27, 3) := by decide +kernel
theorem d22_18 : decode method_4_code 18 = .ok (.iload_n 0, 1) := by decide +kernel
theorem d22_19 : decode method_4_code 19 = .ok (.bipush 13, 2) := by decide +kernel
theorem d22_21 : decode method_4_code 21 = .ok (.if_icmp .eq 21, 3) := by decide +kernel
theorem d22_24 : decode method_4_code 24 = .ok (.iload_n 0, 1) := by decide +kernel
theorem d22_25 : decode method_4_code 25 = .ok (.bipush 32, 2) := by decide +kernel
theorem d22_27 : decode method_4_code 27 = .ok (.if_icmp .eq 15, 3) := by decide +kernel
theorem d22_30 : decode method_4_code 30 = .ok (.iload_n 0, 1) := by decide +kernel
theorem d22_31 : decode method_4_code 31 = .ok (.bipush 47, 2) := by decide +kernel
theorem d22_33 : decode method_4_code 33 = .ok (.if_icmp .eq 9, 3) := by decide +kernel
theorem d22_36 : decode method_4_code 36 = .ok (.iload_n 0, 1) := by decide +kernel
theorem d22_37 : decode method_4_code 37 = .ok (.bipush 62, 2) := by decide +kernel
theorem d22_39 : decode method_4_code 39 = .ok (.if_icmp .ne 7, 3) := by decide +kernel
theorem d22_42 : decode method_4_code 42 = .ok (.iconst 1, 1) := by decide +kernel
theorem d22_43 : decode method_4_code 43 = .ok (.goto 4, 3) := by decide +kernel
theorem d22_46 : decode method_4_code 46 = .ok (.iconst 0, 1) := by decide +kernel
theorem d22_47 : decode method_4_code 47 = .ok (.ireturn, 1) := by decide +kernel
theorem pn_22 : plainName "pithline/html/ScriptDataOpenTagLengthPinLaw" = true := by first | (simp [plainName, overriddenIn]; done) | decide +kernel
theorem ef_22 (m : MethodId) (p1 : Int32) : entryFrame m #[(.int p1)] 1 = mkF m 0 #[iv p1] [] := by first | (simp [entryFrame, mkF, argsToLocals, Value.category]; done) | rfl
def f22 (p1 : Int32)  : Int32 := (if p1 = (9 : Int32) then (1 : Int32) else (if p1 = (10 : Int32) then (1 : Int32) else (if p1 = (12 : Int32) then (1 : Int32) else (if p1 = (13 : Int32) then (1 : Int32) else (if p1 = (32 : Int32) then (1 : Int32) else (if p1 = (47 : Int32) then (1 : Int32) else (if p1 = (62 : Int32) then (1 : Int32) else (0 : Int32))))))))
set_option maxRecDepth 65536 in
set_option maxHeartbeats 40000000 in
theorem rm22 (l : Launch) (Z : State) (a0 : Array Value) (hw : ∀ d ∈ tables_1, d.before a0 Z = true) (ws : List Jvm.Cond) (p1 : Int32)  (h0 : Heap) (n0 : Nat) (Z0 : n0 ≤ h0.size)  :
    MetFree l (⟨"pithline/html/ScriptDataOpenTagLengthPinLaw", "isNameEnd", "(I)Z"⟩ : MethodName) (head1 (Jvm.Cond.code (⟨"pithline/html/ScriptDataOpenTagLengthPinLaw", "isNameEnd", "(I)Z"⟩ : MethodName) method_4_code 1 (some .boolean) :: ws) ({ frames := 0, cells := 0, slots := 0, locals := 0 } : Room)) (fun a U => a = #[(.int p1)] ∧ Z.Warmed39 U.vm ∧ U.heap = h0) (fun _ _ _ _ _ => True) (fun _ U o U' => ∃ v L, o = .returned v ∧ QI (f22 p1) h0 n0 v U'.heap L ∧ FrameEnd U o U' L ({ frames := 0, cells := 0, slots := 0, locals := 0 } : Room).cells ({ frames := 0, cells := 0, slots := 0, locals := 0 } : Room).slots) := by
  refine MetFree.of_bodySF (plainFor_of_name pn_22) hisR ?_
  intro p e s m args below meth c s₁ Bd hml0 hP hK
  obtain ⟨rfl, hZ, hh⟩ := hP
  have hx := Bd.exec
  have hby := Bd.bytes
  have hml : c.maxLocals = 1 := hml0
  have hown : s.vm.findClass "pithline/html/ScriptDataOpenTagLengthPinLaw" = some m.cls := findClass_of_methodNamed Bd.named
  have hnm := (name_of_methodNamed Bd.named Bd.method).1
  have X0 : Stand p l e ({ frames := 0, cells := 0, slots := 0, locals := 0 } : Room) s m #[(.int p1)] below meth c s₁ [] 0 0 := Stand.of_body Bd
  have e0 : s₁.heap = h0 := by rw [← hh, Bd.state]; rfl
  have N0 := Fr.nil n0
  obtain ⟨B, hB, pre0⟩ : ∃ B : State → Prop, (∀ t, B t → Steps p.tables e below (s₁.setTop (entryFrame m #[(.int p1)] 1)) t) ∧ ∀ t, SS p e below m s₁ 0 #[iv p1] [] t → B t := ⟨_, fun _ q => q, fun t kk => castTop (ef_22 m p1) kk⟩
  have pre1 : ∀ t, SS p e below m s₁ 3 #[iv p1] [(.int (9 : Int32)), (.int p1)] t → B t := fun t kk => pre0 t (by
    show SS p e below m s₁ 0 #[iv p1] [] _
    refine XS.iloadN X0.here hx rfl (hb hby d22_0) rfl ?_
    refine XS.bipush X0.here hx rfl (hb hby d22_1) ?_
    exact kk)
  by_cases hc2 : p1 = (9 : Int32)
  · have pre3 : ∀ t, SS p e below m s₁ 47 #[iv p1] [(.int (1 : Int32))] t → B t := fun t kk => pre1 t (by
      refine XS.icmpYes X0.here hx rfl (pc0 := 3) (pc' := 42) rfl (hb hby d22_3) rfl (teq hc2).1 (by decide) (by decide) ?_
      refine XS.iconst X0.here hx rfl (hb hby d22_42) ?_
      refine XS.goto X0.here hx rfl (pc0 := 43) (pc' := 47) rfl (hb hby d22_43) (by decide) (by decide) ?_
      show SS p e below m s₁ 47 #[iv p1] [(.int (1 : Int32))] _
      exact kk)
    obtain ⟨fs, hr, hrun, hended, hW, hsame⟩ := X0.leave (v := some (.int (1 : Int32))) (fun h => by rw [Bd.returns] at h; cases h)
    refine ⟨_, _, hB _ (pre3 _ ?_), hrun, hended, _, _, rfl, ?_, ⟨_, rfl⟩, hW, hsame.mono (by decide) (by decide)⟩
    · exact retN X0 hx (t := .boolean) Bd.returns (by simp) (hb hby d22_47) hr
    · exact ⟨by show _ = some (Value.int (f22 p1)); rw [f22, if_pos hc2], N0, e0⟩
  · have pre4 : ∀ t, SS p e below m s₁ 9 #[iv p1] [(.int (10 : Int32)), (.int p1)] t → B t := fun t kk => pre1 t (by
      refine XS.icmpNo X0.here hx rfl (hb hby d22_3) rfl (feq hc2).1 ?_
      refine XS.iloadN X0.here hx rfl (hb hby d22_6) rfl ?_
      refine XS.bipush X0.here hx rfl (hb hby d22_7) ?_
      show SS p e below m s₁ 9 #[iv p1] [(.int (10 : Int32)), (.int p1)] _
      exact kk)
    by_cases hc5 : p1 = (10 : Int32)
    · have pre6 : ∀ t, SS p e below m s₁ 47 #[iv p1] [(.int (1 : Int32))] t → B t := fun t kk => pre4 t (by
        refine XS.icmpYes X0.here hx rfl (pc0 := 9) (pc' := 42) rfl (hb hby d22_9) rfl (teq hc5).1 (by decide) (by decide) ?_
        refine XS.iconst X0.here hx rfl (hb hby d22_42) ?_
        refine XS.goto X0.here hx rfl (pc0 := 43) (pc' := 47) rfl (hb hby d22_43) (by decide) (by decide) ?_
        show SS p e below m s₁ 47 #[iv p1] [(.int (1 : Int32))] _
        exact kk)
      obtain ⟨fs, hr, hrun, hended, hW, hsame⟩ := X0.leave (v := some (.int (1 : Int32))) (fun h => by rw [Bd.returns] at h; cases h)
      refine ⟨_, _, hB _ (pre6 _ ?_), hrun, hended, _, _, rfl, ?_, ⟨_, rfl⟩, hW, hsame.mono (by decide) (by decide)⟩
      · exact retN X0 hx (t := .boolean) Bd.returns (by simp) (hb hby d22_47) hr
      · exact ⟨by show _ = some (Value.int (f22 p1)); rw [f22, if_neg hc2, if_pos hc5], N0, e0⟩
    · have pre7 : ∀ t, SS p e below m s₁ 15 #[iv p1] [(.int (12 : Int32)), (.int p1)] t → B t := fun t kk => pre4 t (by
        refine XS.icmpNo X0.here hx rfl (hb hby d22_9) rfl (feq hc5).1 ?_
        refine XS.iloadN X0.here hx rfl (hb hby d22_12) rfl ?_
        refine XS.bipush X0.here hx rfl (hb hby d22_13) ?_
        show SS p e below m s₁ 15 #[iv p1] [(.int (12 : Int32)), (.int p1)] _
        exact kk)
      by_cases hc8 : p1 = (12 : Int32)
      · have pre9 : ∀ t, SS p e below m s₁ 47 #[iv p1] [(.int (1 : Int32))] t → B t := fun t kk => pre7 t (by
          refine XS.icmpYes X0.here hx rfl (pc0 := 15) (pc' := 42) rfl (hb hby d22_15) rfl (teq hc8).1 (by decide) (by decide) ?_
          refine XS.iconst X0.here hx rfl (hb hby d22_42) ?_
          refine XS.goto X0.here hx rfl (pc0 := 43) (pc' := 47) rfl (hb hby d22_43) (by decide) (by decide) ?_
          show SS p e below m s₁ 47 #[iv p1] [(.int (1 : Int32))] _
          exact kk)
        obtain ⟨fs, hr, hrun, hended, hW, hsame⟩ := X0.leave (v := some (.int (1 : Int32))) (fun h => by rw [Bd.returns] at h; cases h)
        refine ⟨_, _, hB _ (pre9 _ ?_), hrun, hended, _, _, rfl, ?_, ⟨_, rfl⟩, hW, hsame.mono (by decide) (by decide)⟩
        · exact retN X0 hx (t := .boolean) Bd.returns (by simp) (hb hby d22_47) hr
        · exact ⟨by show _ = some (Value.int (f22 p1)); rw [f22, if_neg hc2, if_neg hc5, if_pos hc8], N0, e0⟩
      · have pre10 : ∀ t, SS p e below m s₁ 21 #[iv p1] [(.int (13 : Int32)), (.int p1)] t → B t := fun t kk => pre7 t (by
          refine XS.icmpNo X0.here hx rfl (hb hby d22_15) rfl (feq hc8).1 ?_
          refine XS.iloadN X0.here hx rfl (hb hby d22_18) rfl ?_
          refine XS.bipush X0.here hx rfl (hb hby d22_19) ?_
          show SS p e below m s₁ 21 #[iv p1] [(.int (13 : Int32)), (.int p1)] _
          exact kk)
        by_cases hc11 : p1 = (13 : Int32)
        · have pre12 : ∀ t, SS p e below m s₁ 47 #[iv p1] [(.int (1 : Int32))] t → B t := fun t kk => pre10 t (by
            refine XS.icmpYes X0.here hx rfl (pc0 := 21) (pc' := 42) rfl (hb hby d22_21) rfl (teq hc11).1 (by decide) (by decide) ?_
            refine XS.iconst X0.here hx rfl (hb hby d22_42) ?_
            refine XS.goto X0.here hx rfl (pc0 := 43) (pc' := 47) rfl (hb hby d22_43) (by decide) (by decide) ?_
            show SS p e below m s₁ 47 #[iv p1] [(.int (1 : Int32))] _
            exact kk)
          obtain ⟨fs, hr, hrun, hended, hW, hsame⟩ := X0.leave (v := some (.int (1 : Int32))) (fun h => by rw [Bd.returns] at h; cases h)
          refine ⟨_, _, hB _ (pre12 _ ?_), hrun, hended, _, _, rfl, ?_, ⟨_, rfl⟩, hW, hsame.mono (by decide) (by decide)⟩
          · exact retN X0 hx (t := .boolean) Bd.returns (by simp) (hb hby d22_47) hr
          · exact ⟨by show _ = some (Value.int (f22 p1)); rw [f22, if_neg hc2, if_neg hc5, if_neg hc8, if_pos hc11], N0, e0⟩
        · have pre13 : ∀ t, SS p e below m s₁ 27 #[iv p1] [(.int (32 : Int32)), (.int p1)] t → B t := fun t kk => pre10 t (by
            refine XS.icmpNo X0.here hx rfl (hb hby d22_21) rfl (feq hc11).1 ?_
            refine XS.iloadN X0.here hx rfl (hb hby d22_24) rfl ?_
            refine XS.bipush X0.here hx rfl (hb hby d22_25) ?_
            show SS p e below m s₁ 27 #[iv p1] [(.int (32 : Int32)), (.int p1)] _
            exact kk)
          by_cases hc14 : p1 = (32 : Int32)
          · have pre15 : ∀ t, SS p e below m s₁ 47 #[iv p1] [(.int (1 : Int32))] t → B t := fun t kk => pre13 t (by
              refine XS.icmpYes X0.here hx rfl (pc0 := 27) (pc' := 42) rfl (hb hby d22_27) rfl (teq hc14).1 (by decide) (by decide) ?_
              refine XS.iconst X0.here hx rfl (hb hby d22_42) ?_
              refine XS.goto X0.here hx rfl (pc0 := 43) (pc' := 47) rfl (hb hby d22_43) (by decide) (by decide) ?_
              show SS p e below m s₁ 47 #[iv p1] [(.int (1 : Int32))] _
              exact kk)
            obtain ⟨fs, hr, hrun, hended, hW, hsame⟩ := X0.leave (v := some (.int (1 : Int32))) (fun h => by rw [Bd.returns] at h; cases h)
            refine ⟨_, _, hB _ (pre15 _ ?_), hrun, hended, _, _, rfl, ?_, ⟨_, rfl⟩, hW, hsame.mono (by decide) (by decide)⟩
            · exact retN X0 hx (t := .boolean) Bd.returns (by simp) (hb hby d22_47) hr
            · exact ⟨by show _ = some (Value.int (f22 p1)); rw [f22, if_neg hc2, if_neg hc5, if_neg hc8, if_neg hc11, if_pos hc14], N0, e0⟩
          · have pre16 : ∀ t, SS p e below m s₁ 33 #[iv p1] [(.int (47 : Int32)), (.int p1)] t → B t := fun t kk => pre13 t (by
              refine XS.icmpNo X0.here hx rfl (hb hby d22_27) rfl (feq hc14).1 ?_
              refine XS.iloadN X0.here hx rfl (hb hby d22_30) rfl ?_
              refine XS.bipush X0.here hx rfl (hb hby d22_31) ?_
              show SS p e below m s₁ 33 #[iv p1] [(.int (47 : Int32)), (.int p1)] _
              exact kk)
            by_cases hc17 : p1 = (47 : Int32)
            · have pre18 : ∀ t, SS p e below m s₁ 47 #[iv p1] [(.int (1 : Int32))] t → B t := fun t kk => pre16 t (by
                refine XS.icmpYes X0.here hx rfl (pc0 := 33) (pc' := 42) rfl (hb hby d22_33) rfl (teq hc17).1 (by decide) (by decide) ?_
                refine XS.iconst X0.here hx rfl (hb hby d22_42) ?_
                refine XS.goto X0.here hx rfl (pc0 := 43) (pc' := 47) rfl (hb hby d22_43) (by decide) (by decide) ?_
                show SS p e below m s₁ 47 #[iv p1] [(.int (1 : Int32))] _
                exact kk)
              obtain ⟨fs, hr, hrun, hended, hW, hsame⟩ := X0.leave (v := some (.int (1 : Int32))) (fun h => by rw [Bd.returns] at h; cases h)
              refine ⟨_, _, hB _ (pre18 _ ?_), hrun, hended, _, _, rfl, ?_, ⟨_, rfl⟩, hW, hsame.mono (by decide) (by decide)⟩
              · exact retN X0 hx (t := .boolean) Bd.returns (by simp) (hb hby d22_47) hr
              · exact ⟨by show _ = some (Value.int (f22 p1)); rw [f22, if_neg hc2, if_neg hc5, if_neg hc8, if_neg hc11, if_neg hc14, if_pos hc17], N0, e0⟩
            · have pre19 : ∀ t, SS p e below m s₁ 39 #[iv p1] [(.int (62 : Int32)), (.int p1)] t → B t := fun t kk => pre16 t (by
                refine XS.icmpNo X0.here hx rfl (hb hby d22_33) rfl (feq hc17).1 ?_
                refine XS.iloadN X0.here hx rfl (hb hby d22_36) rfl ?_
                refine XS.bipush X0.here hx rfl (hb hby d22_37) ?_
                show SS p e below m s₁ 39 #[iv p1] [(.int (62 : Int32)), (.int p1)] _
                exact kk)
              by_cases hc20 : p1 = (62 : Int32)
              · have pre21 : ∀ t, SS p e below m s₁ 47 #[iv p1] [(.int (1 : Int32))] t → B t := fun t kk => pre19 t (by
                  refine XS.icmpNo X0.here hx rfl (hb hby d22_39) rfl (teq hc20).2 ?_
                  refine XS.iconst X0.here hx rfl (hb hby d22_42) ?_
                  refine XS.goto X0.here hx rfl (pc0 := 43) (pc' := 47) rfl (hb hby d22_43) (by decide) (by decide) ?_
                  show SS p e below m s₁ 47 #[iv p1] [(.int (1 : Int32))] _
                  exact kk)
                obtain ⟨fs, hr, hrun, hended, hW, hsame⟩ := X0.leave (v := some (.int (1 : Int32))) (fun h => by rw [Bd.returns] at h; cases h)
                refine ⟨_, _, hB _ (pre21 _ ?_), hrun, hended, _, _, rfl, ?_, ⟨_, rfl⟩, hW, hsame.mono (by decide) (by decide)⟩
                · exact retN X0 hx (t := .boolean) Bd.returns (by simp) (hb hby d22_47) hr
                · exact ⟨by show _ = some (Value.int (f22 p1)); rw [f22, if_neg hc2, if_neg hc5, if_neg hc8, if_neg hc11, if_neg hc14, if_neg hc17, if_pos hc20], N0, e0⟩
              · have pre22 : ∀ t, SS p e below m s₁ 47 #[iv p1] [(.int (0 : Int32))] t → B t := fun t kk => pre19 t (by
                  refine XS.icmpYes X0.here hx rfl (pc0 := 39) (pc' := 46) rfl (hb hby d22_39) rfl (feq hc20).2 (by decide) (by decide) ?_
                  refine XS.iconst X0.here hx rfl (hb hby d22_46) ?_
                  exact kk)
                obtain ⟨fs, hr, hrun, hended, hW, hsame⟩ := X0.leave (v := some (.int (0 : Int32))) (fun h => by rw [Bd.returns] at h; cases h)
                refine ⟨_, _, hB _ (pre22 _ ?_), hrun, hended, _, _, rfl, ?_, ⟨_, rfl⟩, hW, hsame.mono (by decide) (by decide)⟩
                · exact retN X0 hx (t := .boolean) Bd.returns (by simp) (hb hby d22_47) hr
                · exact ⟨by show _ = some (Value.int (f22 p1)); rw [f22, if_neg hc2, if_neg hc5, if_neg hc8, if_neg hc11, if_neg hc14, if_neg hc17, if_neg hc20], N0, e0⟩
theorem d18_0 : decode prog_41_method_14_code 0 = .ok (.iload_n 0, 1) := by decide +kernel
theorem d18_1 : decode prog_41_method_14_code 1 = .ok (.invokestatic 76, 3) := by decide +kernel
theorem d18_4 : decode prog_41_method_14_code 4 = .ok (.ifCond .ne 15, 3) := by decide +kernel
theorem d18_7 : decode prog_41_method_14_code 7 = .ok (.iload_n 0, 1) := by decide +kernel
theorem d18_8 : decode prog_41_method_14_code 8 = .ok (.bipush 47, 2) := by decide +kernel
theorem d18_10 : decode prog_41_method_14_code 10 = .ok (.if_icmp .eq 9, 3) := by decide +kernel
theorem d18_13 : decode prog_41_method_14_code 13 = .ok (.iload_n 0, 1) := by decide +kernel
theorem d18_14 : decode prog_41_method_14_code 14 = .ok (.bipush 62, 2) := by decide +kernel
theorem d18_16 : decode prog_41_method_14_code 16 = .ok (.if_icmp .ne 7, 3) := by decide +kernel
theorem d18_19 : decode prog_41_method_14_code 19 = .ok (.iconst 1, 1) := by decide +kernel
theorem d18_20 : decode prog_41_method_14_code 20 = .ok (.goto 4, 3) := by decide +kernel
theorem d18_23 : decode prog_41_method_14_code 23 = .ok (.iconst 0, 1) := by decide +kernel
theorem d18_24 : decode prog_41_method_14_code 24 = .ok (.ireturn, 1) := by decide +kernel
theorem pn_18 : plainName "pithline/html/ScriptData" = true := by first | (simp [plainName, overriddenIn]; done) | decide +kernel
theorem pd_5 : parseMethodDescriptor "(I)Z" = some ⟨[.int], some .boolean⟩ := by decide +kernel
theorem ef_18 (m : MethodId) (p1 : Int32) : entryFrame m #[(.int p1)] 1 = mkF m 0 #[iv p1] [] := by first | (simp [entryFrame, mkF, argsToLocals, Value.category]; done) | rfl
def f18 (p1 : Int32)  : Int32 := (if (f19 p1) = (0 : Int32) then (if p1 = (47 : Int32) then (1 : Int32) else (if p1 = (62 : Int32) then (1 : Int32) else (0 : Int32))) else (1 : Int32))
set_option maxRecDepth 65536 in
set_option maxHeartbeats 40000000 in
theorem rm18 (l : Launch) (Z : State) (a0 : Array Value) (hw : ∀ d ∈ tables_1, d.before a0 Z = true) (ws : List Jvm.Cond) (p1 : Int32)  (h0 : Heap) (n0 : Nat) (Z0 : n0 ≤ h0.size)  :
    MetFree l (⟨"pithline/html/ScriptData", "isNameEnd", "(I)Z"⟩ : MethodName) (head1 (Jvm.Cond.code (⟨"pithline/html/ScriptData", "isNameEnd", "(I)Z"⟩ : MethodName) prog_41_method_14_code 1 (some .boolean) :: ws) ({ frames := 1, cells := 0, slots := 0, locals := 12 } : Room)) (fun a U => a = #[(.int p1)] ∧ Z.Warmed39 U.vm ∧ U.heap = h0) (fun _ _ _ _ _ => True) (fun _ U o U' => ∃ v L, o = .returned v ∧ QI (f18 p1) h0 n0 v U'.heap L ∧ FrameEnd U o U' L ({ frames := 1, cells := 0, slots := 0, locals := 12 } : Room).cells ({ frames := 1, cells := 0, slots := 0, locals := 12 } : Room).slots) := by
  refine MetFree.of_bodySF (plainFor_of_name pn_18) hisR ?_
  intro p e s m args below meth c s₁ Bd hml0 hP hK
  obtain ⟨rfl, hZ, hh⟩ := hP
  have hx := Bd.exec
  have hby := Bd.bytes
  have hml : c.maxLocals = 1 := hml0
  have hown : s.vm.findClass "pithline/html/ScriptData" = some m.cls := findClass_of_methodNamed Bd.named
  have hnm := (name_of_methodNamed Bd.named Bd.method).1
  have X0 : Stand p l e ({ frames := 1, cells := 0, slots := 0, locals := 12 } : Room) s m #[(.int p1)] below meth c s₁ [] 0 0 := Stand.of_body Bd
  have e0 : s₁.heap = h0 := by rw [← hh, Bd.state]; rfl
  have N0 := Fr.nil n0
  obtain ⟨B, hB, pre0⟩ : ∃ B : State → Prop, (∀ t, B t → Steps p.tables e below (s₁.setTop (entryFrame m #[(.int p1)] 1)) t) ∧ ∀ t, SS p e below m s₁ 0 #[iv p1] [] t → B t := ⟨_, fun _ q => q, fun t kk => castTop (ef_18 m p1) kk⟩
  have pre1 : ∀ t, SS p e below m s₁ 1 #[iv p1] [(.int p1)] t → B t := fun t kk => pre0 t (by
    show SS p e below m s₁ 0 #[iv p1] [] _
    refine XS.iloadN X0.here hx rfl (hb hby d18_0) rfl ?_
    exact kk)
  obtain ⟨_, _, ⟨T2, L2, k2, n2⟩, -, X2, ⟨Lc2, hQ2, l2, y2, z2⟩, st2⟩ := Jvm.LawKit.callS X0 hx (y := (⟨"pithline/util/Ascii", "isWhiteSpace", "(I)Z"⟩ : MethodName)) hown (mvT hZ (hw _ (List.mem_of_getElem? (i := 85) rfl))) (mvT hZ (hw _ (List.mem_of_getElem? (i := 86) rfl))) (mvT hZ (hw _ (List.mem_of_getElem? (i := 72) rfl))) (mvT hZ (hw _ (List.mem_of_getElem? (i := 87) rfl))) (by decide) (backOf (W := 0) (rm19 l Z a0 hw [] p1 h0 n0 Z0 ) hZ (hw _ (List.mem_of_getElem? (i := 87) rfl)) (hw _ (List.mem_of_getElem? (i := 72) rfl)) (by decide) (by decide)) (g := (mkF m 1 #[iv p1] [(.int p1)])) rfl (by rw [hml]; rfl) (argsL := [(.int p1)]) (rest := []) (lenOf pd_5 rfl) rfl (by show 2 * 0 + _ ≤ _; exact Nat.le_of_eq rfl) (hb hby d18_1) (fun _ _ => ⟨rfl, e0, (by decide : 0 + 0 ≤ _), (by decide : 0 + 0 ≤ _)⟩)
  dsimp only [Pt.U, Pt.locs, Pt.cells, Pt.slots] at X2 l2 y2 z2 st2 hQ2
  subst l2 y2 z2
  obtain ⟨rfl, N2q, e2⟩ := hQ2
  have N2 := Fr.app N0 N2q
  have pre3 : ∀ t, SS p e below m T2 4 #[iv p1] [(.int (f19 p1))] t → B t := fun t kk => pre1 t (by
    refine st2 _ ?_
    exact kk)
  by_cases hc4 : (f19 p1) = (0 : Int32)
  · have pre5 : ∀ t, SS p e below m T2 10 #[iv p1] [(.int (47 : Int32)), (.int p1)] t → B t := fun t kk => pre3 t (by
      refine XS.ifNo X2.here hx rfl (hb hby d18_4) rfl ((if0 _ _).trans (teq hc4).2) ?_
      refine XS.iloadN X2.here hx rfl (hb hby d18_7) rfl ?_
      refine XS.bipush X2.here hx rfl (hb hby d18_8) ?_
      show SS p e below m T2 10 #[iv p1] [(.int (47 : Int32)), (.int p1)] _
      exact kk)
    by_cases hc6 : p1 = (47 : Int32)
    · have pre7 : ∀ t, SS p e below m T2 24 #[iv p1] [(.int (1 : Int32))] t → B t := fun t kk => pre5 t (by
        refine XS.icmpYes X2.here hx rfl (pc0 := 10) (pc' := 19) rfl (hb hby d18_10) rfl (teq hc6).1 (by decide) (by decide) ?_
        refine XS.iconst X2.here hx rfl (hb hby d18_19) ?_
        refine XS.goto X2.here hx rfl (pc0 := 20) (pc' := 24) rfl (hb hby d18_20) (by decide) (by decide) ?_
        show SS p e below m T2 24 #[iv p1] [(.int (1 : Int32))] _
        exact kk)
      obtain ⟨fs, hr, hrun, hended, hW, hsame⟩ := X2.leave (v := some (.int (1 : Int32))) (fun h => by rw [Bd.returns] at h; cases h)
      refine ⟨_, _, hB _ (pre7 _ ?_), hrun, hended, _, _, rfl, ?_, ⟨_, rfl⟩, hW, hsame.mono (by decide) (by decide)⟩
      · exact retN X2 hx (t := .boolean) Bd.returns (by simp) (hb hby d18_24) hr
      · exact ⟨by show _ = some (Value.int (f18 p1)); rw [f18, if_pos hc4, if_pos hc6], N2, e2⟩
    · have pre8 : ∀ t, SS p e below m T2 16 #[iv p1] [(.int (62 : Int32)), (.int p1)] t → B t := fun t kk => pre5 t (by
        refine XS.icmpNo X2.here hx rfl (hb hby d18_10) rfl (feq hc6).1 ?_
        refine XS.iloadN X2.here hx rfl (hb hby d18_13) rfl ?_
        refine XS.bipush X2.here hx rfl (hb hby d18_14) ?_
        show SS p e below m T2 16 #[iv p1] [(.int (62 : Int32)), (.int p1)] _
        exact kk)
      by_cases hc9 : p1 = (62 : Int32)
      · have pre10 : ∀ t, SS p e below m T2 24 #[iv p1] [(.int (1 : Int32))] t → B t := fun t kk => pre8 t (by
          refine XS.icmpNo X2.here hx rfl (hb hby d18_16) rfl (teq hc9).2 ?_
          refine XS.iconst X2.here hx rfl (hb hby d18_19) ?_
          refine XS.goto X2.here hx rfl (pc0 := 20) (pc' := 24) rfl (hb hby d18_20) (by decide) (by decide) ?_
          show SS p e below m T2 24 #[iv p1] [(.int (1 : Int32))] _
          exact kk)
        obtain ⟨fs, hr, hrun, hended, hW, hsame⟩ := X2.leave (v := some (.int (1 : Int32))) (fun h => by rw [Bd.returns] at h; cases h)
        refine ⟨_, _, hB _ (pre10 _ ?_), hrun, hended, _, _, rfl, ?_, ⟨_, rfl⟩, hW, hsame.mono (by decide) (by decide)⟩
        · exact retN X2 hx (t := .boolean) Bd.returns (by simp) (hb hby d18_24) hr
        · exact ⟨by show _ = some (Value.int (f18 p1)); rw [f18, if_pos hc4, if_neg hc6, if_pos hc9], N2, e2⟩
      · have pre11 : ∀ t, SS p e below m T2 24 #[iv p1] [(.int (0 : Int32))] t → B t := fun t kk => pre8 t (by
          refine XS.icmpYes X2.here hx rfl (pc0 := 16) (pc' := 23) rfl (hb hby d18_16) rfl (feq hc9).2 (by decide) (by decide) ?_
          refine XS.iconst X2.here hx rfl (hb hby d18_23) ?_
          exact kk)
        obtain ⟨fs, hr, hrun, hended, hW, hsame⟩ := X2.leave (v := some (.int (0 : Int32))) (fun h => by rw [Bd.returns] at h; cases h)
        refine ⟨_, _, hB _ (pre11 _ ?_), hrun, hended, _, _, rfl, ?_, ⟨_, rfl⟩, hW, hsame.mono (by decide) (by decide)⟩
        · exact retN X2 hx (t := .boolean) Bd.returns (by simp) (hb hby d18_24) hr
        · exact ⟨by show _ = some (Value.int (f18 p1)); rw [f18, if_pos hc4, if_neg hc6, if_neg hc9], N2, e2⟩
  · have pre12 : ∀ t, SS p e below m T2 24 #[iv p1] [(.int (1 : Int32))] t → B t := fun t kk => pre3 t (by
      refine XS.ifYes X2.here hx rfl (pc0 := 4) (pc' := 19) rfl (hb hby d18_4) rfl ((if0 _ _).trans (feq hc4).2) (by decide) (by decide) ?_
      refine XS.iconst X2.here hx rfl (hb hby d18_19) ?_
      refine XS.goto X2.here hx rfl (pc0 := 20) (pc' := 24) rfl (hb hby d18_20) (by decide) (by decide) ?_
      show SS p e below m T2 24 #[iv p1] [(.int (1 : Int32))] _
      exact kk)
    obtain ⟨fs, hr, hrun, hended, hW, hsame⟩ := X2.leave (v := some (.int (1 : Int32))) (fun h => by rw [Bd.returns] at h; cases h)
    refine ⟨_, _, hB _ (pre12 _ ?_), hrun, hended, _, _, rfl, ?_, ⟨_, rfl⟩, hW, hsame.mono (by decide) (by decide)⟩
    · exact retN X2 hx (t := .boolean) Bd.returns (by simp) (hb hby d18_24) hr
    · exact ⟨by show _ = some (Value.int (f18 p1)); rw [f18, if_neg hc4], N2, e2⟩
theorem d1_0 : decode prog_41_method_2_code 0 = .ok (.iload_n 0, 1) := by decide +kernel
theorem d1_1 : decode prog_41_method_2_code 1 = .ok (.iload_n 0, 1) := by decide +kernel
theorem d1_2 : decode prog_41_method_2_code 2 = .ok (.bipush 8, 2) := by decide +kernel
theorem d1_4 : decode prog_41_method_2_code 4 = .ok (.irem, 1) := by decide +kernel
theorem d1_5 : decode prog_41_method_2_code 5 = .ok (.isub, 1) := by decide +kernel
theorem d1_6 : decode prog_41_method_2_code 6 = .ok (.istore_n 2, 1) := by decide +kernel
theorem d1_7 : decode prog_41_method_2_code 7 = .ok (.iload_n 0, 1) := by decide +kernel
theorem d1_8 : decode prog_41_method_2_code 8 = .ok (.bipush 8, 2) := by decide +kernel
theorem d1_10 : decode prog_41_method_2_code 10 = .ok (.irem, 1) := by decide +kernel
theorem d1_11 : decode prog_41_method_2_code 11 = .ok (.istore_n 3, 1) := by decide +kernel
theorem d1_12 : decode prog_41_method_2_code 12 = .ok (.iload_n 2, 1) := by decide +kernel
theorem d1_13 : decode prog_41_method_2_code 13 = .ok (.lookupswitch 335 #[(0, 147), (8, 164), (16, 173), (24, 189), (32, 210), (40, 231), (48, 231), (56, 231), (64, 241), (72, 250), (80, 267), (88, 283), (96, 283), (104, 283), (112, 293), (120, 302), (128, 318)], 147) := by decide +kernel
theorem d1_160 : decode prog_41_method_2_code 160 = .ok (.iload_n 1, 1) := by decide +kernel
theorem d1_161 : decode prog_41_method_2_code 161 = .ok (.bipush 60, 2) := by decide +kernel
theorem d1_163 : decode prog_41_method_2_code 163 = .ok (.if_icmp .ne 8, 3) := by decide +kernel
theorem d1_166 : decode prog_41_method_2_code 166 = .ok (.bipush 8, 2) := by decide +kernel
theorem d1_168 : decode prog_41_method_2_code 168 = .ok (.goto 4, 3) := by decide +kernel
theorem d1_171 : decode prog_41_method_2_code 171 = .ok (.iconst 0, 1) := by decide +kernel
theorem d1_172 : decode prog_41_method_2_code 172 = .ok (.istore 4, 2) := by decide +kernel
theorem d1_174 : decode prog_41_method_2_code 174 = .ok (.goto 184, 3) := by decide +kernel
theorem d1_358 : decode prog_41_method_2_code 358 = .ok (.iload 4, 2) := by decide +kernel
theorem d1_360 : decode prog_41_method_2_code 360 = .ok (.ireturn, 1) := by decide +kernel
theorem pn_1 : plainName "pithline/html/ScriptData" = true := by first | (simp [plainName, overriddenIn]; done) | decide +kernel
theorem ef_rmN0 (m : MethodId) (p2 : Int32) : entryFrame m #[(.int (0 : Int32)), (.int p2)] 5 = mkF m 0 #[iv (0 : Int32), iv p2, .unset, .unset, .unset] [] := by first | (simp [entryFrame, mkF, argsToLocals, Value.category]; done) | rfl
def fN0 (p2 : Int32)  : Int32 := (if p2 = (60 : Int32) then (8 : Int32) else (0 : Int32))
set_option maxRecDepth 65536 in
set_option maxHeartbeats 40000000 in
theorem rmN0 (l : Launch) (Z : State) (a0 : Array Value) (hw : ∀ d ∈ tables_1, d.before a0 Z = true) (ws : List Jvm.Cond) (p2 : Int32)  (h0 : Heap) (n0 : Nat) (Z0 : n0 ≤ h0.size)  :
    MetFree l (⟨"pithline/html/ScriptData", "next", "(II)I"⟩ : MethodName) (head1 (Jvm.Cond.code (⟨"pithline/html/ScriptData", "next", "(II)I"⟩ : MethodName) prog_41_method_2_code 5 (some .int) :: ws) ({ frames := 1, cells := 0, slots := 0, locals := 14 } : Room)) (fun a U => a = #[(.int (0 : Int32)), (.int p2)] ∧ Z.Warmed39 U.vm ∧ U.heap = h0) (fun _ _ _ _ _ => True) (fun _ U o U' => ∃ v L, o = .returned v ∧ QI (fN0 p2) h0 n0 v U'.heap L ∧ FrameEnd U o U' L ({ frames := 1, cells := 0, slots := 0, locals := 14 } : Room).cells ({ frames := 1, cells := 0, slots := 0, locals := 14 } : Room).slots) := by
  refine MetFree.of_bodySF (plainFor_of_name pn_1) hisR ?_
  intro p e s m args below meth c s₁ Bd hml0 hP hK
  obtain ⟨rfl, hZ, hh⟩ := hP
  have hx := Bd.exec
  have hby := Bd.bytes
  have hml : c.maxLocals = 5 := hml0
  have hown : s.vm.findClass "pithline/html/ScriptData" = some m.cls := findClass_of_methodNamed Bd.named
  have hnm := (name_of_methodNamed Bd.named Bd.method).1
  have X0 : Stand p l e ({ frames := 1, cells := 0, slots := 0, locals := 14 } : Room) s m #[(.int (0 : Int32)), (.int p2)] below meth c s₁ [] 0 0 := Stand.of_body Bd
  have e0 : s₁.heap = h0 := by rw [← hh, Bd.state]; rfl
  have N0 := Fr.nil n0
  obtain ⟨B, hB, pre0⟩ : ∃ B : State → Prop, (∀ t, B t → Steps p.tables e below (s₁.setTop (entryFrame m #[(.int (0 : Int32)), (.int p2)] 5)) t) ∧ ∀ t, SS p e below m s₁ 0 #[iv (0 : Int32), iv p2, .unset, .unset, .unset] [] t → B t := ⟨_, fun _ q => q, fun t kk => castTop (ef_rmN0 m p2) kk⟩
  have pre1 : ∀ t, SS p e below m s₁ 6 #[iv (0 : Int32), iv p2, .unset, .unset, .unset] [(.int ((0 : Int32) - ((0 : Int32) % (8 : Int32))))] t → B t := fun t kk => pre0 t (by
    show SS p e below m s₁ 0 #[iv (0 : Int32), iv p2, .unset, .unset, .unset] [] _
    refine XS.iloadN X0.here hx rfl (hb hby d1_0) rfl ?_
    refine XS.iloadN X0.here hx rfl (hb hby d1_1) rfl ?_
    refine XS.bipush X0.here hx rfl (hb hby d1_2) ?_
    show SS p e below m s₁ 4 #[iv (0 : Int32), iv p2, .unset, .unset, .unset] [(.int (8 : Int32)), (.int (0 : Int32)), (.int (0 : Int32))] _
    refine iremM (g := (mkF m 4 #[iv (0 : Int32), iv p2, .unset, .unset, .unset] [(.int (8 : Int32)), (.int (0 : Int32)), (.int (0 : Int32))])) X0 hx rfl (hb hby d1_4) rfl (by decide) ?_
    refine XS.isub X0.here hx rfl (hb hby d1_5) rfl ?_
    exact kk)
  rw [show ((0 : Int32) - ((0 : Int32) % (8 : Int32))) = (0 : Int32) from by decide] at pre1
  have pre2 : ∀ t, SS p e below m s₁ 11 #[iv (0 : Int32), iv p2, iv (0 : Int32), .unset, .unset] [(.int ((0 : Int32) % (8 : Int32)))] t → B t := fun t kk => pre1 t (by
    refine XS.istoreN X0.here hx rfl (hb hby d1_6) rfl (l' := #[iv (0 : Int32), iv p2, iv (0 : Int32), .unset, .unset]) rfl ?_
    refine XS.iloadN X0.here hx rfl (hb hby d1_7) rfl ?_
    refine XS.bipush X0.here hx rfl (hb hby d1_8) ?_
    show SS p e below m s₁ 10 #[iv (0 : Int32), iv p2, iv (0 : Int32), .unset, .unset] [(.int (8 : Int32)), (.int (0 : Int32))] _
    refine iremM (g := (mkF m 10 #[iv (0 : Int32), iv p2, iv (0 : Int32), .unset, .unset] [(.int (8 : Int32)), (.int (0 : Int32))])) X0 hx rfl (hb hby d1_10) rfl (by decide) ?_
    exact kk)
  rw [show ((0 : Int32) % (8 : Int32)) = (0 : Int32) from by decide] at pre2
  have pre3 : ∀ t, SS p e below m s₁ 163 #[iv (0 : Int32), iv p2, iv (0 : Int32), iv (0 : Int32), .unset] [(.int (60 : Int32)), (.int p2)] t → B t := fun t kk => pre2 t (by
    refine XS.istoreN X0.here hx rfl (hb hby d1_11) rfl (l' := #[iv (0 : Int32), iv p2, iv (0 : Int32), iv (0 : Int32), .unset]) rfl ?_
    refine XS.iloadN X0.here hx rfl (hb hby d1_12) rfl ?_
    refine X0.lookupswitchHit hx (g := (mkF m 13 #[iv (0 : Int32), iv p2, iv (0 : Int32), iv (0 : Int32), .unset] [(.int (0 : Int32))])) rfl rfl (hb hby d1_13) (by decide) (a := 0) (off := 147) (by decide +kernel) (show (0 : Int) ≤ ((13 : Nat) : Int) + 147 from by decide) _ ?_
    show SS p e below m s₁ 160 #[iv (0 : Int32), iv p2, iv (0 : Int32), iv (0 : Int32), .unset] [] _
    refine XS.iloadN X0.here hx rfl (hb hby d1_160) rfl ?_
    refine XS.bipush X0.here hx rfl (hb hby d1_161) ?_
    exact kk)
  by_cases hc4 : p2 = (60 : Int32)
  · have pre5 : ∀ t, SS p e below m s₁ 360 #[iv (0 : Int32), iv p2, iv (0 : Int32), iv (0 : Int32), iv (8 : Int32)] [(.int (8 : Int32))] t → B t := fun t kk => pre3 t (by
      refine XS.icmpNo X0.here hx rfl (hb hby d1_163) rfl (teq hc4).2 ?_
      refine XS.bipush X0.here hx rfl (hb hby d1_166) ?_
      refine XS.goto X0.here hx rfl (pc0 := 168) (pc' := 172) rfl (hb hby d1_168) (by decide) (by decide) ?_
      show SS p e below m s₁ 172 #[iv (0 : Int32), iv p2, iv (0 : Int32), iv (0 : Int32), .unset] [(.int (8 : Int32))] _
      refine XS.istore X0.here hx rfl (hb hby d1_172) rfl (l' := #[iv (0 : Int32), iv p2, iv (0 : Int32), iv (0 : Int32), iv (8 : Int32)]) rfl ?_
      refine XS.goto X0.here hx rfl (pc0 := 174) (pc' := 358) rfl (hb hby d1_174) (by decide) (by decide) ?_
      refine XS.iload X0.here hx rfl (hb hby d1_358) rfl ?_
      show SS p e below m s₁ 360 #[iv (0 : Int32), iv p2, iv (0 : Int32), iv (0 : Int32), iv (8 : Int32)] [(.int (8 : Int32))] _
      exact kk)
    obtain ⟨fs, hr, hrun, hended, hW, hsame⟩ := X0.leave (v := some (.int (8 : Int32))) (fun h => by rw [Bd.returns] at h; cases h)
    refine ⟨_, _, hB _ (pre5 _ ?_), hrun, hended, _, _, rfl, ?_, ⟨_, rfl⟩, hW, hsame.mono (by decide) (by decide)⟩
    · exact retI X0 hx Bd.returns (hb hby d1_360) hr
    · exact ⟨by show _ = some (Value.int (fN0 p2)); rw [fN0, if_pos hc4], N0, e0⟩
  · have pre6 : ∀ t, SS p e below m s₁ 360 #[iv (0 : Int32), iv p2, iv (0 : Int32), iv (0 : Int32), iv (0 : Int32)] [(.int (0 : Int32))] t → B t := fun t kk => pre3 t (by
      refine XS.icmpYes X0.here hx rfl (pc0 := 163) (pc' := 171) rfl (hb hby d1_163) rfl (feq hc4).2 (by decide) (by decide) ?_
      refine XS.iconst X0.here hx rfl (hb hby d1_171) ?_
      refine XS.istore X0.here hx rfl (hb hby d1_172) rfl (l' := #[iv (0 : Int32), iv p2, iv (0 : Int32), iv (0 : Int32), iv (0 : Int32)]) rfl ?_
      show SS p e below m s₁ 174 #[iv (0 : Int32), iv p2, iv (0 : Int32), iv (0 : Int32), iv (0 : Int32)] [] _
      refine XS.goto X0.here hx rfl (pc0 := 174) (pc' := 358) rfl (hb hby d1_174) (by decide) (by decide) ?_
      refine XS.iload X0.here hx rfl (hb hby d1_358) rfl ?_
      exact kk)
    obtain ⟨fs, hr, hrun, hended, hW, hsame⟩ := X0.leave (v := some (.int (0 : Int32))) (fun h => by rw [Bd.returns] at h; cases h)
    refine ⟨_, _, hB _ (pre6 _ ?_), hrun, hended, _, _, rfl, ?_, ⟨_, rfl⟩, hW, hsame.mono (by decide) (by decide)⟩
    · exact retI X0 hx Bd.returns (hb hby d1_360) hr
    · exact ⟨by show _ = some (Value.int (fN0 p2)); rw [fN0, if_neg hc4], N0, e0⟩
theorem d1_244 : decode prog_41_method_2_code 244 = .ok (.iload_n 2, 1) := by decide +kernel
theorem d1_245 : decode prog_41_method_2_code 245 = .ok (.iload_n 1, 1) := by decide +kernel
theorem d1_246 : decode prog_41_method_2_code 246 = .ok (.invokestatic 21, 3) := by decide +kernel
theorem d1_249 : decode prog_41_method_2_code 249 = .ok (.istore 4, 2) := by decide +kernel
theorem d1_251 : decode prog_41_method_2_code 251 = .ok (.goto 107, 3) := by decide +kernel
theorem pd_6 : parseMethodDescriptor "(II)I" = some ⟨[.int, .int], some .int⟩ := by decide +kernel
theorem ef_rmN40 (m : MethodId) (p2 : Int32) : entryFrame m #[(.int (40 : Int32)), (.int p2)] 5 = mkF m 0 #[iv (40 : Int32), iv p2, .unset, .unset, .unset] [] := by first | (simp [entryFrame, mkF, argsToLocals, Value.category]; done) | rfl
def fN40 (p2 : Int32)  : Int32 := (f4 (40 : Int32) p2)
set_option maxRecDepth 65536 in
set_option maxHeartbeats 40000000 in
theorem rmN40 (l : Launch) (Z : State) (a0 : Array Value) (hw : ∀ d ∈ tables_1, d.before a0 Z = true) (ws : List Jvm.Cond) (p2 : Int32)  (h0 : Heap) (n0 : Nat) (Z0 : n0 ≤ h0.size)  :
    MetFree l (⟨"pithline/html/ScriptData", "next", "(II)I"⟩ : MethodName) (head1 (Jvm.Cond.code (⟨"pithline/html/ScriptData", "next", "(II)I"⟩ : MethodName) prog_41_method_2_code 5 (some .int) :: ws) ({ frames := 1, cells := 0, slots := 0, locals := 14 } : Room)) (fun a U => a = #[(.int (40 : Int32)), (.int p2)] ∧ Z.Warmed39 U.vm ∧ U.heap = h0) (fun _ _ _ _ _ => True) (fun _ U o U' => ∃ v L, o = .returned v ∧ QI (fN40 p2) h0 n0 v U'.heap L ∧ FrameEnd U o U' L ({ frames := 1, cells := 0, slots := 0, locals := 14 } : Room).cells ({ frames := 1, cells := 0, slots := 0, locals := 14 } : Room).slots) := by
  refine MetFree.of_bodySF (plainFor_of_name pn_1) hisR ?_
  intro p e s m args below meth c s₁ Bd hml0 hP hK
  obtain ⟨rfl, hZ, hh⟩ := hP
  have hx := Bd.exec
  have hby := Bd.bytes
  have hml : c.maxLocals = 5 := hml0
  have hown : s.vm.findClass "pithline/html/ScriptData" = some m.cls := findClass_of_methodNamed Bd.named
  have hnm := (name_of_methodNamed Bd.named Bd.method).1
  have X0 : Stand p l e ({ frames := 1, cells := 0, slots := 0, locals := 14 } : Room) s m #[(.int (40 : Int32)), (.int p2)] below meth c s₁ [] 0 0 := Stand.of_body Bd
  have e0 : s₁.heap = h0 := by rw [← hh, Bd.state]; rfl
  have N0 := Fr.nil n0
  obtain ⟨B, hB, pre0⟩ : ∃ B : State → Prop, (∀ t, B t → Steps p.tables e below (s₁.setTop (entryFrame m #[(.int (40 : Int32)), (.int p2)] 5)) t) ∧ ∀ t, SS p e below m s₁ 0 #[iv (40 : Int32), iv p2, .unset, .unset, .unset] [] t → B t := ⟨_, fun _ q => q, fun t kk => castTop (ef_rmN40 m p2) kk⟩
  have pre1 : ∀ t, SS p e below m s₁ 6 #[iv (40 : Int32), iv p2, .unset, .unset, .unset] [(.int ((40 : Int32) - ((40 : Int32) % (8 : Int32))))] t → B t := fun t kk => pre0 t (by
    show SS p e below m s₁ 0 #[iv (40 : Int32), iv p2, .unset, .unset, .unset] [] _
    refine XS.iloadN X0.here hx rfl (hb hby d1_0) rfl ?_
    refine XS.iloadN X0.here hx rfl (hb hby d1_1) rfl ?_
    refine XS.bipush X0.here hx rfl (hb hby d1_2) ?_
    show SS p e below m s₁ 4 #[iv (40 : Int32), iv p2, .unset, .unset, .unset] [(.int (8 : Int32)), (.int (40 : Int32)), (.int (40 : Int32))] _
    refine iremM (g := (mkF m 4 #[iv (40 : Int32), iv p2, .unset, .unset, .unset] [(.int (8 : Int32)), (.int (40 : Int32)), (.int (40 : Int32))])) X0 hx rfl (hb hby d1_4) rfl (by decide) ?_
    refine XS.isub X0.here hx rfl (hb hby d1_5) rfl ?_
    exact kk)
  rw [show ((40 : Int32) - ((40 : Int32) % (8 : Int32))) = (40 : Int32) from by decide] at pre1
  have pre2 : ∀ t, SS p e below m s₁ 11 #[iv (40 : Int32), iv p2, iv (40 : Int32), .unset, .unset] [(.int ((40 : Int32) % (8 : Int32)))] t → B t := fun t kk => pre1 t (by
    refine XS.istoreN X0.here hx rfl (hb hby d1_6) rfl (l' := #[iv (40 : Int32), iv p2, iv (40 : Int32), .unset, .unset]) rfl ?_
    refine XS.iloadN X0.here hx rfl (hb hby d1_7) rfl ?_
    refine XS.bipush X0.here hx rfl (hb hby d1_8) ?_
    show SS p e below m s₁ 10 #[iv (40 : Int32), iv p2, iv (40 : Int32), .unset, .unset] [(.int (8 : Int32)), (.int (40 : Int32))] _
    refine iremM (g := (mkF m 10 #[iv (40 : Int32), iv p2, iv (40 : Int32), .unset, .unset] [(.int (8 : Int32)), (.int (40 : Int32))])) X0 hx rfl (hb hby d1_10) rfl (by decide) ?_
    exact kk)
  rw [show ((40 : Int32) % (8 : Int32)) = (0 : Int32) from by decide] at pre2
  have pre3 : ∀ t, SS p e below m s₁ 246 #[iv (40 : Int32), iv p2, iv (40 : Int32), iv (0 : Int32), .unset] [(.int p2), (.int (40 : Int32))] t → B t := fun t kk => pre2 t (by
    refine XS.istoreN X0.here hx rfl (hb hby d1_11) rfl (l' := #[iv (40 : Int32), iv p2, iv (40 : Int32), iv (0 : Int32), .unset]) rfl ?_
    refine XS.iloadN X0.here hx rfl (hb hby d1_12) rfl ?_
    refine X0.lookupswitchHit hx (g := (mkF m 13 #[iv (40 : Int32), iv p2, iv (40 : Int32), iv (0 : Int32), .unset] [(.int (40 : Int32))])) rfl rfl (hb hby d1_13) (by decide) (a := 40) (off := 231) (by decide +kernel) (show (0 : Int) ≤ ((13 : Nat) : Int) + 231 from by decide) _ ?_
    show SS p e below m s₁ 244 #[iv (40 : Int32), iv p2, iv (40 : Int32), iv (0 : Int32), .unset] [] _
    refine XS.iloadN X0.here hx rfl (hb hby d1_244) rfl ?_
    refine XS.iloadN X0.here hx rfl (hb hby d1_245) rfl ?_
    exact kk)
  obtain ⟨_, _, ⟨T4, L4, k4, n4⟩, -, X4, ⟨Lc4, hQ4, l4, y4, z4⟩, st4⟩ := Jvm.LawKit.callS X0 hx (y := (⟨"pithline/html/ScriptData", "escaped", "(II)I"⟩ : MethodName)) hown (mvT hZ (hw _ (List.mem_of_getElem? (i := 14) rfl))) (mvT hZ (hw _ (List.mem_of_getElem? (i := 15) rfl))) (mvT hZ (hw _ (List.mem_of_getElem? (i := 5) rfl))) (mvT hZ (hw _ (List.mem_of_getElem? (i := 16) rfl))) (by decide) (backOf (W := 0) (rm4 l Z a0 hw [] (40 : Int32) p2 h0 n0 Z0 ) hZ (hw _ (List.mem_of_getElem? (i := 16) rfl)) (hw _ (List.mem_of_getElem? (i := 5) rfl)) (by decide) (by decide)) (g := (mkF m 246 #[iv (40 : Int32), iv p2, iv (40 : Int32), iv (0 : Int32), .unset] [(.int p2), (.int (40 : Int32))])) rfl (by rw [hml]; rfl) (argsL := [(.int (40 : Int32)), (.int p2)]) (rest := []) (lenOf pd_6 rfl) rfl (by show 2 * 0 + _ ≤ _; exact Nat.le_of_eq rfl) (hb hby d1_246) (fun _ _ => ⟨rfl, e0, (by decide : 0 + 0 ≤ _), (by decide : 0 + 0 ≤ _)⟩)
  dsimp only [Pt.U, Pt.locs, Pt.cells, Pt.slots] at X4 l4 y4 z4 st4 hQ4
  subst l4 y4 z4
  obtain ⟨rfl, N4q, e4⟩ := hQ4
  have N4 := Fr.app N0 N4q
  have pre5 : ∀ t, SS p e below m T4 360 #[iv (40 : Int32), iv p2, iv (40 : Int32), iv (0 : Int32), iv (f4 (40 : Int32) p2)] [(.int (f4 (40 : Int32) p2))] t → B t := fun t kk => pre3 t (by
    refine st4 _ ?_
    refine XS.istore X4.here hx rfl (hb hby d1_249) rfl (l' := #[iv (40 : Int32), iv p2, iv (40 : Int32), iv (0 : Int32), iv (f4 (40 : Int32) p2)]) rfl ?_
    refine XS.goto X4.here hx rfl (pc0 := 251) (pc' := 358) rfl (hb hby d1_251) (by decide) (by decide) ?_
    show SS p e below m T4 358 #[iv (40 : Int32), iv p2, iv (40 : Int32), iv (0 : Int32), iv (f4 (40 : Int32) p2)] [] _
    refine XS.iload X4.here hx rfl (hb hby d1_358) rfl ?_
    exact kk)
  obtain ⟨fs, hr, hrun, hended, hW, hsame⟩ := X4.leave (v := some (.int (f4 (40 : Int32) p2))) (fun h => by rw [Bd.returns] at h; cases h)
  refine ⟨_, _, hB _ (pre5 _ ?_), hrun, hended, _, _, rfl, ?_, ⟨_, rfl⟩, hW, hsame.mono (by decide) (by decide)⟩
  · exact retI X4 hx Bd.returns (hb hby d1_360) hr
  · exact ⟨by show _ = some (Value.int (fN40 p2)); rw [fN40], N4, e4⟩
theorem d1_296 : decode prog_41_method_2_code 296 = .ok (.iload_n 2, 1) := by decide +kernel
theorem d1_297 : decode prog_41_method_2_code 297 = .ok (.iload_n 1, 1) := by decide +kernel
theorem d1_298 : decode prog_41_method_2_code 298 = .ok (.invokestatic 27, 3) := by decide +kernel
theorem d1_301 : decode prog_41_method_2_code 301 = .ok (.istore 4, 2) := by decide +kernel
theorem d1_303 : decode prog_41_method_2_code 303 = .ok (.goto 55, 3) := by decide +kernel
theorem ef_rmN88 (m : MethodId) (p2 : Int32) : entryFrame m #[(.int (88 : Int32)), (.int p2)] 5 = mkF m 0 #[iv (88 : Int32), iv p2, .unset, .unset, .unset] [] := by first | (simp [entryFrame, mkF, argsToLocals, Value.category]; done) | rfl
def fN88 (p2 : Int32)  : Int32 := (f20 (88 : Int32) p2)
set_option maxRecDepth 65536 in
set_option maxHeartbeats 40000000 in
theorem rmN88 (l : Launch) (Z : State) (a0 : Array Value) (hw : ∀ d ∈ tables_1, d.before a0 Z = true) (ws : List Jvm.Cond) (p2 : Int32)  (h0 : Heap) (n0 : Nat) (Z0 : n0 ≤ h0.size)  :
    MetFree l (⟨"pithline/html/ScriptData", "next", "(II)I"⟩ : MethodName) (head1 (Jvm.Cond.code (⟨"pithline/html/ScriptData", "next", "(II)I"⟩ : MethodName) prog_41_method_2_code 5 (some .int) :: ws) ({ frames := 1, cells := 0, slots := 0, locals := 14 } : Room)) (fun a U => a = #[(.int (88 : Int32)), (.int p2)] ∧ Z.Warmed39 U.vm ∧ U.heap = h0) (fun _ _ _ _ _ => True) (fun _ U o U' => ∃ v L, o = .returned v ∧ QI (fN88 p2) h0 n0 v U'.heap L ∧ FrameEnd U o U' L ({ frames := 1, cells := 0, slots := 0, locals := 14 } : Room).cells ({ frames := 1, cells := 0, slots := 0, locals := 14 } : Room).slots) := by
  refine MetFree.of_bodySF (plainFor_of_name pn_1) hisR ?_
  intro p e s m args below meth c s₁ Bd hml0 hP hK
  obtain ⟨rfl, hZ, hh⟩ := hP
  have hx := Bd.exec
  have hby := Bd.bytes
  have hml : c.maxLocals = 5 := hml0
  have hown : s.vm.findClass "pithline/html/ScriptData" = some m.cls := findClass_of_methodNamed Bd.named
  have hnm := (name_of_methodNamed Bd.named Bd.method).1
  have X0 : Stand p l e ({ frames := 1, cells := 0, slots := 0, locals := 14 } : Room) s m #[(.int (88 : Int32)), (.int p2)] below meth c s₁ [] 0 0 := Stand.of_body Bd
  have e0 : s₁.heap = h0 := by rw [← hh, Bd.state]; rfl
  have N0 := Fr.nil n0
  obtain ⟨B, hB, pre0⟩ : ∃ B : State → Prop, (∀ t, B t → Steps p.tables e below (s₁.setTop (entryFrame m #[(.int (88 : Int32)), (.int p2)] 5)) t) ∧ ∀ t, SS p e below m s₁ 0 #[iv (88 : Int32), iv p2, .unset, .unset, .unset] [] t → B t := ⟨_, fun _ q => q, fun t kk => castTop (ef_rmN88 m p2) kk⟩
  have pre1 : ∀ t, SS p e below m s₁ 6 #[iv (88 : Int32), iv p2, .unset, .unset, .unset] [(.int ((88 : Int32) - ((88 : Int32) % (8 : Int32))))] t → B t := fun t kk => pre0 t (by
    show SS p e below m s₁ 0 #[iv (88 : Int32), iv p2, .unset, .unset, .unset] [] _
    refine XS.iloadN X0.here hx rfl (hb hby d1_0) rfl ?_
    refine XS.iloadN X0.here hx rfl (hb hby d1_1) rfl ?_
    refine XS.bipush X0.here hx rfl (hb hby d1_2) ?_
    show SS p e below m s₁ 4 #[iv (88 : Int32), iv p2, .unset, .unset, .unset] [(.int (8 : Int32)), (.int (88 : Int32)), (.int (88 : Int32))] _
    refine iremM (g := (mkF m 4 #[iv (88 : Int32), iv p2, .unset, .unset, .unset] [(.int (8 : Int32)), (.int (88 : Int32)), (.int (88 : Int32))])) X0 hx rfl (hb hby d1_4) rfl (by decide) ?_
    refine XS.isub X0.here hx rfl (hb hby d1_5) rfl ?_
    exact kk)
  rw [show ((88 : Int32) - ((88 : Int32) % (8 : Int32))) = (88 : Int32) from by decide] at pre1
  have pre2 : ∀ t, SS p e below m s₁ 11 #[iv (88 : Int32), iv p2, iv (88 : Int32), .unset, .unset] [(.int ((88 : Int32) % (8 : Int32)))] t → B t := fun t kk => pre1 t (by
    refine XS.istoreN X0.here hx rfl (hb hby d1_6) rfl (l' := #[iv (88 : Int32), iv p2, iv (88 : Int32), .unset, .unset]) rfl ?_
    refine XS.iloadN X0.here hx rfl (hb hby d1_7) rfl ?_
    refine XS.bipush X0.here hx rfl (hb hby d1_8) ?_
    show SS p e below m s₁ 10 #[iv (88 : Int32), iv p2, iv (88 : Int32), .unset, .unset] [(.int (8 : Int32)), (.int (88 : Int32))] _
    refine iremM (g := (mkF m 10 #[iv (88 : Int32), iv p2, iv (88 : Int32), .unset, .unset] [(.int (8 : Int32)), (.int (88 : Int32))])) X0 hx rfl (hb hby d1_10) rfl (by decide) ?_
    exact kk)
  rw [show ((88 : Int32) % (8 : Int32)) = (0 : Int32) from by decide] at pre2
  have pre3 : ∀ t, SS p e below m s₁ 298 #[iv (88 : Int32), iv p2, iv (88 : Int32), iv (0 : Int32), .unset] [(.int p2), (.int (88 : Int32))] t → B t := fun t kk => pre2 t (by
    refine XS.istoreN X0.here hx rfl (hb hby d1_11) rfl (l' := #[iv (88 : Int32), iv p2, iv (88 : Int32), iv (0 : Int32), .unset]) rfl ?_
    refine XS.iloadN X0.here hx rfl (hb hby d1_12) rfl ?_
    refine X0.lookupswitchHit hx (g := (mkF m 13 #[iv (88 : Int32), iv p2, iv (88 : Int32), iv (0 : Int32), .unset] [(.int (88 : Int32))])) rfl rfl (hb hby d1_13) (by decide) (a := 88) (off := 283) (by decide +kernel) (show (0 : Int) ≤ ((13 : Nat) : Int) + 283 from by decide) _ ?_
    show SS p e below m s₁ 296 #[iv (88 : Int32), iv p2, iv (88 : Int32), iv (0 : Int32), .unset] [] _
    refine XS.iloadN X0.here hx rfl (hb hby d1_296) rfl ?_
    refine XS.iloadN X0.here hx rfl (hb hby d1_297) rfl ?_
    exact kk)
  obtain ⟨_, _, ⟨T4, L4, k4, n4⟩, -, X4, ⟨Lc4, hQ4, l4, y4, z4⟩, st4⟩ := Jvm.LawKit.callS X0 hx (y := (⟨"pithline/html/ScriptData", "doublyEscaped", "(II)I"⟩ : MethodName)) hown (mvT hZ (hw _ (List.mem_of_getElem? (i := 88) rfl))) (mvT hZ (hw _ (List.mem_of_getElem? (i := 89) rfl))) (mvT hZ (hw _ (List.mem_of_getElem? (i := 5) rfl))) (mvT hZ (hw _ (List.mem_of_getElem? (i := 90) rfl))) (by decide) (backOf (W := 0) (rm20 l Z a0 hw [] (88 : Int32) p2 h0 n0 Z0 ) hZ (hw _ (List.mem_of_getElem? (i := 90) rfl)) (hw _ (List.mem_of_getElem? (i := 5) rfl)) (by decide) (by decide)) (g := (mkF m 298 #[iv (88 : Int32), iv p2, iv (88 : Int32), iv (0 : Int32), .unset] [(.int p2), (.int (88 : Int32))])) rfl (by rw [hml]; rfl) (argsL := [(.int (88 : Int32)), (.int p2)]) (rest := []) (lenOf pd_6 rfl) rfl (by show 2 * 0 + _ ≤ _; exact Nat.le_of_eq rfl) (hb hby d1_298) (fun _ _ => ⟨rfl, e0, (by decide : 0 + 0 ≤ _), (by decide : 0 + 0 ≤ _)⟩)
  dsimp only [Pt.U, Pt.locs, Pt.cells, Pt.slots] at X4 l4 y4 z4 st4 hQ4
  subst l4 y4 z4
  obtain ⟨rfl, N4q, e4⟩ := hQ4
  have N4 := Fr.app N0 N4q
  have pre5 : ∀ t, SS p e below m T4 360 #[iv (88 : Int32), iv p2, iv (88 : Int32), iv (0 : Int32), iv (f20 (88 : Int32) p2)] [(.int (f20 (88 : Int32) p2))] t → B t := fun t kk => pre3 t (by
    refine st4 _ ?_
    refine XS.istore X4.here hx rfl (hb hby d1_301) rfl (l' := #[iv (88 : Int32), iv p2, iv (88 : Int32), iv (0 : Int32), iv (f20 (88 : Int32) p2)]) rfl ?_
    refine XS.goto X4.here hx rfl (pc0 := 303) (pc' := 358) rfl (hb hby d1_303) (by decide) (by decide) ?_
    show SS p e below m T4 358 #[iv (88 : Int32), iv p2, iv (88 : Int32), iv (0 : Int32), iv (f20 (88 : Int32) p2)] [] _
    refine XS.iload X4.here hx rfl (hb hby d1_358) rfl ?_
    exact kk)
  obtain ⟨fs, hr, hrun, hended, hW, hsame⟩ := X4.leave (v := some (.int (f20 (88 : Int32) p2))) (fun h => by rw [Bd.returns] at h; cases h)
  refine ⟨_, _, hB _ (pre5 _ ?_), hrun, hended, _, _, rfl, ?_, ⟨_, rfl⟩, hW, hsame.mono (by decide) (by decide)⟩
  · exact retI X4 hx Bd.returns (hb hby d1_360) hr
  · exact ⟨by show _ = some (Value.int (fN88 p2)); rw [fN88], N4, e4⟩
theorem ef_rmN56 (m : MethodId) (p2 : Int32) : entryFrame m #[(.int (56 : Int32)), (.int p2)] 5 = mkF m 0 #[iv (56 : Int32), iv p2, .unset, .unset, .unset] [] := by first | (simp [entryFrame, mkF, argsToLocals, Value.category]; done) | rfl
def fN56 (p2 : Int32)  : Int32 := (f4 (56 : Int32) p2)
set_option maxRecDepth 65536 in
set_option maxHeartbeats 40000000 in
theorem rmN56 (l : Launch) (Z : State) (a0 : Array Value) (hw : ∀ d ∈ tables_1, d.before a0 Z = true) (ws : List Jvm.Cond) (p2 : Int32)  (h0 : Heap) (n0 : Nat) (Z0 : n0 ≤ h0.size)  :
    MetFree l (⟨"pithline/html/ScriptData", "next", "(II)I"⟩ : MethodName) (head1 (Jvm.Cond.code (⟨"pithline/html/ScriptData", "next", "(II)I"⟩ : MethodName) prog_41_method_2_code 5 (some .int) :: ws) ({ frames := 1, cells := 0, slots := 0, locals := 14 } : Room)) (fun a U => a = #[(.int (56 : Int32)), (.int p2)] ∧ Z.Warmed39 U.vm ∧ U.heap = h0) (fun _ _ _ _ _ => True) (fun _ U o U' => ∃ v L, o = .returned v ∧ QI (fN56 p2) h0 n0 v U'.heap L ∧ FrameEnd U o U' L ({ frames := 1, cells := 0, slots := 0, locals := 14 } : Room).cells ({ frames := 1, cells := 0, slots := 0, locals := 14 } : Room).slots) := by
  refine MetFree.of_bodySF (plainFor_of_name pn_1) hisR ?_
  intro p e s m args below meth c s₁ Bd hml0 hP hK
  obtain ⟨rfl, hZ, hh⟩ := hP
  have hx := Bd.exec
  have hby := Bd.bytes
  have hml : c.maxLocals = 5 := hml0
  have hown : s.vm.findClass "pithline/html/ScriptData" = some m.cls := findClass_of_methodNamed Bd.named
  have hnm := (name_of_methodNamed Bd.named Bd.method).1
  have X0 : Stand p l e ({ frames := 1, cells := 0, slots := 0, locals := 14 } : Room) s m #[(.int (56 : Int32)), (.int p2)] below meth c s₁ [] 0 0 := Stand.of_body Bd
  have e0 : s₁.heap = h0 := by rw [← hh, Bd.state]; rfl
  have N0 := Fr.nil n0
  obtain ⟨B, hB, pre0⟩ : ∃ B : State → Prop, (∀ t, B t → Steps p.tables e below (s₁.setTop (entryFrame m #[(.int (56 : Int32)), (.int p2)] 5)) t) ∧ ∀ t, SS p e below m s₁ 0 #[iv (56 : Int32), iv p2, .unset, .unset, .unset] [] t → B t := ⟨_, fun _ q => q, fun t kk => castTop (ef_rmN56 m p2) kk⟩
  have pre1 : ∀ t, SS p e below m s₁ 6 #[iv (56 : Int32), iv p2, .unset, .unset, .unset] [(.int ((56 : Int32) - ((56 : Int32) % (8 : Int32))))] t → B t := fun t kk => pre0 t (by
    show SS p e below m s₁ 0 #[iv (56 : Int32), iv p2, .unset, .unset, .unset] [] _
    refine XS.iloadN X0.here hx rfl (hb hby d1_0) rfl ?_
    refine XS.iloadN X0.here hx rfl (hb hby d1_1) rfl ?_
    refine XS.bipush X0.here hx rfl (hb hby d1_2) ?_
    show SS p e below m s₁ 4 #[iv (56 : Int32), iv p2, .unset, .unset, .unset] [(.int (8 : Int32)), (.int (56 : Int32)), (.int (56 : Int32))] _
    refine iremM (g := (mkF m 4 #[iv (56 : Int32), iv p2, .unset, .unset, .unset] [(.int (8 : Int32)), (.int (56 : Int32)), (.int (56 : Int32))])) X0 hx rfl (hb hby d1_4) rfl (by decide) ?_
    refine XS.isub X0.here hx rfl (hb hby d1_5) rfl ?_
    exact kk)
  rw [show ((56 : Int32) - ((56 : Int32) % (8 : Int32))) = (56 : Int32) from by decide] at pre1
  have pre2 : ∀ t, SS p e below m s₁ 11 #[iv (56 : Int32), iv p2, iv (56 : Int32), .unset, .unset] [(.int ((56 : Int32) % (8 : Int32)))] t → B t := fun t kk => pre1 t (by
    refine XS.istoreN X0.here hx rfl (hb hby d1_6) rfl (l' := #[iv (56 : Int32), iv p2, iv (56 : Int32), .unset, .unset]) rfl ?_
    refine XS.iloadN X0.here hx rfl (hb hby d1_7) rfl ?_
    refine XS.bipush X0.here hx rfl (hb hby d1_8) ?_
    show SS p e below m s₁ 10 #[iv (56 : Int32), iv p2, iv (56 : Int32), .unset, .unset] [(.int (8 : Int32)), (.int (56 : Int32))] _
    refine iremM (g := (mkF m 10 #[iv (56 : Int32), iv p2, iv (56 : Int32), .unset, .unset] [(.int (8 : Int32)), (.int (56 : Int32))])) X0 hx rfl (hb hby d1_10) rfl (by decide) ?_
    exact kk)
  rw [show ((56 : Int32) % (8 : Int32)) = (0 : Int32) from by decide] at pre2
  have pre3 : ∀ t, SS p e below m s₁ 246 #[iv (56 : Int32), iv p2, iv (56 : Int32), iv (0 : Int32), .unset] [(.int p2), (.int (56 : Int32))] t → B t := fun t kk => pre2 t (by
    refine XS.istoreN X0.here hx rfl (hb hby d1_11) rfl (l' := #[iv (56 : Int32), iv p2, iv (56 : Int32), iv (0 : Int32), .unset]) rfl ?_
    refine XS.iloadN X0.here hx rfl (hb hby d1_12) rfl ?_
    refine X0.lookupswitchHit hx (g := (mkF m 13 #[iv (56 : Int32), iv p2, iv (56 : Int32), iv (0 : Int32), .unset] [(.int (56 : Int32))])) rfl rfl (hb hby d1_13) (by decide) (a := 56) (off := 231) (by decide +kernel) (show (0 : Int) ≤ ((13 : Nat) : Int) + 231 from by decide) _ ?_
    show SS p e below m s₁ 244 #[iv (56 : Int32), iv p2, iv (56 : Int32), iv (0 : Int32), .unset] [] _
    refine XS.iloadN X0.here hx rfl (hb hby d1_244) rfl ?_
    refine XS.iloadN X0.here hx rfl (hb hby d1_245) rfl ?_
    exact kk)
  obtain ⟨_, _, ⟨T4, L4, k4, n4⟩, -, X4, ⟨Lc4, hQ4, l4, y4, z4⟩, st4⟩ := Jvm.LawKit.callS X0 hx (y := (⟨"pithline/html/ScriptData", "escaped", "(II)I"⟩ : MethodName)) hown (mvT hZ (hw _ (List.mem_of_getElem? (i := 14) rfl))) (mvT hZ (hw _ (List.mem_of_getElem? (i := 15) rfl))) (mvT hZ (hw _ (List.mem_of_getElem? (i := 5) rfl))) (mvT hZ (hw _ (List.mem_of_getElem? (i := 16) rfl))) (by decide) (backOf (W := 0) (rm4 l Z a0 hw [] (56 : Int32) p2 h0 n0 Z0 ) hZ (hw _ (List.mem_of_getElem? (i := 16) rfl)) (hw _ (List.mem_of_getElem? (i := 5) rfl)) (by decide) (by decide)) (g := (mkF m 246 #[iv (56 : Int32), iv p2, iv (56 : Int32), iv (0 : Int32), .unset] [(.int p2), (.int (56 : Int32))])) rfl (by rw [hml]; rfl) (argsL := [(.int (56 : Int32)), (.int p2)]) (rest := []) (lenOf pd_6 rfl) rfl (by show 2 * 0 + _ ≤ _; exact Nat.le_of_eq rfl) (hb hby d1_246) (fun _ _ => ⟨rfl, e0, (by decide : 0 + 0 ≤ _), (by decide : 0 + 0 ≤ _)⟩)
  dsimp only [Pt.U, Pt.locs, Pt.cells, Pt.slots] at X4 l4 y4 z4 st4 hQ4
  subst l4 y4 z4
  obtain ⟨rfl, N4q, e4⟩ := hQ4
  have N4 := Fr.app N0 N4q
  have pre5 : ∀ t, SS p e below m T4 360 #[iv (56 : Int32), iv p2, iv (56 : Int32), iv (0 : Int32), iv (f4 (56 : Int32) p2)] [(.int (f4 (56 : Int32) p2))] t → B t := fun t kk => pre3 t (by
    refine st4 _ ?_
    refine XS.istore X4.here hx rfl (hb hby d1_249) rfl (l' := #[iv (56 : Int32), iv p2, iv (56 : Int32), iv (0 : Int32), iv (f4 (56 : Int32) p2)]) rfl ?_
    refine XS.goto X4.here hx rfl (pc0 := 251) (pc' := 358) rfl (hb hby d1_251) (by decide) (by decide) ?_
    show SS p e below m T4 358 #[iv (56 : Int32), iv p2, iv (56 : Int32), iv (0 : Int32), iv (f4 (56 : Int32) p2)] [] _
    refine XS.iload X4.here hx rfl (hb hby d1_358) rfl ?_
    exact kk)
  obtain ⟨fs, hr, hrun, hended, hW, hsame⟩ := X4.leave (v := some (.int (f4 (56 : Int32) p2))) (fun h => by rw [Bd.returns] at h; cases h)
  refine ⟨_, _, hB _ (pre5 _ ?_), hrun, hended, _, _, rfl, ?_, ⟨_, rfl⟩, hW, hsame.mono (by decide) (by decide)⟩
  · exact retI X4 hx Bd.returns (hb hby d1_360) hr
  · exact ⟨by show _ = some (Value.int (fN56 p2)); rw [fN56], N4, e4⟩
theorem d2_0 : decode prog_41_method_8_code 0 = .ok (.iload_n 0, 1) := by decide +kernel
theorem d2_1 : decode prog_41_method_8_code 1 = .ok (.bipush 47, 2) := by decide +kernel
theorem d2_3 : decode prog_41_method_8_code 3 = .ok (.if_icmp .ne 9, 3) := by decide +kernel
theorem d2_12 : decode prog_41_method_8_code 12 = .ok (.iload_n 0, 1) := by decide +kernel
theorem d2_13 : decode prog_41_method_8_code 13 = .ok (.bipush 33, 2) := by decide +kernel
theorem d2_15 : decode prog_41_method_8_code 15 = .ok (.if_icmp .ne 9, 3) := by decide +kernel
theorem d2_18 : decode prog_41_method_8_code 18 = .ok (.bipush 24, 2) := by decide +kernel
theorem d2_20 : decode prog_41_method_8_code 20 = .ok (.istore_n 1, 1) := by decide +kernel
theorem d2_21 : decode prog_41_method_8_code 21 = .ok (.goto 9, 3) := by decide +kernel
theorem d2_30 : decode prog_41_method_8_code 30 = .ok (.iload_n 1, 1) := by decide +kernel
theorem d2_31 : decode prog_41_method_8_code 31 = .ok (.ireturn, 1) := by decide +kernel
theorem pn_2 : plainName "pithline/html/ScriptData" = true := by first | (simp [plainName, overriddenIn]; done) | decide +kernel
theorem ef_rmALT33 (m : MethodId)  : entryFrame m #[(.int (33 : Int32))] 2 = mkF m 0 #[iv (33 : Int32), .unset] [] := by first | (simp [entryFrame, mkF, argsToLocals, Value.category]; done) | rfl
def fALT33   : Int32 := (24 : Int32)
set_option maxRecDepth 65536 in
set_option maxHeartbeats 40000000 in
theorem rmALT33 (l : Launch) (Z : State) (a0 : Array Value) (hw : ∀ d ∈ tables_1, d.before a0 Z = true) (ws : List Jvm.Cond)   (h0 : Heap) (n0 : Nat) (Z0 : n0 ≤ h0.size)  :
    MetFree l (⟨"pithline/html/ScriptData", "afterLessThan", "(I)I"⟩ : MethodName) (head1 (Jvm.Cond.code (⟨"pithline/html/ScriptData", "afterLessThan", "(I)I"⟩ : MethodName) prog_41_method_8_code 2 (some .int) :: ws) ({ frames := 0, cells := 0, slots := 0, locals := 0 } : Room)) (fun a U => a = #[(.int (33 : Int32))] ∧ Z.Warmed39 U.vm ∧ U.heap = h0) (fun _ _ _ _ _ => True) (fun _ U o U' => ∃ v L, o = .returned v ∧ QI fALT33 h0 n0 v U'.heap L ∧ FrameEnd U o U' L ({ frames := 0, cells := 0, slots := 0, locals := 0 } : Room).cells ({ frames := 0, cells := 0, slots := 0, locals := 0 } : Room).slots) := by
  refine MetFree.of_bodySF (plainFor_of_name pn_2) hisR ?_
  intro p e s m args below meth c s₁ Bd hml0 hP hK
  obtain ⟨rfl, hZ, hh⟩ := hP
  have hx := Bd.exec
  have hby := Bd.bytes
  have hml : c.maxLocals = 2 := hml0
  have hown : s.vm.findClass "pithline/html/ScriptData" = some m.cls := findClass_of_methodNamed Bd.named
  have hnm := (name_of_methodNamed Bd.named Bd.method).1
  have X0 : Stand p l e ({ frames := 0, cells := 0, slots := 0, locals := 0 } : Room) s m #[(.int (33 : Int32))] below meth c s₁ [] 0 0 := Stand.of_body Bd
  have e0 : s₁.heap = h0 := by rw [← hh, Bd.state]; rfl
  have N0 := Fr.nil n0
  obtain ⟨B, hB, pre0⟩ : ∃ B : State → Prop, (∀ t, B t → Steps p.tables e below (s₁.setTop (entryFrame m #[(.int (33 : Int32))] 2)) t) ∧ ∀ t, SS p e below m s₁ 0 #[iv (33 : Int32), .unset] [] t → B t := ⟨_, fun _ q => q, fun t kk => castTop (ef_rmALT33 m ) kk⟩
  have pre1 : ∀ t, SS p e below m s₁ 31 #[iv (33 : Int32), iv (24 : Int32)] [(.int (24 : Int32))] t → B t := fun t kk => pre0 t (by
    show SS p e below m s₁ 0 #[iv (33 : Int32), .unset] [] _
    refine XS.iloadN X0.here hx rfl (hb hby d2_0) rfl ?_
    refine XS.bipush X0.here hx rfl (hb hby d2_1) ?_
    refine XS.icmpYes X0.here hx rfl (pc0 := 3) (pc' := 12) rfl (hb hby d2_3) rfl (feq (by decide : ¬ ((33 : Int32) = (47 : Int32)))).2 (by decide) (by decide) ?_
    show SS p e below m s₁ 12 #[iv (33 : Int32), .unset] [] _
    refine XS.iloadN X0.here hx rfl (hb hby d2_12) rfl ?_
    refine XS.bipush X0.here hx rfl (hb hby d2_13) ?_
    refine XS.icmpNo X0.here hx rfl (hb hby d2_15) rfl (teq (by decide : ((33 : Int32) = (33 : Int32)))).2 ?_
    show SS p e below m s₁ 18 #[iv (33 : Int32), .unset] [] _
    refine XS.bipush X0.here hx rfl (hb hby d2_18) ?_
    refine XS.istoreN X0.here hx rfl (hb hby d2_20) rfl (l' := #[iv (33 : Int32), iv (24 : Int32)]) rfl ?_
    refine XS.goto X0.here hx rfl (pc0 := 21) (pc' := 30) rfl (hb hby d2_21) (by decide) (by decide) ?_
    show SS p e below m s₁ 30 #[iv (33 : Int32), iv (24 : Int32)] [] _
    refine XS.iloadN X0.here hx rfl (hb hby d2_30) rfl ?_
    exact kk)
  obtain ⟨fs, hr, hrun, hended, hW, hsame⟩ := X0.leave (v := some (.int (24 : Int32))) (fun h => by rw [Bd.returns] at h; cases h)
  refine ⟨_, _, hB _ (pre1 _ ?_), hrun, hended, _, _, rfl, ?_, ⟨_, rfl⟩, hW, hsame.mono (by decide) (by decide)⟩
  · exact retI X0 hx Bd.returns (hb hby d2_31) hr
  · exact ⟨by show _ = some (Value.int fALT33); rw [fALT33], N0, e0⟩
theorem d11_0 : decode prog_41_method_10_code 0 = .ok (.iload_n 0, 1) := by decide +kernel
theorem d11_1 : decode prog_41_method_10_code 1 = .ok (.bipush 47, 2) := by decide +kernel
theorem d11_3 : decode prog_41_method_10_code 3 = .ok (.if_icmp .ne 9, 3) := by decide +kernel
theorem d11_6 : decode prog_41_method_10_code 6 = .ok (.bipush 72, 2) := by decide +kernel
theorem d11_8 : decode prog_41_method_10_code 8 = .ok (.istore_n 1, 1) := by decide +kernel
theorem d11_9 : decode prog_41_method_10_code 9 = .ok (.goto 15, 3) := by decide +kernel
theorem d11_24 : decode prog_41_method_10_code 24 = .ok (.iload_n 1, 1) := by decide +kernel
theorem d11_25 : decode prog_41_method_10_code 25 = .ok (.ireturn, 1) := by decide +kernel
theorem pn_11 : plainName "pithline/html/ScriptData" = true := by first | (simp [plainName, overriddenIn]; done) | decide +kernel
theorem ef_rmAEL47 (m : MethodId)  : entryFrame m #[(.int (47 : Int32))] 2 = mkF m 0 #[iv (47 : Int32), .unset] [] := by first | (simp [entryFrame, mkF, argsToLocals, Value.category]; done) | rfl
def fAEL47   : Int32 := (72 : Int32)
set_option maxRecDepth 65536 in
set_option maxHeartbeats 40000000 in
theorem rmAEL47 (l : Launch) (Z : State) (a0 : Array Value) (hw : ∀ d ∈ tables_1, d.before a0 Z = true) (ws : List Jvm.Cond)   (h0 : Heap) (n0 : Nat) (Z0 : n0 ≤ h0.size)  :
    MetFree l (⟨"pithline/html/ScriptData", "afterEscapedLessThan", "(I)I"⟩ : MethodName) (head1 (Jvm.Cond.code (⟨"pithline/html/ScriptData", "afterEscapedLessThan", "(I)I"⟩ : MethodName) prog_41_method_10_code 2 (some .int) :: ws) ({ frames := 0, cells := 0, slots := 0, locals := 0 } : Room)) (fun a U => a = #[(.int (47 : Int32))] ∧ Z.Warmed39 U.vm ∧ U.heap = h0) (fun _ _ _ _ _ => True) (fun _ U o U' => ∃ v L, o = .returned v ∧ QI fAEL47 h0 n0 v U'.heap L ∧ FrameEnd U o U' L ({ frames := 0, cells := 0, slots := 0, locals := 0 } : Room).cells ({ frames := 0, cells := 0, slots := 0, locals := 0 } : Room).slots) := by
  refine MetFree.of_bodySF (plainFor_of_name pn_11) hisR ?_
  intro p e s m args below meth c s₁ Bd hml0 hP hK
  obtain ⟨rfl, hZ, hh⟩ := hP
  have hx := Bd.exec
  have hby := Bd.bytes
  have hml : c.maxLocals = 2 := hml0
  have hown : s.vm.findClass "pithline/html/ScriptData" = some m.cls := findClass_of_methodNamed Bd.named
  have hnm := (name_of_methodNamed Bd.named Bd.method).1
  have X0 : Stand p l e ({ frames := 0, cells := 0, slots := 0, locals := 0 } : Room) s m #[(.int (47 : Int32))] below meth c s₁ [] 0 0 := Stand.of_body Bd
  have e0 : s₁.heap = h0 := by rw [← hh, Bd.state]; rfl
  have N0 := Fr.nil n0
  obtain ⟨B, hB, pre0⟩ : ∃ B : State → Prop, (∀ t, B t → Steps p.tables e below (s₁.setTop (entryFrame m #[(.int (47 : Int32))] 2)) t) ∧ ∀ t, SS p e below m s₁ 0 #[iv (47 : Int32), .unset] [] t → B t := ⟨_, fun _ q => q, fun t kk => castTop (ef_rmAEL47 m ) kk⟩
  have pre1 : ∀ t, SS p e below m s₁ 25 #[iv (47 : Int32), iv (72 : Int32)] [(.int (72 : Int32))] t → B t := fun t kk => pre0 t (by
    show SS p e below m s₁ 0 #[iv (47 : Int32), .unset] [] _
    refine XS.iloadN X0.here hx rfl (hb hby d11_0) rfl ?_
    refine XS.bipush X0.here hx rfl (hb hby d11_1) ?_
    refine XS.icmpNo X0.here hx rfl (hb hby d11_3) rfl (teq (by decide : ((47 : Int32) = (47 : Int32)))).2 ?_
    show SS p e below m s₁ 6 #[iv (47 : Int32), .unset] [] _
    refine XS.bipush X0.here hx rfl (hb hby d11_6) ?_
    refine XS.istoreN X0.here hx rfl (hb hby d11_8) rfl (l' := #[iv (47 : Int32), iv (72 : Int32)]) rfl ?_
    refine XS.goto X0.here hx rfl (pc0 := 9) (pc' := 24) rfl (hb hby d11_9) (by decide) (by decide) ?_
    show SS p e below m s₁ 24 #[iv (47 : Int32), iv (72 : Int32)] [] _
    refine XS.iloadN X0.here hx rfl (hb hby d11_24) rfl ?_
    exact kk)
  obtain ⟨fs, hr, hrun, hended, hW, hsame⟩ := X0.leave (v := some (.int (72 : Int32))) (fun h => by rw [Bd.returns] at h; cases h)
  refine ⟨_, _, hB _ (pre1 _ ?_), hrun, hended, _, _, rfl, ?_, ⟨_, rfl⟩, hW, hsame.mono (by decide) (by decide)⟩
  · exact retI X0 hx Bd.returns (hb hby d11_25) hr
  · exact ⟨by show _ = some (Value.int fAEL47); rw [fAEL47], N0, e0⟩
theorem d21_0 : decode prog_41_method_12_code 0 = .ok (.iload_n 0, 1) := by decide +kernel
theorem d21_1 : decode prog_41_method_12_code 1 = .ok (.bipush 47, 2) := by decide +kernel
theorem d21_3 : decode prog_41_method_12_code 3 = .ok (.if_icmp .ne 9, 3) := by decide +kernel
theorem d21_6 : decode prog_41_method_12_code 6 = .ok (.bipush 120, 2) := by decide +kernel
theorem d21_8 : decode prog_41_method_12_code 8 = .ok (.istore_n 1, 1) := by decide +kernel
theorem d21_9 : decode prog_41_method_12_code 9 = .ok (.goto 16, 3) := by decide +kernel
theorem d21_25 : decode prog_41_method_12_code 25 = .ok (.iload_n 1, 1) := by decide +kernel
theorem d21_26 : decode prog_41_method_12_code 26 = .ok (.ireturn, 1) := by decide +kernel
theorem pn_21 : plainName "pithline/html/ScriptData" = true := by first | (simp [plainName, overriddenIn]; done) | decide +kernel
theorem ef_rmADL47 (m : MethodId)  : entryFrame m #[(.int (47 : Int32))] 2 = mkF m 0 #[iv (47 : Int32), .unset] [] := by first | (simp [entryFrame, mkF, argsToLocals, Value.category]; done) | rfl
def fADL47   : Int32 := (120 : Int32)
set_option maxRecDepth 65536 in
set_option maxHeartbeats 40000000 in
theorem rmADL47 (l : Launch) (Z : State) (a0 : Array Value) (hw : ∀ d ∈ tables_1, d.before a0 Z = true) (ws : List Jvm.Cond)   (h0 : Heap) (n0 : Nat) (Z0 : n0 ≤ h0.size)  :
    MetFree l (⟨"pithline/html/ScriptData", "afterDoublyEscapedLessThan", "(I)I"⟩ : MethodName) (head1 (Jvm.Cond.code (⟨"pithline/html/ScriptData", "afterDoublyEscapedLessThan", "(I)I"⟩ : MethodName) prog_41_method_12_code 2 (some .int) :: ws) ({ frames := 0, cells := 0, slots := 0, locals := 0 } : Room)) (fun a U => a = #[(.int (47 : Int32))] ∧ Z.Warmed39 U.vm ∧ U.heap = h0) (fun _ _ _ _ _ => True) (fun _ U o U' => ∃ v L, o = .returned v ∧ QI fADL47 h0 n0 v U'.heap L ∧ FrameEnd U o U' L ({ frames := 0, cells := 0, slots := 0, locals := 0 } : Room).cells ({ frames := 0, cells := 0, slots := 0, locals := 0 } : Room).slots) := by
  refine MetFree.of_bodySF (plainFor_of_name pn_21) hisR ?_
  intro p e s m args below meth c s₁ Bd hml0 hP hK
  obtain ⟨rfl, hZ, hh⟩ := hP
  have hx := Bd.exec
  have hby := Bd.bytes
  have hml : c.maxLocals = 2 := hml0
  have hown : s.vm.findClass "pithline/html/ScriptData" = some m.cls := findClass_of_methodNamed Bd.named
  have hnm := (name_of_methodNamed Bd.named Bd.method).1
  have X0 : Stand p l e ({ frames := 0, cells := 0, slots := 0, locals := 0 } : Room) s m #[(.int (47 : Int32))] below meth c s₁ [] 0 0 := Stand.of_body Bd
  have e0 : s₁.heap = h0 := by rw [← hh, Bd.state]; rfl
  have N0 := Fr.nil n0
  obtain ⟨B, hB, pre0⟩ : ∃ B : State → Prop, (∀ t, B t → Steps p.tables e below (s₁.setTop (entryFrame m #[(.int (47 : Int32))] 2)) t) ∧ ∀ t, SS p e below m s₁ 0 #[iv (47 : Int32), .unset] [] t → B t := ⟨_, fun _ q => q, fun t kk => castTop (ef_rmADL47 m ) kk⟩
  have pre1 : ∀ t, SS p e below m s₁ 26 #[iv (47 : Int32), iv (120 : Int32)] [(.int (120 : Int32))] t → B t := fun t kk => pre0 t (by
    show SS p e below m s₁ 0 #[iv (47 : Int32), .unset] [] _
    refine XS.iloadN X0.here hx rfl (hb hby d21_0) rfl ?_
    refine XS.bipush X0.here hx rfl (hb hby d21_1) ?_
    refine XS.icmpNo X0.here hx rfl (hb hby d21_3) rfl (teq (by decide : ((47 : Int32) = (47 : Int32)))).2 ?_
    show SS p e below m s₁ 6 #[iv (47 : Int32), .unset] [] _
    refine XS.bipush X0.here hx rfl (hb hby d21_6) ?_
    refine XS.istoreN X0.here hx rfl (hb hby d21_8) rfl (l' := #[iv (47 : Int32), iv (120 : Int32)]) rfl ?_
    refine XS.goto X0.here hx rfl (pc0 := 9) (pc' := 25) rfl (hb hby d21_9) (by decide) (by decide) ?_
    show SS p e below m s₁ 25 #[iv (47 : Int32), iv (120 : Int32)] [] _
    refine XS.iloadN X0.here hx rfl (hb hby d21_25) rfl ?_
    exact kk)
  obtain ⟨fs, hr, hrun, hended, hW, hsame⟩ := X0.leave (v := some (.int (120 : Int32))) (fun h => by rw [Bd.returns] at h; cases h)
  refine ⟨_, _, hB _ (pre1 _ ?_), hrun, hended, _, _, rfl, ?_, ⟨_, rfl⟩, hW, hsame.mono (by decide) (by decide)⟩
  · exact retI X0 hx Bd.returns (hb hby d21_26) hr
  · exact ⟨by show _ = some (Value.int fADL47); rw [fADL47], N0, e0⟩
theorem d1_177 : decode prog_41_method_2_code 177 = .ok (.iload_n 1, 1) := by decide +kernel
theorem d1_178 : decode prog_41_method_2_code 178 = .ok (.invokestatic 9, 3) := by decide +kernel
theorem d1_181 : decode prog_41_method_2_code 181 = .ok (.istore 4, 2) := by decide +kernel
theorem d1_183 : decode prog_41_method_2_code 183 = .ok (.goto 175, 3) := by decide +kernel
theorem pd_7 : parseMethodDescriptor "(I)I" = some ⟨[.int], some .int⟩ := by decide +kernel
theorem ef_rmN8 (m : MethodId)  : entryFrame m #[(.int (8 : Int32)), (.int (33 : Int32))] 5 = mkF m 0 #[iv (8 : Int32), iv (33 : Int32), .unset, .unset, .unset] [] := by first | (simp [entryFrame, mkF, argsToLocals, Value.category]; done) | rfl
def fN8   : Int32 := fALT33
set_option maxRecDepth 65536 in
set_option maxHeartbeats 40000000 in
theorem rmN8 (l : Launch) (Z : State) (a0 : Array Value) (hw : ∀ d ∈ tables_1, d.before a0 Z = true) (ws : List Jvm.Cond)   (h0 : Heap) (n0 : Nat) (Z0 : n0 ≤ h0.size)  :
    MetFree l (⟨"pithline/html/ScriptData", "next", "(II)I"⟩ : MethodName) (head1 (Jvm.Cond.code (⟨"pithline/html/ScriptData", "next", "(II)I"⟩ : MethodName) prog_41_method_2_code 5 (some .int) :: ws) ({ frames := 1, cells := 0, slots := 0, locals := 14 } : Room)) (fun a U => a = #[(.int (8 : Int32)), (.int (33 : Int32))] ∧ Z.Warmed39 U.vm ∧ U.heap = h0) (fun _ _ _ _ _ => True) (fun _ U o U' => ∃ v L, o = .returned v ∧ QI fN8 h0 n0 v U'.heap L ∧ FrameEnd U o U' L ({ frames := 1, cells := 0, slots := 0, locals := 14 } : Room).cells ({ frames := 1, cells := 0, slots := 0, locals := 14 } : Room).slots) := by
  refine MetFree.of_bodySF (plainFor_of_name pn_1) hisR ?_
  intro p e s m args below meth c s₁ Bd hml0 hP hK
  obtain ⟨rfl, hZ, hh⟩ := hP
  have hx := Bd.exec
  have hby := Bd.bytes
  have hml : c.maxLocals = 5 := hml0
  have hown : s.vm.findClass "pithline/html/ScriptData" = some m.cls := findClass_of_methodNamed Bd.named
  have hnm := (name_of_methodNamed Bd.named Bd.method).1
  have X0 : Stand p l e ({ frames := 1, cells := 0, slots := 0, locals := 14 } : Room) s m #[(.int (8 : Int32)), (.int (33 : Int32))] below meth c s₁ [] 0 0 := Stand.of_body Bd
  have e0 : s₁.heap = h0 := by rw [← hh, Bd.state]; rfl
  have N0 := Fr.nil n0
  obtain ⟨B, hB, pre0⟩ : ∃ B : State → Prop, (∀ t, B t → Steps p.tables e below (s₁.setTop (entryFrame m #[(.int (8 : Int32)), (.int (33 : Int32))] 5)) t) ∧ ∀ t, SS p e below m s₁ 0 #[iv (8 : Int32), iv (33 : Int32), .unset, .unset, .unset] [] t → B t := ⟨_, fun _ q => q, fun t kk => castTop (ef_rmN8 m ) kk⟩
  have pre1 : ∀ t, SS p e below m s₁ 6 #[iv (8 : Int32), iv (33 : Int32), .unset, .unset, .unset] [(.int ((8 : Int32) - ((8 : Int32) % (8 : Int32))))] t → B t := fun t kk => pre0 t (by
    show SS p e below m s₁ 0 #[iv (8 : Int32), iv (33 : Int32), .unset, .unset, .unset] [] _
    refine XS.iloadN X0.here hx rfl (hb hby d1_0) rfl ?_
    refine XS.iloadN X0.here hx rfl (hb hby d1_1) rfl ?_
    refine XS.bipush X0.here hx rfl (hb hby d1_2) ?_
    show SS p e below m s₁ 4 #[iv (8 : Int32), iv (33 : Int32), .unset, .unset, .unset] [(.int (8 : Int32)), (.int (8 : Int32)), (.int (8 : Int32))] _
    refine iremM (g := (mkF m 4 #[iv (8 : Int32), iv (33 : Int32), .unset, .unset, .unset] [(.int (8 : Int32)), (.int (8 : Int32)), (.int (8 : Int32))])) X0 hx rfl (hb hby d1_4) rfl (by decide) ?_
    refine XS.isub X0.here hx rfl (hb hby d1_5) rfl ?_
    exact kk)
  rw [show ((8 : Int32) - ((8 : Int32) % (8 : Int32))) = (8 : Int32) from by decide] at pre1
  have pre2 : ∀ t, SS p e below m s₁ 11 #[iv (8 : Int32), iv (33 : Int32), iv (8 : Int32), .unset, .unset] [(.int ((8 : Int32) % (8 : Int32)))] t → B t := fun t kk => pre1 t (by
    refine XS.istoreN X0.here hx rfl (hb hby d1_6) rfl (l' := #[iv (8 : Int32), iv (33 : Int32), iv (8 : Int32), .unset, .unset]) rfl ?_
    refine XS.iloadN X0.here hx rfl (hb hby d1_7) rfl ?_
    refine XS.bipush X0.here hx rfl (hb hby d1_8) ?_
    show SS p e below m s₁ 10 #[iv (8 : Int32), iv (33 : Int32), iv (8 : Int32), .unset, .unset] [(.int (8 : Int32)), (.int (8 : Int32))] _
    refine iremM (g := (mkF m 10 #[iv (8 : Int32), iv (33 : Int32), iv (8 : Int32), .unset, .unset] [(.int (8 : Int32)), (.int (8 : Int32))])) X0 hx rfl (hb hby d1_10) rfl (by decide) ?_
    exact kk)
  rw [show ((8 : Int32) % (8 : Int32)) = (0 : Int32) from by decide] at pre2
  have pre3 : ∀ t, SS p e below m s₁ 178 #[iv (8 : Int32), iv (33 : Int32), iv (8 : Int32), iv (0 : Int32), .unset] [(.int (33 : Int32))] t → B t := fun t kk => pre2 t (by
    refine XS.istoreN X0.here hx rfl (hb hby d1_11) rfl (l' := #[iv (8 : Int32), iv (33 : Int32), iv (8 : Int32), iv (0 : Int32), .unset]) rfl ?_
    refine XS.iloadN X0.here hx rfl (hb hby d1_12) rfl ?_
    refine X0.lookupswitchHit hx (g := (mkF m 13 #[iv (8 : Int32), iv (33 : Int32), iv (8 : Int32), iv (0 : Int32), .unset] [(.int (8 : Int32))])) rfl rfl (hb hby d1_13) (by decide) (a := 8) (off := 164) (by decide +kernel) (show (0 : Int) ≤ ((13 : Nat) : Int) + 164 from by decide) _ ?_
    show SS p e below m s₁ 177 #[iv (8 : Int32), iv (33 : Int32), iv (8 : Int32), iv (0 : Int32), .unset] [] _
    refine XS.iloadN X0.here hx rfl (hb hby d1_177) rfl ?_
    exact kk)
  obtain ⟨_, _, ⟨T4, L4, k4, n4⟩, -, X4, ⟨Lc4, hQ4, l4, y4, z4⟩, st4⟩ := Jvm.LawKit.callS X0 hx (y := (⟨"pithline/html/ScriptData", "afterLessThan", "(I)I"⟩ : MethodName)) hown (mvT hZ (hw _ (List.mem_of_getElem? (i := 7) rfl))) (mvT hZ (hw _ (List.mem_of_getElem? (i := 8) rfl))) (mvT hZ (hw _ (List.mem_of_getElem? (i := 5) rfl))) (mvT hZ (hw _ (List.mem_of_getElem? (i := 9) rfl))) (by decide) (backOf (W := 0) (rmALT33 l Z a0 hw []  h0 n0 Z0 ) hZ (hw _ (List.mem_of_getElem? (i := 9) rfl)) (hw _ (List.mem_of_getElem? (i := 5) rfl)) (by decide) (by decide)) (g := (mkF m 178 #[iv (8 : Int32), iv (33 : Int32), iv (8 : Int32), iv (0 : Int32), .unset] [(.int (33 : Int32))])) rfl (by rw [hml]; rfl) (argsL := [(.int (33 : Int32))]) (rest := []) (lenOf pd_7 rfl) rfl (by show 2 * 0 + _ ≤ _; exact Nat.le_of_eq rfl) (hb hby d1_178) (fun _ _ => ⟨rfl, e0, (by decide : 0 + 0 ≤ _), (by decide : 0 + 0 ≤ _)⟩)
  dsimp only [Pt.U, Pt.locs, Pt.cells, Pt.slots] at X4 l4 y4 z4 st4 hQ4
  subst l4 y4 z4
  obtain ⟨rfl, N4q, e4⟩ := hQ4
  have N4 := Fr.app N0 N4q
  have pre5 : ∀ t, SS p e below m T4 360 #[iv (8 : Int32), iv (33 : Int32), iv (8 : Int32), iv (0 : Int32), iv fALT33] [(.int fALT33)] t → B t := fun t kk => pre3 t (by
    refine st4 _ ?_
    refine XS.istore X4.here hx rfl (hb hby d1_181) rfl (l' := #[iv (8 : Int32), iv (33 : Int32), iv (8 : Int32), iv (0 : Int32), iv fALT33]) rfl ?_
    refine XS.goto X4.here hx rfl (pc0 := 183) (pc' := 358) rfl (hb hby d1_183) (by decide) (by decide) ?_
    show SS p e below m T4 358 #[iv (8 : Int32), iv (33 : Int32), iv (8 : Int32), iv (0 : Int32), iv fALT33] [] _
    refine XS.iload X4.here hx rfl (hb hby d1_358) rfl ?_
    exact kk)
  obtain ⟨fs, hr, hrun, hended, hW, hsame⟩ := X4.leave (v := some (.int fALT33)) (fun h => by rw [Bd.returns] at h; cases h)
  refine ⟨_, _, hB _ (pre5 _ ?_), hrun, hended, _, _, rfl, ?_, ⟨_, rfl⟩, hW, hsame.mono (by decide) (by decide)⟩
  · exact retI X4 hx Bd.returns (hb hby d1_360) hr
  · exact ⟨by show _ = some (Value.int fN8); rw [fN8], N4, e4⟩
theorem d1_202 : decode prog_41_method_2_code 202 = .ok (.iload_n 1, 1) := by decide +kernel
theorem d1_203 : decode prog_41_method_2_code 203 = .ok (.bipush 45, 2) := by decide +kernel
theorem d1_205 : decode prog_41_method_2_code 205 = .ok (.if_icmp .ne 8, 3) := by decide +kernel
theorem d1_208 : decode prog_41_method_2_code 208 = .ok (.bipush 32, 2) := by decide +kernel
theorem d1_210 : decode prog_41_method_2_code 210 = .ok (.goto 8, 3) := by decide +kernel
theorem d1_218 : decode prog_41_method_2_code 218 = .ok (.istore 4, 2) := by decide +kernel
theorem d1_220 : decode prog_41_method_2_code 220 = .ok (.goto 138, 3) := by decide +kernel
theorem ef_rmN24 (m : MethodId)  : entryFrame m #[(.int (24 : Int32)), (.int (45 : Int32))] 5 = mkF m 0 #[iv (24 : Int32), iv (45 : Int32), .unset, .unset, .unset] [] := by first | (simp [entryFrame, mkF, argsToLocals, Value.category]; done) | rfl
def fN24   : Int32 := (32 : Int32)
set_option maxRecDepth 65536 in
set_option maxHeartbeats 40000000 in
theorem rmN24 (l : Launch) (Z : State) (a0 : Array Value) (hw : ∀ d ∈ tables_1, d.before a0 Z = true) (ws : List Jvm.Cond)   (h0 : Heap) (n0 : Nat) (Z0 : n0 ≤ h0.size)  :
    MetFree l (⟨"pithline/html/ScriptData", "next", "(II)I"⟩ : MethodName) (head1 (Jvm.Cond.code (⟨"pithline/html/ScriptData", "next", "(II)I"⟩ : MethodName) prog_41_method_2_code 5 (some .int) :: ws) ({ frames := 1, cells := 0, slots := 0, locals := 14 } : Room)) (fun a U => a = #[(.int (24 : Int32)), (.int (45 : Int32))] ∧ Z.Warmed39 U.vm ∧ U.heap = h0) (fun _ _ _ _ _ => True) (fun _ U o U' => ∃ v L, o = .returned v ∧ QI fN24 h0 n0 v U'.heap L ∧ FrameEnd U o U' L ({ frames := 1, cells := 0, slots := 0, locals := 14 } : Room).cells ({ frames := 1, cells := 0, slots := 0, locals := 14 } : Room).slots) := by
  refine MetFree.of_bodySF (plainFor_of_name pn_1) hisR ?_
  intro p e s m args below meth c s₁ Bd hml0 hP hK
  obtain ⟨rfl, hZ, hh⟩ := hP
  have hx := Bd.exec
  have hby := Bd.bytes
  have hml : c.maxLocals = 5 := hml0
  have hown : s.vm.findClass "pithline/html/ScriptData" = some m.cls := findClass_of_methodNamed Bd.named
  have hnm := (name_of_methodNamed Bd.named Bd.method).1
  have X0 : Stand p l e ({ frames := 1, cells := 0, slots := 0, locals := 14 } : Room) s m #[(.int (24 : Int32)), (.int (45 : Int32))] below meth c s₁ [] 0 0 := Stand.of_body Bd
  have e0 : s₁.heap = h0 := by rw [← hh, Bd.state]; rfl
  have N0 := Fr.nil n0
  obtain ⟨B, hB, pre0⟩ : ∃ B : State → Prop, (∀ t, B t → Steps p.tables e below (s₁.setTop (entryFrame m #[(.int (24 : Int32)), (.int (45 : Int32))] 5)) t) ∧ ∀ t, SS p e below m s₁ 0 #[iv (24 : Int32), iv (45 : Int32), .unset, .unset, .unset] [] t → B t := ⟨_, fun _ q => q, fun t kk => castTop (ef_rmN24 m ) kk⟩
  have pre1 : ∀ t, SS p e below m s₁ 6 #[iv (24 : Int32), iv (45 : Int32), .unset, .unset, .unset] [(.int ((24 : Int32) - ((24 : Int32) % (8 : Int32))))] t → B t := fun t kk => pre0 t (by
    show SS p e below m s₁ 0 #[iv (24 : Int32), iv (45 : Int32), .unset, .unset, .unset] [] _
    refine XS.iloadN X0.here hx rfl (hb hby d1_0) rfl ?_
    refine XS.iloadN X0.here hx rfl (hb hby d1_1) rfl ?_
    refine XS.bipush X0.here hx rfl (hb hby d1_2) ?_
    show SS p e below m s₁ 4 #[iv (24 : Int32), iv (45 : Int32), .unset, .unset, .unset] [(.int (8 : Int32)), (.int (24 : Int32)), (.int (24 : Int32))] _
    refine iremM (g := (mkF m 4 #[iv (24 : Int32), iv (45 : Int32), .unset, .unset, .unset] [(.int (8 : Int32)), (.int (24 : Int32)), (.int (24 : Int32))])) X0 hx rfl (hb hby d1_4) rfl (by decide) ?_
    refine XS.isub X0.here hx rfl (hb hby d1_5) rfl ?_
    exact kk)
  rw [show ((24 : Int32) - ((24 : Int32) % (8 : Int32))) = (24 : Int32) from by decide] at pre1
  have pre2 : ∀ t, SS p e below m s₁ 11 #[iv (24 : Int32), iv (45 : Int32), iv (24 : Int32), .unset, .unset] [(.int ((24 : Int32) % (8 : Int32)))] t → B t := fun t kk => pre1 t (by
    refine XS.istoreN X0.here hx rfl (hb hby d1_6) rfl (l' := #[iv (24 : Int32), iv (45 : Int32), iv (24 : Int32), .unset, .unset]) rfl ?_
    refine XS.iloadN X0.here hx rfl (hb hby d1_7) rfl ?_
    refine XS.bipush X0.here hx rfl (hb hby d1_8) ?_
    show SS p e below m s₁ 10 #[iv (24 : Int32), iv (45 : Int32), iv (24 : Int32), .unset, .unset] [(.int (8 : Int32)), (.int (24 : Int32))] _
    refine iremM (g := (mkF m 10 #[iv (24 : Int32), iv (45 : Int32), iv (24 : Int32), .unset, .unset] [(.int (8 : Int32)), (.int (24 : Int32))])) X0 hx rfl (hb hby d1_10) rfl (by decide) ?_
    exact kk)
  rw [show ((24 : Int32) % (8 : Int32)) = (0 : Int32) from by decide] at pre2
  have pre3 : ∀ t, SS p e below m s₁ 360 #[iv (24 : Int32), iv (45 : Int32), iv (24 : Int32), iv (0 : Int32), iv (32 : Int32)] [(.int (32 : Int32))] t → B t := fun t kk => pre2 t (by
    refine XS.istoreN X0.here hx rfl (hb hby d1_11) rfl (l' := #[iv (24 : Int32), iv (45 : Int32), iv (24 : Int32), iv (0 : Int32), .unset]) rfl ?_
    refine XS.iloadN X0.here hx rfl (hb hby d1_12) rfl ?_
    refine X0.lookupswitchHit hx (g := (mkF m 13 #[iv (24 : Int32), iv (45 : Int32), iv (24 : Int32), iv (0 : Int32), .unset] [(.int (24 : Int32))])) rfl rfl (hb hby d1_13) (by decide) (a := 24) (off := 189) (by decide +kernel) (show (0 : Int) ≤ ((13 : Nat) : Int) + 189 from by decide) _ ?_
    show SS p e below m s₁ 202 #[iv (24 : Int32), iv (45 : Int32), iv (24 : Int32), iv (0 : Int32), .unset] [] _
    refine XS.iloadN X0.here hx rfl (hb hby d1_202) rfl ?_
    refine XS.bipush X0.here hx rfl (hb hby d1_203) ?_
    refine XS.icmpNo X0.here hx rfl (hb hby d1_205) rfl (teq (by decide : ((45 : Int32) = (45 : Int32)))).2 ?_
    show SS p e below m s₁ 208 #[iv (24 : Int32), iv (45 : Int32), iv (24 : Int32), iv (0 : Int32), .unset] [] _
    refine XS.bipush X0.here hx rfl (hb hby d1_208) ?_
    refine XS.goto X0.here hx rfl (pc0 := 210) (pc' := 218) rfl (hb hby d1_210) (by decide) (by decide) ?_
    refine XS.istore X0.here hx rfl (hb hby d1_218) rfl (l' := #[iv (24 : Int32), iv (45 : Int32), iv (24 : Int32), iv (0 : Int32), iv (32 : Int32)]) rfl ?_
    show SS p e below m s₁ 220 #[iv (24 : Int32), iv (45 : Int32), iv (24 : Int32), iv (0 : Int32), iv (32 : Int32)] [] _
    refine XS.goto X0.here hx rfl (pc0 := 220) (pc' := 358) rfl (hb hby d1_220) (by decide) (by decide) ?_
    refine XS.iload X0.here hx rfl (hb hby d1_358) rfl ?_
    exact kk)
  obtain ⟨fs, hr, hrun, hended, hW, hsame⟩ := X0.leave (v := some (.int (32 : Int32))) (fun h => by rw [Bd.returns] at h; cases h)
  refine ⟨_, _, hB _ (pre3 _ ?_), hrun, hended, _, _, rfl, ?_, ⟨_, rfl⟩, hW, hsame.mono (by decide) (by decide)⟩
  · exact retI X0 hx Bd.returns (hb hby d1_360) hr
  · exact ⟨by show _ = some (Value.int fN24); rw [fN24], N0, e0⟩
theorem d1_223 : decode prog_41_method_2_code 223 = .ok (.iload_n 1, 1) := by decide +kernel
theorem d1_224 : decode prog_41_method_2_code 224 = .ok (.bipush 45, 2) := by decide +kernel
theorem d1_226 : decode prog_41_method_2_code 226 = .ok (.if_icmp .ne 8, 3) := by decide +kernel
theorem d1_229 : decode prog_41_method_2_code 229 = .ok (.bipush 56, 2) := by decide +kernel
theorem d1_231 : decode prog_41_method_2_code 231 = .ok (.goto 8, 3) := by decide +kernel
theorem d1_239 : decode prog_41_method_2_code 239 = .ok (.istore 4, 2) := by decide +kernel
theorem d1_241 : decode prog_41_method_2_code 241 = .ok (.goto 117, 3) := by decide +kernel
theorem ef_rmN32 (m : MethodId)  : entryFrame m #[(.int (32 : Int32)), (.int (45 : Int32))] 5 = mkF m 0 #[iv (32 : Int32), iv (45 : Int32), .unset, .unset, .unset] [] := by first | (simp [entryFrame, mkF, argsToLocals, Value.category]; done) | rfl
def fN32   : Int32 := (56 : Int32)
set_option maxRecDepth 65536 in
set_option maxHeartbeats 40000000 in
theorem rmN32 (l : Launch) (Z : State) (a0 : Array Value) (hw : ∀ d ∈ tables_1, d.before a0 Z = true) (ws : List Jvm.Cond)   (h0 : Heap) (n0 : Nat) (Z0 : n0 ≤ h0.size)  :
    MetFree l (⟨"pithline/html/ScriptData", "next", "(II)I"⟩ : MethodName) (head1 (Jvm.Cond.code (⟨"pithline/html/ScriptData", "next", "(II)I"⟩ : MethodName) prog_41_method_2_code 5 (some .int) :: ws) ({ frames := 1, cells := 0, slots := 0, locals := 14 } : Room)) (fun a U => a = #[(.int (32 : Int32)), (.int (45 : Int32))] ∧ Z.Warmed39 U.vm ∧ U.heap = h0) (fun _ _ _ _ _ => True) (fun _ U o U' => ∃ v L, o = .returned v ∧ QI fN32 h0 n0 v U'.heap L ∧ FrameEnd U o U' L ({ frames := 1, cells := 0, slots := 0, locals := 14 } : Room).cells ({ frames := 1, cells := 0, slots := 0, locals := 14 } : Room).slots) := by
  refine MetFree.of_bodySF (plainFor_of_name pn_1) hisR ?_
  intro p e s m args below meth c s₁ Bd hml0 hP hK
  obtain ⟨rfl, hZ, hh⟩ := hP
  have hx := Bd.exec
  have hby := Bd.bytes
  have hml : c.maxLocals = 5 := hml0
  have hown : s.vm.findClass "pithline/html/ScriptData" = some m.cls := findClass_of_methodNamed Bd.named
  have hnm := (name_of_methodNamed Bd.named Bd.method).1
  have X0 : Stand p l e ({ frames := 1, cells := 0, slots := 0, locals := 14 } : Room) s m #[(.int (32 : Int32)), (.int (45 : Int32))] below meth c s₁ [] 0 0 := Stand.of_body Bd
  have e0 : s₁.heap = h0 := by rw [← hh, Bd.state]; rfl
  have N0 := Fr.nil n0
  obtain ⟨B, hB, pre0⟩ : ∃ B : State → Prop, (∀ t, B t → Steps p.tables e below (s₁.setTop (entryFrame m #[(.int (32 : Int32)), (.int (45 : Int32))] 5)) t) ∧ ∀ t, SS p e below m s₁ 0 #[iv (32 : Int32), iv (45 : Int32), .unset, .unset, .unset] [] t → B t := ⟨_, fun _ q => q, fun t kk => castTop (ef_rmN32 m ) kk⟩
  have pre1 : ∀ t, SS p e below m s₁ 6 #[iv (32 : Int32), iv (45 : Int32), .unset, .unset, .unset] [(.int ((32 : Int32) - ((32 : Int32) % (8 : Int32))))] t → B t := fun t kk => pre0 t (by
    show SS p e below m s₁ 0 #[iv (32 : Int32), iv (45 : Int32), .unset, .unset, .unset] [] _
    refine XS.iloadN X0.here hx rfl (hb hby d1_0) rfl ?_
    refine XS.iloadN X0.here hx rfl (hb hby d1_1) rfl ?_
    refine XS.bipush X0.here hx rfl (hb hby d1_2) ?_
    show SS p e below m s₁ 4 #[iv (32 : Int32), iv (45 : Int32), .unset, .unset, .unset] [(.int (8 : Int32)), (.int (32 : Int32)), (.int (32 : Int32))] _
    refine iremM (g := (mkF m 4 #[iv (32 : Int32), iv (45 : Int32), .unset, .unset, .unset] [(.int (8 : Int32)), (.int (32 : Int32)), (.int (32 : Int32))])) X0 hx rfl (hb hby d1_4) rfl (by decide) ?_
    refine XS.isub X0.here hx rfl (hb hby d1_5) rfl ?_
    exact kk)
  rw [show ((32 : Int32) - ((32 : Int32) % (8 : Int32))) = (32 : Int32) from by decide] at pre1
  have pre2 : ∀ t, SS p e below m s₁ 11 #[iv (32 : Int32), iv (45 : Int32), iv (32 : Int32), .unset, .unset] [(.int ((32 : Int32) % (8 : Int32)))] t → B t := fun t kk => pre1 t (by
    refine XS.istoreN X0.here hx rfl (hb hby d1_6) rfl (l' := #[iv (32 : Int32), iv (45 : Int32), iv (32 : Int32), .unset, .unset]) rfl ?_
    refine XS.iloadN X0.here hx rfl (hb hby d1_7) rfl ?_
    refine XS.bipush X0.here hx rfl (hb hby d1_8) ?_
    show SS p e below m s₁ 10 #[iv (32 : Int32), iv (45 : Int32), iv (32 : Int32), .unset, .unset] [(.int (8 : Int32)), (.int (32 : Int32))] _
    refine iremM (g := (mkF m 10 #[iv (32 : Int32), iv (45 : Int32), iv (32 : Int32), .unset, .unset] [(.int (8 : Int32)), (.int (32 : Int32))])) X0 hx rfl (hb hby d1_10) rfl (by decide) ?_
    exact kk)
  rw [show ((32 : Int32) % (8 : Int32)) = (0 : Int32) from by decide] at pre2
  have pre3 : ∀ t, SS p e below m s₁ 360 #[iv (32 : Int32), iv (45 : Int32), iv (32 : Int32), iv (0 : Int32), iv (56 : Int32)] [(.int (56 : Int32))] t → B t := fun t kk => pre2 t (by
    refine XS.istoreN X0.here hx rfl (hb hby d1_11) rfl (l' := #[iv (32 : Int32), iv (45 : Int32), iv (32 : Int32), iv (0 : Int32), .unset]) rfl ?_
    refine XS.iloadN X0.here hx rfl (hb hby d1_12) rfl ?_
    refine X0.lookupswitchHit hx (g := (mkF m 13 #[iv (32 : Int32), iv (45 : Int32), iv (32 : Int32), iv (0 : Int32), .unset] [(.int (32 : Int32))])) rfl rfl (hb hby d1_13) (by decide) (a := 32) (off := 210) (by decide +kernel) (show (0 : Int) ≤ ((13 : Nat) : Int) + 210 from by decide) _ ?_
    show SS p e below m s₁ 223 #[iv (32 : Int32), iv (45 : Int32), iv (32 : Int32), iv (0 : Int32), .unset] [] _
    refine XS.iloadN X0.here hx rfl (hb hby d1_223) rfl ?_
    refine XS.bipush X0.here hx rfl (hb hby d1_224) ?_
    refine XS.icmpNo X0.here hx rfl (hb hby d1_226) rfl (teq (by decide : ((45 : Int32) = (45 : Int32)))).2 ?_
    show SS p e below m s₁ 229 #[iv (32 : Int32), iv (45 : Int32), iv (32 : Int32), iv (0 : Int32), .unset] [] _
    refine XS.bipush X0.here hx rfl (hb hby d1_229) ?_
    refine XS.goto X0.here hx rfl (pc0 := 231) (pc' := 239) rfl (hb hby d1_231) (by decide) (by decide) ?_
    refine XS.istore X0.here hx rfl (hb hby d1_239) rfl (l' := #[iv (32 : Int32), iv (45 : Int32), iv (32 : Int32), iv (0 : Int32), iv (56 : Int32)]) rfl ?_
    show SS p e below m s₁ 241 #[iv (32 : Int32), iv (45 : Int32), iv (32 : Int32), iv (0 : Int32), iv (56 : Int32)] [] _
    refine XS.goto X0.here hx rfl (pc0 := 241) (pc' := 358) rfl (hb hby d1_241) (by decide) (by decide) ?_
    refine XS.iload X0.here hx rfl (hb hby d1_358) rfl ?_
    exact kk)
  obtain ⟨fs, hr, hrun, hended, hW, hsame⟩ := X0.leave (v := some (.int (56 : Int32))) (fun h => by rw [Bd.returns] at h; cases h)
  refine ⟨_, _, hB _ (pre3 _ ?_), hrun, hended, _, _, rfl, ?_, ⟨_, rfl⟩, hW, hsame.mono (by decide) (by decide)⟩
  · exact retI X0 hx Bd.returns (hb hby d1_360) hr
  · exact ⟨by show _ = some (Value.int fN32); rw [fN32], N0, e0⟩
theorem d1_254 : decode prog_41_method_2_code 254 = .ok (.iload_n 1, 1) := by decide +kernel
theorem d1_255 : decode prog_41_method_2_code 255 = .ok (.invokestatic 24, 3) := by decide +kernel
theorem d1_258 : decode prog_41_method_2_code 258 = .ok (.istore 4, 2) := by decide +kernel
theorem d1_260 : decode prog_41_method_2_code 260 = .ok (.goto 98, 3) := by decide +kernel
theorem ef_rmN64x (m : MethodId)  : entryFrame m #[(.int (64 : Int32)), (.int (47 : Int32))] 5 = mkF m 0 #[iv (64 : Int32), iv (47 : Int32), .unset, .unset, .unset] [] := by first | (simp [entryFrame, mkF, argsToLocals, Value.category]; done) | rfl
def fN64x   : Int32 := fAEL47
set_option maxRecDepth 65536 in
set_option maxHeartbeats 40000000 in
theorem rmN64x (l : Launch) (Z : State) (a0 : Array Value) (hw : ∀ d ∈ tables_1, d.before a0 Z = true) (ws : List Jvm.Cond)   (h0 : Heap) (n0 : Nat) (Z0 : n0 ≤ h0.size)  :
    MetFree l (⟨"pithline/html/ScriptData", "next", "(II)I"⟩ : MethodName) (head1 (Jvm.Cond.code (⟨"pithline/html/ScriptData", "next", "(II)I"⟩ : MethodName) prog_41_method_2_code 5 (some .int) :: ws) ({ frames := 1, cells := 0, slots := 0, locals := 14 } : Room)) (fun a U => a = #[(.int (64 : Int32)), (.int (47 : Int32))] ∧ Z.Warmed39 U.vm ∧ U.heap = h0) (fun _ _ _ _ _ => True) (fun _ U o U' => ∃ v L, o = .returned v ∧ QI fN64x h0 n0 v U'.heap L ∧ FrameEnd U o U' L ({ frames := 1, cells := 0, slots := 0, locals := 14 } : Room).cells ({ frames := 1, cells := 0, slots := 0, locals := 14 } : Room).slots) := by
  refine MetFree.of_bodySF (plainFor_of_name pn_1) hisR ?_
  intro p e s m args below meth c s₁ Bd hml0 hP hK
  obtain ⟨rfl, hZ, hh⟩ := hP
  have hx := Bd.exec
  have hby := Bd.bytes
  have hml : c.maxLocals = 5 := hml0
  have hown : s.vm.findClass "pithline/html/ScriptData" = some m.cls := findClass_of_methodNamed Bd.named
  have hnm := (name_of_methodNamed Bd.named Bd.method).1
  have X0 : Stand p l e ({ frames := 1, cells := 0, slots := 0, locals := 14 } : Room) s m #[(.int (64 : Int32)), (.int (47 : Int32))] below meth c s₁ [] 0 0 := Stand.of_body Bd
  have e0 : s₁.heap = h0 := by rw [← hh, Bd.state]; rfl
  have N0 := Fr.nil n0
  obtain ⟨B, hB, pre0⟩ : ∃ B : State → Prop, (∀ t, B t → Steps p.tables e below (s₁.setTop (entryFrame m #[(.int (64 : Int32)), (.int (47 : Int32))] 5)) t) ∧ ∀ t, SS p e below m s₁ 0 #[iv (64 : Int32), iv (47 : Int32), .unset, .unset, .unset] [] t → B t := ⟨_, fun _ q => q, fun t kk => castTop (ef_rmN64x m ) kk⟩
  have pre1 : ∀ t, SS p e below m s₁ 6 #[iv (64 : Int32), iv (47 : Int32), .unset, .unset, .unset] [(.int ((64 : Int32) - ((64 : Int32) % (8 : Int32))))] t → B t := fun t kk => pre0 t (by
    show SS p e below m s₁ 0 #[iv (64 : Int32), iv (47 : Int32), .unset, .unset, .unset] [] _
    refine XS.iloadN X0.here hx rfl (hb hby d1_0) rfl ?_
    refine XS.iloadN X0.here hx rfl (hb hby d1_1) rfl ?_
    refine XS.bipush X0.here hx rfl (hb hby d1_2) ?_
    show SS p e below m s₁ 4 #[iv (64 : Int32), iv (47 : Int32), .unset, .unset, .unset] [(.int (8 : Int32)), (.int (64 : Int32)), (.int (64 : Int32))] _
    refine iremM (g := (mkF m 4 #[iv (64 : Int32), iv (47 : Int32), .unset, .unset, .unset] [(.int (8 : Int32)), (.int (64 : Int32)), (.int (64 : Int32))])) X0 hx rfl (hb hby d1_4) rfl (by decide) ?_
    refine XS.isub X0.here hx rfl (hb hby d1_5) rfl ?_
    exact kk)
  rw [show ((64 : Int32) - ((64 : Int32) % (8 : Int32))) = (64 : Int32) from by decide] at pre1
  have pre2 : ∀ t, SS p e below m s₁ 11 #[iv (64 : Int32), iv (47 : Int32), iv (64 : Int32), .unset, .unset] [(.int ((64 : Int32) % (8 : Int32)))] t → B t := fun t kk => pre1 t (by
    refine XS.istoreN X0.here hx rfl (hb hby d1_6) rfl (l' := #[iv (64 : Int32), iv (47 : Int32), iv (64 : Int32), .unset, .unset]) rfl ?_
    refine XS.iloadN X0.here hx rfl (hb hby d1_7) rfl ?_
    refine XS.bipush X0.here hx rfl (hb hby d1_8) ?_
    show SS p e below m s₁ 10 #[iv (64 : Int32), iv (47 : Int32), iv (64 : Int32), .unset, .unset] [(.int (8 : Int32)), (.int (64 : Int32))] _
    refine iremM (g := (mkF m 10 #[iv (64 : Int32), iv (47 : Int32), iv (64 : Int32), .unset, .unset] [(.int (8 : Int32)), (.int (64 : Int32))])) X0 hx rfl (hb hby d1_10) rfl (by decide) ?_
    exact kk)
  rw [show ((64 : Int32) % (8 : Int32)) = (0 : Int32) from by decide] at pre2
  have pre3 : ∀ t, SS p e below m s₁ 255 #[iv (64 : Int32), iv (47 : Int32), iv (64 : Int32), iv (0 : Int32), .unset] [(.int (47 : Int32))] t → B t := fun t kk => pre2 t (by
    refine XS.istoreN X0.here hx rfl (hb hby d1_11) rfl (l' := #[iv (64 : Int32), iv (47 : Int32), iv (64 : Int32), iv (0 : Int32), .unset]) rfl ?_
    refine XS.iloadN X0.here hx rfl (hb hby d1_12) rfl ?_
    refine X0.lookupswitchHit hx (g := (mkF m 13 #[iv (64 : Int32), iv (47 : Int32), iv (64 : Int32), iv (0 : Int32), .unset] [(.int (64 : Int32))])) rfl rfl (hb hby d1_13) (by decide) (a := 64) (off := 241) (by decide +kernel) (show (0 : Int) ≤ ((13 : Nat) : Int) + 241 from by decide) _ ?_
    show SS p e below m s₁ 254 #[iv (64 : Int32), iv (47 : Int32), iv (64 : Int32), iv (0 : Int32), .unset] [] _
    refine XS.iloadN X0.here hx rfl (hb hby d1_254) rfl ?_
    exact kk)
  obtain ⟨_, _, ⟨T4, L4, k4, n4⟩, -, X4, ⟨Lc4, hQ4, l4, y4, z4⟩, st4⟩ := Jvm.LawKit.callS X0 hx (y := (⟨"pithline/html/ScriptData", "afterEscapedLessThan", "(I)I"⟩ : MethodName)) hown (mvT hZ (hw _ (List.mem_of_getElem? (i := 53) rfl))) (mvT hZ (hw _ (List.mem_of_getElem? (i := 54) rfl))) (mvT hZ (hw _ (List.mem_of_getElem? (i := 5) rfl))) (mvT hZ (hw _ (List.mem_of_getElem? (i := 55) rfl))) (by decide) (backOf (W := 0) (rmAEL47 l Z a0 hw []  h0 n0 Z0 ) hZ (hw _ (List.mem_of_getElem? (i := 55) rfl)) (hw _ (List.mem_of_getElem? (i := 5) rfl)) (by decide) (by decide)) (g := (mkF m 255 #[iv (64 : Int32), iv (47 : Int32), iv (64 : Int32), iv (0 : Int32), .unset] [(.int (47 : Int32))])) rfl (by rw [hml]; rfl) (argsL := [(.int (47 : Int32))]) (rest := []) (lenOf pd_7 rfl) rfl (by show 2 * 0 + _ ≤ _; exact Nat.le_of_eq rfl) (hb hby d1_255) (fun _ _ => ⟨rfl, e0, (by decide : 0 + 0 ≤ _), (by decide : 0 + 0 ≤ _)⟩)
  dsimp only [Pt.U, Pt.locs, Pt.cells, Pt.slots] at X4 l4 y4 z4 st4 hQ4
  subst l4 y4 z4
  obtain ⟨rfl, N4q, e4⟩ := hQ4
  have N4 := Fr.app N0 N4q
  have pre5 : ∀ t, SS p e below m T4 360 #[iv (64 : Int32), iv (47 : Int32), iv (64 : Int32), iv (0 : Int32), iv fAEL47] [(.int fAEL47)] t → B t := fun t kk => pre3 t (by
    refine st4 _ ?_
    refine XS.istore X4.here hx rfl (hb hby d1_258) rfl (l' := #[iv (64 : Int32), iv (47 : Int32), iv (64 : Int32), iv (0 : Int32), iv fAEL47]) rfl ?_
    refine XS.goto X4.here hx rfl (pc0 := 260) (pc' := 358) rfl (hb hby d1_260) (by decide) (by decide) ?_
    show SS p e below m T4 358 #[iv (64 : Int32), iv (47 : Int32), iv (64 : Int32), iv (0 : Int32), iv fAEL47] [] _
    refine XS.iload X4.here hx rfl (hb hby d1_358) rfl ?_
    exact kk)
  obtain ⟨fs, hr, hrun, hended, hW, hsame⟩ := X4.leave (v := some (.int fAEL47)) (fun h => by rw [Bd.returns] at h; cases h)
  refine ⟨_, _, hB _ (pre5 _ ?_), hrun, hended, _, _, rfl, ?_, ⟨_, rfl⟩, hW, hsame.mono (by decide) (by decide)⟩
  · exact retI X4 hx Bd.returns (hb hby d1_360) hr
  · exact ⟨by show _ = some (Value.int fN64x); rw [fN64x], N4, e4⟩
theorem d1_306 : decode prog_41_method_2_code 306 = .ok (.iload_n 1, 1) := by decide +kernel
theorem d1_307 : decode prog_41_method_2_code 307 = .ok (.invokestatic 30, 3) := by decide +kernel
theorem d1_310 : decode prog_41_method_2_code 310 = .ok (.istore 4, 2) := by decide +kernel
theorem d1_312 : decode prog_41_method_2_code 312 = .ok (.goto 46, 3) := by decide +kernel
theorem ef_rmN112x (m : MethodId)  : entryFrame m #[(.int (112 : Int32)), (.int (47 : Int32))] 5 = mkF m 0 #[iv (112 : Int32), iv (47 : Int32), .unset, .unset, .unset] [] := by first | (simp [entryFrame, mkF, argsToLocals, Value.category]; done) | rfl
def fN112x   : Int32 := fADL47
set_option maxRecDepth 65536 in
set_option maxHeartbeats 40000000 in
theorem rmN112x (l : Launch) (Z : State) (a0 : Array Value) (hw : ∀ d ∈ tables_1, d.before a0 Z = true) (ws : List Jvm.Cond)   (h0 : Heap) (n0 : Nat) (Z0 : n0 ≤ h0.size)  :
    MetFree l (⟨"pithline/html/ScriptData", "next", "(II)I"⟩ : MethodName) (head1 (Jvm.Cond.code (⟨"pithline/html/ScriptData", "next", "(II)I"⟩ : MethodName) prog_41_method_2_code 5 (some .int) :: ws) ({ frames := 1, cells := 0, slots := 0, locals := 14 } : Room)) (fun a U => a = #[(.int (112 : Int32)), (.int (47 : Int32))] ∧ Z.Warmed39 U.vm ∧ U.heap = h0) (fun _ _ _ _ _ => True) (fun _ U o U' => ∃ v L, o = .returned v ∧ QI fN112x h0 n0 v U'.heap L ∧ FrameEnd U o U' L ({ frames := 1, cells := 0, slots := 0, locals := 14 } : Room).cells ({ frames := 1, cells := 0, slots := 0, locals := 14 } : Room).slots) := by
  refine MetFree.of_bodySF (plainFor_of_name pn_1) hisR ?_
  intro p e s m args below meth c s₁ Bd hml0 hP hK
  obtain ⟨rfl, hZ, hh⟩ := hP
  have hx := Bd.exec
  have hby := Bd.bytes
  have hml : c.maxLocals = 5 := hml0
  have hown : s.vm.findClass "pithline/html/ScriptData" = some m.cls := findClass_of_methodNamed Bd.named
  have hnm := (name_of_methodNamed Bd.named Bd.method).1
  have X0 : Stand p l e ({ frames := 1, cells := 0, slots := 0, locals := 14 } : Room) s m #[(.int (112 : Int32)), (.int (47 : Int32))] below meth c s₁ [] 0 0 := Stand.of_body Bd
  have e0 : s₁.heap = h0 := by rw [← hh, Bd.state]; rfl
  have N0 := Fr.nil n0
  obtain ⟨B, hB, pre0⟩ : ∃ B : State → Prop, (∀ t, B t → Steps p.tables e below (s₁.setTop (entryFrame m #[(.int (112 : Int32)), (.int (47 : Int32))] 5)) t) ∧ ∀ t, SS p e below m s₁ 0 #[iv (112 : Int32), iv (47 : Int32), .unset, .unset, .unset] [] t → B t := ⟨_, fun _ q => q, fun t kk => castTop (ef_rmN112x m ) kk⟩
  have pre1 : ∀ t, SS p e below m s₁ 6 #[iv (112 : Int32), iv (47 : Int32), .unset, .unset, .unset] [(.int ((112 : Int32) - ((112 : Int32) % (8 : Int32))))] t → B t := fun t kk => pre0 t (by
    show SS p e below m s₁ 0 #[iv (112 : Int32), iv (47 : Int32), .unset, .unset, .unset] [] _
    refine XS.iloadN X0.here hx rfl (hb hby d1_0) rfl ?_
    refine XS.iloadN X0.here hx rfl (hb hby d1_1) rfl ?_
    refine XS.bipush X0.here hx rfl (hb hby d1_2) ?_
    show SS p e below m s₁ 4 #[iv (112 : Int32), iv (47 : Int32), .unset, .unset, .unset] [(.int (8 : Int32)), (.int (112 : Int32)), (.int (112 : Int32))] _
    refine iremM (g := (mkF m 4 #[iv (112 : Int32), iv (47 : Int32), .unset, .unset, .unset] [(.int (8 : Int32)), (.int (112 : Int32)), (.int (112 : Int32))])) X0 hx rfl (hb hby d1_4) rfl (by decide) ?_
    refine XS.isub X0.here hx rfl (hb hby d1_5) rfl ?_
    exact kk)
  rw [show ((112 : Int32) - ((112 : Int32) % (8 : Int32))) = (112 : Int32) from by decide] at pre1
  have pre2 : ∀ t, SS p e below m s₁ 11 #[iv (112 : Int32), iv (47 : Int32), iv (112 : Int32), .unset, .unset] [(.int ((112 : Int32) % (8 : Int32)))] t → B t := fun t kk => pre1 t (by
    refine XS.istoreN X0.here hx rfl (hb hby d1_6) rfl (l' := #[iv (112 : Int32), iv (47 : Int32), iv (112 : Int32), .unset, .unset]) rfl ?_
    refine XS.iloadN X0.here hx rfl (hb hby d1_7) rfl ?_
    refine XS.bipush X0.here hx rfl (hb hby d1_8) ?_
    show SS p e below m s₁ 10 #[iv (112 : Int32), iv (47 : Int32), iv (112 : Int32), .unset, .unset] [(.int (8 : Int32)), (.int (112 : Int32))] _
    refine iremM (g := (mkF m 10 #[iv (112 : Int32), iv (47 : Int32), iv (112 : Int32), .unset, .unset] [(.int (8 : Int32)), (.int (112 : Int32))])) X0 hx rfl (hb hby d1_10) rfl (by decide) ?_
    exact kk)
  rw [show ((112 : Int32) % (8 : Int32)) = (0 : Int32) from by decide] at pre2
  have pre3 : ∀ t, SS p e below m s₁ 307 #[iv (112 : Int32), iv (47 : Int32), iv (112 : Int32), iv (0 : Int32), .unset] [(.int (47 : Int32))] t → B t := fun t kk => pre2 t (by
    refine XS.istoreN X0.here hx rfl (hb hby d1_11) rfl (l' := #[iv (112 : Int32), iv (47 : Int32), iv (112 : Int32), iv (0 : Int32), .unset]) rfl ?_
    refine XS.iloadN X0.here hx rfl (hb hby d1_12) rfl ?_
    refine X0.lookupswitchHit hx (g := (mkF m 13 #[iv (112 : Int32), iv (47 : Int32), iv (112 : Int32), iv (0 : Int32), .unset] [(.int (112 : Int32))])) rfl rfl (hb hby d1_13) (by decide) (a := 112) (off := 293) (by decide +kernel) (show (0 : Int) ≤ ((13 : Nat) : Int) + 293 from by decide) _ ?_
    show SS p e below m s₁ 306 #[iv (112 : Int32), iv (47 : Int32), iv (112 : Int32), iv (0 : Int32), .unset] [] _
    refine XS.iloadN X0.here hx rfl (hb hby d1_306) rfl ?_
    exact kk)
  obtain ⟨_, _, ⟨T4, L4, k4, n4⟩, -, X4, ⟨Lc4, hQ4, l4, y4, z4⟩, st4⟩ := Jvm.LawKit.callS X0 hx (y := (⟨"pithline/html/ScriptData", "afterDoublyEscapedLessThan", "(I)I"⟩ : MethodName)) hown (mvT hZ (hw _ (List.mem_of_getElem? (i := 91) rfl))) (mvT hZ (hw _ (List.mem_of_getElem? (i := 92) rfl))) (mvT hZ (hw _ (List.mem_of_getElem? (i := 5) rfl))) (mvT hZ (hw _ (List.mem_of_getElem? (i := 93) rfl))) (by decide) (backOf (W := 0) (rmADL47 l Z a0 hw []  h0 n0 Z0 ) hZ (hw _ (List.mem_of_getElem? (i := 93) rfl)) (hw _ (List.mem_of_getElem? (i := 5) rfl)) (by decide) (by decide)) (g := (mkF m 307 #[iv (112 : Int32), iv (47 : Int32), iv (112 : Int32), iv (0 : Int32), .unset] [(.int (47 : Int32))])) rfl (by rw [hml]; rfl) (argsL := [(.int (47 : Int32))]) (rest := []) (lenOf pd_7 rfl) rfl (by show 2 * 0 + _ ≤ _; exact Nat.le_of_eq rfl) (hb hby d1_307) (fun _ _ => ⟨rfl, e0, (by decide : 0 + 0 ≤ _), (by decide : 0 + 0 ≤ _)⟩)
  dsimp only [Pt.U, Pt.locs, Pt.cells, Pt.slots] at X4 l4 y4 z4 st4 hQ4
  subst l4 y4 z4
  obtain ⟨rfl, N4q, e4⟩ := hQ4
  have N4 := Fr.app N0 N4q
  have pre5 : ∀ t, SS p e below m T4 360 #[iv (112 : Int32), iv (47 : Int32), iv (112 : Int32), iv (0 : Int32), iv fADL47] [(.int fADL47)] t → B t := fun t kk => pre3 t (by
    refine st4 _ ?_
    refine XS.istore X4.here hx rfl (hb hby d1_310) rfl (l' := #[iv (112 : Int32), iv (47 : Int32), iv (112 : Int32), iv (0 : Int32), iv fADL47]) rfl ?_
    refine XS.goto X4.here hx rfl (pc0 := 312) (pc' := 358) rfl (hb hby d1_312) (by decide) (by decide) ?_
    show SS p e below m T4 358 #[iv (112 : Int32), iv (47 : Int32), iv (112 : Int32), iv (0 : Int32), iv fADL47] [] _
    refine XS.iload X4.here hx rfl (hb hby d1_358) rfl ?_
    exact kk)
  obtain ⟨fs, hr, hrun, hended, hW, hsame⟩ := X4.leave (v := some (.int fADL47)) (fun h => by rw [Bd.returns] at h; cases h)
  refine ⟨_, _, hB _ (pre5 _ ?_), hrun, hended, _, _, rfl, ?_, ⟨_, rfl⟩, hW, hsame.mono (by decide) (by decide)⟩
  · exact retI X4 hx Bd.returns (hb hby d1_360) hr
  · exact ⟨by show _ = some (Value.int fN112x); rw [fN112x], N4, e4⟩
theorem d12_0 : decode prog_41_method_13_code 0 = .ok (.iload_n 1, 1) := by decide +kernel
theorem d12_1 : decode prog_41_method_13_code 1 = .ok (.ldc 62, 2) := by decide +kernel
theorem d12_3 : decode prog_41_method_13_code 3 = .ok (.invokevirtual 52, 3) := by decide +kernel
theorem d12_6 : decode prog_41_method_13_code 6 = .ok (.if_icmp .ge 26, 3) := by decide +kernel
theorem d12_9 : decode prog_41_method_13_code 9 = .ok (.iload_n 2, 1) := by decide +kernel
theorem d12_10 : decode prog_41_method_13_code 10 = .ok (.invokestatic 71, 3) := by decide +kernel
theorem d12_13 : decode prog_41_method_13_code 13 = .ok (.ldc 62, 2) := by decide +kernel
theorem d12_15 : decode prog_41_method_13_code 15 = .ok (.iload_n 1, 1) := by decide +kernel
theorem d12_16 : decode prog_41_method_13_code 16 = .ok (.invokevirtual 56, 3) := by decide +kernel
theorem d12_19 : decode prog_41_method_13_code 19 = .ok (.if_icmp .ne 13, 3) := by decide +kernel
theorem d12_22 : decode prog_41_method_13_code 22 = .ok (.iload_n 0, 1) := by decide +kernel
theorem d12_23 : decode prog_41_method_13_code 23 = .ok (.iload_n 1, 1) := by decide +kernel
theorem d12_24 : decode prog_41_method_13_code 24 = .ok (.iadd, 1) := by decide +kernel
theorem d12_25 : decode prog_41_method_13_code 25 = .ok (.iconst 1, 1) := by decide +kernel
theorem d12_26 : decode prog_41_method_13_code 26 = .ok (.iadd, 1) := by decide +kernel
theorem d12_27 : decode prog_41_method_13_code 27 = .ok (.istore 5, 2) := by decide +kernel
theorem d12_29 : decode prog_41_method_13_code 29 = .ok (.goto 33, 3) := by decide +kernel
theorem d12_32 : decode prog_41_method_13_code 32 = .ok (.iload_n 1, 1) := by decide +kernel
theorem d12_33 : decode prog_41_method_13_code 33 = .ok (.ldc 62, 2) := by decide +kernel
theorem d12_35 : decode prog_41_method_13_code 35 = .ok (.invokevirtual 52, 3) := by decide +kernel
theorem d12_38 : decode prog_41_method_13_code 38 = .ok (.if_icmp .ne 16, 3) := by decide +kernel
theorem d12_41 : decode prog_41_method_13_code 41 = .ok (.iload_n 2, 1) := by decide +kernel
theorem d12_42 : decode prog_41_method_13_code 42 = .ok (.invokestatic 64, 3) := by decide +kernel
theorem d12_45 : decode prog_41_method_13_code 45 = .ok (.ifCond .eq 9, 3) := by decide +kernel
theorem d12_48 : decode prog_41_method_13_code 48 = .ok (.iload_n 3, 1) := by decide +kernel
theorem d12_49 : decode prog_41_method_13_code 49 = .ok (.istore 5, 2) := by decide +kernel
theorem d12_51 : decode prog_41_method_13_code 51 = .ok (.goto 11, 3) := by decide +kernel
theorem d12_54 : decode prog_41_method_13_code 54 = .ok (.iload 4, 2) := by decide +kernel
theorem d12_56 : decode prog_41_method_13_code 56 = .ok (.iload_n 2, 1) := by decide +kernel
theorem d12_57 : decode prog_41_method_13_code 57 = .ok (.invokestatic 17, 3) := by decide +kernel
theorem d12_60 : decode prog_41_method_13_code 60 = .ok (.istore 5, 2) := by decide +kernel
theorem d12_62 : decode prog_41_method_13_code 62 = .ok (.iload 5, 2) := by decide +kernel
theorem d12_64 : decode prog_41_method_13_code 64 = .ok (.ireturn, 1) := by decide +kernel
theorem pn_12 : plainName "pithline/html/ScriptData" = true := by first | (simp [plainName, overriddenIn]; done) | decide +kernel
theorem pd_8 : parseMethodDescriptor "()I" = some ⟨[], some .int⟩ := by decide +kernel
theorem pd_9 : parseMethodDescriptor "(I)C" = some ⟨[.int], some .char⟩ := by decide +kernel
theorem ef_rmNR40W (m : MethodId) (p1 : Int32) (p2 : Int32) (p3 : Int32) (p4 : Int32) : entryFrame m #[(.int p1), (.int p2), (.int p3), (.int p4), (.int (40 : Int32))] 6 = mkF m 0 #[iv p1, iv p2, iv p3, iv p4, iv (40 : Int32), .unset] [] := by first | (simp [entryFrame, mkF, argsToLocals, Value.category]; done) | rfl
def fNR40W (p1 : Int32) (p2 : Int32) (p3 : Int32) (p4 : Int32)  : Int32 := (if p2 < (6 : Int32) then (if (f15 p3) = (f6 p2 own_vs) then ((p1 + p2) + (1 : Int32)) else (if p2 = (6 : Int32) then (if (f18 p3) = (0 : Int32) then (fN40 p3) else p4) else (fN40 p3))) else (if p2 = (6 : Int32) then (if (f18 p3) = (0 : Int32) then (fN40 p3) else p4) else (fN40 p3)))
set_option maxRecDepth 65536 in
set_option maxHeartbeats 40000000 in
theorem rmNR40W (l : Launch) (Z : State) (a0 : Array Value) (hw : ∀ d ∈ tables_1, d.before a0 Z = true) (ws : List Jvm.Cond) (p1 : Int32) (p2 : Int32) (p3 : Int32) (p4 : Int32) (cz : Int32) (fm : Value) (aA bA aB bB : Addr) (kA kB : ClassId) (h0 : Heap) (n0 : Nat) (Z0 : n0 ≤ h0.size) (XO0 : Ext Z.heap h0) (Scs : Sta Z Z.heap "java/lang/String" "COMPACT_STRINGS" "Z" (.int cz)) (hcz : ¬ (cz = (0 : Int32))) (Sfm : Sta Z Z.heap "jdk/internal/util/Preconditions" "SIOOBE_FORMATTER" "Ljava/util/function/BiFunction;" fm) (hfm : fm.isRef = true) (EA : Exa Z h0 aA "java/lang/String") (CA : Fld Z h0 aA "java/lang/String" "coder" "B" (.int (0 : Int32))) (UA : Fld Z h0 aA "java/lang/String" "value" "[B" (.ref bA)) (VA : Arv Z h0 bA kA .byte (6 : Int32) (own_vs.map Value.int) (.int (0 : Int32))) (EB : Exa Z h0 aB "java/lang/String") (CB : Fld Z h0 aB "java/lang/String" "coder" "B" (.int (0 : Int32))) (UB : Fld Z h0 aB "java/lang/String" "value" "[B" (.ref bB)) (VB : Arv Z h0 bB kB .byte (6 : Int32) (own_vs.map Value.int) (.int (0 : Int32))) (hlo : ¬ (p2 < (0 : Int32))) :
    MetFree l (⟨"pithline/html/ScriptData", "nameRead", "(IIIII)I"⟩ : MethodName) (head1 (Jvm.Cond.code (⟨"pithline/html/ScriptData", "nameRead", "(IIIII)I"⟩ : MethodName) prog_41_method_13_code 6 (some .int) :: ws) ({ frames := 4, cells := 0, slots := 0, locals := 54 } : Room)) (fun a U => a = #[(.int p1), (.int p2), (.int p3), (.int p4), (.int (40 : Int32))] ∧ Z.Warmed39 U.vm ∧ U.heap = h0 ∧ LW Z aA aB U.vm) (fun _ _ _ _ _ => True) (fun _ U o U' => ∃ v L, o = .returned v ∧ QI (fNR40W p1 p2 p3 p4) h0 n0 v U'.heap L ∧ FrameEnd U o U' L ({ frames := 4, cells := 0, slots := 0, locals := 54 } : Room).cells ({ frames := 4, cells := 0, slots := 0, locals := 54 } : Room).slots) := by
  refine MetFree.of_bodySF (plainFor_of_name pn_12) hisR ?_
  intro p e s m args below meth c s₁ Bd hml0 hP hK
  obtain ⟨rfl, hZ, hh, hLW⟩ := hP
  have hx := Bd.exec
  have hby := Bd.bytes
  have hml : c.maxLocals = 6 := hml0
  have hown : s.vm.findClass "pithline/html/ScriptData" = some m.cls := findClass_of_methodNamed Bd.named
  have hnm := (name_of_methodNamed Bd.named Bd.method).1
  have X0 : Stand p l e ({ frames := 4, cells := 0, slots := 0, locals := 54 } : Room) s m #[(.int p1), (.int p2), (.int p3), (.int p4), (.int (40 : Int32))] below meth c s₁ [] 0 0 := Stand.of_body Bd
  have e0 : s₁.heap = h0 := by rw [← hh, Bd.state]; rfl
  have N0 := Fr.nil n0
  obtain ⟨B, hB, pre0⟩ : ∃ B : State → Prop, (∀ t, B t → Steps p.tables e below (s₁.setTop (entryFrame m #[(.int p1), (.int p2), (.int p3), (.int p4), (.int (40 : Int32))] 6)) t) ∧ ∀ t, SS p e below m s₁ 0 #[iv p1, iv p2, iv p3, iv p4, iv (40 : Int32), .unset] [] t → B t := ⟨_, fun _ q => q, fun t kk => castTop (ef_rmNR40W m p1 p2 p3 p4) kk⟩
  have pre1 : ∀ t, SS p e below m s₁ 1 #[iv p1, iv p2, iv p3, iv p4, iv (40 : Int32), .unset] [(.int p2)] t → B t := fun t kk => pre0 t (by
    show SS p e below m s₁ 0 #[iv p1, iv p2, iv p3, iv p4, iv (40 : Int32), .unset] [] _
    refine XS.iloadN X0.here hx rfl (hb hby d12_0) rfl ?_
    exact kk)
  have pre2 : ∀ t, SS p e below m s₁ 3 #[iv p1, iv p2, iv p3, iv p4, iv (40 : Int32), .unset] [(.ref aB), (.int p2)] t → B t := fun t kk => pre1 t (by
    refine ldcAgain (s := s) (vm0 := s.vm) X0 hx hZ hown (hw _ (List.mem_of_getElem? (i := 59) rfl)) hLW.2 (g := (mkF m 1 #[iv p1, iv p2, iv p3, iv p4, iv (40 : Int32), .unset] [(.int p2)])) rfl (hb hby d12_1) _ ?_
    exact kk)
  obtain ⟨cq3, kq3, q3a, q3b, q3c⟩ := isOf hZ e0 EB
  obtain ⟨_, _, ⟨T3, L3, k3, n3⟩, -, X3, ⟨Lc3, hQ3, l3, y3, z3⟩, st3⟩ := X0.virtualBack hx (y := (⟨"java/lang/String", "length", "()I"⟩ : MethodName)) (z := (⟨"java/lang/String", "length", "()I"⟩ : MethodName)) hown (mvT hZ (hw _ (List.mem_of_getElem? (i := 60) rfl))) (mvT hZ (hw _ (List.mem_of_getElem? (i := 61) rfl))) (notFace_of_selects (args := #[]) (mvT hZ (hw _ (List.mem_of_getElem? (i := 63) rfl)))) (mvT hZ (hw _ (List.mem_of_getElem? (i := 63) rfl))) (mvT hZ (hw _ (List.mem_of_getElem? (i := 62) rfl))) (by decide) (backOf (W := 1) (rm13 l Z a0 hw [] aB cz bB kB (6 : Int32) own_vs h0 n0 Z0 (Scs.ext XO0) hcz CB EB UB VB) hZ (hw _ (List.mem_of_getElem? (i := 64) rfl)) (hw _ (List.mem_of_getElem? (i := 21) rfl)) (by decide) (by decide)) q3a q3c (g := (mkF m 3 #[iv p1, iv p2, iv p3, iv p4, iv (40 : Int32), .unset] [(.ref aB), (.int p2)])) rfl (by rw [hml]; rfl) (Steps.refl _) (argsL := []) (rest := [(.int p2)]) (lenOf pd_8 rfl) rfl (by show 2 * 0 + _ ≤ _; exact Nat.le_of_eq rfl) (hb hby d12_3) (fun _ _ => ⟨rfl, e0, (by decide : 0 + 0 ≤ _), (by decide : 0 + 0 ≤ _)⟩)
  dsimp only [Pt.U, Pt.locs, Pt.cells, Pt.slots] at X3 l3 y3 z3 st3 hQ3
  subst l3 y3 z3
  obtain ⟨rfl, N3q, e3⟩ := hQ3
  have N3 := Fr.app N0 N3q
  have pre4 : ∀ t, SS p e below m T3 6 #[iv p1, iv p2, iv p3, iv p4, iv (40 : Int32), .unset] [(.int (f13 (6 : Int32))), (.int p2)] t → B t := fun t kk => pre2 t (by
    refine st3.trans ?_
    exact kk)
  rw [show f13 (6 : Int32) = (6 : Int32) from by decide] at pre4
  by_cases hc5 : p2 < (6 : Int32)
  · have pre6 : ∀ t, SS p e below m T3 10 #[iv p1, iv p2, iv p3, iv p4, iv (40 : Int32), .unset] [(.int p3)] t → B t := fun t kk => pre4 t (by
      refine XS.icmpNo X3.here hx rfl (hb hby d12_6) rfl (tlt hc5).2.1 ?_
      refine XS.iloadN X3.here hx rfl (hb hby d12_9) rfl ?_
      exact kk)
    obtain ⟨_, _, ⟨T7, L7, k7, n7⟩, -, X7, ⟨Lc7, hQ7, l7, y7, z7⟩, st7⟩ := Jvm.LawKit.callS X3 hx (y := (⟨"pithline/util/Ascii", "lowerCase", "(I)C"⟩ : MethodName)) hown (mvT hZ (hw _ (List.mem_of_getElem? (i := 70) rfl))) (mvT hZ (hw _ (List.mem_of_getElem? (i := 71) rfl))) (mvT hZ (hw _ (List.mem_of_getElem? (i := 72) rfl))) (mvT hZ (hw _ (List.mem_of_getElem? (i := 73) rfl))) (by decide) (backOf (W := 0) (rm15 l Z a0 hw [] p3 h0 n0 Z0 ) hZ (hw _ (List.mem_of_getElem? (i := 73) rfl)) (hw _ (List.mem_of_getElem? (i := 72) rfl)) (by decide) (by decide)) (g := (mkF m 10 #[iv p1, iv p2, iv p3, iv p4, iv (40 : Int32), .unset] [(.int p3)])) rfl (by rw [hml]; rfl) (argsL := [(.int p3)]) (rest := []) (lenOf pd_9 rfl) rfl (by show 2 * 0 + _ ≤ _; exact Nat.le_of_eq rfl) (hb hby d12_10) (fun _ _ => ⟨rfl, e3, (by decide : 0 + 0 ≤ _), (by decide : 0 + 0 ≤ _)⟩)
    dsimp only [Pt.U, Pt.locs, Pt.cells, Pt.slots] at X7 l7 y7 z7 st7 hQ7
    subst l7 y7 z7
    obtain ⟨rfl, N7q, e7⟩ := hQ7
    have N7 := Fr.app N3 N7q
    have pre8 : ∀ t, SS p e below m T7 13 #[iv p1, iv p2, iv p3, iv p4, iv (40 : Int32), .unset] [(.int (f15 p3))] t → B t := fun t kk => pre6 t (by
      refine st7 _ ?_
      exact kk)
    have pre9 : ∀ t, SS p e below m T7 16 #[iv p1, iv p2, iv p3, iv p4, iv (40 : Int32), .unset] [(.int p2), (.ref aB), (.int (f15 p3))] t → B t := fun t kk => pre8 t (by
      refine ldcAgain (s := s) (vm0 := s.vm) X7 hx hZ hown (hw _ (List.mem_of_getElem? (i := 59) rfl)) hLW.2 (g := (mkF m 13 #[iv p1, iv p2, iv p3, iv p4, iv (40 : Int32), .unset] [(.int (f15 p3))])) rfl (hb hby d12_13) _ ?_
      refine XS.iloadN X7.here hx rfl (hb hby d12_15) rfl ?_
      exact kk)
    obtain ⟨cq10, kq10, q10a, q10b, q10c⟩ := isOf hZ e7 EB
    obtain ⟨_, _, ⟨T10, L10, k10, n10⟩, -, X10, ⟨Lc10, hQ10, l10, y10, z10⟩, st10⟩ := X7.virtualBack hx (y := (⟨"java/lang/String", "charAt", "(I)C"⟩ : MethodName)) (z := (⟨"java/lang/String", "charAt", "(I)C"⟩ : MethodName)) hown (mvT hZ (hw _ (List.mem_of_getElem? (i := 74) rfl))) (mvT hZ (hw _ (List.mem_of_getElem? (i := 29) rfl))) (notFace_of_selects (args := #[]) (mvT hZ (hw _ (List.mem_of_getElem? (i := 31) rfl)))) (mvT hZ (hw _ (List.mem_of_getElem? (i := 31) rfl))) (mvT hZ (hw _ (List.mem_of_getElem? (i := 30) rfl))) (by decide) (backOf (W := 1) (rm6 l Z a0 hw [] aB p2 cz fm bB kB (6 : Int32) own_vs h0 n0 Z0 (Scs.ext XO0) hcz (Sfm.ext XO0) hfm EB CB UB VB hlo hc5) hZ (hw _ (List.mem_of_getElem? (i := 32) rfl)) (hw _ (List.mem_of_getElem? (i := 21) rfl)) (by decide) (by decide)) q10a q10c (g := (mkF m 16 #[iv p1, iv p2, iv p3, iv p4, iv (40 : Int32), .unset] [(.int p2), (.ref aB), (.int (f15 p3))])) rfl (by rw [hml]; rfl) (Steps.refl _) (argsL := [(.int p2)]) (rest := [(.int (f15 p3))]) (lenOf pd_9 rfl) rfl (by show 2 * 0 + _ ≤ _; exact Nat.le_of_eq rfl) (hb hby d12_16) (fun _ _ => ⟨rfl, e7, (by decide : 0 + 0 ≤ _), (by decide : 0 + 0 ≤ _)⟩)
    dsimp only [Pt.U, Pt.locs, Pt.cells, Pt.slots] at X10 l10 y10 z10 st10 hQ10
    subst l10 y10 z10
    obtain ⟨rfl, N10q, e10⟩ := hQ10
    have N10 := Fr.app N7 N10q
    have pre11 : ∀ t, SS p e below m T10 19 #[iv p1, iv p2, iv p3, iv p4, iv (40 : Int32), .unset] [(.int (f6 p2 own_vs)), (.int (f15 p3))] t → B t := fun t kk => pre9 t (by
      refine st10.trans ?_
      exact kk)
    by_cases hc12 : (f15 p3) = (f6 p2 own_vs)
    · have pre13 : ∀ t, SS p e below m T10 64 #[iv p1, iv p2, iv p3, iv p4, iv (40 : Int32), iv ((p1 + p2) + (1 : Int32))] [(.int ((p1 + p2) + (1 : Int32)))] t → B t := fun t kk => pre11 t (by
        refine XS.icmpNo X10.here hx rfl (hb hby d12_19) rfl (teq hc12).2 ?_
        refine XS.iloadN X10.here hx rfl (hb hby d12_22) rfl ?_
        refine XS.iloadN X10.here hx rfl (hb hby d12_23) rfl ?_
        show SS p e below m T10 24 #[iv p1, iv p2, iv p3, iv p4, iv (40 : Int32), .unset] [(.int p2), (.int p1)] _
        refine XS.iadd X10.here hx rfl (hb hby d12_24) rfl ?_
        refine XS.iconst X10.here hx rfl (hb hby d12_25) ?_
        refine XS.iadd X10.here hx rfl (hb hby d12_26) rfl ?_
        show SS p e below m T10 27 #[iv p1, iv p2, iv p3, iv p4, iv (40 : Int32), .unset] [(.int ((p1 + p2) + (1 : Int32)))] _
        refine XS.istore X10.here hx rfl (hb hby d12_27) rfl (l' := #[iv p1, iv p2, iv p3, iv p4, iv (40 : Int32), iv ((p1 + p2) + (1 : Int32))]) rfl ?_
        refine XS.goto X10.here hx rfl (pc0 := 29) (pc' := 62) rfl (hb hby d12_29) (by decide) (by decide) ?_
        refine XS.iload X10.here hx rfl (hb hby d12_62) rfl ?_
        show SS p e below m T10 64 #[iv p1, iv p2, iv p3, iv p4, iv (40 : Int32), iv ((p1 + p2) + (1 : Int32))] [(.int ((p1 + p2) + (1 : Int32)))] _
        exact kk)
      obtain ⟨fs, hr, hrun, hended, hW, hsame⟩ := X10.leave (v := some (.int ((p1 + p2) + (1 : Int32)))) (fun h => by rw [Bd.returns] at h; cases h)
      refine ⟨_, _, hB _ (pre13 _ ?_), hrun, hended, _, _, rfl, ?_, ⟨_, rfl⟩, hW, hsame.mono (by decide) (by decide)⟩
      · exact retI X10 hx Bd.returns (hb hby d12_64) hr
      · exact ⟨by show _ = some (Value.int (fNR40W p1 p2 p3 p4)); rw [fNR40W, if_pos hc5, if_pos hc12], N10, e10⟩
    · have pre14 : ∀ t, SS p e below m T10 33 #[iv p1, iv p2, iv p3, iv p4, iv (40 : Int32), .unset] [(.int p2)] t → B t := fun t kk => pre11 t (by
        refine XS.icmpYes X10.here hx rfl (pc0 := 19) (pc' := 32) rfl (hb hby d12_19) rfl (feq hc12).2 (by decide) (by decide) ?_
        refine XS.iloadN X10.here hx rfl (hb hby d12_32) rfl ?_
        exact kk)
      have pre15 : ∀ t, SS p e below m T10 35 #[iv p1, iv p2, iv p3, iv p4, iv (40 : Int32), .unset] [(.ref aB), (.int p2)] t → B t := fun t kk => pre14 t (by
        refine ldcAgain (s := s) (vm0 := s.vm) X10 hx hZ hown (hw _ (List.mem_of_getElem? (i := 59) rfl)) hLW.2 (g := (mkF m 33 #[iv p1, iv p2, iv p3, iv p4, iv (40 : Int32), .unset] [(.int p2)])) rfl (hb hby d12_33) _ ?_
        exact kk)
      obtain ⟨cq16, kq16, q16a, q16b, q16c⟩ := isOf hZ e10 EB
      obtain ⟨_, _, ⟨T16, L16, k16, n16⟩, -, X16, ⟨Lc16, hQ16, l16, y16, z16⟩, st16⟩ := X10.virtualBack hx (y := (⟨"java/lang/String", "length", "()I"⟩ : MethodName)) (z := (⟨"java/lang/String", "length", "()I"⟩ : MethodName)) hown (mvT hZ (hw _ (List.mem_of_getElem? (i := 60) rfl))) (mvT hZ (hw _ (List.mem_of_getElem? (i := 61) rfl))) (notFace_of_selects (args := #[]) (mvT hZ (hw _ (List.mem_of_getElem? (i := 63) rfl)))) (mvT hZ (hw _ (List.mem_of_getElem? (i := 63) rfl))) (mvT hZ (hw _ (List.mem_of_getElem? (i := 62) rfl))) (by decide) (backOf (W := 1) (rm13 l Z a0 hw [] aB cz bB kB (6 : Int32) own_vs h0 n0 Z0 (Scs.ext XO0) hcz CB EB UB VB) hZ (hw _ (List.mem_of_getElem? (i := 64) rfl)) (hw _ (List.mem_of_getElem? (i := 21) rfl)) (by decide) (by decide)) q16a q16c (g := (mkF m 35 #[iv p1, iv p2, iv p3, iv p4, iv (40 : Int32), .unset] [(.ref aB), (.int p2)])) rfl (by rw [hml]; rfl) (Steps.refl _) (argsL := []) (rest := [(.int p2)]) (lenOf pd_8 rfl) rfl (by show 2 * 0 + _ ≤ _; exact Nat.le_of_eq rfl) (hb hby d12_35) (fun _ _ => ⟨rfl, e10, (by decide : 0 + 0 ≤ _), (by decide : 0 + 0 ≤ _)⟩)
      dsimp only [Pt.U, Pt.locs, Pt.cells, Pt.slots] at X16 l16 y16 z16 st16 hQ16
      subst l16 y16 z16
      obtain ⟨rfl, N16q, e16⟩ := hQ16
      have N16 := Fr.app N10 N16q
      have pre17 : ∀ t, SS p e below m T16 38 #[iv p1, iv p2, iv p3, iv p4, iv (40 : Int32), .unset] [(.int (f13 (6 : Int32))), (.int p2)] t → B t := fun t kk => pre15 t (by
        refine st16.trans ?_
        exact kk)
      rw [show f13 (6 : Int32) = (6 : Int32) from by decide] at pre17
      by_cases hc18 : p2 = (6 : Int32)
      · have pre19 : ∀ t, SS p e below m T16 42 #[iv p1, iv p2, iv p3, iv p4, iv (40 : Int32), .unset] [(.int p3)] t → B t := fun t kk => pre17 t (by
          refine XS.icmpNo X16.here hx rfl (hb hby d12_38) rfl (teq hc18).2 ?_
          refine XS.iloadN X16.here hx rfl (hb hby d12_41) rfl ?_
          exact kk)
        obtain ⟨_, _, ⟨T20, L20, k20, n20⟩, -, X20, ⟨Lc20, hQ20, l20, y20, z20⟩, st20⟩ := Jvm.LawKit.callS X16 hx (y := (⟨"pithline/html/ScriptData", "isNameEnd", "(I)Z"⟩ : MethodName)) hown (mvT hZ (hw _ (List.mem_of_getElem? (i := 82) rfl))) (mvT hZ (hw _ (List.mem_of_getElem? (i := 83) rfl))) (mvT hZ (hw _ (List.mem_of_getElem? (i := 5) rfl))) (mvT hZ (hw _ (List.mem_of_getElem? (i := 84) rfl))) (by decide) (backOf (W := 0) (rm18 l Z a0 hw [] p3 h0 n0 Z0 ) hZ (hw _ (List.mem_of_getElem? (i := 84) rfl)) (hw _ (List.mem_of_getElem? (i := 5) rfl)) (by decide) (by decide)) (g := (mkF m 42 #[iv p1, iv p2, iv p3, iv p4, iv (40 : Int32), .unset] [(.int p3)])) rfl (by rw [hml]; rfl) (argsL := [(.int p3)]) (rest := []) (lenOf pd_5 rfl) rfl (by show 2 * 0 + _ ≤ _; exact Nat.le_of_eq rfl) (hb hby d12_42) (fun _ _ => ⟨rfl, e16, (by decide : 0 + 0 ≤ _), (by decide : 0 + 0 ≤ _)⟩)
        dsimp only [Pt.U, Pt.locs, Pt.cells, Pt.slots] at X20 l20 y20 z20 st20 hQ20
        subst l20 y20 z20
        obtain ⟨rfl, N20q, e20⟩ := hQ20
        have N20 := Fr.app N16 N20q
        have pre21 : ∀ t, SS p e below m T20 45 #[iv p1, iv p2, iv p3, iv p4, iv (40 : Int32), .unset] [(.int (f18 p3))] t → B t := fun t kk => pre19 t (by
          refine st20 _ ?_
          exact kk)
        by_cases hc22 : (f18 p3) = (0 : Int32)
        · have pre23 : ∀ t, SS p e below m T20 57 #[iv p1, iv p2, iv p3, iv p4, iv (40 : Int32), .unset] [(.int p3), (.int (40 : Int32))] t → B t := fun t kk => pre21 t (by
            refine XS.ifYes X20.here hx rfl (pc0 := 45) (pc' := 54) rfl (hb hby d12_45) rfl ((if0 _ _).trans (teq hc22).1) (by decide) (by decide) ?_
            refine XS.iload X20.here hx rfl (hb hby d12_54) rfl ?_
            refine XS.iloadN X20.here hx rfl (hb hby d12_56) rfl ?_
            show SS p e below m T20 57 #[iv p1, iv p2, iv p3, iv p4, iv (40 : Int32), .unset] [(.int p3), (.int (40 : Int32))] _
            exact kk)
          obtain ⟨_, _, ⟨T24, L24, k24, n24⟩, -, X24, ⟨Lc24, hQ24, l24, y24, z24⟩, st24⟩ := Jvm.LawKit.callS X20 hx (y := (⟨"pithline/html/ScriptData", "next", "(II)I"⟩ : MethodName)) hown (mvT hZ (hw _ (List.mem_of_getElem? (i := 81) rfl))) (mvT hZ (hw _ (List.mem_of_getElem? (i := 4) rfl))) (mvT hZ (hw _ (List.mem_of_getElem? (i := 5) rfl))) (mvT hZ (hw _ (List.mem_of_getElem? (i := 6) rfl))) (by decide) (backOf (W := 0) (rmN40 l Z a0 hw [] p3 h0 n0 Z0 ) hZ (hw _ (List.mem_of_getElem? (i := 6) rfl)) (hw _ (List.mem_of_getElem? (i := 5) rfl)) (by decide) (by decide)) (g := (mkF m 57 #[iv p1, iv p2, iv p3, iv p4, iv (40 : Int32), .unset] [(.int p3), (.int (40 : Int32))])) rfl (by rw [hml]; rfl) (argsL := [(.int (40 : Int32)), (.int p3)]) (rest := []) (lenOf pd_6 rfl) rfl (by show 2 * 0 + _ ≤ _; exact Nat.le_of_eq rfl) (hb hby d12_57) (fun _ _ => ⟨rfl, e20, (by decide : 0 + 0 ≤ _), (by decide : 0 + 0 ≤ _)⟩)
          dsimp only [Pt.U, Pt.locs, Pt.cells, Pt.slots] at X24 l24 y24 z24 st24 hQ24
          subst l24 y24 z24
          obtain ⟨rfl, N24q, e24⟩ := hQ24
          have N24 := Fr.app N20 N24q
          have pre25 : ∀ t, SS p e below m T24 64 #[iv p1, iv p2, iv p3, iv p4, iv (40 : Int32), iv (fN40 p3)] [(.int (fN40 p3))] t → B t := fun t kk => pre23 t (by
            refine st24 _ ?_
            refine XS.istore X24.here hx rfl (hb hby d12_60) rfl (l' := #[iv p1, iv p2, iv p3, iv p4, iv (40 : Int32), iv (fN40 p3)]) rfl ?_
            refine XS.iload X24.here hx rfl (hb hby d12_62) rfl ?_
            show SS p e below m T24 64 #[iv p1, iv p2, iv p3, iv p4, iv (40 : Int32), iv (fN40 p3)] [(.int (fN40 p3))] _
            exact kk)
          obtain ⟨fs, hr, hrun, hended, hW, hsame⟩ := X24.leave (v := some (.int (fN40 p3))) (fun h => by rw [Bd.returns] at h; cases h)
          refine ⟨_, _, hB _ (pre25 _ ?_), hrun, hended, _, _, rfl, ?_, ⟨_, rfl⟩, hW, hsame.mono (by decide) (by decide)⟩
          · exact retI X24 hx Bd.returns (hb hby d12_64) hr
          · exact ⟨by show _ = some (Value.int (fNR40W p1 p2 p3 p4)); rw [fNR40W, if_pos hc5, if_neg hc12, if_pos hc18, if_pos hc22], N24, e24⟩
        · have pre26 : ∀ t, SS p e below m T20 64 #[iv p1, iv p2, iv p3, iv p4, iv (40 : Int32), iv p4] [(.int p4)] t → B t := fun t kk => pre21 t (by
            refine XS.ifNo X20.here hx rfl (hb hby d12_45) rfl ((if0 _ _).trans (feq hc22).1) ?_
            refine XS.iloadN X20.here hx rfl (hb hby d12_48) rfl ?_
            refine XS.istore X20.here hx rfl (hb hby d12_49) rfl (l' := #[iv p1, iv p2, iv p3, iv p4, iv (40 : Int32), iv p4]) rfl ?_
            show SS p e below m T20 51 #[iv p1, iv p2, iv p3, iv p4, iv (40 : Int32), iv p4] [] _
            refine XS.goto X20.here hx rfl (pc0 := 51) (pc' := 62) rfl (hb hby d12_51) (by decide) (by decide) ?_
            refine XS.iload X20.here hx rfl (hb hby d12_62) rfl ?_
            exact kk)
          obtain ⟨fs, hr, hrun, hended, hW, hsame⟩ := X20.leave (v := some (.int p4)) (fun h => by rw [Bd.returns] at h; cases h)
          refine ⟨_, _, hB _ (pre26 _ ?_), hrun, hended, _, _, rfl, ?_, ⟨_, rfl⟩, hW, hsame.mono (by decide) (by decide)⟩
          · exact retI X20 hx Bd.returns (hb hby d12_64) hr
          · exact ⟨by show _ = some (Value.int (fNR40W p1 p2 p3 p4)); rw [fNR40W, if_pos hc5, if_neg hc12, if_pos hc18, if_neg hc22], N20, e20⟩
      · have pre27 : ∀ t, SS p e below m T16 57 #[iv p1, iv p2, iv p3, iv p4, iv (40 : Int32), .unset] [(.int p3), (.int (40 : Int32))] t → B t := fun t kk => pre17 t (by
          refine XS.icmpYes X16.here hx rfl (pc0 := 38) (pc' := 54) rfl (hb hby d12_38) rfl (feq hc18).2 (by decide) (by decide) ?_
          refine XS.iload X16.here hx rfl (hb hby d12_54) rfl ?_
          refine XS.iloadN X16.here hx rfl (hb hby d12_56) rfl ?_
          show SS p e below m T16 57 #[iv p1, iv p2, iv p3, iv p4, iv (40 : Int32), .unset] [(.int p3), (.int (40 : Int32))] _
          exact kk)
        obtain ⟨_, _, ⟨T28, L28, k28, n28⟩, -, X28, ⟨Lc28, hQ28, l28, y28, z28⟩, st28⟩ := Jvm.LawKit.callS X16 hx (y := (⟨"pithline/html/ScriptData", "next", "(II)I"⟩ : MethodName)) hown (mvT hZ (hw _ (List.mem_of_getElem? (i := 81) rfl))) (mvT hZ (hw _ (List.mem_of_getElem? (i := 4) rfl))) (mvT hZ (hw _ (List.mem_of_getElem? (i := 5) rfl))) (mvT hZ (hw _ (List.mem_of_getElem? (i := 6) rfl))) (by decide) (backOf (W := 0) (rmN40 l Z a0 hw [] p3 h0 n0 Z0 ) hZ (hw _ (List.mem_of_getElem? (i := 6) rfl)) (hw _ (List.mem_of_getElem? (i := 5) rfl)) (by decide) (by decide)) (g := (mkF m 57 #[iv p1, iv p2, iv p3, iv p4, iv (40 : Int32), .unset] [(.int p3), (.int (40 : Int32))])) rfl (by rw [hml]; rfl) (argsL := [(.int (40 : Int32)), (.int p3)]) (rest := []) (lenOf pd_6 rfl) rfl (by show 2 * 0 + _ ≤ _; exact Nat.le_of_eq rfl) (hb hby d12_57) (fun _ _ => ⟨rfl, e16, (by decide : 0 + 0 ≤ _), (by decide : 0 + 0 ≤ _)⟩)
        dsimp only [Pt.U, Pt.locs, Pt.cells, Pt.slots] at X28 l28 y28 z28 st28 hQ28
        subst l28 y28 z28
        obtain ⟨rfl, N28q, e28⟩ := hQ28
        have N28 := Fr.app N16 N28q
        have pre29 : ∀ t, SS p e below m T28 64 #[iv p1, iv p2, iv p3, iv p4, iv (40 : Int32), iv (fN40 p3)] [(.int (fN40 p3))] t → B t := fun t kk => pre27 t (by
          refine st28 _ ?_
          refine XS.istore X28.here hx rfl (hb hby d12_60) rfl (l' := #[iv p1, iv p2, iv p3, iv p4, iv (40 : Int32), iv (fN40 p3)]) rfl ?_
          refine XS.iload X28.here hx rfl (hb hby d12_62) rfl ?_
          show SS p e below m T28 64 #[iv p1, iv p2, iv p3, iv p4, iv (40 : Int32), iv (fN40 p3)] [(.int (fN40 p3))] _
          exact kk)
        obtain ⟨fs, hr, hrun, hended, hW, hsame⟩ := X28.leave (v := some (.int (fN40 p3))) (fun h => by rw [Bd.returns] at h; cases h)
        refine ⟨_, _, hB _ (pre29 _ ?_), hrun, hended, _, _, rfl, ?_, ⟨_, rfl⟩, hW, hsame.mono (by decide) (by decide)⟩
        · exact retI X28 hx Bd.returns (hb hby d12_64) hr
        · exact ⟨by show _ = some (Value.int (fNR40W p1 p2 p3 p4)); rw [fNR40W, if_pos hc5, if_neg hc12, if_neg hc18], N28, e28⟩
  · have pre30 : ∀ t, SS p e below m T3 33 #[iv p1, iv p2, iv p3, iv p4, iv (40 : Int32), .unset] [(.int p2)] t → B t := fun t kk => pre4 t (by
      refine XS.icmpYes X3.here hx rfl (pc0 := 6) (pc' := 32) rfl (hb hby d12_6) rfl (flt hc5).2.1 (by decide) (by decide) ?_
      refine XS.iloadN X3.here hx rfl (hb hby d12_32) rfl ?_
      exact kk)
    have pre31 : ∀ t, SS p e below m T3 35 #[iv p1, iv p2, iv p3, iv p4, iv (40 : Int32), .unset] [(.ref aB), (.int p2)] t → B t := fun t kk => pre30 t (by
      refine ldcAgain (s := s) (vm0 := s.vm) X3 hx hZ hown (hw _ (List.mem_of_getElem? (i := 59) rfl)) hLW.2 (g := (mkF m 33 #[iv p1, iv p2, iv p3, iv p4, iv (40 : Int32), .unset] [(.int p2)])) rfl (hb hby d12_33) _ ?_
      exact kk)
    obtain ⟨cq32, kq32, q32a, q32b, q32c⟩ := isOf hZ e3 EB
    obtain ⟨_, _, ⟨T32, L32, k32, n32⟩, -, X32, ⟨Lc32, hQ32, l32, y32, z32⟩, st32⟩ := X3.virtualBack hx (y := (⟨"java/lang/String", "length", "()I"⟩ : MethodName)) (z := (⟨"java/lang/String", "length", "()I"⟩ : MethodName)) hown (mvT hZ (hw _ (List.mem_of_getElem? (i := 60) rfl))) (mvT hZ (hw _ (List.mem_of_getElem? (i := 61) rfl))) (notFace_of_selects (args := #[]) (mvT hZ (hw _ (List.mem_of_getElem? (i := 63) rfl)))) (mvT hZ (hw _ (List.mem_of_getElem? (i := 63) rfl))) (mvT hZ (hw _ (List.mem_of_getElem? (i := 62) rfl))) (by decide) (backOf (W := 1) (rm13 l Z a0 hw [] aB cz bB kB (6 : Int32) own_vs h0 n0 Z0 (Scs.ext XO0) hcz CB EB UB VB) hZ (hw _ (List.mem_of_getElem? (i := 64) rfl)) (hw _ (List.mem_of_getElem? (i := 21) rfl)) (by decide) (by decide)) q32a q32c (g := (mkF m 35 #[iv p1, iv p2, iv p3, iv p4, iv (40 : Int32), .unset] [(.ref aB), (.int p2)])) rfl (by rw [hml]; rfl) (Steps.refl _) (argsL := []) (rest := [(.int p2)]) (lenOf pd_8 rfl) rfl (by show 2 * 0 + _ ≤ _; exact Nat.le_of_eq rfl) (hb hby d12_35) (fun _ _ => ⟨rfl, e3, (by decide : 0 + 0 ≤ _), (by decide : 0 + 0 ≤ _)⟩)
    dsimp only [Pt.U, Pt.locs, Pt.cells, Pt.slots] at X32 l32 y32 z32 st32 hQ32
    subst l32 y32 z32
    obtain ⟨rfl, N32q, e32⟩ := hQ32
    have N32 := Fr.app N3 N32q
    have pre33 : ∀ t, SS p e below m T32 38 #[iv p1, iv p2, iv p3, iv p4, iv (40 : Int32), .unset] [(.int (f13 (6 : Int32))), (.int p2)] t → B t := fun t kk => pre31 t (by
      refine st32.trans ?_
      exact kk)
    rw [show f13 (6 : Int32) = (6 : Int32) from by decide] at pre33
    by_cases hc34 : p2 = (6 : Int32)
    · have pre35 : ∀ t, SS p e below m T32 42 #[iv p1, iv p2, iv p3, iv p4, iv (40 : Int32), .unset] [(.int p3)] t → B t := fun t kk => pre33 t (by
        refine XS.icmpNo X32.here hx rfl (hb hby d12_38) rfl (teq hc34).2 ?_
        refine XS.iloadN X32.here hx rfl (hb hby d12_41) rfl ?_
        exact kk)
      obtain ⟨_, _, ⟨T36, L36, k36, n36⟩, -, X36, ⟨Lc36, hQ36, l36, y36, z36⟩, st36⟩ := Jvm.LawKit.callS X32 hx (y := (⟨"pithline/html/ScriptData", "isNameEnd", "(I)Z"⟩ : MethodName)) hown (mvT hZ (hw _ (List.mem_of_getElem? (i := 82) rfl))) (mvT hZ (hw _ (List.mem_of_getElem? (i := 83) rfl))) (mvT hZ (hw _ (List.mem_of_getElem? (i := 5) rfl))) (mvT hZ (hw _ (List.mem_of_getElem? (i := 84) rfl))) (by decide) (backOf (W := 0) (rm18 l Z a0 hw [] p3 h0 n0 Z0 ) hZ (hw _ (List.mem_of_getElem? (i := 84) rfl)) (hw _ (List.mem_of_getElem? (i := 5) rfl)) (by decide) (by decide)) (g := (mkF m 42 #[iv p1, iv p2, iv p3, iv p4, iv (40 : Int32), .unset] [(.int p3)])) rfl (by rw [hml]; rfl) (argsL := [(.int p3)]) (rest := []) (lenOf pd_5 rfl) rfl (by show 2 * 0 + _ ≤ _; exact Nat.le_of_eq rfl) (hb hby d12_42) (fun _ _ => ⟨rfl, e32, (by decide : 0 + 0 ≤ _), (by decide : 0 + 0 ≤ _)⟩)
      dsimp only [Pt.U, Pt.locs, Pt.cells, Pt.slots] at X36 l36 y36 z36 st36 hQ36
      subst l36 y36 z36
      obtain ⟨rfl, N36q, e36⟩ := hQ36
      have N36 := Fr.app N32 N36q
      have pre37 : ∀ t, SS p e below m T36 45 #[iv p1, iv p2, iv p3, iv p4, iv (40 : Int32), .unset] [(.int (f18 p3))] t → B t := fun t kk => pre35 t (by
        refine st36 _ ?_
        exact kk)
      by_cases hc38 : (f18 p3) = (0 : Int32)
      · have pre39 : ∀ t, SS p e below m T36 57 #[iv p1, iv p2, iv p3, iv p4, iv (40 : Int32), .unset] [(.int p3), (.int (40 : Int32))] t → B t := fun t kk => pre37 t (by
          refine XS.ifYes X36.here hx rfl (pc0 := 45) (pc' := 54) rfl (hb hby d12_45) rfl ((if0 _ _).trans (teq hc38).1) (by decide) (by decide) ?_
          refine XS.iload X36.here hx rfl (hb hby d12_54) rfl ?_
          refine XS.iloadN X36.here hx rfl (hb hby d12_56) rfl ?_
          show SS p e below m T36 57 #[iv p1, iv p2, iv p3, iv p4, iv (40 : Int32), .unset] [(.int p3), (.int (40 : Int32))] _
          exact kk)
        obtain ⟨_, _, ⟨T40, L40, k40, n40⟩, -, X40, ⟨Lc40, hQ40, l40, y40, z40⟩, st40⟩ := Jvm.LawKit.callS X36 hx (y := (⟨"pithline/html/ScriptData", "next", "(II)I"⟩ : MethodName)) hown (mvT hZ (hw _ (List.mem_of_getElem? (i := 81) rfl))) (mvT hZ (hw _ (List.mem_of_getElem? (i := 4) rfl))) (mvT hZ (hw _ (List.mem_of_getElem? (i := 5) rfl))) (mvT hZ (hw _ (List.mem_of_getElem? (i := 6) rfl))) (by decide) (backOf (W := 0) (rmN40 l Z a0 hw [] p3 h0 n0 Z0 ) hZ (hw _ (List.mem_of_getElem? (i := 6) rfl)) (hw _ (List.mem_of_getElem? (i := 5) rfl)) (by decide) (by decide)) (g := (mkF m 57 #[iv p1, iv p2, iv p3, iv p4, iv (40 : Int32), .unset] [(.int p3), (.int (40 : Int32))])) rfl (by rw [hml]; rfl) (argsL := [(.int (40 : Int32)), (.int p3)]) (rest := []) (lenOf pd_6 rfl) rfl (by show 2 * 0 + _ ≤ _; exact Nat.le_of_eq rfl) (hb hby d12_57) (fun _ _ => ⟨rfl, e36, (by decide : 0 + 0 ≤ _), (by decide : 0 + 0 ≤ _)⟩)
        dsimp only [Pt.U, Pt.locs, Pt.cells, Pt.slots] at X40 l40 y40 z40 st40 hQ40
        subst l40 y40 z40
        obtain ⟨rfl, N40q, e40⟩ := hQ40
        have N40 := Fr.app N36 N40q
        have pre41 : ∀ t, SS p e below m T40 64 #[iv p1, iv p2, iv p3, iv p4, iv (40 : Int32), iv (fN40 p3)] [(.int (fN40 p3))] t → B t := fun t kk => pre39 t (by
          refine st40 _ ?_
          refine XS.istore X40.here hx rfl (hb hby d12_60) rfl (l' := #[iv p1, iv p2, iv p3, iv p4, iv (40 : Int32), iv (fN40 p3)]) rfl ?_
          refine XS.iload X40.here hx rfl (hb hby d12_62) rfl ?_
          show SS p e below m T40 64 #[iv p1, iv p2, iv p3, iv p4, iv (40 : Int32), iv (fN40 p3)] [(.int (fN40 p3))] _
          exact kk)
        obtain ⟨fs, hr, hrun, hended, hW, hsame⟩ := X40.leave (v := some (.int (fN40 p3))) (fun h => by rw [Bd.returns] at h; cases h)
        refine ⟨_, _, hB _ (pre41 _ ?_), hrun, hended, _, _, rfl, ?_, ⟨_, rfl⟩, hW, hsame.mono (by decide) (by decide)⟩
        · exact retI X40 hx Bd.returns (hb hby d12_64) hr
        · exact ⟨by show _ = some (Value.int (fNR40W p1 p2 p3 p4)); rw [fNR40W, if_neg hc5, if_pos hc34, if_pos hc38], N40, e40⟩
      · have pre42 : ∀ t, SS p e below m T36 64 #[iv p1, iv p2, iv p3, iv p4, iv (40 : Int32), iv p4] [(.int p4)] t → B t := fun t kk => pre37 t (by
          refine XS.ifNo X36.here hx rfl (hb hby d12_45) rfl ((if0 _ _).trans (feq hc38).1) ?_
          refine XS.iloadN X36.here hx rfl (hb hby d12_48) rfl ?_
          refine XS.istore X36.here hx rfl (hb hby d12_49) rfl (l' := #[iv p1, iv p2, iv p3, iv p4, iv (40 : Int32), iv p4]) rfl ?_
          show SS p e below m T36 51 #[iv p1, iv p2, iv p3, iv p4, iv (40 : Int32), iv p4] [] _
          refine XS.goto X36.here hx rfl (pc0 := 51) (pc' := 62) rfl (hb hby d12_51) (by decide) (by decide) ?_
          refine XS.iload X36.here hx rfl (hb hby d12_62) rfl ?_
          exact kk)
        obtain ⟨fs, hr, hrun, hended, hW, hsame⟩ := X36.leave (v := some (.int p4)) (fun h => by rw [Bd.returns] at h; cases h)
        refine ⟨_, _, hB _ (pre42 _ ?_), hrun, hended, _, _, rfl, ?_, ⟨_, rfl⟩, hW, hsame.mono (by decide) (by decide)⟩
        · exact retI X36 hx Bd.returns (hb hby d12_64) hr
        · exact ⟨by show _ = some (Value.int (fNR40W p1 p2 p3 p4)); rw [fNR40W, if_neg hc5, if_pos hc34, if_neg hc38], N36, e36⟩
    · have pre43 : ∀ t, SS p e below m T32 57 #[iv p1, iv p2, iv p3, iv p4, iv (40 : Int32), .unset] [(.int p3), (.int (40 : Int32))] t → B t := fun t kk => pre33 t (by
        refine XS.icmpYes X32.here hx rfl (pc0 := 38) (pc' := 54) rfl (hb hby d12_38) rfl (feq hc34).2 (by decide) (by decide) ?_
        refine XS.iload X32.here hx rfl (hb hby d12_54) rfl ?_
        refine XS.iloadN X32.here hx rfl (hb hby d12_56) rfl ?_
        show SS p e below m T32 57 #[iv p1, iv p2, iv p3, iv p4, iv (40 : Int32), .unset] [(.int p3), (.int (40 : Int32))] _
        exact kk)
      obtain ⟨_, _, ⟨T44, L44, k44, n44⟩, -, X44, ⟨Lc44, hQ44, l44, y44, z44⟩, st44⟩ := Jvm.LawKit.callS X32 hx (y := (⟨"pithline/html/ScriptData", "next", "(II)I"⟩ : MethodName)) hown (mvT hZ (hw _ (List.mem_of_getElem? (i := 81) rfl))) (mvT hZ (hw _ (List.mem_of_getElem? (i := 4) rfl))) (mvT hZ (hw _ (List.mem_of_getElem? (i := 5) rfl))) (mvT hZ (hw _ (List.mem_of_getElem? (i := 6) rfl))) (by decide) (backOf (W := 0) (rmN40 l Z a0 hw [] p3 h0 n0 Z0 ) hZ (hw _ (List.mem_of_getElem? (i := 6) rfl)) (hw _ (List.mem_of_getElem? (i := 5) rfl)) (by decide) (by decide)) (g := (mkF m 57 #[iv p1, iv p2, iv p3, iv p4, iv (40 : Int32), .unset] [(.int p3), (.int (40 : Int32))])) rfl (by rw [hml]; rfl) (argsL := [(.int (40 : Int32)), (.int p3)]) (rest := []) (lenOf pd_6 rfl) rfl (by show 2 * 0 + _ ≤ _; exact Nat.le_of_eq rfl) (hb hby d12_57) (fun _ _ => ⟨rfl, e32, (by decide : 0 + 0 ≤ _), (by decide : 0 + 0 ≤ _)⟩)
      dsimp only [Pt.U, Pt.locs, Pt.cells, Pt.slots] at X44 l44 y44 z44 st44 hQ44
      subst l44 y44 z44
      obtain ⟨rfl, N44q, e44⟩ := hQ44
      have N44 := Fr.app N32 N44q
      have pre45 : ∀ t, SS p e below m T44 64 #[iv p1, iv p2, iv p3, iv p4, iv (40 : Int32), iv (fN40 p3)] [(.int (fN40 p3))] t → B t := fun t kk => pre43 t (by
        refine st44 _ ?_
        refine XS.istore X44.here hx rfl (hb hby d12_60) rfl (l' := #[iv p1, iv p2, iv p3, iv p4, iv (40 : Int32), iv (fN40 p3)]) rfl ?_
        refine XS.iload X44.here hx rfl (hb hby d12_62) rfl ?_
        show SS p e below m T44 64 #[iv p1, iv p2, iv p3, iv p4, iv (40 : Int32), iv (fN40 p3)] [(.int (fN40 p3))] _
        exact kk)
      obtain ⟨fs, hr, hrun, hended, hW, hsame⟩ := X44.leave (v := some (.int (fN40 p3))) (fun h => by rw [Bd.returns] at h; cases h)
      refine ⟨_, _, hB _ (pre45 _ ?_), hrun, hended, _, _, rfl, ?_, ⟨_, rfl⟩, hW, hsame.mono (by decide) (by decide)⟩
      · exact retI X44 hx Bd.returns (hb hby d12_64) hr
      · exact ⟨by show _ = some (Value.int (fNR40W p1 p2 p3 p4)); rw [fNR40W, if_neg hc5, if_neg hc34], N44, e44⟩
theorem ef_rmNR40C (m : MethodId) (p1 : Int32) (p2 : Int32) (p3 : Int32) (p4 : Int32) : entryFrame m #[(.int p1), (.int p2), (.int p3), (.int p4), (.int (40 : Int32))] 6 = mkF m 0 #[iv p1, iv p2, iv p3, iv p4, iv (40 : Int32), .unset] [] := by first | (simp [entryFrame, mkF, argsToLocals, Value.category]; done) | rfl
def fNR40C (p1 : Int32) (p2 : Int32) (p3 : Int32) (p4 : Int32)  : Int32 := (if p2 < (6 : Int32) then (if (f15 p3) = (f6 p2 own_vs) then ((p1 + p2) + (1 : Int32)) else (if p2 = (6 : Int32) then (if (f18 p3) = (0 : Int32) then (fN40 p3) else p4) else (fN40 p3))) else (if p2 = (6 : Int32) then (if (f18 p3) = (0 : Int32) then (fN40 p3) else p4) else (fN40 p3)))
set_option maxRecDepth 65536 in
set_option maxHeartbeats 40000000 in
theorem rmNR40C (l : Launch) (Z : State) (a0 : Array Value) (hw : ∀ d ∈ tables_1, d.before a0 Z = true) (ws : List Jvm.Cond) (p1 : Int32) (p2 : Int32) (p3 : Int32) (p4 : Int32) (cz : Int32) (fm : Value) (h0 : Heap) (n0 : Nat) (Z0 : n0 ≤ h0.size) (hEL : EW Z a0 consts_1) (XO0 : Ext Z.heap h0) (Scs : Sta Z Z.heap "java/lang/String" "COMPACT_STRINGS" "Z" (.int cz)) (hcz : ¬ (cz = (0 : Int32))) (Sfm : Sta Z Z.heap "jdk/internal/util/Preconditions" "SIOOBE_FORMATTER" "Ljava/util/function/BiFunction;" fm) (hfm : fm.isRef = true) (hlo : ¬ (p2 < (0 : Int32))) :
    MetFree l (⟨"pithline/html/ScriptData", "nameRead", "(IIIII)I"⟩ : MethodName) (head1 (Jvm.Cond.code (⟨"pithline/html/ScriptData", "nameRead", "(IIIII)I"⟩ : MethodName) prog_41_method_13_code 6 (some .int) :: ws) ({ frames := 4, cells := 2, slots := 28, locals := 54 } : Room)) (fun a U => a = #[(.int p1), (.int p2), (.int p3), (.int p4), (.int (40 : Int32))] ∧ Z.Warmed39 U.vm ∧ U.heap = h0 ∧ CHv Z consts_1 U.vm h0) (fun _ _ _ _ _ => True) (fun _ U o U' => ∃ v L, o = .returned v ∧ QC (fNR40C p1 p2 p3 p4) (fun vm h => LitS Z "pithline/html/ScriptData" 62 vm h) h0 n0 v U'.heap U'.vm L ∧ CHr Z consts_1 U.vm U.heap U'.vm U'.heap ∧ ReturnedEndW U o U' L ({ frames := 4, cells := 2, slots := 28, locals := 54 } : Room).cells ({ frames := 4, cells := 2, slots := 28, locals := 54 } : Room).slots) := by
  refine MetFree.of_bodySF (plainFor_of_name pn_12) hisR ?_
  intro p e s m args below meth c s₁ Bd hml0 hP hK
  obtain ⟨rfl, hZ, hh, hCH⟩ := hP
  have hx := Bd.exec
  have hby := Bd.bytes
  have hml : c.maxLocals = 6 := hml0
  have hown : (s.setVm s.vm).vm.findClass "pithline/html/ScriptData" = some m.cls := findClass_of_methodNamed Bd.named
  replace hZ : Z.Warmed39 (s.setVm s.vm).vm := hZ
  have X0 : Stand p l e ({ frames := 4, cells := 2, slots := 28, locals := 54 } : Room) (s.setVm s.vm) m #[(.int p1), (.int p2), (.int p3), (.int p4), (.int (40 : Int32))] below meth c s₁ [] 0 0 := Stand.of_body Bd
  have e0 : s₁.heap = h0 := by rw [← hh, Bd.state]; rfl
  have N0 := Fr.nil n0
  have hS0 : s.Since s.vm h0.size := (State.WarmedH.refl s).since _
  have hk0 : h0.size ≤ h0.size := Nat.le_refl _
  have C0 : CHr Z consts_1 s.vm h0 s.vm h0 := CHr.refl hCH
  have EX0 : Ext h0 h0 := ⟨Nat.le_refl _, fun _ _ q => q⟩
  obtain ⟨B, hB, pre0⟩ : ∃ B : State → Prop, (∀ t, B t → Steps p.tables e below (s₁.setTop (entryFrame m #[(.int p1), (.int p2), (.int p3), (.int p4), (.int (40 : Int32))] 6)) t) ∧ ∀ t, SS p e below m s₁ 0 #[iv p1, iv p2, iv p3, iv p4, iv (40 : Int32), .unset] [] t → B t := ⟨_, fun _ q => q, fun t kk => castTop (ef_rmNR40C m p1 p2 p3 p4) kk⟩
  have pre1 : ∀ t, SS p e below m s₁ 1 #[iv p1, iv p2, iv p3, iv p4, iv (40 : Int32), .unset] [(.int p2)] t → B t := fun t kk => pre0 t (by
    show SS p e below m s₁ 0 #[iv p1, iv p2, iv p3, iv p4, iv (40 : Int32), .unset] [] _
    refine XS.iloadN X0.here hx rfl (hb hby d12_0) rfl ?_
    exact kk)
  obtain ⟨a2, T2, h2, k12, b2, kb2, X2, e2, E2, hS2, hk2, hZ2, hown2, Ex2, Fc2, Fv2, Va2, -, -, hC2, hLt2, -, st2⟩ := ldcCH (s := s) (vm0 := s.vm) (EL := consts_1) X0 hx hZ hown (hw _ (List.mem_of_getElem? (i := 59) rfl)) (own_wS hw) e0 hS0 hk0 hEL (List.mem_of_getElem? (i := 0) rfl) C0.1 (vs := own_vs.map Value.int) (z := (6 : Int32)) (own_litB rfl) (by decide) rfl (g := (mkF m 1 #[iv p1, iv p2, iv p3, iv p4, iv (40 : Int32), .unset] [(.int p2)])) rfl (hb hby d12_1) (n := 24) (own_litnB rfl) (by decide) (by decide) (by decide)
  replace hZ := hZ2
  replace hown := hown2
  have C2 := C0.trans hC2
  have Z2 : n0 ≤ h2.size := Nat.le_trans Z0 E2.1
  have XO2 : Ext Z.heap h2 := own_ext XO0 E2
  have EX2 : Ext h0 h2 := own_ext EX0 E2
  have pre3 : ∀ t, SS p e below m T2 3 #[iv p1, iv p2, iv p3, iv p4, iv (40 : Int32), .unset] [(.ref a2), (.int p2)] t → B t := fun t kk => pre1 t (by
    refine st2 _ ?_
    exact kk)
  obtain ⟨cq4, kq4, q4a, q4b, q4c⟩ := isOf hZ e2 Ex2
  obtain ⟨_, _, ⟨T4, L4, k4, n4⟩, -, X4, ⟨Lc4, hQ4, l4, y4, z4⟩, st4⟩ := X2.virtualBack hx (y := (⟨"java/lang/String", "length", "()I"⟩ : MethodName)) (z := (⟨"java/lang/String", "length", "()I"⟩ : MethodName)) hown (mvT hZ (hw _ (List.mem_of_getElem? (i := 60) rfl))) (mvT hZ (hw _ (List.mem_of_getElem? (i := 61) rfl))) (notFace_of_selects (args := #[]) (mvT hZ (hw _ (List.mem_of_getElem? (i := 63) rfl)))) (mvT hZ (hw _ (List.mem_of_getElem? (i := 63) rfl))) (mvT hZ (hw _ (List.mem_of_getElem? (i := 62) rfl))) (by decide) (backOf (W := 1) (rm13 l Z a0 hw [] a2 cz b2 kb2 (6 : Int32) own_vs h2 n0 Z2 (Scs.ext XO2) hcz Fc2 Ex2 Fv2 Va2) hZ (hw _ (List.mem_of_getElem? (i := 64) rfl)) (hw _ (List.mem_of_getElem? (i := 21) rfl)) (by decide) (by decide)) q4a q4c (g := (mkF m 3 #[iv p1, iv p2, iv p3, iv p4, iv (40 : Int32), .unset] [(.ref a2), (.int p2)])) rfl (by rw [hml]; rfl) (Steps.refl _) (argsL := []) (rest := [(.int p2)]) (lenOf pd_8 rfl) rfl (by show 2 * 0 + _ ≤ _; exact Nat.le_of_eq rfl) (hb hby d12_3) (fun _ _ => ⟨rfl, e2, (by decide : 2 + 0 ≤ _), (by decide : 28 + 0 ≤ _)⟩)
  dsimp only [Pt.U, Pt.locs, Pt.cells, Pt.slots] at X4 l4 y4 z4 st4 hQ4
  subst l4 y4 z4
  obtain ⟨rfl, N4q, e4⟩ := hQ4
  have N4 := Fr.app N0 N4q
  have pre5 : ∀ t, SS p e below m T4 6 #[iv p1, iv p2, iv p3, iv p4, iv (40 : Int32), .unset] [(.int (f13 (6 : Int32))), (.int p2)] t → B t := fun t kk => pre3 t (by
    refine st4.trans ?_
    exact kk)
  rw [show f13 (6 : Int32) = (6 : Int32) from by decide] at pre5
  by_cases hc6 : p2 < (6 : Int32)
  · have pre7 : ∀ t, SS p e below m T4 10 #[iv p1, iv p2, iv p3, iv p4, iv (40 : Int32), .unset] [(.int p3)] t → B t := fun t kk => pre5 t (by
      refine XS.icmpNo X4.here hx rfl (hb hby d12_6) rfl (tlt hc6).2.1 ?_
      refine XS.iloadN X4.here hx rfl (hb hby d12_9) rfl ?_
      exact kk)
    obtain ⟨_, _, ⟨T8, L8, k8, n8⟩, -, X8, ⟨Lc8, hQ8, l8, y8, z8⟩, st8⟩ := Jvm.LawKit.callS X4 hx (y := (⟨"pithline/util/Ascii", "lowerCase", "(I)C"⟩ : MethodName)) hown (mvT hZ (hw _ (List.mem_of_getElem? (i := 70) rfl))) (mvT hZ (hw _ (List.mem_of_getElem? (i := 71) rfl))) (mvT hZ (hw _ (List.mem_of_getElem? (i := 72) rfl))) (mvT hZ (hw _ (List.mem_of_getElem? (i := 73) rfl))) (by decide) (backOf (W := 0) (rm15 l Z a0 hw [] p3 h2 n0 Z2 ) hZ (hw _ (List.mem_of_getElem? (i := 73) rfl)) (hw _ (List.mem_of_getElem? (i := 72) rfl)) (by decide) (by decide)) (g := (mkF m 10 #[iv p1, iv p2, iv p3, iv p4, iv (40 : Int32), .unset] [(.int p3)])) rfl (by rw [hml]; rfl) (argsL := [(.int p3)]) (rest := []) (lenOf pd_9 rfl) rfl (by show 2 * 0 + _ ≤ _; exact Nat.le_of_eq rfl) (hb hby d12_10) (fun _ _ => ⟨rfl, e4, (by decide : 2 + 0 ≤ _), (by decide : 28 + 0 ≤ _)⟩)
    dsimp only [Pt.U, Pt.locs, Pt.cells, Pt.slots] at X8 l8 y8 z8 st8 hQ8
    subst l8 y8 z8
    obtain ⟨rfl, N8q, e8⟩ := hQ8
    have N8 := Fr.app N4 N8q
    have pre9 : ∀ t, SS p e below m T8 13 #[iv p1, iv p2, iv p3, iv p4, iv (40 : Int32), .unset] [(.int (f15 p3))] t → B t := fun t kk => pre7 t (by
      refine st8 _ ?_
      exact kk)
    have pre10 : ∀ t, SS p e below m T8 16 #[iv p1, iv p2, iv p3, iv p4, iv (40 : Int32), .unset] [(.int p2), (.ref a2), (.int (f15 p3))] t → B t := fun t kk => pre9 t (by
      refine ldcAgain (s := s) (vm0 := T2.vm) X8 hx hZ hown (hw _ (List.mem_of_getElem? (i := 59) rfl)) hLt2 (g := (mkF m 13 #[iv p1, iv p2, iv p3, iv p4, iv (40 : Int32), .unset] [(.int (f15 p3))])) rfl (hb hby d12_13) _ ?_
      refine XS.iloadN X8.here hx rfl (hb hby d12_15) rfl ?_
      exact kk)
    obtain ⟨cq11, kq11, q11a, q11b, q11c⟩ := isOf hZ e8 Ex2
    obtain ⟨_, _, ⟨T11, L11, k11, n11⟩, -, X11, ⟨Lc11, hQ11, l11, y11, z11⟩, st11⟩ := X8.virtualBack hx (y := (⟨"java/lang/String", "charAt", "(I)C"⟩ : MethodName)) (z := (⟨"java/lang/String", "charAt", "(I)C"⟩ : MethodName)) hown (mvT hZ (hw _ (List.mem_of_getElem? (i := 74) rfl))) (mvT hZ (hw _ (List.mem_of_getElem? (i := 29) rfl))) (notFace_of_selects (args := #[]) (mvT hZ (hw _ (List.mem_of_getElem? (i := 31) rfl)))) (mvT hZ (hw _ (List.mem_of_getElem? (i := 31) rfl))) (mvT hZ (hw _ (List.mem_of_getElem? (i := 30) rfl))) (by decide) (backOf (W := 1) (rm6 l Z a0 hw [] a2 p2 cz fm b2 kb2 (6 : Int32) own_vs h2 n0 Z2 (Scs.ext XO2) hcz (Sfm.ext XO2) hfm Ex2 Fc2 Fv2 Va2 hlo hc6) hZ (hw _ (List.mem_of_getElem? (i := 32) rfl)) (hw _ (List.mem_of_getElem? (i := 21) rfl)) (by decide) (by decide)) q11a q11c (g := (mkF m 16 #[iv p1, iv p2, iv p3, iv p4, iv (40 : Int32), .unset] [(.int p2), (.ref a2), (.int (f15 p3))])) rfl (by rw [hml]; rfl) (Steps.refl _) (argsL := [(.int p2)]) (rest := [(.int (f15 p3))]) (lenOf pd_9 rfl) rfl (by show 2 * 0 + _ ≤ _; exact Nat.le_of_eq rfl) (hb hby d12_16) (fun _ _ => ⟨rfl, e8, (by decide : 2 + 0 ≤ _), (by decide : 28 + 0 ≤ _)⟩)
    dsimp only [Pt.U, Pt.locs, Pt.cells, Pt.slots] at X11 l11 y11 z11 st11 hQ11
    subst l11 y11 z11
    obtain ⟨rfl, N11q, e11⟩ := hQ11
    have N11 := Fr.app N8 N11q
    have pre12 : ∀ t, SS p e below m T11 19 #[iv p1, iv p2, iv p3, iv p4, iv (40 : Int32), .unset] [(.int (f6 p2 own_vs)), (.int (f15 p3))] t → B t := fun t kk => pre10 t (by
      refine st11.trans ?_
      exact kk)
    by_cases hc13 : (f15 p3) = (f6 p2 own_vs)
    · have pre14 : ∀ t, SS p e below m T11 64 #[iv p1, iv p2, iv p3, iv p4, iv (40 : Int32), iv ((p1 + p2) + (1 : Int32))] [(.int ((p1 + p2) + (1 : Int32)))] t → B t := fun t kk => pre12 t (by
        refine XS.icmpNo X11.here hx rfl (hb hby d12_19) rfl (teq hc13).2 ?_
        refine XS.iloadN X11.here hx rfl (hb hby d12_22) rfl ?_
        refine XS.iloadN X11.here hx rfl (hb hby d12_23) rfl ?_
        show SS p e below m T11 24 #[iv p1, iv p2, iv p3, iv p4, iv (40 : Int32), .unset] [(.int p2), (.int p1)] _
        refine XS.iadd X11.here hx rfl (hb hby d12_24) rfl ?_
        refine XS.iconst X11.here hx rfl (hb hby d12_25) ?_
        refine XS.iadd X11.here hx rfl (hb hby d12_26) rfl ?_
        show SS p e below m T11 27 #[iv p1, iv p2, iv p3, iv p4, iv (40 : Int32), .unset] [(.int ((p1 + p2) + (1 : Int32)))] _
        refine XS.istore X11.here hx rfl (hb hby d12_27) rfl (l' := #[iv p1, iv p2, iv p3, iv p4, iv (40 : Int32), iv ((p1 + p2) + (1 : Int32))]) rfl ?_
        refine XS.goto X11.here hx rfl (pc0 := 29) (pc' := 62) rfl (hb hby d12_29) (by decide) (by decide) ?_
        refine XS.iload X11.here hx rfl (hb hby d12_62) rfl ?_
        show SS p e below m T11 64 #[iv p1, iv p2, iv p3, iv p4, iv (40 : Int32), iv ((p1 + p2) + (1 : Int32))] [(.int ((p1 + p2) + (1 : Int32)))] _
        exact kk)
      have CF := C2.trans (CHv.at X11 hZ hEL C2.1)
      obtain ⟨fs, hr, hrun, hended, hRW⟩ := X11.leaveW (s := s) hS2 (by first | exact hk2 | (rw [e11]; exact hk2)) (v := some (.int ((p1 + p2) + (1 : Int32)))) (fun h => by rw [Bd.returns] at h; cases h)
      refine ⟨_, _, hB _ (pre14 _ ?_), hrun, hended, _, _, rfl, ?_, ?_, ⟨hRW.1, hRW.2.1, hRW.2.2.1, hRW.2.2.2.mono (by decide) (by decide)⟩⟩
      · exact retI X11 hx Bd.returns (hb hby d12_64) hr
      · exact ⟨by show _ = some (Value.int (fNR40C p1 p2 p3 p4)); rw [fNR40C, if_pos hc6, if_pos hc13], N11, (by show Ext h0 T11.heap; rw [e11]; exact EX2), (by show LitS Z "pithline/html/ScriptData" 62 T11.vm T11.heap; rw [e11]; exact ⟨a2, b2, kb2, ⟨Lit.stays (s := s) (vm0 := T2.vm) hLt2 X11.warmed.wide, Ex2, Fc2, Fv2, Va2⟩⟩)⟩
      · rw [hh]; show CHr Z consts_1 s.vm h0 T11.vm T11.heap; rw [e11]; exact CF
    · have pre15 : ∀ t, SS p e below m T11 33 #[iv p1, iv p2, iv p3, iv p4, iv (40 : Int32), .unset] [(.int p2)] t → B t := fun t kk => pre12 t (by
        refine XS.icmpYes X11.here hx rfl (pc0 := 19) (pc' := 32) rfl (hb hby d12_19) rfl (feq hc13).2 (by decide) (by decide) ?_
        refine XS.iloadN X11.here hx rfl (hb hby d12_32) rfl ?_
        exact kk)
      have pre16 : ∀ t, SS p e below m T11 35 #[iv p1, iv p2, iv p3, iv p4, iv (40 : Int32), .unset] [(.ref a2), (.int p2)] t → B t := fun t kk => pre15 t (by
        refine ldcAgain (s := s) (vm0 := T2.vm) X11 hx hZ hown (hw _ (List.mem_of_getElem? (i := 59) rfl)) hLt2 (g := (mkF m 33 #[iv p1, iv p2, iv p3, iv p4, iv (40 : Int32), .unset] [(.int p2)])) rfl (hb hby d12_33) _ ?_
        exact kk)
      obtain ⟨cq17, kq17, q17a, q17b, q17c⟩ := isOf hZ e11 Ex2
      obtain ⟨_, _, ⟨T17, L17, k17, n17⟩, -, X17, ⟨Lc17, hQ17, l17, y17, z17⟩, st17⟩ := X11.virtualBack hx (y := (⟨"java/lang/String", "length", "()I"⟩ : MethodName)) (z := (⟨"java/lang/String", "length", "()I"⟩ : MethodName)) hown (mvT hZ (hw _ (List.mem_of_getElem? (i := 60) rfl))) (mvT hZ (hw _ (List.mem_of_getElem? (i := 61) rfl))) (notFace_of_selects (args := #[]) (mvT hZ (hw _ (List.mem_of_getElem? (i := 63) rfl)))) (mvT hZ (hw _ (List.mem_of_getElem? (i := 63) rfl))) (mvT hZ (hw _ (List.mem_of_getElem? (i := 62) rfl))) (by decide) (backOf (W := 1) (rm13 l Z a0 hw [] a2 cz b2 kb2 (6 : Int32) own_vs h2 n0 Z2 (Scs.ext XO2) hcz Fc2 Ex2 Fv2 Va2) hZ (hw _ (List.mem_of_getElem? (i := 64) rfl)) (hw _ (List.mem_of_getElem? (i := 21) rfl)) (by decide) (by decide)) q17a q17c (g := (mkF m 35 #[iv p1, iv p2, iv p3, iv p4, iv (40 : Int32), .unset] [(.ref a2), (.int p2)])) rfl (by rw [hml]; rfl) (Steps.refl _) (argsL := []) (rest := [(.int p2)]) (lenOf pd_8 rfl) rfl (by show 2 * 0 + _ ≤ _; exact Nat.le_of_eq rfl) (hb hby d12_35) (fun _ _ => ⟨rfl, e11, (by decide : 2 + 0 ≤ _), (by decide : 28 + 0 ≤ _)⟩)
      dsimp only [Pt.U, Pt.locs, Pt.cells, Pt.slots] at X17 l17 y17 z17 st17 hQ17
      subst l17 y17 z17
      obtain ⟨rfl, N17q, e17⟩ := hQ17
      have N17 := Fr.app N11 N17q
      have pre18 : ∀ t, SS p e below m T17 38 #[iv p1, iv p2, iv p3, iv p4, iv (40 : Int32), .unset] [(.int (f13 (6 : Int32))), (.int p2)] t → B t := fun t kk => pre16 t (by
        refine st17.trans ?_
        exact kk)
      rw [show f13 (6 : Int32) = (6 : Int32) from by decide] at pre18
      by_cases hc19 : p2 = (6 : Int32)
      · have pre20 : ∀ t, SS p e below m T17 42 #[iv p1, iv p2, iv p3, iv p4, iv (40 : Int32), .unset] [(.int p3)] t → B t := fun t kk => pre18 t (by
          refine XS.icmpNo X17.here hx rfl (hb hby d12_38) rfl (teq hc19).2 ?_
          refine XS.iloadN X17.here hx rfl (hb hby d12_41) rfl ?_
          exact kk)
        obtain ⟨_, _, ⟨T21, L21, k21, n21⟩, -, X21, ⟨Lc21, hQ21, l21, y21, z21⟩, st21⟩ := Jvm.LawKit.callS X17 hx (y := (⟨"pithline/html/ScriptData", "isNameEnd", "(I)Z"⟩ : MethodName)) hown (mvT hZ (hw _ (List.mem_of_getElem? (i := 82) rfl))) (mvT hZ (hw _ (List.mem_of_getElem? (i := 83) rfl))) (mvT hZ (hw _ (List.mem_of_getElem? (i := 5) rfl))) (mvT hZ (hw _ (List.mem_of_getElem? (i := 84) rfl))) (by decide) (backOf (W := 0) (rm18 l Z a0 hw [] p3 h2 n0 Z2 ) hZ (hw _ (List.mem_of_getElem? (i := 84) rfl)) (hw _ (List.mem_of_getElem? (i := 5) rfl)) (by decide) (by decide)) (g := (mkF m 42 #[iv p1, iv p2, iv p3, iv p4, iv (40 : Int32), .unset] [(.int p3)])) rfl (by rw [hml]; rfl) (argsL := [(.int p3)]) (rest := []) (lenOf pd_5 rfl) rfl (by show 2 * 0 + _ ≤ _; exact Nat.le_of_eq rfl) (hb hby d12_42) (fun _ _ => ⟨rfl, e17, (by decide : 2 + 0 ≤ _), (by decide : 28 + 0 ≤ _)⟩)
        dsimp only [Pt.U, Pt.locs, Pt.cells, Pt.slots] at X21 l21 y21 z21 st21 hQ21
        subst l21 y21 z21
        obtain ⟨rfl, N21q, e21⟩ := hQ21
        have N21 := Fr.app N17 N21q
        have pre22 : ∀ t, SS p e below m T21 45 #[iv p1, iv p2, iv p3, iv p4, iv (40 : Int32), .unset] [(.int (f18 p3))] t → B t := fun t kk => pre20 t (by
          refine st21 _ ?_
          exact kk)
        by_cases hc23 : (f18 p3) = (0 : Int32)
        · have pre24 : ∀ t, SS p e below m T21 57 #[iv p1, iv p2, iv p3, iv p4, iv (40 : Int32), .unset] [(.int p3), (.int (40 : Int32))] t → B t := fun t kk => pre22 t (by
            refine XS.ifYes X21.here hx rfl (pc0 := 45) (pc' := 54) rfl (hb hby d12_45) rfl ((if0 _ _).trans (teq hc23).1) (by decide) (by decide) ?_
            refine XS.iload X21.here hx rfl (hb hby d12_54) rfl ?_
            refine XS.iloadN X21.here hx rfl (hb hby d12_56) rfl ?_
            show SS p e below m T21 57 #[iv p1, iv p2, iv p3, iv p4, iv (40 : Int32), .unset] [(.int p3), (.int (40 : Int32))] _
            exact kk)
          obtain ⟨_, _, ⟨T25, L25, k25, n25⟩, -, X25, ⟨Lc25, hQ25, l25, y25, z25⟩, st25⟩ := Jvm.LawKit.callS X21 hx (y := (⟨"pithline/html/ScriptData", "next", "(II)I"⟩ : MethodName)) hown (mvT hZ (hw _ (List.mem_of_getElem? (i := 81) rfl))) (mvT hZ (hw _ (List.mem_of_getElem? (i := 4) rfl))) (mvT hZ (hw _ (List.mem_of_getElem? (i := 5) rfl))) (mvT hZ (hw _ (List.mem_of_getElem? (i := 6) rfl))) (by decide) (backOf (W := 0) (rmN40 l Z a0 hw [] p3 h2 n0 Z2 ) hZ (hw _ (List.mem_of_getElem? (i := 6) rfl)) (hw _ (List.mem_of_getElem? (i := 5) rfl)) (by decide) (by decide)) (g := (mkF m 57 #[iv p1, iv p2, iv p3, iv p4, iv (40 : Int32), .unset] [(.int p3), (.int (40 : Int32))])) rfl (by rw [hml]; rfl) (argsL := [(.int (40 : Int32)), (.int p3)]) (rest := []) (lenOf pd_6 rfl) rfl (by show 2 * 0 + _ ≤ _; exact Nat.le_of_eq rfl) (hb hby d12_57) (fun _ _ => ⟨rfl, e21, (by decide : 2 + 0 ≤ _), (by decide : 28 + 0 ≤ _)⟩)
          dsimp only [Pt.U, Pt.locs, Pt.cells, Pt.slots] at X25 l25 y25 z25 st25 hQ25
          subst l25 y25 z25
          obtain ⟨rfl, N25q, e25⟩ := hQ25
          have N25 := Fr.app N21 N25q
          have pre26 : ∀ t, SS p e below m T25 64 #[iv p1, iv p2, iv p3, iv p4, iv (40 : Int32), iv (fN40 p3)] [(.int (fN40 p3))] t → B t := fun t kk => pre24 t (by
            refine st25 _ ?_
            refine XS.istore X25.here hx rfl (hb hby d12_60) rfl (l' := #[iv p1, iv p2, iv p3, iv p4, iv (40 : Int32), iv (fN40 p3)]) rfl ?_
            refine XS.iload X25.here hx rfl (hb hby d12_62) rfl ?_
            show SS p e below m T25 64 #[iv p1, iv p2, iv p3, iv p4, iv (40 : Int32), iv (fN40 p3)] [(.int (fN40 p3))] _
            exact kk)
          have CF := C2.trans (CHv.at X25 hZ hEL C2.1)
          obtain ⟨fs, hr, hrun, hended, hRW⟩ := X25.leaveW (s := s) hS2 (by first | exact hk2 | (rw [e25]; exact hk2)) (v := some (.int (fN40 p3))) (fun h => by rw [Bd.returns] at h; cases h)
          refine ⟨_, _, hB _ (pre26 _ ?_), hrun, hended, _, _, rfl, ?_, ?_, ⟨hRW.1, hRW.2.1, hRW.2.2.1, hRW.2.2.2.mono (by decide) (by decide)⟩⟩
          · exact retI X25 hx Bd.returns (hb hby d12_64) hr
          · exact ⟨by show _ = some (Value.int (fNR40C p1 p2 p3 p4)); rw [fNR40C, if_pos hc6, if_neg hc13, if_pos hc19, if_pos hc23], N25, (by show Ext h0 T25.heap; rw [e25]; exact EX2), (by show LitS Z "pithline/html/ScriptData" 62 T25.vm T25.heap; rw [e25]; exact ⟨a2, b2, kb2, ⟨Lit.stays (s := s) (vm0 := T2.vm) hLt2 X25.warmed.wide, Ex2, Fc2, Fv2, Va2⟩⟩)⟩
          · rw [hh]; show CHr Z consts_1 s.vm h0 T25.vm T25.heap; rw [e25]; exact CF
        · have pre27 : ∀ t, SS p e below m T21 64 #[iv p1, iv p2, iv p3, iv p4, iv (40 : Int32), iv p4] [(.int p4)] t → B t := fun t kk => pre22 t (by
            refine XS.ifNo X21.here hx rfl (hb hby d12_45) rfl ((if0 _ _).trans (feq hc23).1) ?_
            refine XS.iloadN X21.here hx rfl (hb hby d12_48) rfl ?_
            refine XS.istore X21.here hx rfl (hb hby d12_49) rfl (l' := #[iv p1, iv p2, iv p3, iv p4, iv (40 : Int32), iv p4]) rfl ?_
            show SS p e below m T21 51 #[iv p1, iv p2, iv p3, iv p4, iv (40 : Int32), iv p4] [] _
            refine XS.goto X21.here hx rfl (pc0 := 51) (pc' := 62) rfl (hb hby d12_51) (by decide) (by decide) ?_
            refine XS.iload X21.here hx rfl (hb hby d12_62) rfl ?_
            exact kk)
          have CF := C2.trans (CHv.at X21 hZ hEL C2.1)
          obtain ⟨fs, hr, hrun, hended, hRW⟩ := X21.leaveW (s := s) hS2 (by first | exact hk2 | (rw [e21]; exact hk2)) (v := some (.int p4)) (fun h => by rw [Bd.returns] at h; cases h)
          refine ⟨_, _, hB _ (pre27 _ ?_), hrun, hended, _, _, rfl, ?_, ?_, ⟨hRW.1, hRW.2.1, hRW.2.2.1, hRW.2.2.2.mono (by decide) (by decide)⟩⟩
          · exact retI X21 hx Bd.returns (hb hby d12_64) hr
          · exact ⟨by show _ = some (Value.int (fNR40C p1 p2 p3 p4)); rw [fNR40C, if_pos hc6, if_neg hc13, if_pos hc19, if_neg hc23], N21, (by show Ext h0 T21.heap; rw [e21]; exact EX2), (by show LitS Z "pithline/html/ScriptData" 62 T21.vm T21.heap; rw [e21]; exact ⟨a2, b2, kb2, ⟨Lit.stays (s := s) (vm0 := T2.vm) hLt2 X21.warmed.wide, Ex2, Fc2, Fv2, Va2⟩⟩)⟩
          · rw [hh]; show CHr Z consts_1 s.vm h0 T21.vm T21.heap; rw [e21]; exact CF
      · have pre28 : ∀ t, SS p e below m T17 57 #[iv p1, iv p2, iv p3, iv p4, iv (40 : Int32), .unset] [(.int p3), (.int (40 : Int32))] t → B t := fun t kk => pre18 t (by
          refine XS.icmpYes X17.here hx rfl (pc0 := 38) (pc' := 54) rfl (hb hby d12_38) rfl (feq hc19).2 (by decide) (by decide) ?_
          refine XS.iload X17.here hx rfl (hb hby d12_54) rfl ?_
          refine XS.iloadN X17.here hx rfl (hb hby d12_56) rfl ?_
          show SS p e below m T17 57 #[iv p1, iv p2, iv p3, iv p4, iv (40 : Int32), .unset] [(.int p3), (.int (40 : Int32))] _
          exact kk)
        obtain ⟨_, _, ⟨T29, L29, k29, n29⟩, -, X29, ⟨Lc29, hQ29, l29, y29, z29⟩, st29⟩ := Jvm.LawKit.callS X17 hx (y := (⟨"pithline/html/ScriptData", "next", "(II)I"⟩ : MethodName)) hown (mvT hZ (hw _ (List.mem_of_getElem? (i := 81) rfl))) (mvT hZ (hw _ (List.mem_of_getElem? (i := 4) rfl))) (mvT hZ (hw _ (List.mem_of_getElem? (i := 5) rfl))) (mvT hZ (hw _ (List.mem_of_getElem? (i := 6) rfl))) (by decide) (backOf (W := 0) (rmN40 l Z a0 hw [] p3 h2 n0 Z2 ) hZ (hw _ (List.mem_of_getElem? (i := 6) rfl)) (hw _ (List.mem_of_getElem? (i := 5) rfl)) (by decide) (by decide)) (g := (mkF m 57 #[iv p1, iv p2, iv p3, iv p4, iv (40 : Int32), .unset] [(.int p3), (.int (40 : Int32))])) rfl (by rw [hml]; rfl) (argsL := [(.int (40 : Int32)), (.int p3)]) (rest := []) (lenOf pd_6 rfl) rfl (by show 2 * 0 + _ ≤ _; exact Nat.le_of_eq rfl) (hb hby d12_57) (fun _ _ => ⟨rfl, e17, (by decide : 2 + 0 ≤ _), (by decide : 28 + 0 ≤ _)⟩)
        dsimp only [Pt.U, Pt.locs, Pt.cells, Pt.slots] at X29 l29 y29 z29 st29 hQ29
        subst l29 y29 z29
        obtain ⟨rfl, N29q, e29⟩ := hQ29
        have N29 := Fr.app N17 N29q
        have pre30 : ∀ t, SS p e below m T29 64 #[iv p1, iv p2, iv p3, iv p4, iv (40 : Int32), iv (fN40 p3)] [(.int (fN40 p3))] t → B t := fun t kk => pre28 t (by
          refine st29 _ ?_
          refine XS.istore X29.here hx rfl (hb hby d12_60) rfl (l' := #[iv p1, iv p2, iv p3, iv p4, iv (40 : Int32), iv (fN40 p3)]) rfl ?_
          refine XS.iload X29.here hx rfl (hb hby d12_62) rfl ?_
          show SS p e below m T29 64 #[iv p1, iv p2, iv p3, iv p4, iv (40 : Int32), iv (fN40 p3)] [(.int (fN40 p3))] _
          exact kk)
        have CF := C2.trans (CHv.at X29 hZ hEL C2.1)
        obtain ⟨fs, hr, hrun, hended, hRW⟩ := X29.leaveW (s := s) hS2 (by first | exact hk2 | (rw [e29]; exact hk2)) (v := some (.int (fN40 p3))) (fun h => by rw [Bd.returns] at h; cases h)
        refine ⟨_, _, hB _ (pre30 _ ?_), hrun, hended, _, _, rfl, ?_, ?_, ⟨hRW.1, hRW.2.1, hRW.2.2.1, hRW.2.2.2.mono (by decide) (by decide)⟩⟩
        · exact retI X29 hx Bd.returns (hb hby d12_64) hr
        · exact ⟨by show _ = some (Value.int (fNR40C p1 p2 p3 p4)); rw [fNR40C, if_pos hc6, if_neg hc13, if_neg hc19], N29, (by show Ext h0 T29.heap; rw [e29]; exact EX2), (by show LitS Z "pithline/html/ScriptData" 62 T29.vm T29.heap; rw [e29]; exact ⟨a2, b2, kb2, ⟨Lit.stays (s := s) (vm0 := T2.vm) hLt2 X29.warmed.wide, Ex2, Fc2, Fv2, Va2⟩⟩)⟩
        · rw [hh]; show CHr Z consts_1 s.vm h0 T29.vm T29.heap; rw [e29]; exact CF
  · have pre31 : ∀ t, SS p e below m T4 33 #[iv p1, iv p2, iv p3, iv p4, iv (40 : Int32), .unset] [(.int p2)] t → B t := fun t kk => pre5 t (by
      refine XS.icmpYes X4.here hx rfl (pc0 := 6) (pc' := 32) rfl (hb hby d12_6) rfl (flt hc6).2.1 (by decide) (by decide) ?_
      refine XS.iloadN X4.here hx rfl (hb hby d12_32) rfl ?_
      exact kk)
    have pre32 : ∀ t, SS p e below m T4 35 #[iv p1, iv p2, iv p3, iv p4, iv (40 : Int32), .unset] [(.ref a2), (.int p2)] t → B t := fun t kk => pre31 t (by
      refine ldcAgain (s := s) (vm0 := T2.vm) X4 hx hZ hown (hw _ (List.mem_of_getElem? (i := 59) rfl)) hLt2 (g := (mkF m 33 #[iv p1, iv p2, iv p3, iv p4, iv (40 : Int32), .unset] [(.int p2)])) rfl (hb hby d12_33) _ ?_
      exact kk)
    obtain ⟨cq33, kq33, q33a, q33b, q33c⟩ := isOf hZ e4 Ex2
    obtain ⟨_, _, ⟨T33, L33, k33, n33⟩, -, X33, ⟨Lc33, hQ33, l33, y33, z33⟩, st33⟩ := X4.virtualBack hx (y := (⟨"java/lang/String", "length", "()I"⟩ : MethodName)) (z := (⟨"java/lang/String", "length", "()I"⟩ : MethodName)) hown (mvT hZ (hw _ (List.mem_of_getElem? (i := 60) rfl))) (mvT hZ (hw _ (List.mem_of_getElem? (i := 61) rfl))) (notFace_of_selects (args := #[]) (mvT hZ (hw _ (List.mem_of_getElem? (i := 63) rfl)))) (mvT hZ (hw _ (List.mem_of_getElem? (i := 63) rfl))) (mvT hZ (hw _ (List.mem_of_getElem? (i := 62) rfl))) (by decide) (backOf (W := 1) (rm13 l Z a0 hw [] a2 cz b2 kb2 (6 : Int32) own_vs h2 n0 Z2 (Scs.ext XO2) hcz Fc2 Ex2 Fv2 Va2) hZ (hw _ (List.mem_of_getElem? (i := 64) rfl)) (hw _ (List.mem_of_getElem? (i := 21) rfl)) (by decide) (by decide)) q33a q33c (g := (mkF m 35 #[iv p1, iv p2, iv p3, iv p4, iv (40 : Int32), .unset] [(.ref a2), (.int p2)])) rfl (by rw [hml]; rfl) (Steps.refl _) (argsL := []) (rest := [(.int p2)]) (lenOf pd_8 rfl) rfl (by show 2 * 0 + _ ≤ _; exact Nat.le_of_eq rfl) (hb hby d12_35) (fun _ _ => ⟨rfl, e4, (by decide : 2 + 0 ≤ _), (by decide : 28 + 0 ≤ _)⟩)
    dsimp only [Pt.U, Pt.locs, Pt.cells, Pt.slots] at X33 l33 y33 z33 st33 hQ33
    subst l33 y33 z33
    obtain ⟨rfl, N33q, e33⟩ := hQ33
    have N33 := Fr.app N4 N33q
    have pre34 : ∀ t, SS p e below m T33 38 #[iv p1, iv p2, iv p3, iv p4, iv (40 : Int32), .unset] [(.int (f13 (6 : Int32))), (.int p2)] t → B t := fun t kk => pre32 t (by
      refine st33.trans ?_
      exact kk)
    rw [show f13 (6 : Int32) = (6 : Int32) from by decide] at pre34
    by_cases hc35 : p2 = (6 : Int32)
    · have pre36 : ∀ t, SS p e below m T33 42 #[iv p1, iv p2, iv p3, iv p4, iv (40 : Int32), .unset] [(.int p3)] t → B t := fun t kk => pre34 t (by
        refine XS.icmpNo X33.here hx rfl (hb hby d12_38) rfl (teq hc35).2 ?_
        refine XS.iloadN X33.here hx rfl (hb hby d12_41) rfl ?_
        exact kk)
      obtain ⟨_, _, ⟨T37, L37, k37, n37⟩, -, X37, ⟨Lc37, hQ37, l37, y37, z37⟩, st37⟩ := Jvm.LawKit.callS X33 hx (y := (⟨"pithline/html/ScriptData", "isNameEnd", "(I)Z"⟩ : MethodName)) hown (mvT hZ (hw _ (List.mem_of_getElem? (i := 82) rfl))) (mvT hZ (hw _ (List.mem_of_getElem? (i := 83) rfl))) (mvT hZ (hw _ (List.mem_of_getElem? (i := 5) rfl))) (mvT hZ (hw _ (List.mem_of_getElem? (i := 84) rfl))) (by decide) (backOf (W := 0) (rm18 l Z a0 hw [] p3 h2 n0 Z2 ) hZ (hw _ (List.mem_of_getElem? (i := 84) rfl)) (hw _ (List.mem_of_getElem? (i := 5) rfl)) (by decide) (by decide)) (g := (mkF m 42 #[iv p1, iv p2, iv p3, iv p4, iv (40 : Int32), .unset] [(.int p3)])) rfl (by rw [hml]; rfl) (argsL := [(.int p3)]) (rest := []) (lenOf pd_5 rfl) rfl (by show 2 * 0 + _ ≤ _; exact Nat.le_of_eq rfl) (hb hby d12_42) (fun _ _ => ⟨rfl, e33, (by decide : 2 + 0 ≤ _), (by decide : 28 + 0 ≤ _)⟩)
      dsimp only [Pt.U, Pt.locs, Pt.cells, Pt.slots] at X37 l37 y37 z37 st37 hQ37
      subst l37 y37 z37
      obtain ⟨rfl, N37q, e37⟩ := hQ37
      have N37 := Fr.app N33 N37q
      have pre38 : ∀ t, SS p e below m T37 45 #[iv p1, iv p2, iv p3, iv p4, iv (40 : Int32), .unset] [(.int (f18 p3))] t → B t := fun t kk => pre36 t (by
        refine st37 _ ?_
        exact kk)
      by_cases hc39 : (f18 p3) = (0 : Int32)
      · have pre40 : ∀ t, SS p e below m T37 57 #[iv p1, iv p2, iv p3, iv p4, iv (40 : Int32), .unset] [(.int p3), (.int (40 : Int32))] t → B t := fun t kk => pre38 t (by
          refine XS.ifYes X37.here hx rfl (pc0 := 45) (pc' := 54) rfl (hb hby d12_45) rfl ((if0 _ _).trans (teq hc39).1) (by decide) (by decide) ?_
          refine XS.iload X37.here hx rfl (hb hby d12_54) rfl ?_
          refine XS.iloadN X37.here hx rfl (hb hby d12_56) rfl ?_
          show SS p e below m T37 57 #[iv p1, iv p2, iv p3, iv p4, iv (40 : Int32), .unset] [(.int p3), (.int (40 : Int32))] _
          exact kk)
        obtain ⟨_, _, ⟨T41, L41, k41, n41⟩, -, X41, ⟨Lc41, hQ41, l41, y41, z41⟩, st41⟩ := Jvm.LawKit.callS X37 hx (y := (⟨"pithline/html/ScriptData", "next", "(II)I"⟩ : MethodName)) hown (mvT hZ (hw _ (List.mem_of_getElem? (i := 81) rfl))) (mvT hZ (hw _ (List.mem_of_getElem? (i := 4) rfl))) (mvT hZ (hw _ (List.mem_of_getElem? (i := 5) rfl))) (mvT hZ (hw _ (List.mem_of_getElem? (i := 6) rfl))) (by decide) (backOf (W := 0) (rmN40 l Z a0 hw [] p3 h2 n0 Z2 ) hZ (hw _ (List.mem_of_getElem? (i := 6) rfl)) (hw _ (List.mem_of_getElem? (i := 5) rfl)) (by decide) (by decide)) (g := (mkF m 57 #[iv p1, iv p2, iv p3, iv p4, iv (40 : Int32), .unset] [(.int p3), (.int (40 : Int32))])) rfl (by rw [hml]; rfl) (argsL := [(.int (40 : Int32)), (.int p3)]) (rest := []) (lenOf pd_6 rfl) rfl (by show 2 * 0 + _ ≤ _; exact Nat.le_of_eq rfl) (hb hby d12_57) (fun _ _ => ⟨rfl, e37, (by decide : 2 + 0 ≤ _), (by decide : 28 + 0 ≤ _)⟩)
        dsimp only [Pt.U, Pt.locs, Pt.cells, Pt.slots] at X41 l41 y41 z41 st41 hQ41
        subst l41 y41 z41
        obtain ⟨rfl, N41q, e41⟩ := hQ41
        have N41 := Fr.app N37 N41q
        have pre42 : ∀ t, SS p e below m T41 64 #[iv p1, iv p2, iv p3, iv p4, iv (40 : Int32), iv (fN40 p3)] [(.int (fN40 p3))] t → B t := fun t kk => pre40 t (by
          refine st41 _ ?_
          refine XS.istore X41.here hx rfl (hb hby d12_60) rfl (l' := #[iv p1, iv p2, iv p3, iv p4, iv (40 : Int32), iv (fN40 p3)]) rfl ?_
          refine XS.iload X41.here hx rfl (hb hby d12_62) rfl ?_
          show SS p e below m T41 64 #[iv p1, iv p2, iv p3, iv p4, iv (40 : Int32), iv (fN40 p3)] [(.int (fN40 p3))] _
          exact kk)
        have CF := C2.trans (CHv.at X41 hZ hEL C2.1)
        obtain ⟨fs, hr, hrun, hended, hRW⟩ := X41.leaveW (s := s) hS2 (by first | exact hk2 | (rw [e41]; exact hk2)) (v := some (.int (fN40 p3))) (fun h => by rw [Bd.returns] at h; cases h)
        refine ⟨_, _, hB _ (pre42 _ ?_), hrun, hended, _, _, rfl, ?_, ?_, ⟨hRW.1, hRW.2.1, hRW.2.2.1, hRW.2.2.2.mono (by decide) (by decide)⟩⟩
        · exact retI X41 hx Bd.returns (hb hby d12_64) hr
        · exact ⟨by show _ = some (Value.int (fNR40C p1 p2 p3 p4)); rw [fNR40C, if_neg hc6, if_pos hc35, if_pos hc39], N41, (by show Ext h0 T41.heap; rw [e41]; exact EX2), (by show LitS Z "pithline/html/ScriptData" 62 T41.vm T41.heap; rw [e41]; exact ⟨a2, b2, kb2, ⟨Lit.stays (s := s) (vm0 := T2.vm) hLt2 X41.warmed.wide, Ex2, Fc2, Fv2, Va2⟩⟩)⟩
        · rw [hh]; show CHr Z consts_1 s.vm h0 T41.vm T41.heap; rw [e41]; exact CF
      · have pre43 : ∀ t, SS p e below m T37 64 #[iv p1, iv p2, iv p3, iv p4, iv (40 : Int32), iv p4] [(.int p4)] t → B t := fun t kk => pre38 t (by
          refine XS.ifNo X37.here hx rfl (hb hby d12_45) rfl ((if0 _ _).trans (feq hc39).1) ?_
          refine XS.iloadN X37.here hx rfl (hb hby d12_48) rfl ?_
          refine XS.istore X37.here hx rfl (hb hby d12_49) rfl (l' := #[iv p1, iv p2, iv p3, iv p4, iv (40 : Int32), iv p4]) rfl ?_
          show SS p e below m T37 51 #[iv p1, iv p2, iv p3, iv p4, iv (40 : Int32), iv p4] [] _
          refine XS.goto X37.here hx rfl (pc0 := 51) (pc' := 62) rfl (hb hby d12_51) (by decide) (by decide) ?_
          refine XS.iload X37.here hx rfl (hb hby d12_62) rfl ?_
          exact kk)
        have CF := C2.trans (CHv.at X37 hZ hEL C2.1)
        obtain ⟨fs, hr, hrun, hended, hRW⟩ := X37.leaveW (s := s) hS2 (by first | exact hk2 | (rw [e37]; exact hk2)) (v := some (.int p4)) (fun h => by rw [Bd.returns] at h; cases h)
        refine ⟨_, _, hB _ (pre43 _ ?_), hrun, hended, _, _, rfl, ?_, ?_, ⟨hRW.1, hRW.2.1, hRW.2.2.1, hRW.2.2.2.mono (by decide) (by decide)⟩⟩
        · exact retI X37 hx Bd.returns (hb hby d12_64) hr
        · exact ⟨by show _ = some (Value.int (fNR40C p1 p2 p3 p4)); rw [fNR40C, if_neg hc6, if_pos hc35, if_neg hc39], N37, (by show Ext h0 T37.heap; rw [e37]; exact EX2), (by show LitS Z "pithline/html/ScriptData" 62 T37.vm T37.heap; rw [e37]; exact ⟨a2, b2, kb2, ⟨Lit.stays (s := s) (vm0 := T2.vm) hLt2 X37.warmed.wide, Ex2, Fc2, Fv2, Va2⟩⟩)⟩
        · rw [hh]; show CHr Z consts_1 s.vm h0 T37.vm T37.heap; rw [e37]; exact CF
    · have pre44 : ∀ t, SS p e below m T33 57 #[iv p1, iv p2, iv p3, iv p4, iv (40 : Int32), .unset] [(.int p3), (.int (40 : Int32))] t → B t := fun t kk => pre34 t (by
        refine XS.icmpYes X33.here hx rfl (pc0 := 38) (pc' := 54) rfl (hb hby d12_38) rfl (feq hc35).2 (by decide) (by decide) ?_
        refine XS.iload X33.here hx rfl (hb hby d12_54) rfl ?_
        refine XS.iloadN X33.here hx rfl (hb hby d12_56) rfl ?_
        show SS p e below m T33 57 #[iv p1, iv p2, iv p3, iv p4, iv (40 : Int32), .unset] [(.int p3), (.int (40 : Int32))] _
        exact kk)
      obtain ⟨_, _, ⟨T45, L45, k45, n45⟩, -, X45, ⟨Lc45, hQ45, l45, y45, z45⟩, st45⟩ := Jvm.LawKit.callS X33 hx (y := (⟨"pithline/html/ScriptData", "next", "(II)I"⟩ : MethodName)) hown (mvT hZ (hw _ (List.mem_of_getElem? (i := 81) rfl))) (mvT hZ (hw _ (List.mem_of_getElem? (i := 4) rfl))) (mvT hZ (hw _ (List.mem_of_getElem? (i := 5) rfl))) (mvT hZ (hw _ (List.mem_of_getElem? (i := 6) rfl))) (by decide) (backOf (W := 0) (rmN40 l Z a0 hw [] p3 h2 n0 Z2 ) hZ (hw _ (List.mem_of_getElem? (i := 6) rfl)) (hw _ (List.mem_of_getElem? (i := 5) rfl)) (by decide) (by decide)) (g := (mkF m 57 #[iv p1, iv p2, iv p3, iv p4, iv (40 : Int32), .unset] [(.int p3), (.int (40 : Int32))])) rfl (by rw [hml]; rfl) (argsL := [(.int (40 : Int32)), (.int p3)]) (rest := []) (lenOf pd_6 rfl) rfl (by show 2 * 0 + _ ≤ _; exact Nat.le_of_eq rfl) (hb hby d12_57) (fun _ _ => ⟨rfl, e33, (by decide : 2 + 0 ≤ _), (by decide : 28 + 0 ≤ _)⟩)
      dsimp only [Pt.U, Pt.locs, Pt.cells, Pt.slots] at X45 l45 y45 z45 st45 hQ45
      subst l45 y45 z45
      obtain ⟨rfl, N45q, e45⟩ := hQ45
      have N45 := Fr.app N33 N45q
      have pre46 : ∀ t, SS p e below m T45 64 #[iv p1, iv p2, iv p3, iv p4, iv (40 : Int32), iv (fN40 p3)] [(.int (fN40 p3))] t → B t := fun t kk => pre44 t (by
        refine st45 _ ?_
        refine XS.istore X45.here hx rfl (hb hby d12_60) rfl (l' := #[iv p1, iv p2, iv p3, iv p4, iv (40 : Int32), iv (fN40 p3)]) rfl ?_
        refine XS.iload X45.here hx rfl (hb hby d12_62) rfl ?_
        show SS p e below m T45 64 #[iv p1, iv p2, iv p3, iv p4, iv (40 : Int32), iv (fN40 p3)] [(.int (fN40 p3))] _
        exact kk)
      have CF := C2.trans (CHv.at X45 hZ hEL C2.1)
      obtain ⟨fs, hr, hrun, hended, hRW⟩ := X45.leaveW (s := s) hS2 (by first | exact hk2 | (rw [e45]; exact hk2)) (v := some (.int (fN40 p3))) (fun h => by rw [Bd.returns] at h; cases h)
      refine ⟨_, _, hB _ (pre46 _ ?_), hrun, hended, _, _, rfl, ?_, ?_, ⟨hRW.1, hRW.2.1, hRW.2.2.1, hRW.2.2.2.mono (by decide) (by decide)⟩⟩
      · exact retI X45 hx Bd.returns (hb hby d12_64) hr
      · exact ⟨by show _ = some (Value.int (fNR40C p1 p2 p3 p4)); rw [fNR40C, if_neg hc6, if_neg hc35], N45, (by show Ext h0 T45.heap; rw [e45]; exact EX2), (by show LitS Z "pithline/html/ScriptData" 62 T45.vm T45.heap; rw [e45]; exact ⟨a2, b2, kb2, ⟨Lit.stays (s := s) (vm0 := T2.vm) hLt2 X45.warmed.wide, Ex2, Fc2, Fv2, Va2⟩⟩)⟩
      · rw [hh]; show CHr Z consts_1 s.vm h0 T45.vm T45.heap; rw [e45]; exact CF
theorem ef_rmNR88W (m : MethodId) (p1 : Int32) (p2 : Int32) (p3 : Int32) (p4 : Int32) : entryFrame m #[(.int p1), (.int p2), (.int p3), (.int p4), (.int (88 : Int32))] 6 = mkF m 0 #[iv p1, iv p2, iv p3, iv p4, iv (88 : Int32), .unset] [] := by first | (simp [entryFrame, mkF, argsToLocals, Value.category]; done) | rfl
def fNR88W (p1 : Int32) (p2 : Int32) (p3 : Int32) (p4 : Int32)  : Int32 := (if p2 < (6 : Int32) then (if (f15 p3) = (f6 p2 own_vs) then ((p1 + p2) + (1 : Int32)) else (if p2 = (6 : Int32) then (if (f18 p3) = (0 : Int32) then (fN88 p3) else p4) else (fN88 p3))) else (if p2 = (6 : Int32) then (if (f18 p3) = (0 : Int32) then (fN88 p3) else p4) else (fN88 p3)))
set_option maxRecDepth 65536 in
set_option maxHeartbeats 40000000 in
theorem rmNR88W (l : Launch) (Z : State) (a0 : Array Value) (hw : ∀ d ∈ tables_1, d.before a0 Z = true) (ws : List Jvm.Cond) (p1 : Int32) (p2 : Int32) (p3 : Int32) (p4 : Int32) (cz : Int32) (fm : Value) (aA bA aB bB : Addr) (kA kB : ClassId) (h0 : Heap) (n0 : Nat) (Z0 : n0 ≤ h0.size) (XO0 : Ext Z.heap h0) (Scs : Sta Z Z.heap "java/lang/String" "COMPACT_STRINGS" "Z" (.int cz)) (hcz : ¬ (cz = (0 : Int32))) (Sfm : Sta Z Z.heap "jdk/internal/util/Preconditions" "SIOOBE_FORMATTER" "Ljava/util/function/BiFunction;" fm) (hfm : fm.isRef = true) (EA : Exa Z h0 aA "java/lang/String") (CA : Fld Z h0 aA "java/lang/String" "coder" "B" (.int (0 : Int32))) (UA : Fld Z h0 aA "java/lang/String" "value" "[B" (.ref bA)) (VA : Arv Z h0 bA kA .byte (6 : Int32) (own_vs.map Value.int) (.int (0 : Int32))) (EB : Exa Z h0 aB "java/lang/String") (CB : Fld Z h0 aB "java/lang/String" "coder" "B" (.int (0 : Int32))) (UB : Fld Z h0 aB "java/lang/String" "value" "[B" (.ref bB)) (VB : Arv Z h0 bB kB .byte (6 : Int32) (own_vs.map Value.int) (.int (0 : Int32))) (hlo : ¬ (p2 < (0 : Int32))) :
    MetFree l (⟨"pithline/html/ScriptData", "nameRead", "(IIIII)I"⟩ : MethodName) (head1 (Jvm.Cond.code (⟨"pithline/html/ScriptData", "nameRead", "(IIIII)I"⟩ : MethodName) prog_41_method_13_code 6 (some .int) :: ws) ({ frames := 4, cells := 0, slots := 0, locals := 54 } : Room)) (fun a U => a = #[(.int p1), (.int p2), (.int p3), (.int p4), (.int (88 : Int32))] ∧ Z.Warmed39 U.vm ∧ U.heap = h0 ∧ LW Z aA aB U.vm) (fun _ _ _ _ _ => True) (fun _ U o U' => ∃ v L, o = .returned v ∧ QI (fNR88W p1 p2 p3 p4) h0 n0 v U'.heap L ∧ FrameEnd U o U' L ({ frames := 4, cells := 0, slots := 0, locals := 54 } : Room).cells ({ frames := 4, cells := 0, slots := 0, locals := 54 } : Room).slots) := by
  refine MetFree.of_bodySF (plainFor_of_name pn_12) hisR ?_
  intro p e s m args below meth c s₁ Bd hml0 hP hK
  obtain ⟨rfl, hZ, hh, hLW⟩ := hP
  have hx := Bd.exec
  have hby := Bd.bytes
  have hml : c.maxLocals = 6 := hml0
  have hown : s.vm.findClass "pithline/html/ScriptData" = some m.cls := findClass_of_methodNamed Bd.named
  have hnm := (name_of_methodNamed Bd.named Bd.method).1
  have X0 : Stand p l e ({ frames := 4, cells := 0, slots := 0, locals := 54 } : Room) s m #[(.int p1), (.int p2), (.int p3), (.int p4), (.int (88 : Int32))] below meth c s₁ [] 0 0 := Stand.of_body Bd
  have e0 : s₁.heap = h0 := by rw [← hh, Bd.state]; rfl
  have N0 := Fr.nil n0
  obtain ⟨B, hB, pre0⟩ : ∃ B : State → Prop, (∀ t, B t → Steps p.tables e below (s₁.setTop (entryFrame m #[(.int p1), (.int p2), (.int p3), (.int p4), (.int (88 : Int32))] 6)) t) ∧ ∀ t, SS p e below m s₁ 0 #[iv p1, iv p2, iv p3, iv p4, iv (88 : Int32), .unset] [] t → B t := ⟨_, fun _ q => q, fun t kk => castTop (ef_rmNR88W m p1 p2 p3 p4) kk⟩
  have pre1 : ∀ t, SS p e below m s₁ 1 #[iv p1, iv p2, iv p3, iv p4, iv (88 : Int32), .unset] [(.int p2)] t → B t := fun t kk => pre0 t (by
    show SS p e below m s₁ 0 #[iv p1, iv p2, iv p3, iv p4, iv (88 : Int32), .unset] [] _
    refine XS.iloadN X0.here hx rfl (hb hby d12_0) rfl ?_
    exact kk)
  have pre2 : ∀ t, SS p e below m s₁ 3 #[iv p1, iv p2, iv p3, iv p4, iv (88 : Int32), .unset] [(.ref aB), (.int p2)] t → B t := fun t kk => pre1 t (by
    refine ldcAgain (s := s) (vm0 := s.vm) X0 hx hZ hown (hw _ (List.mem_of_getElem? (i := 59) rfl)) hLW.2 (g := (mkF m 1 #[iv p1, iv p2, iv p3, iv p4, iv (88 : Int32), .unset] [(.int p2)])) rfl (hb hby d12_1) _ ?_
    exact kk)
  obtain ⟨cq3, kq3, q3a, q3b, q3c⟩ := isOf hZ e0 EB
  obtain ⟨_, _, ⟨T3, L3, k3, n3⟩, -, X3, ⟨Lc3, hQ3, l3, y3, z3⟩, st3⟩ := X0.virtualBack hx (y := (⟨"java/lang/String", "length", "()I"⟩ : MethodName)) (z := (⟨"java/lang/String", "length", "()I"⟩ : MethodName)) hown (mvT hZ (hw _ (List.mem_of_getElem? (i := 60) rfl))) (mvT hZ (hw _ (List.mem_of_getElem? (i := 61) rfl))) (notFace_of_selects (args := #[]) (mvT hZ (hw _ (List.mem_of_getElem? (i := 63) rfl)))) (mvT hZ (hw _ (List.mem_of_getElem? (i := 63) rfl))) (mvT hZ (hw _ (List.mem_of_getElem? (i := 62) rfl))) (by decide) (backOf (W := 1) (rm13 l Z a0 hw [] aB cz bB kB (6 : Int32) own_vs h0 n0 Z0 (Scs.ext XO0) hcz CB EB UB VB) hZ (hw _ (List.mem_of_getElem? (i := 64) rfl)) (hw _ (List.mem_of_getElem? (i := 21) rfl)) (by decide) (by decide)) q3a q3c (g := (mkF m 3 #[iv p1, iv p2, iv p3, iv p4, iv (88 : Int32), .unset] [(.ref aB), (.int p2)])) rfl (by rw [hml]; rfl) (Steps.refl _) (argsL := []) (rest := [(.int p2)]) (lenOf pd_8 rfl) rfl (by show 2 * 0 + _ ≤ _; exact Nat.le_of_eq rfl) (hb hby d12_3) (fun _ _ => ⟨rfl, e0, (by decide : 0 + 0 ≤ _), (by decide : 0 + 0 ≤ _)⟩)
  dsimp only [Pt.U, Pt.locs, Pt.cells, Pt.slots] at X3 l3 y3 z3 st3 hQ3
  subst l3 y3 z3
  obtain ⟨rfl, N3q, e3⟩ := hQ3
  have N3 := Fr.app N0 N3q
  have pre4 : ∀ t, SS p e below m T3 6 #[iv p1, iv p2, iv p3, iv p4, iv (88 : Int32), .unset] [(.int (f13 (6 : Int32))), (.int p2)] t → B t := fun t kk => pre2 t (by
    refine st3.trans ?_
    exact kk)
  rw [show f13 (6 : Int32) = (6 : Int32) from by decide] at pre4
  by_cases hc5 : p2 < (6 : Int32)
  · have pre6 : ∀ t, SS p e below m T3 10 #[iv p1, iv p2, iv p3, iv p4, iv (88 : Int32), .unset] [(.int p3)] t → B t := fun t kk => pre4 t (by
      refine XS.icmpNo X3.here hx rfl (hb hby d12_6) rfl (tlt hc5).2.1 ?_
      refine XS.iloadN X3.here hx rfl (hb hby d12_9) rfl ?_
      exact kk)
    obtain ⟨_, _, ⟨T7, L7, k7, n7⟩, -, X7, ⟨Lc7, hQ7, l7, y7, z7⟩, st7⟩ := Jvm.LawKit.callS X3 hx (y := (⟨"pithline/util/Ascii", "lowerCase", "(I)C"⟩ : MethodName)) hown (mvT hZ (hw _ (List.mem_of_getElem? (i := 70) rfl))) (mvT hZ (hw _ (List.mem_of_getElem? (i := 71) rfl))) (mvT hZ (hw _ (List.mem_of_getElem? (i := 72) rfl))) (mvT hZ (hw _ (List.mem_of_getElem? (i := 73) rfl))) (by decide) (backOf (W := 0) (rm15 l Z a0 hw [] p3 h0 n0 Z0 ) hZ (hw _ (List.mem_of_getElem? (i := 73) rfl)) (hw _ (List.mem_of_getElem? (i := 72) rfl)) (by decide) (by decide)) (g := (mkF m 10 #[iv p1, iv p2, iv p3, iv p4, iv (88 : Int32), .unset] [(.int p3)])) rfl (by rw [hml]; rfl) (argsL := [(.int p3)]) (rest := []) (lenOf pd_9 rfl) rfl (by show 2 * 0 + _ ≤ _; exact Nat.le_of_eq rfl) (hb hby d12_10) (fun _ _ => ⟨rfl, e3, (by decide : 0 + 0 ≤ _), (by decide : 0 + 0 ≤ _)⟩)
    dsimp only [Pt.U, Pt.locs, Pt.cells, Pt.slots] at X7 l7 y7 z7 st7 hQ7
    subst l7 y7 z7
    obtain ⟨rfl, N7q, e7⟩ := hQ7
    have N7 := Fr.app N3 N7q
    have pre8 : ∀ t, SS p e below m T7 13 #[iv p1, iv p2, iv p3, iv p4, iv (88 : Int32), .unset] [(.int (f15 p3))] t → B t := fun t kk => pre6 t (by
      refine st7 _ ?_
      exact kk)
    have pre9 : ∀ t, SS p e below m T7 16 #[iv p1, iv p2, iv p3, iv p4, iv (88 : Int32), .unset] [(.int p2), (.ref aB), (.int (f15 p3))] t → B t := fun t kk => pre8 t (by
      refine ldcAgain (s := s) (vm0 := s.vm) X7 hx hZ hown (hw _ (List.mem_of_getElem? (i := 59) rfl)) hLW.2 (g := (mkF m 13 #[iv p1, iv p2, iv p3, iv p4, iv (88 : Int32), .unset] [(.int (f15 p3))])) rfl (hb hby d12_13) _ ?_
      refine XS.iloadN X7.here hx rfl (hb hby d12_15) rfl ?_
      exact kk)
    obtain ⟨cq10, kq10, q10a, q10b, q10c⟩ := isOf hZ e7 EB
    obtain ⟨_, _, ⟨T10, L10, k10, n10⟩, -, X10, ⟨Lc10, hQ10, l10, y10, z10⟩, st10⟩ := X7.virtualBack hx (y := (⟨"java/lang/String", "charAt", "(I)C"⟩ : MethodName)) (z := (⟨"java/lang/String", "charAt", "(I)C"⟩ : MethodName)) hown (mvT hZ (hw _ (List.mem_of_getElem? (i := 74) rfl))) (mvT hZ (hw _ (List.mem_of_getElem? (i := 29) rfl))) (notFace_of_selects (args := #[]) (mvT hZ (hw _ (List.mem_of_getElem? (i := 31) rfl)))) (mvT hZ (hw _ (List.mem_of_getElem? (i := 31) rfl))) (mvT hZ (hw _ (List.mem_of_getElem? (i := 30) rfl))) (by decide) (backOf (W := 1) (rm6 l Z a0 hw [] aB p2 cz fm bB kB (6 : Int32) own_vs h0 n0 Z0 (Scs.ext XO0) hcz (Sfm.ext XO0) hfm EB CB UB VB hlo hc5) hZ (hw _ (List.mem_of_getElem? (i := 32) rfl)) (hw _ (List.mem_of_getElem? (i := 21) rfl)) (by decide) (by decide)) q10a q10c (g := (mkF m 16 #[iv p1, iv p2, iv p3, iv p4, iv (88 : Int32), .unset] [(.int p2), (.ref aB), (.int (f15 p3))])) rfl (by rw [hml]; rfl) (Steps.refl _) (argsL := [(.int p2)]) (rest := [(.int (f15 p3))]) (lenOf pd_9 rfl) rfl (by show 2 * 0 + _ ≤ _; exact Nat.le_of_eq rfl) (hb hby d12_16) (fun _ _ => ⟨rfl, e7, (by decide : 0 + 0 ≤ _), (by decide : 0 + 0 ≤ _)⟩)
    dsimp only [Pt.U, Pt.locs, Pt.cells, Pt.slots] at X10 l10 y10 z10 st10 hQ10
    subst l10 y10 z10
    obtain ⟨rfl, N10q, e10⟩ := hQ10
    have N10 := Fr.app N7 N10q
    have pre11 : ∀ t, SS p e below m T10 19 #[iv p1, iv p2, iv p3, iv p4, iv (88 : Int32), .unset] [(.int (f6 p2 own_vs)), (.int (f15 p3))] t → B t := fun t kk => pre9 t (by
      refine st10.trans ?_
      exact kk)
    by_cases hc12 : (f15 p3) = (f6 p2 own_vs)
    · have pre13 : ∀ t, SS p e below m T10 64 #[iv p1, iv p2, iv p3, iv p4, iv (88 : Int32), iv ((p1 + p2) + (1 : Int32))] [(.int ((p1 + p2) + (1 : Int32)))] t → B t := fun t kk => pre11 t (by
        refine XS.icmpNo X10.here hx rfl (hb hby d12_19) rfl (teq hc12).2 ?_
        refine XS.iloadN X10.here hx rfl (hb hby d12_22) rfl ?_
        refine XS.iloadN X10.here hx rfl (hb hby d12_23) rfl ?_
        show SS p e below m T10 24 #[iv p1, iv p2, iv p3, iv p4, iv (88 : Int32), .unset] [(.int p2), (.int p1)] _
        refine XS.iadd X10.here hx rfl (hb hby d12_24) rfl ?_
        refine XS.iconst X10.here hx rfl (hb hby d12_25) ?_
        refine XS.iadd X10.here hx rfl (hb hby d12_26) rfl ?_
        show SS p e below m T10 27 #[iv p1, iv p2, iv p3, iv p4, iv (88 : Int32), .unset] [(.int ((p1 + p2) + (1 : Int32)))] _
        refine XS.istore X10.here hx rfl (hb hby d12_27) rfl (l' := #[iv p1, iv p2, iv p3, iv p4, iv (88 : Int32), iv ((p1 + p2) + (1 : Int32))]) rfl ?_
        refine XS.goto X10.here hx rfl (pc0 := 29) (pc' := 62) rfl (hb hby d12_29) (by decide) (by decide) ?_
        refine XS.iload X10.here hx rfl (hb hby d12_62) rfl ?_
        show SS p e below m T10 64 #[iv p1, iv p2, iv p3, iv p4, iv (88 : Int32), iv ((p1 + p2) + (1 : Int32))] [(.int ((p1 + p2) + (1 : Int32)))] _
        exact kk)
      obtain ⟨fs, hr, hrun, hended, hW, hsame⟩ := X10.leave (v := some (.int ((p1 + p2) + (1 : Int32)))) (fun h => by rw [Bd.returns] at h; cases h)
      refine ⟨_, _, hB _ (pre13 _ ?_), hrun, hended, _, _, rfl, ?_, ⟨_, rfl⟩, hW, hsame.mono (by decide) (by decide)⟩
      · exact retI X10 hx Bd.returns (hb hby d12_64) hr
      · exact ⟨by show _ = some (Value.int (fNR88W p1 p2 p3 p4)); rw [fNR88W, if_pos hc5, if_pos hc12], N10, e10⟩
    · have pre14 : ∀ t, SS p e below m T10 33 #[iv p1, iv p2, iv p3, iv p4, iv (88 : Int32), .unset] [(.int p2)] t → B t := fun t kk => pre11 t (by
        refine XS.icmpYes X10.here hx rfl (pc0 := 19) (pc' := 32) rfl (hb hby d12_19) rfl (feq hc12).2 (by decide) (by decide) ?_
        refine XS.iloadN X10.here hx rfl (hb hby d12_32) rfl ?_
        exact kk)
      have pre15 : ∀ t, SS p e below m T10 35 #[iv p1, iv p2, iv p3, iv p4, iv (88 : Int32), .unset] [(.ref aB), (.int p2)] t → B t := fun t kk => pre14 t (by
        refine ldcAgain (s := s) (vm0 := s.vm) X10 hx hZ hown (hw _ (List.mem_of_getElem? (i := 59) rfl)) hLW.2 (g := (mkF m 33 #[iv p1, iv p2, iv p3, iv p4, iv (88 : Int32), .unset] [(.int p2)])) rfl (hb hby d12_33) _ ?_
        exact kk)
      obtain ⟨cq16, kq16, q16a, q16b, q16c⟩ := isOf hZ e10 EB
      obtain ⟨_, _, ⟨T16, L16, k16, n16⟩, -, X16, ⟨Lc16, hQ16, l16, y16, z16⟩, st16⟩ := X10.virtualBack hx (y := (⟨"java/lang/String", "length", "()I"⟩ : MethodName)) (z := (⟨"java/lang/String", "length", "()I"⟩ : MethodName)) hown (mvT hZ (hw _ (List.mem_of_getElem? (i := 60) rfl))) (mvT hZ (hw _ (List.mem_of_getElem? (i := 61) rfl))) (notFace_of_selects (args := #[]) (mvT hZ (hw _ (List.mem_of_getElem? (i := 63) rfl)))) (mvT hZ (hw _ (List.mem_of_getElem? (i := 63) rfl))) (mvT hZ (hw _ (List.mem_of_getElem? (i := 62) rfl))) (by decide) (backOf (W := 1) (rm13 l Z a0 hw [] aB cz bB kB (6 : Int32) own_vs h0 n0 Z0 (Scs.ext XO0) hcz CB EB UB VB) hZ (hw _ (List.mem_of_getElem? (i := 64) rfl)) (hw _ (List.mem_of_getElem? (i := 21) rfl)) (by decide) (by decide)) q16a q16c (g := (mkF m 35 #[iv p1, iv p2, iv p3, iv p4, iv (88 : Int32), .unset] [(.ref aB), (.int p2)])) rfl (by rw [hml]; rfl) (Steps.refl _) (argsL := []) (rest := [(.int p2)]) (lenOf pd_8 rfl) rfl (by show 2 * 0 + _ ≤ _; exact Nat.le_of_eq rfl) (hb hby d12_35) (fun _ _ => ⟨rfl, e10, (by decide : 0 + 0 ≤ _), (by decide : 0 + 0 ≤ _)⟩)
      dsimp only [Pt.U, Pt.locs, Pt.cells, Pt.slots] at X16 l16 y16 z16 st16 hQ16
      subst l16 y16 z16
      obtain ⟨rfl, N16q, e16⟩ := hQ16
      have N16 := Fr.app N10 N16q
      have pre17 : ∀ t, SS p e below m T16 38 #[iv p1, iv p2, iv p3, iv p4, iv (88 : Int32), .unset] [(.int (f13 (6 : Int32))), (.int p2)] t → B t := fun t kk => pre15 t (by
        refine st16.trans ?_
        exact kk)
      rw [show f13 (6 : Int32) = (6 : Int32) from by decide] at pre17
      by_cases hc18 : p2 = (6 : Int32)
      · have pre19 : ∀ t, SS p e below m T16 42 #[iv p1, iv p2, iv p3, iv p4, iv (88 : Int32), .unset] [(.int p3)] t → B t := fun t kk => pre17 t (by
          refine XS.icmpNo X16.here hx rfl (hb hby d12_38) rfl (teq hc18).2 ?_
          refine XS.iloadN X16.here hx rfl (hb hby d12_41) rfl ?_
          exact kk)
        obtain ⟨_, _, ⟨T20, L20, k20, n20⟩, -, X20, ⟨Lc20, hQ20, l20, y20, z20⟩, st20⟩ := Jvm.LawKit.callS X16 hx (y := (⟨"pithline/html/ScriptData", "isNameEnd", "(I)Z"⟩ : MethodName)) hown (mvT hZ (hw _ (List.mem_of_getElem? (i := 82) rfl))) (mvT hZ (hw _ (List.mem_of_getElem? (i := 83) rfl))) (mvT hZ (hw _ (List.mem_of_getElem? (i := 5) rfl))) (mvT hZ (hw _ (List.mem_of_getElem? (i := 84) rfl))) (by decide) (backOf (W := 0) (rm18 l Z a0 hw [] p3 h0 n0 Z0 ) hZ (hw _ (List.mem_of_getElem? (i := 84) rfl)) (hw _ (List.mem_of_getElem? (i := 5) rfl)) (by decide) (by decide)) (g := (mkF m 42 #[iv p1, iv p2, iv p3, iv p4, iv (88 : Int32), .unset] [(.int p3)])) rfl (by rw [hml]; rfl) (argsL := [(.int p3)]) (rest := []) (lenOf pd_5 rfl) rfl (by show 2 * 0 + _ ≤ _; exact Nat.le_of_eq rfl) (hb hby d12_42) (fun _ _ => ⟨rfl, e16, (by decide : 0 + 0 ≤ _), (by decide : 0 + 0 ≤ _)⟩)
        dsimp only [Pt.U, Pt.locs, Pt.cells, Pt.slots] at X20 l20 y20 z20 st20 hQ20
        subst l20 y20 z20
        obtain ⟨rfl, N20q, e20⟩ := hQ20
        have N20 := Fr.app N16 N20q
        have pre21 : ∀ t, SS p e below m T20 45 #[iv p1, iv p2, iv p3, iv p4, iv (88 : Int32), .unset] [(.int (f18 p3))] t → B t := fun t kk => pre19 t (by
          refine st20 _ ?_
          exact kk)
        by_cases hc22 : (f18 p3) = (0 : Int32)
        · have pre23 : ∀ t, SS p e below m T20 57 #[iv p1, iv p2, iv p3, iv p4, iv (88 : Int32), .unset] [(.int p3), (.int (88 : Int32))] t → B t := fun t kk => pre21 t (by
            refine XS.ifYes X20.here hx rfl (pc0 := 45) (pc' := 54) rfl (hb hby d12_45) rfl ((if0 _ _).trans (teq hc22).1) (by decide) (by decide) ?_
            refine XS.iload X20.here hx rfl (hb hby d12_54) rfl ?_
            refine XS.iloadN X20.here hx rfl (hb hby d12_56) rfl ?_
            show SS p e below m T20 57 #[iv p1, iv p2, iv p3, iv p4, iv (88 : Int32), .unset] [(.int p3), (.int (88 : Int32))] _
            exact kk)
          obtain ⟨_, _, ⟨T24, L24, k24, n24⟩, -, X24, ⟨Lc24, hQ24, l24, y24, z24⟩, st24⟩ := Jvm.LawKit.callS X20 hx (y := (⟨"pithline/html/ScriptData", "next", "(II)I"⟩ : MethodName)) hown (mvT hZ (hw _ (List.mem_of_getElem? (i := 81) rfl))) (mvT hZ (hw _ (List.mem_of_getElem? (i := 4) rfl))) (mvT hZ (hw _ (List.mem_of_getElem? (i := 5) rfl))) (mvT hZ (hw _ (List.mem_of_getElem? (i := 6) rfl))) (by decide) (backOf (W := 0) (rmN88 l Z a0 hw [] p3 h0 n0 Z0 ) hZ (hw _ (List.mem_of_getElem? (i := 6) rfl)) (hw _ (List.mem_of_getElem? (i := 5) rfl)) (by decide) (by decide)) (g := (mkF m 57 #[iv p1, iv p2, iv p3, iv p4, iv (88 : Int32), .unset] [(.int p3), (.int (88 : Int32))])) rfl (by rw [hml]; rfl) (argsL := [(.int (88 : Int32)), (.int p3)]) (rest := []) (lenOf pd_6 rfl) rfl (by show 2 * 0 + _ ≤ _; exact Nat.le_of_eq rfl) (hb hby d12_57) (fun _ _ => ⟨rfl, e20, (by decide : 0 + 0 ≤ _), (by decide : 0 + 0 ≤ _)⟩)
          dsimp only [Pt.U, Pt.locs, Pt.cells, Pt.slots] at X24 l24 y24 z24 st24 hQ24
          subst l24 y24 z24
          obtain ⟨rfl, N24q, e24⟩ := hQ24
          have N24 := Fr.app N20 N24q
          have pre25 : ∀ t, SS p e below m T24 64 #[iv p1, iv p2, iv p3, iv p4, iv (88 : Int32), iv (fN88 p3)] [(.int (fN88 p3))] t → B t := fun t kk => pre23 t (by
            refine st24 _ ?_
            refine XS.istore X24.here hx rfl (hb hby d12_60) rfl (l' := #[iv p1, iv p2, iv p3, iv p4, iv (88 : Int32), iv (fN88 p3)]) rfl ?_
            refine XS.iload X24.here hx rfl (hb hby d12_62) rfl ?_
            show SS p e below m T24 64 #[iv p1, iv p2, iv p3, iv p4, iv (88 : Int32), iv (fN88 p3)] [(.int (fN88 p3))] _
            exact kk)
          obtain ⟨fs, hr, hrun, hended, hW, hsame⟩ := X24.leave (v := some (.int (fN88 p3))) (fun h => by rw [Bd.returns] at h; cases h)
          refine ⟨_, _, hB _ (pre25 _ ?_), hrun, hended, _, _, rfl, ?_, ⟨_, rfl⟩, hW, hsame.mono (by decide) (by decide)⟩
          · exact retI X24 hx Bd.returns (hb hby d12_64) hr
          · exact ⟨by show _ = some (Value.int (fNR88W p1 p2 p3 p4)); rw [fNR88W, if_pos hc5, if_neg hc12, if_pos hc18, if_pos hc22], N24, e24⟩
        · have pre26 : ∀ t, SS p e below m T20 64 #[iv p1, iv p2, iv p3, iv p4, iv (88 : Int32), iv p4] [(.int p4)] t → B t := fun t kk => pre21 t (by
            refine XS.ifNo X20.here hx rfl (hb hby d12_45) rfl ((if0 _ _).trans (feq hc22).1) ?_
            refine XS.iloadN X20.here hx rfl (hb hby d12_48) rfl ?_
            refine XS.istore X20.here hx rfl (hb hby d12_49) rfl (l' := #[iv p1, iv p2, iv p3, iv p4, iv (88 : Int32), iv p4]) rfl ?_
            show SS p e below m T20 51 #[iv p1, iv p2, iv p3, iv p4, iv (88 : Int32), iv p4] [] _
            refine XS.goto X20.here hx rfl (pc0 := 51) (pc' := 62) rfl (hb hby d12_51) (by decide) (by decide) ?_
            refine XS.iload X20.here hx rfl (hb hby d12_62) rfl ?_
            exact kk)
          obtain ⟨fs, hr, hrun, hended, hW, hsame⟩ := X20.leave (v := some (.int p4)) (fun h => by rw [Bd.returns] at h; cases h)
          refine ⟨_, _, hB _ (pre26 _ ?_), hrun, hended, _, _, rfl, ?_, ⟨_, rfl⟩, hW, hsame.mono (by decide) (by decide)⟩
          · exact retI X20 hx Bd.returns (hb hby d12_64) hr
          · exact ⟨by show _ = some (Value.int (fNR88W p1 p2 p3 p4)); rw [fNR88W, if_pos hc5, if_neg hc12, if_pos hc18, if_neg hc22], N20, e20⟩
      · have pre27 : ∀ t, SS p e below m T16 57 #[iv p1, iv p2, iv p3, iv p4, iv (88 : Int32), .unset] [(.int p3), (.int (88 : Int32))] t → B t := fun t kk => pre17 t (by
          refine XS.icmpYes X16.here hx rfl (pc0 := 38) (pc' := 54) rfl (hb hby d12_38) rfl (feq hc18).2 (by decide) (by decide) ?_
          refine XS.iload X16.here hx rfl (hb hby d12_54) rfl ?_
          refine XS.iloadN X16.here hx rfl (hb hby d12_56) rfl ?_
          show SS p e below m T16 57 #[iv p1, iv p2, iv p3, iv p4, iv (88 : Int32), .unset] [(.int p3), (.int (88 : Int32))] _
          exact kk)
        obtain ⟨_, _, ⟨T28, L28, k28, n28⟩, -, X28, ⟨Lc28, hQ28, l28, y28, z28⟩, st28⟩ := Jvm.LawKit.callS X16 hx (y := (⟨"pithline/html/ScriptData", "next", "(II)I"⟩ : MethodName)) hown (mvT hZ (hw _ (List.mem_of_getElem? (i := 81) rfl))) (mvT hZ (hw _ (List.mem_of_getElem? (i := 4) rfl))) (mvT hZ (hw _ (List.mem_of_getElem? (i := 5) rfl))) (mvT hZ (hw _ (List.mem_of_getElem? (i := 6) rfl))) (by decide) (backOf (W := 0) (rmN88 l Z a0 hw [] p3 h0 n0 Z0 ) hZ (hw _ (List.mem_of_getElem? (i := 6) rfl)) (hw _ (List.mem_of_getElem? (i := 5) rfl)) (by decide) (by decide)) (g := (mkF m 57 #[iv p1, iv p2, iv p3, iv p4, iv (88 : Int32), .unset] [(.int p3), (.int (88 : Int32))])) rfl (by rw [hml]; rfl) (argsL := [(.int (88 : Int32)), (.int p3)]) (rest := []) (lenOf pd_6 rfl) rfl (by show 2 * 0 + _ ≤ _; exact Nat.le_of_eq rfl) (hb hby d12_57) (fun _ _ => ⟨rfl, e16, (by decide : 0 + 0 ≤ _), (by decide : 0 + 0 ≤ _)⟩)
        dsimp only [Pt.U, Pt.locs, Pt.cells, Pt.slots] at X28 l28 y28 z28 st28 hQ28
        subst l28 y28 z28
        obtain ⟨rfl, N28q, e28⟩ := hQ28
        have N28 := Fr.app N16 N28q
        have pre29 : ∀ t, SS p e below m T28 64 #[iv p1, iv p2, iv p3, iv p4, iv (88 : Int32), iv (fN88 p3)] [(.int (fN88 p3))] t → B t := fun t kk => pre27 t (by
          refine st28 _ ?_
          refine XS.istore X28.here hx rfl (hb hby d12_60) rfl (l' := #[iv p1, iv p2, iv p3, iv p4, iv (88 : Int32), iv (fN88 p3)]) rfl ?_
          refine XS.iload X28.here hx rfl (hb hby d12_62) rfl ?_
          show SS p e below m T28 64 #[iv p1, iv p2, iv p3, iv p4, iv (88 : Int32), iv (fN88 p3)] [(.int (fN88 p3))] _
          exact kk)
        obtain ⟨fs, hr, hrun, hended, hW, hsame⟩ := X28.leave (v := some (.int (fN88 p3))) (fun h => by rw [Bd.returns] at h; cases h)
        refine ⟨_, _, hB _ (pre29 _ ?_), hrun, hended, _, _, rfl, ?_, ⟨_, rfl⟩, hW, hsame.mono (by decide) (by decide)⟩
        · exact retI X28 hx Bd.returns (hb hby d12_64) hr
        · exact ⟨by show _ = some (Value.int (fNR88W p1 p2 p3 p4)); rw [fNR88W, if_pos hc5, if_neg hc12, if_neg hc18], N28, e28⟩
  · have pre30 : ∀ t, SS p e below m T3 33 #[iv p1, iv p2, iv p3, iv p4, iv (88 : Int32), .unset] [(.int p2)] t → B t := fun t kk => pre4 t (by
      refine XS.icmpYes X3.here hx rfl (pc0 := 6) (pc' := 32) rfl (hb hby d12_6) rfl (flt hc5).2.1 (by decide) (by decide) ?_
      refine XS.iloadN X3.here hx rfl (hb hby d12_32) rfl ?_
      exact kk)
    have pre31 : ∀ t, SS p e below m T3 35 #[iv p1, iv p2, iv p3, iv p4, iv (88 : Int32), .unset] [(.ref aB), (.int p2)] t → B t := fun t kk => pre30 t (by
      refine ldcAgain (s := s) (vm0 := s.vm) X3 hx hZ hown (hw _ (List.mem_of_getElem? (i := 59) rfl)) hLW.2 (g := (mkF m 33 #[iv p1, iv p2, iv p3, iv p4, iv (88 : Int32), .unset] [(.int p2)])) rfl (hb hby d12_33) _ ?_
      exact kk)
    obtain ⟨cq32, kq32, q32a, q32b, q32c⟩ := isOf hZ e3 EB
    obtain ⟨_, _, ⟨T32, L32, k32, n32⟩, -, X32, ⟨Lc32, hQ32, l32, y32, z32⟩, st32⟩ := X3.virtualBack hx (y := (⟨"java/lang/String", "length", "()I"⟩ : MethodName)) (z := (⟨"java/lang/String", "length", "()I"⟩ : MethodName)) hown (mvT hZ (hw _ (List.mem_of_getElem? (i := 60) rfl))) (mvT hZ (hw _ (List.mem_of_getElem? (i := 61) rfl))) (notFace_of_selects (args := #[]) (mvT hZ (hw _ (List.mem_of_getElem? (i := 63) rfl)))) (mvT hZ (hw _ (List.mem_of_getElem? (i := 63) rfl))) (mvT hZ (hw _ (List.mem_of_getElem? (i := 62) rfl))) (by decide) (backOf (W := 1) (rm13 l Z a0 hw [] aB cz bB kB (6 : Int32) own_vs h0 n0 Z0 (Scs.ext XO0) hcz CB EB UB VB) hZ (hw _ (List.mem_of_getElem? (i := 64) rfl)) (hw _ (List.mem_of_getElem? (i := 21) rfl)) (by decide) (by decide)) q32a q32c (g := (mkF m 35 #[iv p1, iv p2, iv p3, iv p4, iv (88 : Int32), .unset] [(.ref aB), (.int p2)])) rfl (by rw [hml]; rfl) (Steps.refl _) (argsL := []) (rest := [(.int p2)]) (lenOf pd_8 rfl) rfl (by show 2 * 0 + _ ≤ _; exact Nat.le_of_eq rfl) (hb hby d12_35) (fun _ _ => ⟨rfl, e3, (by decide : 0 + 0 ≤ _), (by decide : 0 + 0 ≤ _)⟩)
    dsimp only [Pt.U, Pt.locs, Pt.cells, Pt.slots] at X32 l32 y32 z32 st32 hQ32
    subst l32 y32 z32
    obtain ⟨rfl, N32q, e32⟩ := hQ32
    have N32 := Fr.app N3 N32q
    have pre33 : ∀ t, SS p e below m T32 38 #[iv p1, iv p2, iv p3, iv p4, iv (88 : Int32), .unset] [(.int (f13 (6 : Int32))), (.int p2)] t → B t := fun t kk => pre31 t (by
      refine st32.trans ?_
      exact kk)
    rw [show f13 (6 : Int32) = (6 : Int32) from by decide] at pre33
    by_cases hc34 : p2 = (6 : Int32)
    · have pre35 : ∀ t, SS p e below m T32 42 #[iv p1, iv p2, iv p3, iv p4, iv (88 : Int32), .unset] [(.int p3)] t → B t := fun t kk => pre33 t (by
        refine XS.icmpNo X32.here hx rfl (hb hby d12_38) rfl (teq hc34).2 ?_
        refine XS.iloadN X32.here hx rfl (hb hby d12_41) rfl ?_
        exact kk)
      obtain ⟨_, _, ⟨T36, L36, k36, n36⟩, -, X36, ⟨Lc36, hQ36, l36, y36, z36⟩, st36⟩ := Jvm.LawKit.callS X32 hx (y := (⟨"pithline/html/ScriptData", "isNameEnd", "(I)Z"⟩ : MethodName)) hown (mvT hZ (hw _ (List.mem_of_getElem? (i := 82) rfl))) (mvT hZ (hw _ (List.mem_of_getElem? (i := 83) rfl))) (mvT hZ (hw _ (List.mem_of_getElem? (i := 5) rfl))) (mvT hZ (hw _ (List.mem_of_getElem? (i := 84) rfl))) (by decide) (backOf (W := 0) (rm18 l Z a0 hw [] p3 h0 n0 Z0 ) hZ (hw _ (List.mem_of_getElem? (i := 84) rfl)) (hw _ (List.mem_of_getElem? (i := 5) rfl)) (by decide) (by decide)) (g := (mkF m 42 #[iv p1, iv p2, iv p3, iv p4, iv (88 : Int32), .unset] [(.int p3)])) rfl (by rw [hml]; rfl) (argsL := [(.int p3)]) (rest := []) (lenOf pd_5 rfl) rfl (by show 2 * 0 + _ ≤ _; exact Nat.le_of_eq rfl) (hb hby d12_42) (fun _ _ => ⟨rfl, e32, (by decide : 0 + 0 ≤ _), (by decide : 0 + 0 ≤ _)⟩)
      dsimp only [Pt.U, Pt.locs, Pt.cells, Pt.slots] at X36 l36 y36 z36 st36 hQ36
      subst l36 y36 z36
      obtain ⟨rfl, N36q, e36⟩ := hQ36
      have N36 := Fr.app N32 N36q
      have pre37 : ∀ t, SS p e below m T36 45 #[iv p1, iv p2, iv p3, iv p4, iv (88 : Int32), .unset] [(.int (f18 p3))] t → B t := fun t kk => pre35 t (by
        refine st36 _ ?_
        exact kk)
      by_cases hc38 : (f18 p3) = (0 : Int32)
      · have pre39 : ∀ t, SS p e below m T36 57 #[iv p1, iv p2, iv p3, iv p4, iv (88 : Int32), .unset] [(.int p3), (.int (88 : Int32))] t → B t := fun t kk => pre37 t (by
          refine XS.ifYes X36.here hx rfl (pc0 := 45) (pc' := 54) rfl (hb hby d12_45) rfl ((if0 _ _).trans (teq hc38).1) (by decide) (by decide) ?_
          refine XS.iload X36.here hx rfl (hb hby d12_54) rfl ?_
          refine XS.iloadN X36.here hx rfl (hb hby d12_56) rfl ?_
          show SS p e below m T36 57 #[iv p1, iv p2, iv p3, iv p4, iv (88 : Int32), .unset] [(.int p3), (.int (88 : Int32))] _
          exact kk)
        obtain ⟨_, _, ⟨T40, L40, k40, n40⟩, -, X40, ⟨Lc40, hQ40, l40, y40, z40⟩, st40⟩ := Jvm.LawKit.callS X36 hx (y := (⟨"pithline/html/ScriptData", "next", "(II)I"⟩ : MethodName)) hown (mvT hZ (hw _ (List.mem_of_getElem? (i := 81) rfl))) (mvT hZ (hw _ (List.mem_of_getElem? (i := 4) rfl))) (mvT hZ (hw _ (List.mem_of_getElem? (i := 5) rfl))) (mvT hZ (hw _ (List.mem_of_getElem? (i := 6) rfl))) (by decide) (backOf (W := 0) (rmN88 l Z a0 hw [] p3 h0 n0 Z0 ) hZ (hw _ (List.mem_of_getElem? (i := 6) rfl)) (hw _ (List.mem_of_getElem? (i := 5) rfl)) (by decide) (by decide)) (g := (mkF m 57 #[iv p1, iv p2, iv p3, iv p4, iv (88 : Int32), .unset] [(.int p3), (.int (88 : Int32))])) rfl (by rw [hml]; rfl) (argsL := [(.int (88 : Int32)), (.int p3)]) (rest := []) (lenOf pd_6 rfl) rfl (by show 2 * 0 + _ ≤ _; exact Nat.le_of_eq rfl) (hb hby d12_57) (fun _ _ => ⟨rfl, e36, (by decide : 0 + 0 ≤ _), (by decide : 0 + 0 ≤ _)⟩)
        dsimp only [Pt.U, Pt.locs, Pt.cells, Pt.slots] at X40 l40 y40 z40 st40 hQ40
        subst l40 y40 z40
        obtain ⟨rfl, N40q, e40⟩ := hQ40
        have N40 := Fr.app N36 N40q
        have pre41 : ∀ t, SS p e below m T40 64 #[iv p1, iv p2, iv p3, iv p4, iv (88 : Int32), iv (fN88 p3)] [(.int (fN88 p3))] t → B t := fun t kk => pre39 t (by
          refine st40 _ ?_
          refine XS.istore X40.here hx rfl (hb hby d12_60) rfl (l' := #[iv p1, iv p2, iv p3, iv p4, iv (88 : Int32), iv (fN88 p3)]) rfl ?_
          refine XS.iload X40.here hx rfl (hb hby d12_62) rfl ?_
          show SS p e below m T40 64 #[iv p1, iv p2, iv p3, iv p4, iv (88 : Int32), iv (fN88 p3)] [(.int (fN88 p3))] _
          exact kk)
        obtain ⟨fs, hr, hrun, hended, hW, hsame⟩ := X40.leave (v := some (.int (fN88 p3))) (fun h => by rw [Bd.returns] at h; cases h)
        refine ⟨_, _, hB _ (pre41 _ ?_), hrun, hended, _, _, rfl, ?_, ⟨_, rfl⟩, hW, hsame.mono (by decide) (by decide)⟩
        · exact retI X40 hx Bd.returns (hb hby d12_64) hr
        · exact ⟨by show _ = some (Value.int (fNR88W p1 p2 p3 p4)); rw [fNR88W, if_neg hc5, if_pos hc34, if_pos hc38], N40, e40⟩
      · have pre42 : ∀ t, SS p e below m T36 64 #[iv p1, iv p2, iv p3, iv p4, iv (88 : Int32), iv p4] [(.int p4)] t → B t := fun t kk => pre37 t (by
          refine XS.ifNo X36.here hx rfl (hb hby d12_45) rfl ((if0 _ _).trans (feq hc38).1) ?_
          refine XS.iloadN X36.here hx rfl (hb hby d12_48) rfl ?_
          refine XS.istore X36.here hx rfl (hb hby d12_49) rfl (l' := #[iv p1, iv p2, iv p3, iv p4, iv (88 : Int32), iv p4]) rfl ?_
          show SS p e below m T36 51 #[iv p1, iv p2, iv p3, iv p4, iv (88 : Int32), iv p4] [] _
          refine XS.goto X36.here hx rfl (pc0 := 51) (pc' := 62) rfl (hb hby d12_51) (by decide) (by decide) ?_
          refine XS.iload X36.here hx rfl (hb hby d12_62) rfl ?_
          exact kk)
        obtain ⟨fs, hr, hrun, hended, hW, hsame⟩ := X36.leave (v := some (.int p4)) (fun h => by rw [Bd.returns] at h; cases h)
        refine ⟨_, _, hB _ (pre42 _ ?_), hrun, hended, _, _, rfl, ?_, ⟨_, rfl⟩, hW, hsame.mono (by decide) (by decide)⟩
        · exact retI X36 hx Bd.returns (hb hby d12_64) hr
        · exact ⟨by show _ = some (Value.int (fNR88W p1 p2 p3 p4)); rw [fNR88W, if_neg hc5, if_pos hc34, if_neg hc38], N36, e36⟩
    · have pre43 : ∀ t, SS p e below m T32 57 #[iv p1, iv p2, iv p3, iv p4, iv (88 : Int32), .unset] [(.int p3), (.int (88 : Int32))] t → B t := fun t kk => pre33 t (by
        refine XS.icmpYes X32.here hx rfl (pc0 := 38) (pc' := 54) rfl (hb hby d12_38) rfl (feq hc34).2 (by decide) (by decide) ?_
        refine XS.iload X32.here hx rfl (hb hby d12_54) rfl ?_
        refine XS.iloadN X32.here hx rfl (hb hby d12_56) rfl ?_
        show SS p e below m T32 57 #[iv p1, iv p2, iv p3, iv p4, iv (88 : Int32), .unset] [(.int p3), (.int (88 : Int32))] _
        exact kk)
      obtain ⟨_, _, ⟨T44, L44, k44, n44⟩, -, X44, ⟨Lc44, hQ44, l44, y44, z44⟩, st44⟩ := Jvm.LawKit.callS X32 hx (y := (⟨"pithline/html/ScriptData", "next", "(II)I"⟩ : MethodName)) hown (mvT hZ (hw _ (List.mem_of_getElem? (i := 81) rfl))) (mvT hZ (hw _ (List.mem_of_getElem? (i := 4) rfl))) (mvT hZ (hw _ (List.mem_of_getElem? (i := 5) rfl))) (mvT hZ (hw _ (List.mem_of_getElem? (i := 6) rfl))) (by decide) (backOf (W := 0) (rmN88 l Z a0 hw [] p3 h0 n0 Z0 ) hZ (hw _ (List.mem_of_getElem? (i := 6) rfl)) (hw _ (List.mem_of_getElem? (i := 5) rfl)) (by decide) (by decide)) (g := (mkF m 57 #[iv p1, iv p2, iv p3, iv p4, iv (88 : Int32), .unset] [(.int p3), (.int (88 : Int32))])) rfl (by rw [hml]; rfl) (argsL := [(.int (88 : Int32)), (.int p3)]) (rest := []) (lenOf pd_6 rfl) rfl (by show 2 * 0 + _ ≤ _; exact Nat.le_of_eq rfl) (hb hby d12_57) (fun _ _ => ⟨rfl, e32, (by decide : 0 + 0 ≤ _), (by decide : 0 + 0 ≤ _)⟩)
      dsimp only [Pt.U, Pt.locs, Pt.cells, Pt.slots] at X44 l44 y44 z44 st44 hQ44
      subst l44 y44 z44
      obtain ⟨rfl, N44q, e44⟩ := hQ44
      have N44 := Fr.app N32 N44q
      have pre45 : ∀ t, SS p e below m T44 64 #[iv p1, iv p2, iv p3, iv p4, iv (88 : Int32), iv (fN88 p3)] [(.int (fN88 p3))] t → B t := fun t kk => pre43 t (by
        refine st44 _ ?_
        refine XS.istore X44.here hx rfl (hb hby d12_60) rfl (l' := #[iv p1, iv p2, iv p3, iv p4, iv (88 : Int32), iv (fN88 p3)]) rfl ?_
        refine XS.iload X44.here hx rfl (hb hby d12_62) rfl ?_
        show SS p e below m T44 64 #[iv p1, iv p2, iv p3, iv p4, iv (88 : Int32), iv (fN88 p3)] [(.int (fN88 p3))] _
        exact kk)
      obtain ⟨fs, hr, hrun, hended, hW, hsame⟩ := X44.leave (v := some (.int (fN88 p3))) (fun h => by rw [Bd.returns] at h; cases h)
      refine ⟨_, _, hB _ (pre45 _ ?_), hrun, hended, _, _, rfl, ?_, ⟨_, rfl⟩, hW, hsame.mono (by decide) (by decide)⟩
      · exact retI X44 hx Bd.returns (hb hby d12_64) hr
      · exact ⟨by show _ = some (Value.int (fNR88W p1 p2 p3 p4)); rw [fNR88W, if_neg hc5, if_neg hc34], N44, e44⟩
theorem ef_rmNR88C (m : MethodId) (p1 : Int32) (p2 : Int32) (p3 : Int32) (p4 : Int32) : entryFrame m #[(.int p1), (.int p2), (.int p3), (.int p4), (.int (88 : Int32))] 6 = mkF m 0 #[iv p1, iv p2, iv p3, iv p4, iv (88 : Int32), .unset] [] := by first | (simp [entryFrame, mkF, argsToLocals, Value.category]; done) | rfl
def fNR88C (p1 : Int32) (p2 : Int32) (p3 : Int32) (p4 : Int32)  : Int32 := (if p2 < (6 : Int32) then (if (f15 p3) = (f6 p2 own_vs) then ((p1 + p2) + (1 : Int32)) else (if p2 = (6 : Int32) then (if (f18 p3) = (0 : Int32) then (fN88 p3) else p4) else (fN88 p3))) else (if p2 = (6 : Int32) then (if (f18 p3) = (0 : Int32) then (fN88 p3) else p4) else (fN88 p3)))
set_option maxRecDepth 65536 in
set_option maxHeartbeats 40000000 in
theorem rmNR88C (l : Launch) (Z : State) (a0 : Array Value) (hw : ∀ d ∈ tables_1, d.before a0 Z = true) (ws : List Jvm.Cond) (p1 : Int32) (p2 : Int32) (p3 : Int32) (p4 : Int32) (cz : Int32) (fm : Value) (h0 : Heap) (n0 : Nat) (Z0 : n0 ≤ h0.size) (hEL : EW Z a0 consts_1) (XO0 : Ext Z.heap h0) (Scs : Sta Z Z.heap "java/lang/String" "COMPACT_STRINGS" "Z" (.int cz)) (hcz : ¬ (cz = (0 : Int32))) (Sfm : Sta Z Z.heap "jdk/internal/util/Preconditions" "SIOOBE_FORMATTER" "Ljava/util/function/BiFunction;" fm) (hfm : fm.isRef = true) (hlo : ¬ (p2 < (0 : Int32))) :
    MetFree l (⟨"pithline/html/ScriptData", "nameRead", "(IIIII)I"⟩ : MethodName) (head1 (Jvm.Cond.code (⟨"pithline/html/ScriptData", "nameRead", "(IIIII)I"⟩ : MethodName) prog_41_method_13_code 6 (some .int) :: ws) ({ frames := 4, cells := 2, slots := 28, locals := 54 } : Room)) (fun a U => a = #[(.int p1), (.int p2), (.int p3), (.int p4), (.int (88 : Int32))] ∧ Z.Warmed39 U.vm ∧ U.heap = h0 ∧ CHv Z consts_1 U.vm h0) (fun _ _ _ _ _ => True) (fun _ U o U' => ∃ v L, o = .returned v ∧ QC (fNR88C p1 p2 p3 p4) (fun vm h => LitS Z "pithline/html/ScriptData" 62 vm h) h0 n0 v U'.heap U'.vm L ∧ CHr Z consts_1 U.vm U.heap U'.vm U'.heap ∧ ReturnedEndW U o U' L ({ frames := 4, cells := 2, slots := 28, locals := 54 } : Room).cells ({ frames := 4, cells := 2, slots := 28, locals := 54 } : Room).slots) := by
  refine MetFree.of_bodySF (plainFor_of_name pn_12) hisR ?_
  intro p e s m args below meth c s₁ Bd hml0 hP hK
  obtain ⟨rfl, hZ, hh, hCH⟩ := hP
  have hx := Bd.exec
  have hby := Bd.bytes
  have hml : c.maxLocals = 6 := hml0
  have hown : (s.setVm s.vm).vm.findClass "pithline/html/ScriptData" = some m.cls := findClass_of_methodNamed Bd.named
  replace hZ : Z.Warmed39 (s.setVm s.vm).vm := hZ
  have X0 : Stand p l e ({ frames := 4, cells := 2, slots := 28, locals := 54 } : Room) (s.setVm s.vm) m #[(.int p1), (.int p2), (.int p3), (.int p4), (.int (88 : Int32))] below meth c s₁ [] 0 0 := Stand.of_body Bd
  have e0 : s₁.heap = h0 := by rw [← hh, Bd.state]; rfl
  have N0 := Fr.nil n0
  have hS0 : s.Since s.vm h0.size := (State.WarmedH.refl s).since _
  have hk0 : h0.size ≤ h0.size := Nat.le_refl _
  have C0 : CHr Z consts_1 s.vm h0 s.vm h0 := CHr.refl hCH
  have EX0 : Ext h0 h0 := ⟨Nat.le_refl _, fun _ _ q => q⟩
  obtain ⟨B, hB, pre0⟩ : ∃ B : State → Prop, (∀ t, B t → Steps p.tables e below (s₁.setTop (entryFrame m #[(.int p1), (.int p2), (.int p3), (.int p4), (.int (88 : Int32))] 6)) t) ∧ ∀ t, SS p e below m s₁ 0 #[iv p1, iv p2, iv p3, iv p4, iv (88 : Int32), .unset] [] t → B t := ⟨_, fun _ q => q, fun t kk => castTop (ef_rmNR88C m p1 p2 p3 p4) kk⟩
  have pre1 : ∀ t, SS p e below m s₁ 1 #[iv p1, iv p2, iv p3, iv p4, iv (88 : Int32), .unset] [(.int p2)] t → B t := fun t kk => pre0 t (by
    show SS p e below m s₁ 0 #[iv p1, iv p2, iv p3, iv p4, iv (88 : Int32), .unset] [] _
    refine XS.iloadN X0.here hx rfl (hb hby d12_0) rfl ?_
    exact kk)
  obtain ⟨a2, T2, h2, k12, b2, kb2, X2, e2, E2, hS2, hk2, hZ2, hown2, Ex2, Fc2, Fv2, Va2, -, -, hC2, hLt2, -, st2⟩ := ldcCH (s := s) (vm0 := s.vm) (EL := consts_1) X0 hx hZ hown (hw _ (List.mem_of_getElem? (i := 59) rfl)) (own_wS hw) e0 hS0 hk0 hEL (List.mem_of_getElem? (i := 0) rfl) C0.1 (vs := own_vs.map Value.int) (z := (6 : Int32)) (own_litB rfl) (by decide) rfl (g := (mkF m 1 #[iv p1, iv p2, iv p3, iv p4, iv (88 : Int32), .unset] [(.int p2)])) rfl (hb hby d12_1) (n := 24) (own_litnB rfl) (by decide) (by decide) (by decide)
  replace hZ := hZ2
  replace hown := hown2
  have C2 := C0.trans hC2
  have Z2 : n0 ≤ h2.size := Nat.le_trans Z0 E2.1
  have XO2 : Ext Z.heap h2 := own_ext XO0 E2
  have EX2 : Ext h0 h2 := own_ext EX0 E2
  have pre3 : ∀ t, SS p e below m T2 3 #[iv p1, iv p2, iv p3, iv p4, iv (88 : Int32), .unset] [(.ref a2), (.int p2)] t → B t := fun t kk => pre1 t (by
    refine st2 _ ?_
    exact kk)
  obtain ⟨cq4, kq4, q4a, q4b, q4c⟩ := isOf hZ e2 Ex2
  obtain ⟨_, _, ⟨T4, L4, k4, n4⟩, -, X4, ⟨Lc4, hQ4, l4, y4, z4⟩, st4⟩ := X2.virtualBack hx (y := (⟨"java/lang/String", "length", "()I"⟩ : MethodName)) (z := (⟨"java/lang/String", "length", "()I"⟩ : MethodName)) hown (mvT hZ (hw _ (List.mem_of_getElem? (i := 60) rfl))) (mvT hZ (hw _ (List.mem_of_getElem? (i := 61) rfl))) (notFace_of_selects (args := #[]) (mvT hZ (hw _ (List.mem_of_getElem? (i := 63) rfl)))) (mvT hZ (hw _ (List.mem_of_getElem? (i := 63) rfl))) (mvT hZ (hw _ (List.mem_of_getElem? (i := 62) rfl))) (by decide) (backOf (W := 1) (rm13 l Z a0 hw [] a2 cz b2 kb2 (6 : Int32) own_vs h2 n0 Z2 (Scs.ext XO2) hcz Fc2 Ex2 Fv2 Va2) hZ (hw _ (List.mem_of_getElem? (i := 64) rfl)) (hw _ (List.mem_of_getElem? (i := 21) rfl)) (by decide) (by decide)) q4a q4c (g := (mkF m 3 #[iv p1, iv p2, iv p3, iv p4, iv (88 : Int32), .unset] [(.ref a2), (.int p2)])) rfl (by rw [hml]; rfl) (Steps.refl _) (argsL := []) (rest := [(.int p2)]) (lenOf pd_8 rfl) rfl (by show 2 * 0 + _ ≤ _; exact Nat.le_of_eq rfl) (hb hby d12_3) (fun _ _ => ⟨rfl, e2, (by decide : 2 + 0 ≤ _), (by decide : 28 + 0 ≤ _)⟩)
  dsimp only [Pt.U, Pt.locs, Pt.cells, Pt.slots] at X4 l4 y4 z4 st4 hQ4
  subst l4 y4 z4
  obtain ⟨rfl, N4q, e4⟩ := hQ4
  have N4 := Fr.app N0 N4q
  have pre5 : ∀ t, SS p e below m T4 6 #[iv p1, iv p2, iv p3, iv p4, iv (88 : Int32), .unset] [(.int (f13 (6 : Int32))), (.int p2)] t → B t := fun t kk => pre3 t (by
    refine st4.trans ?_
    exact kk)
  rw [show f13 (6 : Int32) = (6 : Int32) from by decide] at pre5
  by_cases hc6 : p2 < (6 : Int32)
  · have pre7 : ∀ t, SS p e below m T4 10 #[iv p1, iv p2, iv p3, iv p4, iv (88 : Int32), .unset] [(.int p3)] t → B t := fun t kk => pre5 t (by
      refine XS.icmpNo X4.here hx rfl (hb hby d12_6) rfl (tlt hc6).2.1 ?_
      refine XS.iloadN X4.here hx rfl (hb hby d12_9) rfl ?_
      exact kk)
    obtain ⟨_, _, ⟨T8, L8, k8, n8⟩, -, X8, ⟨Lc8, hQ8, l8, y8, z8⟩, st8⟩ := Jvm.LawKit.callS X4 hx (y := (⟨"pithline/util/Ascii", "lowerCase", "(I)C"⟩ : MethodName)) hown (mvT hZ (hw _ (List.mem_of_getElem? (i := 70) rfl))) (mvT hZ (hw _ (List.mem_of_getElem? (i := 71) rfl))) (mvT hZ (hw _ (List.mem_of_getElem? (i := 72) rfl))) (mvT hZ (hw _ (List.mem_of_getElem? (i := 73) rfl))) (by decide) (backOf (W := 0) (rm15 l Z a0 hw [] p3 h2 n0 Z2 ) hZ (hw _ (List.mem_of_getElem? (i := 73) rfl)) (hw _ (List.mem_of_getElem? (i := 72) rfl)) (by decide) (by decide)) (g := (mkF m 10 #[iv p1, iv p2, iv p3, iv p4, iv (88 : Int32), .unset] [(.int p3)])) rfl (by rw [hml]; rfl) (argsL := [(.int p3)]) (rest := []) (lenOf pd_9 rfl) rfl (by show 2 * 0 + _ ≤ _; exact Nat.le_of_eq rfl) (hb hby d12_10) (fun _ _ => ⟨rfl, e4, (by decide : 2 + 0 ≤ _), (by decide : 28 + 0 ≤ _)⟩)
    dsimp only [Pt.U, Pt.locs, Pt.cells, Pt.slots] at X8 l8 y8 z8 st8 hQ8
    subst l8 y8 z8
    obtain ⟨rfl, N8q, e8⟩ := hQ8
    have N8 := Fr.app N4 N8q
    have pre9 : ∀ t, SS p e below m T8 13 #[iv p1, iv p2, iv p3, iv p4, iv (88 : Int32), .unset] [(.int (f15 p3))] t → B t := fun t kk => pre7 t (by
      refine st8 _ ?_
      exact kk)
    have pre10 : ∀ t, SS p e below m T8 16 #[iv p1, iv p2, iv p3, iv p4, iv (88 : Int32), .unset] [(.int p2), (.ref a2), (.int (f15 p3))] t → B t := fun t kk => pre9 t (by
      refine ldcAgain (s := s) (vm0 := T2.vm) X8 hx hZ hown (hw _ (List.mem_of_getElem? (i := 59) rfl)) hLt2 (g := (mkF m 13 #[iv p1, iv p2, iv p3, iv p4, iv (88 : Int32), .unset] [(.int (f15 p3))])) rfl (hb hby d12_13) _ ?_
      refine XS.iloadN X8.here hx rfl (hb hby d12_15) rfl ?_
      exact kk)
    obtain ⟨cq11, kq11, q11a, q11b, q11c⟩ := isOf hZ e8 Ex2
    obtain ⟨_, _, ⟨T11, L11, k11, n11⟩, -, X11, ⟨Lc11, hQ11, l11, y11, z11⟩, st11⟩ := X8.virtualBack hx (y := (⟨"java/lang/String", "charAt", "(I)C"⟩ : MethodName)) (z := (⟨"java/lang/String", "charAt", "(I)C"⟩ : MethodName)) hown (mvT hZ (hw _ (List.mem_of_getElem? (i := 74) rfl))) (mvT hZ (hw _ (List.mem_of_getElem? (i := 29) rfl))) (notFace_of_selects (args := #[]) (mvT hZ (hw _ (List.mem_of_getElem? (i := 31) rfl)))) (mvT hZ (hw _ (List.mem_of_getElem? (i := 31) rfl))) (mvT hZ (hw _ (List.mem_of_getElem? (i := 30) rfl))) (by decide) (backOf (W := 1) (rm6 l Z a0 hw [] a2 p2 cz fm b2 kb2 (6 : Int32) own_vs h2 n0 Z2 (Scs.ext XO2) hcz (Sfm.ext XO2) hfm Ex2 Fc2 Fv2 Va2 hlo hc6) hZ (hw _ (List.mem_of_getElem? (i := 32) rfl)) (hw _ (List.mem_of_getElem? (i := 21) rfl)) (by decide) (by decide)) q11a q11c (g := (mkF m 16 #[iv p1, iv p2, iv p3, iv p4, iv (88 : Int32), .unset] [(.int p2), (.ref a2), (.int (f15 p3))])) rfl (by rw [hml]; rfl) (Steps.refl _) (argsL := [(.int p2)]) (rest := [(.int (f15 p3))]) (lenOf pd_9 rfl) rfl (by show 2 * 0 + _ ≤ _; exact Nat.le_of_eq rfl) (hb hby d12_16) (fun _ _ => ⟨rfl, e8, (by decide : 2 + 0 ≤ _), (by decide : 28 + 0 ≤ _)⟩)
    dsimp only [Pt.U, Pt.locs, Pt.cells, Pt.slots] at X11 l11 y11 z11 st11 hQ11
    subst l11 y11 z11
    obtain ⟨rfl, N11q, e11⟩ := hQ11
    have N11 := Fr.app N8 N11q
    have pre12 : ∀ t, SS p e below m T11 19 #[iv p1, iv p2, iv p3, iv p4, iv (88 : Int32), .unset] [(.int (f6 p2 own_vs)), (.int (f15 p3))] t → B t := fun t kk => pre10 t (by
      refine st11.trans ?_
      exact kk)
    by_cases hc13 : (f15 p3) = (f6 p2 own_vs)
    · have pre14 : ∀ t, SS p e below m T11 64 #[iv p1, iv p2, iv p3, iv p4, iv (88 : Int32), iv ((p1 + p2) + (1 : Int32))] [(.int ((p1 + p2) + (1 : Int32)))] t → B t := fun t kk => pre12 t (by
        refine XS.icmpNo X11.here hx rfl (hb hby d12_19) rfl (teq hc13).2 ?_
        refine XS.iloadN X11.here hx rfl (hb hby d12_22) rfl ?_
        refine XS.iloadN X11.here hx rfl (hb hby d12_23) rfl ?_
        show SS p e below m T11 24 #[iv p1, iv p2, iv p3, iv p4, iv (88 : Int32), .unset] [(.int p2), (.int p1)] _
        refine XS.iadd X11.here hx rfl (hb hby d12_24) rfl ?_
        refine XS.iconst X11.here hx rfl (hb hby d12_25) ?_
        refine XS.iadd X11.here hx rfl (hb hby d12_26) rfl ?_
        show SS p e below m T11 27 #[iv p1, iv p2, iv p3, iv p4, iv (88 : Int32), .unset] [(.int ((p1 + p2) + (1 : Int32)))] _
        refine XS.istore X11.here hx rfl (hb hby d12_27) rfl (l' := #[iv p1, iv p2, iv p3, iv p4, iv (88 : Int32), iv ((p1 + p2) + (1 : Int32))]) rfl ?_
        refine XS.goto X11.here hx rfl (pc0 := 29) (pc' := 62) rfl (hb hby d12_29) (by decide) (by decide) ?_
        refine XS.iload X11.here hx rfl (hb hby d12_62) rfl ?_
        show SS p e below m T11 64 #[iv p1, iv p2, iv p3, iv p4, iv (88 : Int32), iv ((p1 + p2) + (1 : Int32))] [(.int ((p1 + p2) + (1 : Int32)))] _
        exact kk)
      have CF := C2.trans (CHv.at X11 hZ hEL C2.1)
      obtain ⟨fs, hr, hrun, hended, hRW⟩ := X11.leaveW (s := s) hS2 (by first | exact hk2 | (rw [e11]; exact hk2)) (v := some (.int ((p1 + p2) + (1 : Int32)))) (fun h => by rw [Bd.returns] at h; cases h)
      refine ⟨_, _, hB _ (pre14 _ ?_), hrun, hended, _, _, rfl, ?_, ?_, ⟨hRW.1, hRW.2.1, hRW.2.2.1, hRW.2.2.2.mono (by decide) (by decide)⟩⟩
      · exact retI X11 hx Bd.returns (hb hby d12_64) hr
      · exact ⟨by show _ = some (Value.int (fNR88C p1 p2 p3 p4)); rw [fNR88C, if_pos hc6, if_pos hc13], N11, (by show Ext h0 T11.heap; rw [e11]; exact EX2), (by show LitS Z "pithline/html/ScriptData" 62 T11.vm T11.heap; rw [e11]; exact ⟨a2, b2, kb2, ⟨Lit.stays (s := s) (vm0 := T2.vm) hLt2 X11.warmed.wide, Ex2, Fc2, Fv2, Va2⟩⟩)⟩
      · rw [hh]; show CHr Z consts_1 s.vm h0 T11.vm T11.heap; rw [e11]; exact CF
    · have pre15 : ∀ t, SS p e below m T11 33 #[iv p1, iv p2, iv p3, iv p4, iv (88 : Int32), .unset] [(.int p2)] t → B t := fun t kk => pre12 t (by
        refine XS.icmpYes X11.here hx rfl (pc0 := 19) (pc' := 32) rfl (hb hby d12_19) rfl (feq hc13).2 (by decide) (by decide) ?_
        refine XS.iloadN X11.here hx rfl (hb hby d12_32) rfl ?_
        exact kk)
      have pre16 : ∀ t, SS p e below m T11 35 #[iv p1, iv p2, iv p3, iv p4, iv (88 : Int32), .unset] [(.ref a2), (.int p2)] t → B t := fun t kk => pre15 t (by
        refine ldcAgain (s := s) (vm0 := T2.vm) X11 hx hZ hown (hw _ (List.mem_of_getElem? (i := 59) rfl)) hLt2 (g := (mkF m 33 #[iv p1, iv p2, iv p3, iv p4, iv (88 : Int32), .unset] [(.int p2)])) rfl (hb hby d12_33) _ ?_
        exact kk)
      obtain ⟨cq17, kq17, q17a, q17b, q17c⟩ := isOf hZ e11 Ex2
      obtain ⟨_, _, ⟨T17, L17, k17, n17⟩, -, X17, ⟨Lc17, hQ17, l17, y17, z17⟩, st17⟩ := X11.virtualBack hx (y := (⟨"java/lang/String", "length", "()I"⟩ : MethodName)) (z := (⟨"java/lang/String", "length", "()I"⟩ : MethodName)) hown (mvT hZ (hw _ (List.mem_of_getElem? (i := 60) rfl))) (mvT hZ (hw _ (List.mem_of_getElem? (i := 61) rfl))) (notFace_of_selects (args := #[]) (mvT hZ (hw _ (List.mem_of_getElem? (i := 63) rfl)))) (mvT hZ (hw _ (List.mem_of_getElem? (i := 63) rfl))) (mvT hZ (hw _ (List.mem_of_getElem? (i := 62) rfl))) (by decide) (backOf (W := 1) (rm13 l Z a0 hw [] a2 cz b2 kb2 (6 : Int32) own_vs h2 n0 Z2 (Scs.ext XO2) hcz Fc2 Ex2 Fv2 Va2) hZ (hw _ (List.mem_of_getElem? (i := 64) rfl)) (hw _ (List.mem_of_getElem? (i := 21) rfl)) (by decide) (by decide)) q17a q17c (g := (mkF m 35 #[iv p1, iv p2, iv p3, iv p4, iv (88 : Int32), .unset] [(.ref a2), (.int p2)])) rfl (by rw [hml]; rfl) (Steps.refl _) (argsL := []) (rest := [(.int p2)]) (lenOf pd_8 rfl) rfl (by show 2 * 0 + _ ≤ _; exact Nat.le_of_eq rfl) (hb hby d12_35) (fun _ _ => ⟨rfl, e11, (by decide : 2 + 0 ≤ _), (by decide : 28 + 0 ≤ _)⟩)
      dsimp only [Pt.U, Pt.locs, Pt.cells, Pt.slots] at X17 l17 y17 z17 st17 hQ17
      subst l17 y17 z17
      obtain ⟨rfl, N17q, e17⟩ := hQ17
      have N17 := Fr.app N11 N17q
      have pre18 : ∀ t, SS p e below m T17 38 #[iv p1, iv p2, iv p3, iv p4, iv (88 : Int32), .unset] [(.int (f13 (6 : Int32))), (.int p2)] t → B t := fun t kk => pre16 t (by
        refine st17.trans ?_
        exact kk)
      rw [show f13 (6 : Int32) = (6 : Int32) from by decide] at pre18
      by_cases hc19 : p2 = (6 : Int32)
      · have pre20 : ∀ t, SS p e below m T17 42 #[iv p1, iv p2, iv p3, iv p4, iv (88 : Int32), .unset] [(.int p3)] t → B t := fun t kk => pre18 t (by
          refine XS.icmpNo X17.here hx rfl (hb hby d12_38) rfl (teq hc19).2 ?_
          refine XS.iloadN X17.here hx rfl (hb hby d12_41) rfl ?_
          exact kk)
        obtain ⟨_, _, ⟨T21, L21, k21, n21⟩, -, X21, ⟨Lc21, hQ21, l21, y21, z21⟩, st21⟩ := Jvm.LawKit.callS X17 hx (y := (⟨"pithline/html/ScriptData", "isNameEnd", "(I)Z"⟩ : MethodName)) hown (mvT hZ (hw _ (List.mem_of_getElem? (i := 82) rfl))) (mvT hZ (hw _ (List.mem_of_getElem? (i := 83) rfl))) (mvT hZ (hw _ (List.mem_of_getElem? (i := 5) rfl))) (mvT hZ (hw _ (List.mem_of_getElem? (i := 84) rfl))) (by decide) (backOf (W := 0) (rm18 l Z a0 hw [] p3 h2 n0 Z2 ) hZ (hw _ (List.mem_of_getElem? (i := 84) rfl)) (hw _ (List.mem_of_getElem? (i := 5) rfl)) (by decide) (by decide)) (g := (mkF m 42 #[iv p1, iv p2, iv p3, iv p4, iv (88 : Int32), .unset] [(.int p3)])) rfl (by rw [hml]; rfl) (argsL := [(.int p3)]) (rest := []) (lenOf pd_5 rfl) rfl (by show 2 * 0 + _ ≤ _; exact Nat.le_of_eq rfl) (hb hby d12_42) (fun _ _ => ⟨rfl, e17, (by decide : 2 + 0 ≤ _), (by decide : 28 + 0 ≤ _)⟩)
        dsimp only [Pt.U, Pt.locs, Pt.cells, Pt.slots] at X21 l21 y21 z21 st21 hQ21
        subst l21 y21 z21
        obtain ⟨rfl, N21q, e21⟩ := hQ21
        have N21 := Fr.app N17 N21q
        have pre22 : ∀ t, SS p e below m T21 45 #[iv p1, iv p2, iv p3, iv p4, iv (88 : Int32), .unset] [(.int (f18 p3))] t → B t := fun t kk => pre20 t (by
          refine st21 _ ?_
          exact kk)
        by_cases hc23 : (f18 p3) = (0 : Int32)
        · have pre24 : ∀ t, SS p e below m T21 57 #[iv p1, iv p2, iv p3, iv p4, iv (88 : Int32), .unset] [(.int p3), (.int (88 : Int32))] t → B t := fun t kk => pre22 t (by
            refine XS.ifYes X21.here hx rfl (pc0 := 45) (pc' := 54) rfl (hb hby d12_45) rfl ((if0 _ _).trans (teq hc23).1) (by decide) (by decide) ?_
            refine XS.iload X21.here hx rfl (hb hby d12_54) rfl ?_
            refine XS.iloadN X21.here hx rfl (hb hby d12_56) rfl ?_
            show SS p e below m T21 57 #[iv p1, iv p2, iv p3, iv p4, iv (88 : Int32), .unset] [(.int p3), (.int (88 : Int32))] _
            exact kk)
          obtain ⟨_, _, ⟨T25, L25, k25, n25⟩, -, X25, ⟨Lc25, hQ25, l25, y25, z25⟩, st25⟩ := Jvm.LawKit.callS X21 hx (y := (⟨"pithline/html/ScriptData", "next", "(II)I"⟩ : MethodName)) hown (mvT hZ (hw _ (List.mem_of_getElem? (i := 81) rfl))) (mvT hZ (hw _ (List.mem_of_getElem? (i := 4) rfl))) (mvT hZ (hw _ (List.mem_of_getElem? (i := 5) rfl))) (mvT hZ (hw _ (List.mem_of_getElem? (i := 6) rfl))) (by decide) (backOf (W := 0) (rmN88 l Z a0 hw [] p3 h2 n0 Z2 ) hZ (hw _ (List.mem_of_getElem? (i := 6) rfl)) (hw _ (List.mem_of_getElem? (i := 5) rfl)) (by decide) (by decide)) (g := (mkF m 57 #[iv p1, iv p2, iv p3, iv p4, iv (88 : Int32), .unset] [(.int p3), (.int (88 : Int32))])) rfl (by rw [hml]; rfl) (argsL := [(.int (88 : Int32)), (.int p3)]) (rest := []) (lenOf pd_6 rfl) rfl (by show 2 * 0 + _ ≤ _; exact Nat.le_of_eq rfl) (hb hby d12_57) (fun _ _ => ⟨rfl, e21, (by decide : 2 + 0 ≤ _), (by decide : 28 + 0 ≤ _)⟩)
          dsimp only [Pt.U, Pt.locs, Pt.cells, Pt.slots] at X25 l25 y25 z25 st25 hQ25
          subst l25 y25 z25
          obtain ⟨rfl, N25q, e25⟩ := hQ25
          have N25 := Fr.app N21 N25q
          have pre26 : ∀ t, SS p e below m T25 64 #[iv p1, iv p2, iv p3, iv p4, iv (88 : Int32), iv (fN88 p3)] [(.int (fN88 p3))] t → B t := fun t kk => pre24 t (by
            refine st25 _ ?_
            refine XS.istore X25.here hx rfl (hb hby d12_60) rfl (l' := #[iv p1, iv p2, iv p3, iv p4, iv (88 : Int32), iv (fN88 p3)]) rfl ?_
            refine XS.iload X25.here hx rfl (hb hby d12_62) rfl ?_
            show SS p e below m T25 64 #[iv p1, iv p2, iv p3, iv p4, iv (88 : Int32), iv (fN88 p3)] [(.int (fN88 p3))] _
            exact kk)
          have CF := C2.trans (CHv.at X25 hZ hEL C2.1)
          obtain ⟨fs, hr, hrun, hended, hRW⟩ := X25.leaveW (s := s) hS2 (by first | exact hk2 | (rw [e25]; exact hk2)) (v := some (.int (fN88 p3))) (fun h => by rw [Bd.returns] at h; cases h)
          refine ⟨_, _, hB _ (pre26 _ ?_), hrun, hended, _, _, rfl, ?_, ?_, ⟨hRW.1, hRW.2.1, hRW.2.2.1, hRW.2.2.2.mono (by decide) (by decide)⟩⟩
          · exact retI X25 hx Bd.returns (hb hby d12_64) hr
          · exact ⟨by show _ = some (Value.int (fNR88C p1 p2 p3 p4)); rw [fNR88C, if_pos hc6, if_neg hc13, if_pos hc19, if_pos hc23], N25, (by show Ext h0 T25.heap; rw [e25]; exact EX2), (by show LitS Z "pithline/html/ScriptData" 62 T25.vm T25.heap; rw [e25]; exact ⟨a2, b2, kb2, ⟨Lit.stays (s := s) (vm0 := T2.vm) hLt2 X25.warmed.wide, Ex2, Fc2, Fv2, Va2⟩⟩)⟩
          · rw [hh]; show CHr Z consts_1 s.vm h0 T25.vm T25.heap; rw [e25]; exact CF
        · have pre27 : ∀ t, SS p e below m T21 64 #[iv p1, iv p2, iv p3, iv p4, iv (88 : Int32), iv p4] [(.int p4)] t → B t := fun t kk => pre22 t (by
            refine XS.ifNo X21.here hx rfl (hb hby d12_45) rfl ((if0 _ _).trans (feq hc23).1) ?_
            refine XS.iloadN X21.here hx rfl (hb hby d12_48) rfl ?_
            refine XS.istore X21.here hx rfl (hb hby d12_49) rfl (l' := #[iv p1, iv p2, iv p3, iv p4, iv (88 : Int32), iv p4]) rfl ?_
            show SS p e below m T21 51 #[iv p1, iv p2, iv p3, iv p4, iv (88 : Int32), iv p4] [] _
            refine XS.goto X21.here hx rfl (pc0 := 51) (pc' := 62) rfl (hb hby d12_51) (by decide) (by decide) ?_
            refine XS.iload X21.here hx rfl (hb hby d12_62) rfl ?_
            exact kk)
          have CF := C2.trans (CHv.at X21 hZ hEL C2.1)
          obtain ⟨fs, hr, hrun, hended, hRW⟩ := X21.leaveW (s := s) hS2 (by first | exact hk2 | (rw [e21]; exact hk2)) (v := some (.int p4)) (fun h => by rw [Bd.returns] at h; cases h)
          refine ⟨_, _, hB _ (pre27 _ ?_), hrun, hended, _, _, rfl, ?_, ?_, ⟨hRW.1, hRW.2.1, hRW.2.2.1, hRW.2.2.2.mono (by decide) (by decide)⟩⟩
          · exact retI X21 hx Bd.returns (hb hby d12_64) hr
          · exact ⟨by show _ = some (Value.int (fNR88C p1 p2 p3 p4)); rw [fNR88C, if_pos hc6, if_neg hc13, if_pos hc19, if_neg hc23], N21, (by show Ext h0 T21.heap; rw [e21]; exact EX2), (by show LitS Z "pithline/html/ScriptData" 62 T21.vm T21.heap; rw [e21]; exact ⟨a2, b2, kb2, ⟨Lit.stays (s := s) (vm0 := T2.vm) hLt2 X21.warmed.wide, Ex2, Fc2, Fv2, Va2⟩⟩)⟩
          · rw [hh]; show CHr Z consts_1 s.vm h0 T21.vm T21.heap; rw [e21]; exact CF
      · have pre28 : ∀ t, SS p e below m T17 57 #[iv p1, iv p2, iv p3, iv p4, iv (88 : Int32), .unset] [(.int p3), (.int (88 : Int32))] t → B t := fun t kk => pre18 t (by
          refine XS.icmpYes X17.here hx rfl (pc0 := 38) (pc' := 54) rfl (hb hby d12_38) rfl (feq hc19).2 (by decide) (by decide) ?_
          refine XS.iload X17.here hx rfl (hb hby d12_54) rfl ?_
          refine XS.iloadN X17.here hx rfl (hb hby d12_56) rfl ?_
          show SS p e below m T17 57 #[iv p1, iv p2, iv p3, iv p4, iv (88 : Int32), .unset] [(.int p3), (.int (88 : Int32))] _
          exact kk)
        obtain ⟨_, _, ⟨T29, L29, k29, n29⟩, -, X29, ⟨Lc29, hQ29, l29, y29, z29⟩, st29⟩ := Jvm.LawKit.callS X17 hx (y := (⟨"pithline/html/ScriptData", "next", "(II)I"⟩ : MethodName)) hown (mvT hZ (hw _ (List.mem_of_getElem? (i := 81) rfl))) (mvT hZ (hw _ (List.mem_of_getElem? (i := 4) rfl))) (mvT hZ (hw _ (List.mem_of_getElem? (i := 5) rfl))) (mvT hZ (hw _ (List.mem_of_getElem? (i := 6) rfl))) (by decide) (backOf (W := 0) (rmN88 l Z a0 hw [] p3 h2 n0 Z2 ) hZ (hw _ (List.mem_of_getElem? (i := 6) rfl)) (hw _ (List.mem_of_getElem? (i := 5) rfl)) (by decide) (by decide)) (g := (mkF m 57 #[iv p1, iv p2, iv p3, iv p4, iv (88 : Int32), .unset] [(.int p3), (.int (88 : Int32))])) rfl (by rw [hml]; rfl) (argsL := [(.int (88 : Int32)), (.int p3)]) (rest := []) (lenOf pd_6 rfl) rfl (by show 2 * 0 + _ ≤ _; exact Nat.le_of_eq rfl) (hb hby d12_57) (fun _ _ => ⟨rfl, e17, (by decide : 2 + 0 ≤ _), (by decide : 28 + 0 ≤ _)⟩)
        dsimp only [Pt.U, Pt.locs, Pt.cells, Pt.slots] at X29 l29 y29 z29 st29 hQ29
        subst l29 y29 z29
        obtain ⟨rfl, N29q, e29⟩ := hQ29
        have N29 := Fr.app N17 N29q
        have pre30 : ∀ t, SS p e below m T29 64 #[iv p1, iv p2, iv p3, iv p4, iv (88 : Int32), iv (fN88 p3)] [(.int (fN88 p3))] t → B t := fun t kk => pre28 t (by
          refine st29 _ ?_
          refine XS.istore X29.here hx rfl (hb hby d12_60) rfl (l' := #[iv p1, iv p2, iv p3, iv p4, iv (88 : Int32), iv (fN88 p3)]) rfl ?_
          refine XS.iload X29.here hx rfl (hb hby d12_62) rfl ?_
          show SS p e below m T29 64 #[iv p1, iv p2, iv p3, iv p4, iv (88 : Int32), iv (fN88 p3)] [(.int (fN88 p3))] _
          exact kk)
        have CF := C2.trans (CHv.at X29 hZ hEL C2.1)
        obtain ⟨fs, hr, hrun, hended, hRW⟩ := X29.leaveW (s := s) hS2 (by first | exact hk2 | (rw [e29]; exact hk2)) (v := some (.int (fN88 p3))) (fun h => by rw [Bd.returns] at h; cases h)
        refine ⟨_, _, hB _ (pre30 _ ?_), hrun, hended, _, _, rfl, ?_, ?_, ⟨hRW.1, hRW.2.1, hRW.2.2.1, hRW.2.2.2.mono (by decide) (by decide)⟩⟩
        · exact retI X29 hx Bd.returns (hb hby d12_64) hr
        · exact ⟨by show _ = some (Value.int (fNR88C p1 p2 p3 p4)); rw [fNR88C, if_pos hc6, if_neg hc13, if_neg hc19], N29, (by show Ext h0 T29.heap; rw [e29]; exact EX2), (by show LitS Z "pithline/html/ScriptData" 62 T29.vm T29.heap; rw [e29]; exact ⟨a2, b2, kb2, ⟨Lit.stays (s := s) (vm0 := T2.vm) hLt2 X29.warmed.wide, Ex2, Fc2, Fv2, Va2⟩⟩)⟩
        · rw [hh]; show CHr Z consts_1 s.vm h0 T29.vm T29.heap; rw [e29]; exact CF
  · have pre31 : ∀ t, SS p e below m T4 33 #[iv p1, iv p2, iv p3, iv p4, iv (88 : Int32), .unset] [(.int p2)] t → B t := fun t kk => pre5 t (by
      refine XS.icmpYes X4.here hx rfl (pc0 := 6) (pc' := 32) rfl (hb hby d12_6) rfl (flt hc6).2.1 (by decide) (by decide) ?_
      refine XS.iloadN X4.here hx rfl (hb hby d12_32) rfl ?_
      exact kk)
    have pre32 : ∀ t, SS p e below m T4 35 #[iv p1, iv p2, iv p3, iv p4, iv (88 : Int32), .unset] [(.ref a2), (.int p2)] t → B t := fun t kk => pre31 t (by
      refine ldcAgain (s := s) (vm0 := T2.vm) X4 hx hZ hown (hw _ (List.mem_of_getElem? (i := 59) rfl)) hLt2 (g := (mkF m 33 #[iv p1, iv p2, iv p3, iv p4, iv (88 : Int32), .unset] [(.int p2)])) rfl (hb hby d12_33) _ ?_
      exact kk)
    obtain ⟨cq33, kq33, q33a, q33b, q33c⟩ := isOf hZ e4 Ex2
    obtain ⟨_, _, ⟨T33, L33, k33, n33⟩, -, X33, ⟨Lc33, hQ33, l33, y33, z33⟩, st33⟩ := X4.virtualBack hx (y := (⟨"java/lang/String", "length", "()I"⟩ : MethodName)) (z := (⟨"java/lang/String", "length", "()I"⟩ : MethodName)) hown (mvT hZ (hw _ (List.mem_of_getElem? (i := 60) rfl))) (mvT hZ (hw _ (List.mem_of_getElem? (i := 61) rfl))) (notFace_of_selects (args := #[]) (mvT hZ (hw _ (List.mem_of_getElem? (i := 63) rfl)))) (mvT hZ (hw _ (List.mem_of_getElem? (i := 63) rfl))) (mvT hZ (hw _ (List.mem_of_getElem? (i := 62) rfl))) (by decide) (backOf (W := 1) (rm13 l Z a0 hw [] a2 cz b2 kb2 (6 : Int32) own_vs h2 n0 Z2 (Scs.ext XO2) hcz Fc2 Ex2 Fv2 Va2) hZ (hw _ (List.mem_of_getElem? (i := 64) rfl)) (hw _ (List.mem_of_getElem? (i := 21) rfl)) (by decide) (by decide)) q33a q33c (g := (mkF m 35 #[iv p1, iv p2, iv p3, iv p4, iv (88 : Int32), .unset] [(.ref a2), (.int p2)])) rfl (by rw [hml]; rfl) (Steps.refl _) (argsL := []) (rest := [(.int p2)]) (lenOf pd_8 rfl) rfl (by show 2 * 0 + _ ≤ _; exact Nat.le_of_eq rfl) (hb hby d12_35) (fun _ _ => ⟨rfl, e4, (by decide : 2 + 0 ≤ _), (by decide : 28 + 0 ≤ _)⟩)
    dsimp only [Pt.U, Pt.locs, Pt.cells, Pt.slots] at X33 l33 y33 z33 st33 hQ33
    subst l33 y33 z33
    obtain ⟨rfl, N33q, e33⟩ := hQ33
    have N33 := Fr.app N4 N33q
    have pre34 : ∀ t, SS p e below m T33 38 #[iv p1, iv p2, iv p3, iv p4, iv (88 : Int32), .unset] [(.int (f13 (6 : Int32))), (.int p2)] t → B t := fun t kk => pre32 t (by
      refine st33.trans ?_
      exact kk)
    rw [show f13 (6 : Int32) = (6 : Int32) from by decide] at pre34
    by_cases hc35 : p2 = (6 : Int32)
    · have pre36 : ∀ t, SS p e below m T33 42 #[iv p1, iv p2, iv p3, iv p4, iv (88 : Int32), .unset] [(.int p3)] t → B t := fun t kk => pre34 t (by
        refine XS.icmpNo X33.here hx rfl (hb hby d12_38) rfl (teq hc35).2 ?_
        refine XS.iloadN X33.here hx rfl (hb hby d12_41) rfl ?_
        exact kk)
      obtain ⟨_, _, ⟨T37, L37, k37, n37⟩, -, X37, ⟨Lc37, hQ37, l37, y37, z37⟩, st37⟩ := Jvm.LawKit.callS X33 hx (y := (⟨"pithline/html/ScriptData", "isNameEnd", "(I)Z"⟩ : MethodName)) hown (mvT hZ (hw _ (List.mem_of_getElem? (i := 82) rfl))) (mvT hZ (hw _ (List.mem_of_getElem? (i := 83) rfl))) (mvT hZ (hw _ (List.mem_of_getElem? (i := 5) rfl))) (mvT hZ (hw _ (List.mem_of_getElem? (i := 84) rfl))) (by decide) (backOf (W := 0) (rm18 l Z a0 hw [] p3 h2 n0 Z2 ) hZ (hw _ (List.mem_of_getElem? (i := 84) rfl)) (hw _ (List.mem_of_getElem? (i := 5) rfl)) (by decide) (by decide)) (g := (mkF m 42 #[iv p1, iv p2, iv p3, iv p4, iv (88 : Int32), .unset] [(.int p3)])) rfl (by rw [hml]; rfl) (argsL := [(.int p3)]) (rest := []) (lenOf pd_5 rfl) rfl (by show 2 * 0 + _ ≤ _; exact Nat.le_of_eq rfl) (hb hby d12_42) (fun _ _ => ⟨rfl, e33, (by decide : 2 + 0 ≤ _), (by decide : 28 + 0 ≤ _)⟩)
      dsimp only [Pt.U, Pt.locs, Pt.cells, Pt.slots] at X37 l37 y37 z37 st37 hQ37
      subst l37 y37 z37
      obtain ⟨rfl, N37q, e37⟩ := hQ37
      have N37 := Fr.app N33 N37q
      have pre38 : ∀ t, SS p e below m T37 45 #[iv p1, iv p2, iv p3, iv p4, iv (88 : Int32), .unset] [(.int (f18 p3))] t → B t := fun t kk => pre36 t (by
        refine st37 _ ?_
        exact kk)
      by_cases hc39 : (f18 p3) = (0 : Int32)
      · have pre40 : ∀ t, SS p e below m T37 57 #[iv p1, iv p2, iv p3, iv p4, iv (88 : Int32), .unset] [(.int p3), (.int (88 : Int32))] t → B t := fun t kk => pre38 t (by
          refine XS.ifYes X37.here hx rfl (pc0 := 45) (pc' := 54) rfl (hb hby d12_45) rfl ((if0 _ _).trans (teq hc39).1) (by decide) (by decide) ?_
          refine XS.iload X37.here hx rfl (hb hby d12_54) rfl ?_
          refine XS.iloadN X37.here hx rfl (hb hby d12_56) rfl ?_
          show SS p e below m T37 57 #[iv p1, iv p2, iv p3, iv p4, iv (88 : Int32), .unset] [(.int p3), (.int (88 : Int32))] _
          exact kk)
        obtain ⟨_, _, ⟨T41, L41, k41, n41⟩, -, X41, ⟨Lc41, hQ41, l41, y41, z41⟩, st41⟩ := Jvm.LawKit.callS X37 hx (y := (⟨"pithline/html/ScriptData", "next", "(II)I"⟩ : MethodName)) hown (mvT hZ (hw _ (List.mem_of_getElem? (i := 81) rfl))) (mvT hZ (hw _ (List.mem_of_getElem? (i := 4) rfl))) (mvT hZ (hw _ (List.mem_of_getElem? (i := 5) rfl))) (mvT hZ (hw _ (List.mem_of_getElem? (i := 6) rfl))) (by decide) (backOf (W := 0) (rmN88 l Z a0 hw [] p3 h2 n0 Z2 ) hZ (hw _ (List.mem_of_getElem? (i := 6) rfl)) (hw _ (List.mem_of_getElem? (i := 5) rfl)) (by decide) (by decide)) (g := (mkF m 57 #[iv p1, iv p2, iv p3, iv p4, iv (88 : Int32), .unset] [(.int p3), (.int (88 : Int32))])) rfl (by rw [hml]; rfl) (argsL := [(.int (88 : Int32)), (.int p3)]) (rest := []) (lenOf pd_6 rfl) rfl (by show 2 * 0 + _ ≤ _; exact Nat.le_of_eq rfl) (hb hby d12_57) (fun _ _ => ⟨rfl, e37, (by decide : 2 + 0 ≤ _), (by decide : 28 + 0 ≤ _)⟩)
        dsimp only [Pt.U, Pt.locs, Pt.cells, Pt.slots] at X41 l41 y41 z41 st41 hQ41
        subst l41 y41 z41
        obtain ⟨rfl, N41q, e41⟩ := hQ41
        have N41 := Fr.app N37 N41q
        have pre42 : ∀ t, SS p e below m T41 64 #[iv p1, iv p2, iv p3, iv p4, iv (88 : Int32), iv (fN88 p3)] [(.int (fN88 p3))] t → B t := fun t kk => pre40 t (by
          refine st41 _ ?_
          refine XS.istore X41.here hx rfl (hb hby d12_60) rfl (l' := #[iv p1, iv p2, iv p3, iv p4, iv (88 : Int32), iv (fN88 p3)]) rfl ?_
          refine XS.iload X41.here hx rfl (hb hby d12_62) rfl ?_
          show SS p e below m T41 64 #[iv p1, iv p2, iv p3, iv p4, iv (88 : Int32), iv (fN88 p3)] [(.int (fN88 p3))] _
          exact kk)
        have CF := C2.trans (CHv.at X41 hZ hEL C2.1)
        obtain ⟨fs, hr, hrun, hended, hRW⟩ := X41.leaveW (s := s) hS2 (by first | exact hk2 | (rw [e41]; exact hk2)) (v := some (.int (fN88 p3))) (fun h => by rw [Bd.returns] at h; cases h)
        refine ⟨_, _, hB _ (pre42 _ ?_), hrun, hended, _, _, rfl, ?_, ?_, ⟨hRW.1, hRW.2.1, hRW.2.2.1, hRW.2.2.2.mono (by decide) (by decide)⟩⟩
        · exact retI X41 hx Bd.returns (hb hby d12_64) hr
        · exact ⟨by show _ = some (Value.int (fNR88C p1 p2 p3 p4)); rw [fNR88C, if_neg hc6, if_pos hc35, if_pos hc39], N41, (by show Ext h0 T41.heap; rw [e41]; exact EX2), (by show LitS Z "pithline/html/ScriptData" 62 T41.vm T41.heap; rw [e41]; exact ⟨a2, b2, kb2, ⟨Lit.stays (s := s) (vm0 := T2.vm) hLt2 X41.warmed.wide, Ex2, Fc2, Fv2, Va2⟩⟩)⟩
        · rw [hh]; show CHr Z consts_1 s.vm h0 T41.vm T41.heap; rw [e41]; exact CF
      · have pre43 : ∀ t, SS p e below m T37 64 #[iv p1, iv p2, iv p3, iv p4, iv (88 : Int32), iv p4] [(.int p4)] t → B t := fun t kk => pre38 t (by
          refine XS.ifNo X37.here hx rfl (hb hby d12_45) rfl ((if0 _ _).trans (feq hc39).1) ?_
          refine XS.iloadN X37.here hx rfl (hb hby d12_48) rfl ?_
          refine XS.istore X37.here hx rfl (hb hby d12_49) rfl (l' := #[iv p1, iv p2, iv p3, iv p4, iv (88 : Int32), iv p4]) rfl ?_
          show SS p e below m T37 51 #[iv p1, iv p2, iv p3, iv p4, iv (88 : Int32), iv p4] [] _
          refine XS.goto X37.here hx rfl (pc0 := 51) (pc' := 62) rfl (hb hby d12_51) (by decide) (by decide) ?_
          refine XS.iload X37.here hx rfl (hb hby d12_62) rfl ?_
          exact kk)
        have CF := C2.trans (CHv.at X37 hZ hEL C2.1)
        obtain ⟨fs, hr, hrun, hended, hRW⟩ := X37.leaveW (s := s) hS2 (by first | exact hk2 | (rw [e37]; exact hk2)) (v := some (.int p4)) (fun h => by rw [Bd.returns] at h; cases h)
        refine ⟨_, _, hB _ (pre43 _ ?_), hrun, hended, _, _, rfl, ?_, ?_, ⟨hRW.1, hRW.2.1, hRW.2.2.1, hRW.2.2.2.mono (by decide) (by decide)⟩⟩
        · exact retI X37 hx Bd.returns (hb hby d12_64) hr
        · exact ⟨by show _ = some (Value.int (fNR88C p1 p2 p3 p4)); rw [fNR88C, if_neg hc6, if_pos hc35, if_neg hc39], N37, (by show Ext h0 T37.heap; rw [e37]; exact EX2), (by show LitS Z "pithline/html/ScriptData" 62 T37.vm T37.heap; rw [e37]; exact ⟨a2, b2, kb2, ⟨Lit.stays (s := s) (vm0 := T2.vm) hLt2 X37.warmed.wide, Ex2, Fc2, Fv2, Va2⟩⟩)⟩
        · rw [hh]; show CHr Z consts_1 s.vm h0 T37.vm T37.heap; rw [e37]; exact CF
    · have pre44 : ∀ t, SS p e below m T33 57 #[iv p1, iv p2, iv p3, iv p4, iv (88 : Int32), .unset] [(.int p3), (.int (88 : Int32))] t → B t := fun t kk => pre34 t (by
        refine XS.icmpYes X33.here hx rfl (pc0 := 38) (pc' := 54) rfl (hb hby d12_38) rfl (feq hc35).2 (by decide) (by decide) ?_
        refine XS.iload X33.here hx rfl (hb hby d12_54) rfl ?_
        refine XS.iloadN X33.here hx rfl (hb hby d12_56) rfl ?_
        show SS p e below m T33 57 #[iv p1, iv p2, iv p3, iv p4, iv (88 : Int32), .unset] [(.int p3), (.int (88 : Int32))] _
        exact kk)
      obtain ⟨_, _, ⟨T45, L45, k45, n45⟩, -, X45, ⟨Lc45, hQ45, l45, y45, z45⟩, st45⟩ := Jvm.LawKit.callS X33 hx (y := (⟨"pithline/html/ScriptData", "next", "(II)I"⟩ : MethodName)) hown (mvT hZ (hw _ (List.mem_of_getElem? (i := 81) rfl))) (mvT hZ (hw _ (List.mem_of_getElem? (i := 4) rfl))) (mvT hZ (hw _ (List.mem_of_getElem? (i := 5) rfl))) (mvT hZ (hw _ (List.mem_of_getElem? (i := 6) rfl))) (by decide) (backOf (W := 0) (rmN88 l Z a0 hw [] p3 h2 n0 Z2 ) hZ (hw _ (List.mem_of_getElem? (i := 6) rfl)) (hw _ (List.mem_of_getElem? (i := 5) rfl)) (by decide) (by decide)) (g := (mkF m 57 #[iv p1, iv p2, iv p3, iv p4, iv (88 : Int32), .unset] [(.int p3), (.int (88 : Int32))])) rfl (by rw [hml]; rfl) (argsL := [(.int (88 : Int32)), (.int p3)]) (rest := []) (lenOf pd_6 rfl) rfl (by show 2 * 0 + _ ≤ _; exact Nat.le_of_eq rfl) (hb hby d12_57) (fun _ _ => ⟨rfl, e33, (by decide : 2 + 0 ≤ _), (by decide : 28 + 0 ≤ _)⟩)
      dsimp only [Pt.U, Pt.locs, Pt.cells, Pt.slots] at X45 l45 y45 z45 st45 hQ45
      subst l45 y45 z45
      obtain ⟨rfl, N45q, e45⟩ := hQ45
      have N45 := Fr.app N33 N45q
      have pre46 : ∀ t, SS p e below m T45 64 #[iv p1, iv p2, iv p3, iv p4, iv (88 : Int32), iv (fN88 p3)] [(.int (fN88 p3))] t → B t := fun t kk => pre44 t (by
        refine st45 _ ?_
        refine XS.istore X45.here hx rfl (hb hby d12_60) rfl (l' := #[iv p1, iv p2, iv p3, iv p4, iv (88 : Int32), iv (fN88 p3)]) rfl ?_
        refine XS.iload X45.here hx rfl (hb hby d12_62) rfl ?_
        show SS p e below m T45 64 #[iv p1, iv p2, iv p3, iv p4, iv (88 : Int32), iv (fN88 p3)] [(.int (fN88 p3))] _
        exact kk)
      have CF := C2.trans (CHv.at X45 hZ hEL C2.1)
      obtain ⟨fs, hr, hrun, hended, hRW⟩ := X45.leaveW (s := s) hS2 (by first | exact hk2 | (rw [e45]; exact hk2)) (v := some (.int (fN88 p3))) (fun h => by rw [Bd.returns] at h; cases h)
      refine ⟨_, _, hB _ (pre46 _ ?_), hrun, hended, _, _, rfl, ?_, ?_, ⟨hRW.1, hRW.2.1, hRW.2.2.1, hRW.2.2.2.mono (by decide) (by decide)⟩⟩
      · exact retI X45 hx Bd.returns (hb hby d12_64) hr
      · exact ⟨by show _ = some (Value.int (fNR88C p1 p2 p3 p4)); rw [fNR88C, if_neg hc6, if_neg hc35], N45, (by show Ext h0 T45.heap; rw [e45]; exact EX2), (by show LitS Z "pithline/html/ScriptData" 62 T45.vm T45.heap; rw [e45]; exact ⟨a2, b2, kb2, ⟨Lit.stays (s := s) (vm0 := T2.vm) hLt2 X45.warmed.wide, Ex2, Fc2, Fv2, Va2⟩⟩)⟩
      · rw [hh]; show CHr Z consts_1 s.vm h0 T45.vm T45.heap; rw [e45]; exact CF
theorem d1_263 : decode prog_41_method_2_code 263 = .ok (.bipush 72, 2) := by decide +kernel
theorem d1_265 : decode prog_41_method_2_code 265 = .ok (.iload_n 3, 1) := by decide +kernel
theorem d1_266 : decode prog_41_method_2_code 266 = .ok (.iload_n 1, 1) := by decide +kernel
theorem d1_267 : decode prog_41_method_2_code 267 = .ok (.sipush 136, 3) := by decide +kernel
theorem d1_270 : decode prog_41_method_2_code 270 = .ok (.bipush 40, 2) := by decide +kernel
theorem d1_272 : decode prog_41_method_2_code 272 = .ok (.invokestatic 13, 3) := by decide +kernel
theorem d1_275 : decode prog_41_method_2_code 275 = .ok (.istore 4, 2) := by decide +kernel
theorem d1_277 : decode prog_41_method_2_code 277 = .ok (.goto 81, 3) := by decide +kernel
theorem pd_10 : parseMethodDescriptor "(IIIII)I" = some ⟨[.int, .int, .int, .int, .int], some .int⟩ := by decide +kernel
theorem ef_rmN72W (m : MethodId) (p1 : Int32) (p2 : Int32) : entryFrame m #[(.int p1), (.int p2)] 5 = mkF m 0 #[iv p1, iv p2, .unset, .unset, .unset] [] := by first | (simp [entryFrame, mkF, argsToLocals, Value.category]; done) | rfl
def fN72W (p1 : Int32) (p2 : Int32) (n : Int32) : Int32 := (fNR40W (72 : Int32) n p2 (136 : Int32))
set_option maxRecDepth 65536 in
set_option maxHeartbeats 40000000 in
theorem rmN72W (l : Launch) (Z : State) (a0 : Array Value) (hw : ∀ d ∈ tables_1, d.before a0 Z = true) (ws : List Jvm.Cond) (p1 : Int32) (p2 : Int32) (cz : Int32) (fm : Value) (aA bA aB bB : Addr) (kA kB : ClassId) (n : Int32) (h0 : Heap) (n0 : Nat) (Z0 : n0 ≤ h0.size) (XO0 : Ext Z.heap h0) (Scs : Sta Z Z.heap "java/lang/String" "COMPACT_STRINGS" "Z" (.int cz)) (hcz : ¬ (cz = (0 : Int32))) (Sfm : Sta Z Z.heap "jdk/internal/util/Preconditions" "SIOOBE_FORMATTER" "Ljava/util/function/BiFunction;" fm) (hfm : fm.isRef = true) (EA : Exa Z h0 aA "java/lang/String") (CA : Fld Z h0 aA "java/lang/String" "coder" "B" (.int (0 : Int32))) (UA : Fld Z h0 aA "java/lang/String" "value" "[B" (.ref bA)) (VA : Arv Z h0 bA kA .byte (6 : Int32) (own_vs.map Value.int) (.int (0 : Int32))) (EB : Exa Z h0 aB "java/lang/String") (CB : Fld Z h0 aB "java/lang/String" "coder" "B" (.int (0 : Int32))) (UB : Fld Z h0 aB "java/lang/String" "value" "[B" (.ref bB)) (VB : Arv Z h0 bB kB .byte (6 : Int32) (own_vs.map Value.int) (.int (0 : Int32))) (hbs : (p1 - (p1 % (8 : Int32))) = (72 : Int32)) (hn : (p1 % (8 : Int32)) = n) (hlo : ¬ (n < (0 : Int32))) :
    MetFree l (⟨"pithline/html/ScriptData", "next", "(II)I"⟩ : MethodName) (head1 (Jvm.Cond.code (⟨"pithline/html/ScriptData", "next", "(II)I"⟩ : MethodName) prog_41_method_2_code 5 (some .int) :: ws) ({ frames := 5, cells := 0, slots := 0, locals := 71 } : Room)) (fun a U => a = #[(.int p1), (.int p2)] ∧ Z.Warmed39 U.vm ∧ U.heap = h0 ∧ LW Z aA aB U.vm) (fun _ _ _ _ _ => True) (fun _ U o U' => ∃ v L, o = .returned v ∧ QI (fN72W p1 p2 n) h0 n0 v U'.heap L ∧ FrameEnd U o U' L ({ frames := 5, cells := 0, slots := 0, locals := 71 } : Room).cells ({ frames := 5, cells := 0, slots := 0, locals := 71 } : Room).slots) := by
  refine MetFree.of_bodySF (plainFor_of_name pn_1) hisR ?_
  intro p e s m args below meth c s₁ Bd hml0 hP hK
  obtain ⟨rfl, hZ, hh, hLW⟩ := hP
  have hx := Bd.exec
  have hby := Bd.bytes
  have hml : c.maxLocals = 5 := hml0
  have hown : s.vm.findClass "pithline/html/ScriptData" = some m.cls := findClass_of_methodNamed Bd.named
  have hnm := (name_of_methodNamed Bd.named Bd.method).1
  have X0 : Stand p l e ({ frames := 5, cells := 0, slots := 0, locals := 71 } : Room) s m #[(.int p1), (.int p2)] below meth c s₁ [] 0 0 := Stand.of_body Bd
  have e0 : s₁.heap = h0 := by rw [← hh, Bd.state]; rfl
  have N0 := Fr.nil n0
  obtain ⟨B, hB, pre0⟩ : ∃ B : State → Prop, (∀ t, B t → Steps p.tables e below (s₁.setTop (entryFrame m #[(.int p1), (.int p2)] 5)) t) ∧ ∀ t, SS p e below m s₁ 0 #[iv p1, iv p2, .unset, .unset, .unset] [] t → B t := ⟨_, fun _ q => q, fun t kk => castTop (ef_rmN72W m p1 p2) kk⟩
  have pre1 : ∀ t, SS p e below m s₁ 6 #[iv p1, iv p2, .unset, .unset, .unset] [(.int (p1 - (p1 % (8 : Int32))))] t → B t := fun t kk => pre0 t (by
    show SS p e below m s₁ 0 #[iv p1, iv p2, .unset, .unset, .unset] [] _
    refine XS.iloadN X0.here hx rfl (hb hby d1_0) rfl ?_
    refine XS.iloadN X0.here hx rfl (hb hby d1_1) rfl ?_
    refine XS.bipush X0.here hx rfl (hb hby d1_2) ?_
    show SS p e below m s₁ 4 #[iv p1, iv p2, .unset, .unset, .unset] [(.int (8 : Int32)), (.int p1), (.int p1)] _
    refine iremM (g := (mkF m 4 #[iv p1, iv p2, .unset, .unset, .unset] [(.int (8 : Int32)), (.int p1), (.int p1)])) X0 hx rfl (hb hby d1_4) rfl (by decide) ?_
    refine XS.isub X0.here hx rfl (hb hby d1_5) rfl ?_
    exact kk)
  rw [hbs] at pre1
  have pre2 : ∀ t, SS p e below m s₁ 11 #[iv p1, iv p2, iv (72 : Int32), .unset, .unset] [(.int (p1 % (8 : Int32)))] t → B t := fun t kk => pre1 t (by
    refine XS.istoreN X0.here hx rfl (hb hby d1_6) rfl (l' := #[iv p1, iv p2, iv (72 : Int32), .unset, .unset]) rfl ?_
    refine XS.iloadN X0.here hx rfl (hb hby d1_7) rfl ?_
    refine XS.bipush X0.here hx rfl (hb hby d1_8) ?_
    show SS p e below m s₁ 10 #[iv p1, iv p2, iv (72 : Int32), .unset, .unset] [(.int (8 : Int32)), (.int p1)] _
    refine iremM (g := (mkF m 10 #[iv p1, iv p2, iv (72 : Int32), .unset, .unset] [(.int (8 : Int32)), (.int p1)])) X0 hx rfl (hb hby d1_10) rfl (by decide) ?_
    exact kk)
  rw [hn] at pre2
  have pre3 : ∀ t, SS p e below m s₁ 272 #[iv p1, iv p2, iv (72 : Int32), iv n, .unset] [(.int (40 : Int32)), (.int (136 : Int32)), (.int p2), (.int n), (.int (72 : Int32))] t → B t := fun t kk => pre2 t (by
    refine XS.istoreN X0.here hx rfl (hb hby d1_11) rfl (l' := #[iv p1, iv p2, iv (72 : Int32), iv n, .unset]) rfl ?_
    refine XS.iloadN X0.here hx rfl (hb hby d1_12) rfl ?_
    refine X0.lookupswitchHit hx (g := (mkF m 13 #[iv p1, iv p2, iv (72 : Int32), iv n, .unset] [(.int (72 : Int32))])) rfl rfl (hb hby d1_13) (by decide) (a := 72) (off := 250) (by decide +kernel) (show (0 : Int) ≤ ((13 : Nat) : Int) + 250 from by decide) _ ?_
    show SS p e below m s₁ 263 #[iv p1, iv p2, iv (72 : Int32), iv n, .unset] [] _
    refine XS.bipush X0.here hx rfl (hb hby d1_263) ?_
    refine XS.iloadN X0.here hx rfl (hb hby d1_265) rfl ?_
    refine XS.iloadN X0.here hx rfl (hb hby d1_266) rfl ?_
    show SS p e below m s₁ 267 #[iv p1, iv p2, iv (72 : Int32), iv n, .unset] [(.int p2), (.int n), (.int (72 : Int32))] _
    refine XS.sipush X0.here hx rfl (hb hby d1_267) ?_
    refine XS.bipush X0.here hx rfl (hb hby d1_270) ?_
    exact kk)
  obtain ⟨_, _, ⟨T4, L4, k4, n4⟩, -, X4, ⟨Lc4, hQ4, l4, y4, z4⟩, st4⟩ := Jvm.LawKit.callS X0 hx (y := (⟨"pithline/html/ScriptData", "nameRead", "(IIIII)I"⟩ : MethodName)) hown (mvT hZ (hw _ (List.mem_of_getElem? (i := 56) rfl))) (mvT hZ (hw _ (List.mem_of_getElem? (i := 57) rfl))) (mvT hZ (hw _ (List.mem_of_getElem? (i := 5) rfl))) (mvT hZ (hw _ (List.mem_of_getElem? (i := 58) rfl))) (by decide) (own_backL (W := 0) (rmNR40W l Z a0 hw [] (72 : Int32) n p2 (136 : Int32) cz fm aA bA aB bB kA kB h0 n0 Z0 XO0 Scs hcz Sfm hfm EA CA UA VA EB CB UB VB hlo) hZ (fun vm1 hv => LW.stays (s := s) (show LW Z aA aB s.vm from hLW) (vm0 := s.vm) hv.wide) (hw _ (List.mem_of_getElem? (i := 58) rfl)) (hw _ (List.mem_of_getElem? (i := 5) rfl)) (by decide) (by decide)) (g := (mkF m 272 #[iv p1, iv p2, iv (72 : Int32), iv n, .unset] [(.int (40 : Int32)), (.int (136 : Int32)), (.int p2), (.int n), (.int (72 : Int32))])) rfl (by rw [hml]; rfl) (argsL := [(.int (72 : Int32)), (.int n), (.int p2), (.int (136 : Int32)), (.int (40 : Int32))]) (rest := []) (lenOf pd_10 rfl) rfl (by show 2 * 0 + _ ≤ _; exact Nat.le_of_eq rfl) (hb hby d1_272) (fun _ _ => ⟨rfl, e0, (by decide : 0 + 0 ≤ _), (by decide : 0 + 0 ≤ _)⟩)
  dsimp only [Pt.U, Pt.locs, Pt.cells, Pt.slots] at X4 l4 y4 z4 st4 hQ4
  subst l4 y4 z4
  obtain ⟨rfl, N4q, e4⟩ := hQ4
  have N4 := Fr.app N0 N4q
  have pre5 : ∀ t, SS p e below m T4 360 #[iv p1, iv p2, iv (72 : Int32), iv n, iv (fNR40W (72 : Int32) n p2 (136 : Int32))] [(.int (fNR40W (72 : Int32) n p2 (136 : Int32)))] t → B t := fun t kk => pre3 t (by
    refine st4 _ ?_
    refine XS.istore X4.here hx rfl (hb hby d1_275) rfl (l' := #[iv p1, iv p2, iv (72 : Int32), iv n, iv (fNR40W (72 : Int32) n p2 (136 : Int32))]) rfl ?_
    refine XS.goto X4.here hx rfl (pc0 := 277) (pc' := 358) rfl (hb hby d1_277) (by decide) (by decide) ?_
    show SS p e below m T4 358 #[iv p1, iv p2, iv (72 : Int32), iv n, iv (fNR40W (72 : Int32) n p2 (136 : Int32))] [] _
    refine XS.iload X4.here hx rfl (hb hby d1_358) rfl ?_
    exact kk)
  obtain ⟨fs, hr, hrun, hended, hW, hsame⟩ := X4.leave (v := some (.int (fNR40W (72 : Int32) n p2 (136 : Int32)))) (fun h => by rw [Bd.returns] at h; cases h)
  refine ⟨_, _, hB _ (pre5 _ ?_), hrun, hended, _, _, rfl, ?_, ⟨_, rfl⟩, hW, hsame.mono (by decide) (by decide)⟩
  · exact retI X4 hx Bd.returns (hb hby d1_360) hr
  · exact ⟨by show _ = some (Value.int (fN72W p1 p2 n)); rw [fN72W], N4, e4⟩
theorem ef_rmN72C (m : MethodId) (p1 : Int32) (p2 : Int32) : entryFrame m #[(.int p1), (.int p2)] 5 = mkF m 0 #[iv p1, iv p2, .unset, .unset, .unset] [] := by first | (simp [entryFrame, mkF, argsToLocals, Value.category]; done) | rfl
def fN72C (p1 : Int32) (p2 : Int32) (n : Int32) : Int32 := (fNR40C (72 : Int32) n p2 (136 : Int32))
set_option maxRecDepth 65536 in
set_option maxHeartbeats 40000000 in
theorem rmN72C (l : Launch) (Z : State) (a0 : Array Value) (hw : ∀ d ∈ tables_1, d.before a0 Z = true) (ws : List Jvm.Cond) (p1 : Int32) (p2 : Int32) (cz : Int32) (fm : Value) (n : Int32) (h0 : Heap) (n0 : Nat) (Z0 : n0 ≤ h0.size) (hEL : EW Z a0 consts_1) (XO0 : Ext Z.heap h0) (Scs : Sta Z Z.heap "java/lang/String" "COMPACT_STRINGS" "Z" (.int cz)) (hcz : ¬ (cz = (0 : Int32))) (Sfm : Sta Z Z.heap "jdk/internal/util/Preconditions" "SIOOBE_FORMATTER" "Ljava/util/function/BiFunction;" fm) (hfm : fm.isRef = true) (hbs : (p1 - (p1 % (8 : Int32))) = (72 : Int32)) (hn : (p1 % (8 : Int32)) = n) (hlo : ¬ (n < (0 : Int32))) :
    MetFree l (⟨"pithline/html/ScriptData", "next", "(II)I"⟩ : MethodName) (head1 (Jvm.Cond.code (⟨"pithline/html/ScriptData", "next", "(II)I"⟩ : MethodName) prog_41_method_2_code 5 (some .int) :: ws) ({ frames := 6, cells := 2, slots := 28, locals := 84 } : Room)) (fun a U => a = #[(.int p1), (.int p2)] ∧ Z.Warmed39 U.vm ∧ U.heap = h0 ∧ CHv Z consts_1 U.vm h0) (fun _ _ _ _ _ => True) (fun _ U o U' => ∃ v L, o = .returned v ∧ QC (fN72C p1 p2 n) (fun vm h => LitS Z "pithline/html/ScriptData" 62 vm h) h0 n0 v U'.heap U'.vm L ∧ CHr Z consts_1 U.vm U.heap U'.vm U'.heap ∧ ReturnedEndW U o U' L ({ frames := 6, cells := 2, slots := 28, locals := 84 } : Room).cells ({ frames := 6, cells := 2, slots := 28, locals := 84 } : Room).slots) := by
  refine MetFree.of_bodySF (plainFor_of_name pn_1) hisR ?_
  intro p e s m args below meth c s₁ Bd hml0 hP hK
  obtain ⟨rfl, hZ, hh, hCH⟩ := hP
  have hx := Bd.exec
  have hby := Bd.bytes
  have hml : c.maxLocals = 5 := hml0
  have hown : (s.setVm s.vm).vm.findClass "pithline/html/ScriptData" = some m.cls := findClass_of_methodNamed Bd.named
  replace hZ : Z.Warmed39 (s.setVm s.vm).vm := hZ
  have X0 : Stand p l e ({ frames := 6, cells := 2, slots := 28, locals := 84 } : Room) (s.setVm s.vm) m #[(.int p1), (.int p2)] below meth c s₁ [] 0 0 := Stand.of_body Bd
  have e0 : s₁.heap = h0 := by rw [← hh, Bd.state]; rfl
  have N0 := Fr.nil n0
  have hS0 : s.Since s.vm h0.size := (State.WarmedH.refl s).since _
  have hk0 : h0.size ≤ h0.size := Nat.le_refl _
  have C0 : CHr Z consts_1 s.vm h0 s.vm h0 := CHr.refl hCH
  have EX0 : Ext h0 h0 := ⟨Nat.le_refl _, fun _ _ q => q⟩
  obtain ⟨B, hB, pre0⟩ : ∃ B : State → Prop, (∀ t, B t → Steps p.tables e below (s₁.setTop (entryFrame m #[(.int p1), (.int p2)] 5)) t) ∧ ∀ t, SS p e below m s₁ 0 #[iv p1, iv p2, .unset, .unset, .unset] [] t → B t := ⟨_, fun _ q => q, fun t kk => castTop (ef_rmN72C m p1 p2) kk⟩
  have pre1 : ∀ t, SS p e below m s₁ 6 #[iv p1, iv p2, .unset, .unset, .unset] [(.int (p1 - (p1 % (8 : Int32))))] t → B t := fun t kk => pre0 t (by
    show SS p e below m s₁ 0 #[iv p1, iv p2, .unset, .unset, .unset] [] _
    refine XS.iloadN X0.here hx rfl (hb hby d1_0) rfl ?_
    refine XS.iloadN X0.here hx rfl (hb hby d1_1) rfl ?_
    refine XS.bipush X0.here hx rfl (hb hby d1_2) ?_
    show SS p e below m s₁ 4 #[iv p1, iv p2, .unset, .unset, .unset] [(.int (8 : Int32)), (.int p1), (.int p1)] _
    refine iremM (g := (mkF m 4 #[iv p1, iv p2, .unset, .unset, .unset] [(.int (8 : Int32)), (.int p1), (.int p1)])) X0 hx rfl (hb hby d1_4) rfl (by decide) ?_
    refine XS.isub X0.here hx rfl (hb hby d1_5) rfl ?_
    exact kk)
  rw [hbs] at pre1
  have pre2 : ∀ t, SS p e below m s₁ 11 #[iv p1, iv p2, iv (72 : Int32), .unset, .unset] [(.int (p1 % (8 : Int32)))] t → B t := fun t kk => pre1 t (by
    refine XS.istoreN X0.here hx rfl (hb hby d1_6) rfl (l' := #[iv p1, iv p2, iv (72 : Int32), .unset, .unset]) rfl ?_
    refine XS.iloadN X0.here hx rfl (hb hby d1_7) rfl ?_
    refine XS.bipush X0.here hx rfl (hb hby d1_8) ?_
    show SS p e below m s₁ 10 #[iv p1, iv p2, iv (72 : Int32), .unset, .unset] [(.int (8 : Int32)), (.int p1)] _
    refine iremM (g := (mkF m 10 #[iv p1, iv p2, iv (72 : Int32), .unset, .unset] [(.int (8 : Int32)), (.int p1)])) X0 hx rfl (hb hby d1_10) rfl (by decide) ?_
    exact kk)
  rw [hn] at pre2
  have pre3 : ∀ t, SS p e below m s₁ 272 #[iv p1, iv p2, iv (72 : Int32), iv n, .unset] [(.int (40 : Int32)), (.int (136 : Int32)), (.int p2), (.int n), (.int (72 : Int32))] t → B t := fun t kk => pre2 t (by
    refine XS.istoreN X0.here hx rfl (hb hby d1_11) rfl (l' := #[iv p1, iv p2, iv (72 : Int32), iv n, .unset]) rfl ?_
    refine XS.iloadN X0.here hx rfl (hb hby d1_12) rfl ?_
    refine X0.lookupswitchHit hx (g := (mkF m 13 #[iv p1, iv p2, iv (72 : Int32), iv n, .unset] [(.int (72 : Int32))])) rfl rfl (hb hby d1_13) (by decide) (a := 72) (off := 250) (by decide +kernel) (show (0 : Int) ≤ ((13 : Nat) : Int) + 250 from by decide) _ ?_
    show SS p e below m s₁ 263 #[iv p1, iv p2, iv (72 : Int32), iv n, .unset] [] _
    refine XS.bipush X0.here hx rfl (hb hby d1_263) ?_
    refine XS.iloadN X0.here hx rfl (hb hby d1_265) rfl ?_
    refine XS.iloadN X0.here hx rfl (hb hby d1_266) rfl ?_
    show SS p e below m s₁ 267 #[iv p1, iv p2, iv (72 : Int32), iv n, .unset] [(.int p2), (.int n), (.int (72 : Int32))] _
    refine XS.sipush X0.here hx rfl (hb hby d1_267) ?_
    refine XS.bipush X0.here hx rfl (hb hby d1_270) ?_
    exact kk)
  obtain ⟨_, _, ⟨T4, L4, k4, n4⟩, -, X4, hS4, hg4, ⟨Lc4, hQ4, l4, y4, z4, hC4⟩, st4⟩ := callSS X0 hx (y := (⟨"pithline/html/ScriptData", "nameRead", "(IIIII)I"⟩ : MethodName)) hown (mvT hZ (hw _ (List.mem_of_getElem? (i := 56) rfl))) (mvT hZ (hw _ (List.mem_of_getElem? (i := 57) rfl))) (mvT hZ (hw _ (List.mem_of_getElem? (i := 5) rfl))) (mvT hZ (hw _ (List.mem_of_getElem? (i := 58) rfl))) (by decide) (own_backS (s := s) (vm0 := s.vm) (EL := consts_1) (W := 0) (rmNR40C l Z a0 hw [] (72 : Int32) n p2 (136 : Int32) cz fm h0 n0 Z0 hEL XO0 Scs hcz Sfm hfm hlo) hZ (hw _ (List.mem_of_getElem? (i := 58) rfl)) (hw _ (List.mem_of_getElem? (i := 5) rfl)) (by decide) (by decide) hEL C0.1) (g := (mkF m 272 #[iv p1, iv p2, iv (72 : Int32), iv n, .unset] [(.int (40 : Int32)), (.int (136 : Int32)), (.int p2), (.int n), (.int (72 : Int32))])) rfl (by rw [hml]; rfl) (argsL := [(.int (72 : Int32)), (.int n), (.int p2), (.int (136 : Int32)), (.int (40 : Int32))]) (rest := []) (lenOf pd_10 rfl) rfl (by show 2 * 0 + _ ≤ _; exact Nat.le_of_eq rfl) (hb hby d1_272) (fun _ _ => ⟨rfl, e0, (by decide : 0 + 2 ≤ _), (by decide : 0 + 28 ≤ _)⟩)
  dsimp only [Pt.U, Pt.locs, Pt.cells, Pt.slots] at X4 l4 y4 z4 st4 hQ4 hS4 hg4 hC4
  subst l4 y4 z4
  obtain ⟨rfl, N4q, E4, hV4⟩ := hQ4
  replace hZ : Z.Warmed39 (s.setVm T4.vm).vm := State.Warmed39.trans (t := s.setVm s.vm) hZ hS4.1
  replace hown : (s.setVm T4.vm).vm.findClass "pithline/html/ScriptData" = some m.cls := by rw [show (s.setVm T4.vm).vm = T4.vm from rfl, hS4.1.alike.findClass]; exact hown
  have hs4 : s.Since T4.vm T4.heap.size := hS0.trans hS4 (Nat.le_trans hk0 (by first | exact hg4 | (have q := hg4; rw [e0] at q; exact q)))
  have hk4 : T4.heap.size ≤ T4.heap.size := Nat.le_refl _
  have C4 := C0.trans hC4
  have N4 := Fr.app N0 N4q
  have Z4 : n0 ≤ T4.heap.size := Nat.le_trans Z0 E4.1
  have XO4 : Ext Z.heap T4.heap := own_ext XO0 E4
  have EX4 : Ext h0 T4.heap := own_ext EX0 E4
  obtain ⟨a4, b4, kb4, hLt4, Ex4, Fc4, Fv4, Va4⟩ := hV4
  have pre5 : ∀ t, SS p e below m T4 360 #[iv p1, iv p2, iv (72 : Int32), iv n, iv (fNR40C (72 : Int32) n p2 (136 : Int32))] [(.int (fNR40C (72 : Int32) n p2 (136 : Int32)))] t → B t := fun t kk => pre3 t (by
    refine st4.trans ?_
    refine XS.istore X4.here hx rfl (hb hby d1_275) rfl (l' := #[iv p1, iv p2, iv (72 : Int32), iv n, iv (fNR40C (72 : Int32) n p2 (136 : Int32))]) rfl ?_
    refine XS.goto X4.here hx rfl (pc0 := 277) (pc' := 358) rfl (hb hby d1_277) (by decide) (by decide) ?_
    show SS p e below m T4 358 #[iv p1, iv p2, iv (72 : Int32), iv n, iv (fNR40C (72 : Int32) n p2 (136 : Int32))] [] _
    refine XS.iload X4.here hx rfl (hb hby d1_358) rfl ?_
    exact kk)
  have CF := C4.trans (CHv.at X4 hZ hEL C4.1)
  obtain ⟨fs, hr, hrun, hended, hRW⟩ := X4.leaveW (s := s) hs4 (by first | exact hk4 | (rw [rfl]; exact hk4)) (v := some (.int (fNR40C (72 : Int32) n p2 (136 : Int32)))) (fun h => by rw [Bd.returns] at h; cases h)
  refine ⟨_, _, hB _ (pre5 _ ?_), hrun, hended, _, _, rfl, ?_, ?_, ⟨hRW.1, hRW.2.1, hRW.2.2.1, hRW.2.2.2.mono (by decide) (by decide)⟩⟩
  · exact retI X4 hx Bd.returns (hb hby d1_360) hr
  · exact ⟨by show _ = some (Value.int (fN72C p1 p2 n)); rw [fN72C], N4, EX4, ⟨a4, b4, kb4, ⟨Lit.stays (s := s) (vm0 := T4.vm) hLt4 X4.warmed.wide, Ex4, Fc4, Fv4, Va4⟩⟩⟩
  · rw [hh]; exact CF
theorem d1_280 : decode prog_41_method_2_code 280 = .ok (.bipush 80, 2) := by decide +kernel
theorem d1_282 : decode prog_41_method_2_code 282 = .ok (.iload_n 3, 1) := by decide +kernel
theorem d1_283 : decode prog_41_method_2_code 283 = .ok (.iload_n 1, 1) := by decide +kernel
theorem d1_284 : decode prog_41_method_2_code 284 = .ok (.bipush 88, 2) := by decide +kernel
theorem d1_286 : decode prog_41_method_2_code 286 = .ok (.bipush 40, 2) := by decide +kernel
theorem d1_288 : decode prog_41_method_2_code 288 = .ok (.invokestatic 13, 3) := by decide +kernel
theorem d1_291 : decode prog_41_method_2_code 291 = .ok (.istore 4, 2) := by decide +kernel
theorem d1_293 : decode prog_41_method_2_code 293 = .ok (.goto 65, 3) := by decide +kernel
theorem ef_rmN80W (m : MethodId) (p1 : Int32) (p2 : Int32) : entryFrame m #[(.int p1), (.int p2)] 5 = mkF m 0 #[iv p1, iv p2, .unset, .unset, .unset] [] := by first | (simp [entryFrame, mkF, argsToLocals, Value.category]; done) | rfl
def fN80W (p1 : Int32) (p2 : Int32) (n : Int32) : Int32 := (fNR40W (80 : Int32) n p2 (88 : Int32))
set_option maxRecDepth 65536 in
set_option maxHeartbeats 40000000 in
theorem rmN80W (l : Launch) (Z : State) (a0 : Array Value) (hw : ∀ d ∈ tables_1, d.before a0 Z = true) (ws : List Jvm.Cond) (p1 : Int32) (p2 : Int32) (cz : Int32) (fm : Value) (aA bA aB bB : Addr) (kA kB : ClassId) (n : Int32) (h0 : Heap) (n0 : Nat) (Z0 : n0 ≤ h0.size) (XO0 : Ext Z.heap h0) (Scs : Sta Z Z.heap "java/lang/String" "COMPACT_STRINGS" "Z" (.int cz)) (hcz : ¬ (cz = (0 : Int32))) (Sfm : Sta Z Z.heap "jdk/internal/util/Preconditions" "SIOOBE_FORMATTER" "Ljava/util/function/BiFunction;" fm) (hfm : fm.isRef = true) (EA : Exa Z h0 aA "java/lang/String") (CA : Fld Z h0 aA "java/lang/String" "coder" "B" (.int (0 : Int32))) (UA : Fld Z h0 aA "java/lang/String" "value" "[B" (.ref bA)) (VA : Arv Z h0 bA kA .byte (6 : Int32) (own_vs.map Value.int) (.int (0 : Int32))) (EB : Exa Z h0 aB "java/lang/String") (CB : Fld Z h0 aB "java/lang/String" "coder" "B" (.int (0 : Int32))) (UB : Fld Z h0 aB "java/lang/String" "value" "[B" (.ref bB)) (VB : Arv Z h0 bB kB .byte (6 : Int32) (own_vs.map Value.int) (.int (0 : Int32))) (hbs : (p1 - (p1 % (8 : Int32))) = (80 : Int32)) (hn : (p1 % (8 : Int32)) = n) (hlo : ¬ (n < (0 : Int32))) :
    MetFree l (⟨"pithline/html/ScriptData", "next", "(II)I"⟩ : MethodName) (head1 (Jvm.Cond.code (⟨"pithline/html/ScriptData", "next", "(II)I"⟩ : MethodName) prog_41_method_2_code 5 (some .int) :: ws) ({ frames := 5, cells := 0, slots := 0, locals := 71 } : Room)) (fun a U => a = #[(.int p1), (.int p2)] ∧ Z.Warmed39 U.vm ∧ U.heap = h0 ∧ LW Z aA aB U.vm) (fun _ _ _ _ _ => True) (fun _ U o U' => ∃ v L, o = .returned v ∧ QI (fN80W p1 p2 n) h0 n0 v U'.heap L ∧ FrameEnd U o U' L ({ frames := 5, cells := 0, slots := 0, locals := 71 } : Room).cells ({ frames := 5, cells := 0, slots := 0, locals := 71 } : Room).slots) := by
  refine MetFree.of_bodySF (plainFor_of_name pn_1) hisR ?_
  intro p e s m args below meth c s₁ Bd hml0 hP hK
  obtain ⟨rfl, hZ, hh, hLW⟩ := hP
  have hx := Bd.exec
  have hby := Bd.bytes
  have hml : c.maxLocals = 5 := hml0
  have hown : s.vm.findClass "pithline/html/ScriptData" = some m.cls := findClass_of_methodNamed Bd.named
  have hnm := (name_of_methodNamed Bd.named Bd.method).1
  have X0 : Stand p l e ({ frames := 5, cells := 0, slots := 0, locals := 71 } : Room) s m #[(.int p1), (.int p2)] below meth c s₁ [] 0 0 := Stand.of_body Bd
  have e0 : s₁.heap = h0 := by rw [← hh, Bd.state]; rfl
  have N0 := Fr.nil n0
  obtain ⟨B, hB, pre0⟩ : ∃ B : State → Prop, (∀ t, B t → Steps p.tables e below (s₁.setTop (entryFrame m #[(.int p1), (.int p2)] 5)) t) ∧ ∀ t, SS p e below m s₁ 0 #[iv p1, iv p2, .unset, .unset, .unset] [] t → B t := ⟨_, fun _ q => q, fun t kk => castTop (ef_rmN80W m p1 p2) kk⟩
  have pre1 : ∀ t, SS p e below m s₁ 6 #[iv p1, iv p2, .unset, .unset, .unset] [(.int (p1 - (p1 % (8 : Int32))))] t → B t := fun t kk => pre0 t (by
    show SS p e below m s₁ 0 #[iv p1, iv p2, .unset, .unset, .unset] [] _
    refine XS.iloadN X0.here hx rfl (hb hby d1_0) rfl ?_
    refine XS.iloadN X0.here hx rfl (hb hby d1_1) rfl ?_
    refine XS.bipush X0.here hx rfl (hb hby d1_2) ?_
    show SS p e below m s₁ 4 #[iv p1, iv p2, .unset, .unset, .unset] [(.int (8 : Int32)), (.int p1), (.int p1)] _
    refine iremM (g := (mkF m 4 #[iv p1, iv p2, .unset, .unset, .unset] [(.int (8 : Int32)), (.int p1), (.int p1)])) X0 hx rfl (hb hby d1_4) rfl (by decide) ?_
    refine XS.isub X0.here hx rfl (hb hby d1_5) rfl ?_
    exact kk)
  rw [hbs] at pre1
  have pre2 : ∀ t, SS p e below m s₁ 11 #[iv p1, iv p2, iv (80 : Int32), .unset, .unset] [(.int (p1 % (8 : Int32)))] t → B t := fun t kk => pre1 t (by
    refine XS.istoreN X0.here hx rfl (hb hby d1_6) rfl (l' := #[iv p1, iv p2, iv (80 : Int32), .unset, .unset]) rfl ?_
    refine XS.iloadN X0.here hx rfl (hb hby d1_7) rfl ?_
    refine XS.bipush X0.here hx rfl (hb hby d1_8) ?_
    show SS p e below m s₁ 10 #[iv p1, iv p2, iv (80 : Int32), .unset, .unset] [(.int (8 : Int32)), (.int p1)] _
    refine iremM (g := (mkF m 10 #[iv p1, iv p2, iv (80 : Int32), .unset, .unset] [(.int (8 : Int32)), (.int p1)])) X0 hx rfl (hb hby d1_10) rfl (by decide) ?_
    exact kk)
  rw [hn] at pre2
  have pre3 : ∀ t, SS p e below m s₁ 288 #[iv p1, iv p2, iv (80 : Int32), iv n, .unset] [(.int (40 : Int32)), (.int (88 : Int32)), (.int p2), (.int n), (.int (80 : Int32))] t → B t := fun t kk => pre2 t (by
    refine XS.istoreN X0.here hx rfl (hb hby d1_11) rfl (l' := #[iv p1, iv p2, iv (80 : Int32), iv n, .unset]) rfl ?_
    refine XS.iloadN X0.here hx rfl (hb hby d1_12) rfl ?_
    refine X0.lookupswitchHit hx (g := (mkF m 13 #[iv p1, iv p2, iv (80 : Int32), iv n, .unset] [(.int (80 : Int32))])) rfl rfl (hb hby d1_13) (by decide) (a := 80) (off := 267) (by decide +kernel) (show (0 : Int) ≤ ((13 : Nat) : Int) + 267 from by decide) _ ?_
    show SS p e below m s₁ 280 #[iv p1, iv p2, iv (80 : Int32), iv n, .unset] [] _
    refine XS.bipush X0.here hx rfl (hb hby d1_280) ?_
    refine XS.iloadN X0.here hx rfl (hb hby d1_282) rfl ?_
    refine XS.iloadN X0.here hx rfl (hb hby d1_283) rfl ?_
    show SS p e below m s₁ 284 #[iv p1, iv p2, iv (80 : Int32), iv n, .unset] [(.int p2), (.int n), (.int (80 : Int32))] _
    refine XS.bipush X0.here hx rfl (hb hby d1_284) ?_
    refine XS.bipush X0.here hx rfl (hb hby d1_286) ?_
    exact kk)
  obtain ⟨_, _, ⟨T4, L4, k4, n4⟩, -, X4, ⟨Lc4, hQ4, l4, y4, z4⟩, st4⟩ := Jvm.LawKit.callS X0 hx (y := (⟨"pithline/html/ScriptData", "nameRead", "(IIIII)I"⟩ : MethodName)) hown (mvT hZ (hw _ (List.mem_of_getElem? (i := 56) rfl))) (mvT hZ (hw _ (List.mem_of_getElem? (i := 57) rfl))) (mvT hZ (hw _ (List.mem_of_getElem? (i := 5) rfl))) (mvT hZ (hw _ (List.mem_of_getElem? (i := 58) rfl))) (by decide) (own_backL (W := 0) (rmNR40W l Z a0 hw [] (80 : Int32) n p2 (88 : Int32) cz fm aA bA aB bB kA kB h0 n0 Z0 XO0 Scs hcz Sfm hfm EA CA UA VA EB CB UB VB hlo) hZ (fun vm1 hv => LW.stays (s := s) (show LW Z aA aB s.vm from hLW) (vm0 := s.vm) hv.wide) (hw _ (List.mem_of_getElem? (i := 58) rfl)) (hw _ (List.mem_of_getElem? (i := 5) rfl)) (by decide) (by decide)) (g := (mkF m 288 #[iv p1, iv p2, iv (80 : Int32), iv n, .unset] [(.int (40 : Int32)), (.int (88 : Int32)), (.int p2), (.int n), (.int (80 : Int32))])) rfl (by rw [hml]; rfl) (argsL := [(.int (80 : Int32)), (.int n), (.int p2), (.int (88 : Int32)), (.int (40 : Int32))]) (rest := []) (lenOf pd_10 rfl) rfl (by show 2 * 0 + _ ≤ _; exact Nat.le_of_eq rfl) (hb hby d1_288) (fun _ _ => ⟨rfl, e0, (by decide : 0 + 0 ≤ _), (by decide : 0 + 0 ≤ _)⟩)
  dsimp only [Pt.U, Pt.locs, Pt.cells, Pt.slots] at X4 l4 y4 z4 st4 hQ4
  subst l4 y4 z4
  obtain ⟨rfl, N4q, e4⟩ := hQ4
  have N4 := Fr.app N0 N4q
  have pre5 : ∀ t, SS p e below m T4 360 #[iv p1, iv p2, iv (80 : Int32), iv n, iv (fNR40W (80 : Int32) n p2 (88 : Int32))] [(.int (fNR40W (80 : Int32) n p2 (88 : Int32)))] t → B t := fun t kk => pre3 t (by
    refine st4 _ ?_
    refine XS.istore X4.here hx rfl (hb hby d1_291) rfl (l' := #[iv p1, iv p2, iv (80 : Int32), iv n, iv (fNR40W (80 : Int32) n p2 (88 : Int32))]) rfl ?_
    refine XS.goto X4.here hx rfl (pc0 := 293) (pc' := 358) rfl (hb hby d1_293) (by decide) (by decide) ?_
    show SS p e below m T4 358 #[iv p1, iv p2, iv (80 : Int32), iv n, iv (fNR40W (80 : Int32) n p2 (88 : Int32))] [] _
    refine XS.iload X4.here hx rfl (hb hby d1_358) rfl ?_
    exact kk)
  obtain ⟨fs, hr, hrun, hended, hW, hsame⟩ := X4.leave (v := some (.int (fNR40W (80 : Int32) n p2 (88 : Int32)))) (fun h => by rw [Bd.returns] at h; cases h)
  refine ⟨_, _, hB _ (pre5 _ ?_), hrun, hended, _, _, rfl, ?_, ⟨_, rfl⟩, hW, hsame.mono (by decide) (by decide)⟩
  · exact retI X4 hx Bd.returns (hb hby d1_360) hr
  · exact ⟨by show _ = some (Value.int (fN80W p1 p2 n)); rw [fN80W], N4, e4⟩
theorem ef_rmN80C (m : MethodId) (p1 : Int32) (p2 : Int32) : entryFrame m #[(.int p1), (.int p2)] 5 = mkF m 0 #[iv p1, iv p2, .unset, .unset, .unset] [] := by first | (simp [entryFrame, mkF, argsToLocals, Value.category]; done) | rfl
def fN80C (p1 : Int32) (p2 : Int32) (n : Int32) : Int32 := (fNR40C (80 : Int32) n p2 (88 : Int32))
set_option maxRecDepth 65536 in
set_option maxHeartbeats 40000000 in
theorem rmN80C (l : Launch) (Z : State) (a0 : Array Value) (hw : ∀ d ∈ tables_1, d.before a0 Z = true) (ws : List Jvm.Cond) (p1 : Int32) (p2 : Int32) (cz : Int32) (fm : Value) (n : Int32) (h0 : Heap) (n0 : Nat) (Z0 : n0 ≤ h0.size) (hEL : EW Z a0 consts_1) (XO0 : Ext Z.heap h0) (Scs : Sta Z Z.heap "java/lang/String" "COMPACT_STRINGS" "Z" (.int cz)) (hcz : ¬ (cz = (0 : Int32))) (Sfm : Sta Z Z.heap "jdk/internal/util/Preconditions" "SIOOBE_FORMATTER" "Ljava/util/function/BiFunction;" fm) (hfm : fm.isRef = true) (hbs : (p1 - (p1 % (8 : Int32))) = (80 : Int32)) (hn : (p1 % (8 : Int32)) = n) (hlo : ¬ (n < (0 : Int32))) :
    MetFree l (⟨"pithline/html/ScriptData", "next", "(II)I"⟩ : MethodName) (head1 (Jvm.Cond.code (⟨"pithline/html/ScriptData", "next", "(II)I"⟩ : MethodName) prog_41_method_2_code 5 (some .int) :: ws) ({ frames := 6, cells := 2, slots := 28, locals := 84 } : Room)) (fun a U => a = #[(.int p1), (.int p2)] ∧ Z.Warmed39 U.vm ∧ U.heap = h0 ∧ CHv Z consts_1 U.vm h0) (fun _ _ _ _ _ => True) (fun _ U o U' => ∃ v L, o = .returned v ∧ QC (fN80C p1 p2 n) (fun vm h => LitS Z "pithline/html/ScriptData" 62 vm h) h0 n0 v U'.heap U'.vm L ∧ CHr Z consts_1 U.vm U.heap U'.vm U'.heap ∧ ReturnedEndW U o U' L ({ frames := 6, cells := 2, slots := 28, locals := 84 } : Room).cells ({ frames := 6, cells := 2, slots := 28, locals := 84 } : Room).slots) := by
  refine MetFree.of_bodySF (plainFor_of_name pn_1) hisR ?_
  intro p e s m args below meth c s₁ Bd hml0 hP hK
  obtain ⟨rfl, hZ, hh, hCH⟩ := hP
  have hx := Bd.exec
  have hby := Bd.bytes
  have hml : c.maxLocals = 5 := hml0
  have hown : (s.setVm s.vm).vm.findClass "pithline/html/ScriptData" = some m.cls := findClass_of_methodNamed Bd.named
  replace hZ : Z.Warmed39 (s.setVm s.vm).vm := hZ
  have X0 : Stand p l e ({ frames := 6, cells := 2, slots := 28, locals := 84 } : Room) (s.setVm s.vm) m #[(.int p1), (.int p2)] below meth c s₁ [] 0 0 := Stand.of_body Bd
  have e0 : s₁.heap = h0 := by rw [← hh, Bd.state]; rfl
  have N0 := Fr.nil n0
  have hS0 : s.Since s.vm h0.size := (State.WarmedH.refl s).since _
  have hk0 : h0.size ≤ h0.size := Nat.le_refl _
  have C0 : CHr Z consts_1 s.vm h0 s.vm h0 := CHr.refl hCH
  have EX0 : Ext h0 h0 := ⟨Nat.le_refl _, fun _ _ q => q⟩
  obtain ⟨B, hB, pre0⟩ : ∃ B : State → Prop, (∀ t, B t → Steps p.tables e below (s₁.setTop (entryFrame m #[(.int p1), (.int p2)] 5)) t) ∧ ∀ t, SS p e below m s₁ 0 #[iv p1, iv p2, .unset, .unset, .unset] [] t → B t := ⟨_, fun _ q => q, fun t kk => castTop (ef_rmN80C m p1 p2) kk⟩
  have pre1 : ∀ t, SS p e below m s₁ 6 #[iv p1, iv p2, .unset, .unset, .unset] [(.int (p1 - (p1 % (8 : Int32))))] t → B t := fun t kk => pre0 t (by
    show SS p e below m s₁ 0 #[iv p1, iv p2, .unset, .unset, .unset] [] _
    refine XS.iloadN X0.here hx rfl (hb hby d1_0) rfl ?_
    refine XS.iloadN X0.here hx rfl (hb hby d1_1) rfl ?_
    refine XS.bipush X0.here hx rfl (hb hby d1_2) ?_
    show SS p e below m s₁ 4 #[iv p1, iv p2, .unset, .unset, .unset] [(.int (8 : Int32)), (.int p1), (.int p1)] _
    refine iremM (g := (mkF m 4 #[iv p1, iv p2, .unset, .unset, .unset] [(.int (8 : Int32)), (.int p1), (.int p1)])) X0 hx rfl (hb hby d1_4) rfl (by decide) ?_
    refine XS.isub X0.here hx rfl (hb hby d1_5) rfl ?_
    exact kk)
  rw [hbs] at pre1
  have pre2 : ∀ t, SS p e below m s₁ 11 #[iv p1, iv p2, iv (80 : Int32), .unset, .unset] [(.int (p1 % (8 : Int32)))] t → B t := fun t kk => pre1 t (by
    refine XS.istoreN X0.here hx rfl (hb hby d1_6) rfl (l' := #[iv p1, iv p2, iv (80 : Int32), .unset, .unset]) rfl ?_
    refine XS.iloadN X0.here hx rfl (hb hby d1_7) rfl ?_
    refine XS.bipush X0.here hx rfl (hb hby d1_8) ?_
    show SS p e below m s₁ 10 #[iv p1, iv p2, iv (80 : Int32), .unset, .unset] [(.int (8 : Int32)), (.int p1)] _
    refine iremM (g := (mkF m 10 #[iv p1, iv p2, iv (80 : Int32), .unset, .unset] [(.int (8 : Int32)), (.int p1)])) X0 hx rfl (hb hby d1_10) rfl (by decide) ?_
    exact kk)
  rw [hn] at pre2
  have pre3 : ∀ t, SS p e below m s₁ 288 #[iv p1, iv p2, iv (80 : Int32), iv n, .unset] [(.int (40 : Int32)), (.int (88 : Int32)), (.int p2), (.int n), (.int (80 : Int32))] t → B t := fun t kk => pre2 t (by
    refine XS.istoreN X0.here hx rfl (hb hby d1_11) rfl (l' := #[iv p1, iv p2, iv (80 : Int32), iv n, .unset]) rfl ?_
    refine XS.iloadN X0.here hx rfl (hb hby d1_12) rfl ?_
    refine X0.lookupswitchHit hx (g := (mkF m 13 #[iv p1, iv p2, iv (80 : Int32), iv n, .unset] [(.int (80 : Int32))])) rfl rfl (hb hby d1_13) (by decide) (a := 80) (off := 267) (by decide +kernel) (show (0 : Int) ≤ ((13 : Nat) : Int) + 267 from by decide) _ ?_
    show SS p e below m s₁ 280 #[iv p1, iv p2, iv (80 : Int32), iv n, .unset] [] _
    refine XS.bipush X0.here hx rfl (hb hby d1_280) ?_
    refine XS.iloadN X0.here hx rfl (hb hby d1_282) rfl ?_
    refine XS.iloadN X0.here hx rfl (hb hby d1_283) rfl ?_
    show SS p e below m s₁ 284 #[iv p1, iv p2, iv (80 : Int32), iv n, .unset] [(.int p2), (.int n), (.int (80 : Int32))] _
    refine XS.bipush X0.here hx rfl (hb hby d1_284) ?_
    refine XS.bipush X0.here hx rfl (hb hby d1_286) ?_
    exact kk)
  obtain ⟨_, _, ⟨T4, L4, k4, n4⟩, -, X4, hS4, hg4, ⟨Lc4, hQ4, l4, y4, z4, hC4⟩, st4⟩ := callSS X0 hx (y := (⟨"pithline/html/ScriptData", "nameRead", "(IIIII)I"⟩ : MethodName)) hown (mvT hZ (hw _ (List.mem_of_getElem? (i := 56) rfl))) (mvT hZ (hw _ (List.mem_of_getElem? (i := 57) rfl))) (mvT hZ (hw _ (List.mem_of_getElem? (i := 5) rfl))) (mvT hZ (hw _ (List.mem_of_getElem? (i := 58) rfl))) (by decide) (own_backS (s := s) (vm0 := s.vm) (EL := consts_1) (W := 0) (rmNR40C l Z a0 hw [] (80 : Int32) n p2 (88 : Int32) cz fm h0 n0 Z0 hEL XO0 Scs hcz Sfm hfm hlo) hZ (hw _ (List.mem_of_getElem? (i := 58) rfl)) (hw _ (List.mem_of_getElem? (i := 5) rfl)) (by decide) (by decide) hEL C0.1) (g := (mkF m 288 #[iv p1, iv p2, iv (80 : Int32), iv n, .unset] [(.int (40 : Int32)), (.int (88 : Int32)), (.int p2), (.int n), (.int (80 : Int32))])) rfl (by rw [hml]; rfl) (argsL := [(.int (80 : Int32)), (.int n), (.int p2), (.int (88 : Int32)), (.int (40 : Int32))]) (rest := []) (lenOf pd_10 rfl) rfl (by show 2 * 0 + _ ≤ _; exact Nat.le_of_eq rfl) (hb hby d1_288) (fun _ _ => ⟨rfl, e0, (by decide : 0 + 2 ≤ _), (by decide : 0 + 28 ≤ _)⟩)
  dsimp only [Pt.U, Pt.locs, Pt.cells, Pt.slots] at X4 l4 y4 z4 st4 hQ4 hS4 hg4 hC4
  subst l4 y4 z4
  obtain ⟨rfl, N4q, E4, hV4⟩ := hQ4
  replace hZ : Z.Warmed39 (s.setVm T4.vm).vm := State.Warmed39.trans (t := s.setVm s.vm) hZ hS4.1
  replace hown : (s.setVm T4.vm).vm.findClass "pithline/html/ScriptData" = some m.cls := by rw [show (s.setVm T4.vm).vm = T4.vm from rfl, hS4.1.alike.findClass]; exact hown
  have hs4 : s.Since T4.vm T4.heap.size := hS0.trans hS4 (Nat.le_trans hk0 (by first | exact hg4 | (have q := hg4; rw [e0] at q; exact q)))
  have hk4 : T4.heap.size ≤ T4.heap.size := Nat.le_refl _
  have C4 := C0.trans hC4
  have N4 := Fr.app N0 N4q
  have Z4 : n0 ≤ T4.heap.size := Nat.le_trans Z0 E4.1
  have XO4 : Ext Z.heap T4.heap := own_ext XO0 E4
  have EX4 : Ext h0 T4.heap := own_ext EX0 E4
  obtain ⟨a4, b4, kb4, hLt4, Ex4, Fc4, Fv4, Va4⟩ := hV4
  have pre5 : ∀ t, SS p e below m T4 360 #[iv p1, iv p2, iv (80 : Int32), iv n, iv (fNR40C (80 : Int32) n p2 (88 : Int32))] [(.int (fNR40C (80 : Int32) n p2 (88 : Int32)))] t → B t := fun t kk => pre3 t (by
    refine st4.trans ?_
    refine XS.istore X4.here hx rfl (hb hby d1_291) rfl (l' := #[iv p1, iv p2, iv (80 : Int32), iv n, iv (fNR40C (80 : Int32) n p2 (88 : Int32))]) rfl ?_
    refine XS.goto X4.here hx rfl (pc0 := 293) (pc' := 358) rfl (hb hby d1_293) (by decide) (by decide) ?_
    show SS p e below m T4 358 #[iv p1, iv p2, iv (80 : Int32), iv n, iv (fNR40C (80 : Int32) n p2 (88 : Int32))] [] _
    refine XS.iload X4.here hx rfl (hb hby d1_358) rfl ?_
    exact kk)
  have CF := C4.trans (CHv.at X4 hZ hEL C4.1)
  obtain ⟨fs, hr, hrun, hended, hRW⟩ := X4.leaveW (s := s) hs4 (by first | exact hk4 | (rw [rfl]; exact hk4)) (v := some (.int (fNR40C (80 : Int32) n p2 (88 : Int32)))) (fun h => by rw [Bd.returns] at h; cases h)
  refine ⟨_, _, hB _ (pre5 _ ?_), hrun, hended, _, _, rfl, ?_, ?_, ⟨hRW.1, hRW.2.1, hRW.2.2.1, hRW.2.2.2.mono (by decide) (by decide)⟩⟩
  · exact retI X4 hx Bd.returns (hb hby d1_360) hr
  · exact ⟨by show _ = some (Value.int (fN80C p1 p2 n)); rw [fN80C], N4, EX4, ⟨a4, b4, kb4, ⟨Lit.stays (s := s) (vm0 := T4.vm) hLt4 X4.warmed.wide, Ex4, Fc4, Fv4, Va4⟩⟩⟩
  · rw [hh]; exact CF
theorem d1_315 : decode prog_41_method_2_code 315 = .ok (.bipush 120, 2) := by decide +kernel
theorem d1_317 : decode prog_41_method_2_code 317 = .ok (.iload_n 3, 1) := by decide +kernel
theorem d1_318 : decode prog_41_method_2_code 318 = .ok (.iload_n 1, 1) := by decide +kernel
theorem d1_319 : decode prog_41_method_2_code 319 = .ok (.bipush 40, 2) := by decide +kernel
theorem d1_321 : decode prog_41_method_2_code 321 = .ok (.bipush 88, 2) := by decide +kernel
theorem d1_323 : decode prog_41_method_2_code 323 = .ok (.invokestatic 13, 3) := by decide +kernel
theorem d1_326 : decode prog_41_method_2_code 326 = .ok (.istore 4, 2) := by decide +kernel
theorem d1_328 : decode prog_41_method_2_code 328 = .ok (.goto 30, 3) := by decide +kernel
theorem ef_rmN120W (m : MethodId) (p1 : Int32) (p2 : Int32) : entryFrame m #[(.int p1), (.int p2)] 5 = mkF m 0 #[iv p1, iv p2, .unset, .unset, .unset] [] := by first | (simp [entryFrame, mkF, argsToLocals, Value.category]; done) | rfl
def fN120W (p1 : Int32) (p2 : Int32) (n : Int32) : Int32 := (fNR88W (120 : Int32) n p2 (40 : Int32))
set_option maxRecDepth 65536 in
set_option maxHeartbeats 40000000 in
theorem rmN120W (l : Launch) (Z : State) (a0 : Array Value) (hw : ∀ d ∈ tables_1, d.before a0 Z = true) (ws : List Jvm.Cond) (p1 : Int32) (p2 : Int32) (cz : Int32) (fm : Value) (aA bA aB bB : Addr) (kA kB : ClassId) (n : Int32) (h0 : Heap) (n0 : Nat) (Z0 : n0 ≤ h0.size) (XO0 : Ext Z.heap h0) (Scs : Sta Z Z.heap "java/lang/String" "COMPACT_STRINGS" "Z" (.int cz)) (hcz : ¬ (cz = (0 : Int32))) (Sfm : Sta Z Z.heap "jdk/internal/util/Preconditions" "SIOOBE_FORMATTER" "Ljava/util/function/BiFunction;" fm) (hfm : fm.isRef = true) (EA : Exa Z h0 aA "java/lang/String") (CA : Fld Z h0 aA "java/lang/String" "coder" "B" (.int (0 : Int32))) (UA : Fld Z h0 aA "java/lang/String" "value" "[B" (.ref bA)) (VA : Arv Z h0 bA kA .byte (6 : Int32) (own_vs.map Value.int) (.int (0 : Int32))) (EB : Exa Z h0 aB "java/lang/String") (CB : Fld Z h0 aB "java/lang/String" "coder" "B" (.int (0 : Int32))) (UB : Fld Z h0 aB "java/lang/String" "value" "[B" (.ref bB)) (VB : Arv Z h0 bB kB .byte (6 : Int32) (own_vs.map Value.int) (.int (0 : Int32))) (hbs : (p1 - (p1 % (8 : Int32))) = (120 : Int32)) (hn : (p1 % (8 : Int32)) = n) (hlo : ¬ (n < (0 : Int32))) :
    MetFree l (⟨"pithline/html/ScriptData", "next", "(II)I"⟩ : MethodName) (head1 (Jvm.Cond.code (⟨"pithline/html/ScriptData", "next", "(II)I"⟩ : MethodName) prog_41_method_2_code 5 (some .int) :: ws) ({ frames := 5, cells := 0, slots := 0, locals := 71 } : Room)) (fun a U => a = #[(.int p1), (.int p2)] ∧ Z.Warmed39 U.vm ∧ U.heap = h0 ∧ LW Z aA aB U.vm) (fun _ _ _ _ _ => True) (fun _ U o U' => ∃ v L, o = .returned v ∧ QI (fN120W p1 p2 n) h0 n0 v U'.heap L ∧ FrameEnd U o U' L ({ frames := 5, cells := 0, slots := 0, locals := 71 } : Room).cells ({ frames := 5, cells := 0, slots := 0, locals := 71 } : Room).slots) := by
  refine MetFree.of_bodySF (plainFor_of_name pn_1) hisR ?_
  intro p e s m args below meth c s₁ Bd hml0 hP hK
  obtain ⟨rfl, hZ, hh, hLW⟩ := hP
  have hx := Bd.exec
  have hby := Bd.bytes
  have hml : c.maxLocals = 5 := hml0
  have hown : s.vm.findClass "pithline/html/ScriptData" = some m.cls := findClass_of_methodNamed Bd.named
  have hnm := (name_of_methodNamed Bd.named Bd.method).1
  have X0 : Stand p l e ({ frames := 5, cells := 0, slots := 0, locals := 71 } : Room) s m #[(.int p1), (.int p2)] below meth c s₁ [] 0 0 := Stand.of_body Bd
  have e0 : s₁.heap = h0 := by rw [← hh, Bd.state]; rfl
  have N0 := Fr.nil n0
  obtain ⟨B, hB, pre0⟩ : ∃ B : State → Prop, (∀ t, B t → Steps p.tables e below (s₁.setTop (entryFrame m #[(.int p1), (.int p2)] 5)) t) ∧ ∀ t, SS p e below m s₁ 0 #[iv p1, iv p2, .unset, .unset, .unset] [] t → B t := ⟨_, fun _ q => q, fun t kk => castTop (ef_rmN120W m p1 p2) kk⟩
  have pre1 : ∀ t, SS p e below m s₁ 6 #[iv p1, iv p2, .unset, .unset, .unset] [(.int (p1 - (p1 % (8 : Int32))))] t → B t := fun t kk => pre0 t (by
    show SS p e below m s₁ 0 #[iv p1, iv p2, .unset, .unset, .unset] [] _
    refine XS.iloadN X0.here hx rfl (hb hby d1_0) rfl ?_
    refine XS.iloadN X0.here hx rfl (hb hby d1_1) rfl ?_
    refine XS.bipush X0.here hx rfl (hb hby d1_2) ?_
    show SS p e below m s₁ 4 #[iv p1, iv p2, .unset, .unset, .unset] [(.int (8 : Int32)), (.int p1), (.int p1)] _
    refine iremM (g := (mkF m 4 #[iv p1, iv p2, .unset, .unset, .unset] [(.int (8 : Int32)), (.int p1), (.int p1)])) X0 hx rfl (hb hby d1_4) rfl (by decide) ?_
    refine XS.isub X0.here hx rfl (hb hby d1_5) rfl ?_
    exact kk)
  rw [hbs] at pre1
  have pre2 : ∀ t, SS p e below m s₁ 11 #[iv p1, iv p2, iv (120 : Int32), .unset, .unset] [(.int (p1 % (8 : Int32)))] t → B t := fun t kk => pre1 t (by
    refine XS.istoreN X0.here hx rfl (hb hby d1_6) rfl (l' := #[iv p1, iv p2, iv (120 : Int32), .unset, .unset]) rfl ?_
    refine XS.iloadN X0.here hx rfl (hb hby d1_7) rfl ?_
    refine XS.bipush X0.here hx rfl (hb hby d1_8) ?_
    show SS p e below m s₁ 10 #[iv p1, iv p2, iv (120 : Int32), .unset, .unset] [(.int (8 : Int32)), (.int p1)] _
    refine iremM (g := (mkF m 10 #[iv p1, iv p2, iv (120 : Int32), .unset, .unset] [(.int (8 : Int32)), (.int p1)])) X0 hx rfl (hb hby d1_10) rfl (by decide) ?_
    exact kk)
  rw [hn] at pre2
  have pre3 : ∀ t, SS p e below m s₁ 323 #[iv p1, iv p2, iv (120 : Int32), iv n, .unset] [(.int (88 : Int32)), (.int (40 : Int32)), (.int p2), (.int n), (.int (120 : Int32))] t → B t := fun t kk => pre2 t (by
    refine XS.istoreN X0.here hx rfl (hb hby d1_11) rfl (l' := #[iv p1, iv p2, iv (120 : Int32), iv n, .unset]) rfl ?_
    refine XS.iloadN X0.here hx rfl (hb hby d1_12) rfl ?_
    refine X0.lookupswitchHit hx (g := (mkF m 13 #[iv p1, iv p2, iv (120 : Int32), iv n, .unset] [(.int (120 : Int32))])) rfl rfl (hb hby d1_13) (by decide) (a := 120) (off := 302) (by decide +kernel) (show (0 : Int) ≤ ((13 : Nat) : Int) + 302 from by decide) _ ?_
    show SS p e below m s₁ 315 #[iv p1, iv p2, iv (120 : Int32), iv n, .unset] [] _
    refine XS.bipush X0.here hx rfl (hb hby d1_315) ?_
    refine XS.iloadN X0.here hx rfl (hb hby d1_317) rfl ?_
    refine XS.iloadN X0.here hx rfl (hb hby d1_318) rfl ?_
    show SS p e below m s₁ 319 #[iv p1, iv p2, iv (120 : Int32), iv n, .unset] [(.int p2), (.int n), (.int (120 : Int32))] _
    refine XS.bipush X0.here hx rfl (hb hby d1_319) ?_
    refine XS.bipush X0.here hx rfl (hb hby d1_321) ?_
    exact kk)
  obtain ⟨_, _, ⟨T4, L4, k4, n4⟩, -, X4, ⟨Lc4, hQ4, l4, y4, z4⟩, st4⟩ := Jvm.LawKit.callS X0 hx (y := (⟨"pithline/html/ScriptData", "nameRead", "(IIIII)I"⟩ : MethodName)) hown (mvT hZ (hw _ (List.mem_of_getElem? (i := 56) rfl))) (mvT hZ (hw _ (List.mem_of_getElem? (i := 57) rfl))) (mvT hZ (hw _ (List.mem_of_getElem? (i := 5) rfl))) (mvT hZ (hw _ (List.mem_of_getElem? (i := 58) rfl))) (by decide) (own_backL (W := 0) (rmNR88W l Z a0 hw [] (120 : Int32) n p2 (40 : Int32) cz fm aA bA aB bB kA kB h0 n0 Z0 XO0 Scs hcz Sfm hfm EA CA UA VA EB CB UB VB hlo) hZ (fun vm1 hv => LW.stays (s := s) (show LW Z aA aB s.vm from hLW) (vm0 := s.vm) hv.wide) (hw _ (List.mem_of_getElem? (i := 58) rfl)) (hw _ (List.mem_of_getElem? (i := 5) rfl)) (by decide) (by decide)) (g := (mkF m 323 #[iv p1, iv p2, iv (120 : Int32), iv n, .unset] [(.int (88 : Int32)), (.int (40 : Int32)), (.int p2), (.int n), (.int (120 : Int32))])) rfl (by rw [hml]; rfl) (argsL := [(.int (120 : Int32)), (.int n), (.int p2), (.int (40 : Int32)), (.int (88 : Int32))]) (rest := []) (lenOf pd_10 rfl) rfl (by show 2 * 0 + _ ≤ _; exact Nat.le_of_eq rfl) (hb hby d1_323) (fun _ _ => ⟨rfl, e0, (by decide : 0 + 0 ≤ _), (by decide : 0 + 0 ≤ _)⟩)
  dsimp only [Pt.U, Pt.locs, Pt.cells, Pt.slots] at X4 l4 y4 z4 st4 hQ4
  subst l4 y4 z4
  obtain ⟨rfl, N4q, e4⟩ := hQ4
  have N4 := Fr.app N0 N4q
  have pre5 : ∀ t, SS p e below m T4 360 #[iv p1, iv p2, iv (120 : Int32), iv n, iv (fNR88W (120 : Int32) n p2 (40 : Int32))] [(.int (fNR88W (120 : Int32) n p2 (40 : Int32)))] t → B t := fun t kk => pre3 t (by
    refine st4 _ ?_
    refine XS.istore X4.here hx rfl (hb hby d1_326) rfl (l' := #[iv p1, iv p2, iv (120 : Int32), iv n, iv (fNR88W (120 : Int32) n p2 (40 : Int32))]) rfl ?_
    refine XS.goto X4.here hx rfl (pc0 := 328) (pc' := 358) rfl (hb hby d1_328) (by decide) (by decide) ?_
    show SS p e below m T4 358 #[iv p1, iv p2, iv (120 : Int32), iv n, iv (fNR88W (120 : Int32) n p2 (40 : Int32))] [] _
    refine XS.iload X4.here hx rfl (hb hby d1_358) rfl ?_
    exact kk)
  obtain ⟨fs, hr, hrun, hended, hW, hsame⟩ := X4.leave (v := some (.int (fNR88W (120 : Int32) n p2 (40 : Int32)))) (fun h => by rw [Bd.returns] at h; cases h)
  refine ⟨_, _, hB _ (pre5 _ ?_), hrun, hended, _, _, rfl, ?_, ⟨_, rfl⟩, hW, hsame.mono (by decide) (by decide)⟩
  · exact retI X4 hx Bd.returns (hb hby d1_360) hr
  · exact ⟨by show _ = some (Value.int (fN120W p1 p2 n)); rw [fN120W], N4, e4⟩
theorem ef_rmN120C (m : MethodId) (p1 : Int32) (p2 : Int32) : entryFrame m #[(.int p1), (.int p2)] 5 = mkF m 0 #[iv p1, iv p2, .unset, .unset, .unset] [] := by first | (simp [entryFrame, mkF, argsToLocals, Value.category]; done) | rfl
def fN120C (p1 : Int32) (p2 : Int32) (n : Int32) : Int32 := (fNR88C (120 : Int32) n p2 (40 : Int32))
set_option maxRecDepth 65536 in
set_option maxHeartbeats 40000000 in
theorem rmN120C (l : Launch) (Z : State) (a0 : Array Value) (hw : ∀ d ∈ tables_1, d.before a0 Z = true) (ws : List Jvm.Cond) (p1 : Int32) (p2 : Int32) (cz : Int32) (fm : Value) (n : Int32) (h0 : Heap) (n0 : Nat) (Z0 : n0 ≤ h0.size) (hEL : EW Z a0 consts_1) (XO0 : Ext Z.heap h0) (Scs : Sta Z Z.heap "java/lang/String" "COMPACT_STRINGS" "Z" (.int cz)) (hcz : ¬ (cz = (0 : Int32))) (Sfm : Sta Z Z.heap "jdk/internal/util/Preconditions" "SIOOBE_FORMATTER" "Ljava/util/function/BiFunction;" fm) (hfm : fm.isRef = true) (hbs : (p1 - (p1 % (8 : Int32))) = (120 : Int32)) (hn : (p1 % (8 : Int32)) = n) (hlo : ¬ (n < (0 : Int32))) :
    MetFree l (⟨"pithline/html/ScriptData", "next", "(II)I"⟩ : MethodName) (head1 (Jvm.Cond.code (⟨"pithline/html/ScriptData", "next", "(II)I"⟩ : MethodName) prog_41_method_2_code 5 (some .int) :: ws) ({ frames := 6, cells := 2, slots := 28, locals := 84 } : Room)) (fun a U => a = #[(.int p1), (.int p2)] ∧ Z.Warmed39 U.vm ∧ U.heap = h0 ∧ CHv Z consts_1 U.vm h0) (fun _ _ _ _ _ => True) (fun _ U o U' => ∃ v L, o = .returned v ∧ QC (fN120C p1 p2 n) (fun vm h => LitS Z "pithline/html/ScriptData" 62 vm h) h0 n0 v U'.heap U'.vm L ∧ CHr Z consts_1 U.vm U.heap U'.vm U'.heap ∧ ReturnedEndW U o U' L ({ frames := 6, cells := 2, slots := 28, locals := 84 } : Room).cells ({ frames := 6, cells := 2, slots := 28, locals := 84 } : Room).slots) := by
  refine MetFree.of_bodySF (plainFor_of_name pn_1) hisR ?_
  intro p e s m args below meth c s₁ Bd hml0 hP hK
  obtain ⟨rfl, hZ, hh, hCH⟩ := hP
  have hx := Bd.exec
  have hby := Bd.bytes
  have hml : c.maxLocals = 5 := hml0
  have hown : (s.setVm s.vm).vm.findClass "pithline/html/ScriptData" = some m.cls := findClass_of_methodNamed Bd.named
  replace hZ : Z.Warmed39 (s.setVm s.vm).vm := hZ
  have X0 : Stand p l e ({ frames := 6, cells := 2, slots := 28, locals := 84 } : Room) (s.setVm s.vm) m #[(.int p1), (.int p2)] below meth c s₁ [] 0 0 := Stand.of_body Bd
  have e0 : s₁.heap = h0 := by rw [← hh, Bd.state]; rfl
  have N0 := Fr.nil n0
  have hS0 : s.Since s.vm h0.size := (State.WarmedH.refl s).since _
  have hk0 : h0.size ≤ h0.size := Nat.le_refl _
  have C0 : CHr Z consts_1 s.vm h0 s.vm h0 := CHr.refl hCH
  have EX0 : Ext h0 h0 := ⟨Nat.le_refl _, fun _ _ q => q⟩
  obtain ⟨B, hB, pre0⟩ : ∃ B : State → Prop, (∀ t, B t → Steps p.tables e below (s₁.setTop (entryFrame m #[(.int p1), (.int p2)] 5)) t) ∧ ∀ t, SS p e below m s₁ 0 #[iv p1, iv p2, .unset, .unset, .unset] [] t → B t := ⟨_, fun _ q => q, fun t kk => castTop (ef_rmN120C m p1 p2) kk⟩
  have pre1 : ∀ t, SS p e below m s₁ 6 #[iv p1, iv p2, .unset, .unset, .unset] [(.int (p1 - (p1 % (8 : Int32))))] t → B t := fun t kk => pre0 t (by
    show SS p e below m s₁ 0 #[iv p1, iv p2, .unset, .unset, .unset] [] _
    refine XS.iloadN X0.here hx rfl (hb hby d1_0) rfl ?_
    refine XS.iloadN X0.here hx rfl (hb hby d1_1) rfl ?_
    refine XS.bipush X0.here hx rfl (hb hby d1_2) ?_
    show SS p e below m s₁ 4 #[iv p1, iv p2, .unset, .unset, .unset] [(.int (8 : Int32)), (.int p1), (.int p1)] _
    refine iremM (g := (mkF m 4 #[iv p1, iv p2, .unset, .unset, .unset] [(.int (8 : Int32)), (.int p1), (.int p1)])) X0 hx rfl (hb hby d1_4) rfl (by decide) ?_
    refine XS.isub X0.here hx rfl (hb hby d1_5) rfl ?_
    exact kk)
  rw [hbs] at pre1
  have pre2 : ∀ t, SS p e below m s₁ 11 #[iv p1, iv p2, iv (120 : Int32), .unset, .unset] [(.int (p1 % (8 : Int32)))] t → B t := fun t kk => pre1 t (by
    refine XS.istoreN X0.here hx rfl (hb hby d1_6) rfl (l' := #[iv p1, iv p2, iv (120 : Int32), .unset, .unset]) rfl ?_
    refine XS.iloadN X0.here hx rfl (hb hby d1_7) rfl ?_
    refine XS.bipush X0.here hx rfl (hb hby d1_8) ?_
    show SS p e below m s₁ 10 #[iv p1, iv p2, iv (120 : Int32), .unset, .unset] [(.int (8 : Int32)), (.int p1)] _
    refine iremM (g := (mkF m 10 #[iv p1, iv p2, iv (120 : Int32), .unset, .unset] [(.int (8 : Int32)), (.int p1)])) X0 hx rfl (hb hby d1_10) rfl (by decide) ?_
    exact kk)
  rw [hn] at pre2
  have pre3 : ∀ t, SS p e below m s₁ 323 #[iv p1, iv p2, iv (120 : Int32), iv n, .unset] [(.int (88 : Int32)), (.int (40 : Int32)), (.int p2), (.int n), (.int (120 : Int32))] t → B t := fun t kk => pre2 t (by
    refine XS.istoreN X0.here hx rfl (hb hby d1_11) rfl (l' := #[iv p1, iv p2, iv (120 : Int32), iv n, .unset]) rfl ?_
    refine XS.iloadN X0.here hx rfl (hb hby d1_12) rfl ?_
    refine X0.lookupswitchHit hx (g := (mkF m 13 #[iv p1, iv p2, iv (120 : Int32), iv n, .unset] [(.int (120 : Int32))])) rfl rfl (hb hby d1_13) (by decide) (a := 120) (off := 302) (by decide +kernel) (show (0 : Int) ≤ ((13 : Nat) : Int) + 302 from by decide) _ ?_
    show SS p e below m s₁ 315 #[iv p1, iv p2, iv (120 : Int32), iv n, .unset] [] _
    refine XS.bipush X0.here hx rfl (hb hby d1_315) ?_
    refine XS.iloadN X0.here hx rfl (hb hby d1_317) rfl ?_
    refine XS.iloadN X0.here hx rfl (hb hby d1_318) rfl ?_
    show SS p e below m s₁ 319 #[iv p1, iv p2, iv (120 : Int32), iv n, .unset] [(.int p2), (.int n), (.int (120 : Int32))] _
    refine XS.bipush X0.here hx rfl (hb hby d1_319) ?_
    refine XS.bipush X0.here hx rfl (hb hby d1_321) ?_
    exact kk)
  obtain ⟨_, _, ⟨T4, L4, k4, n4⟩, -, X4, hS4, hg4, ⟨Lc4, hQ4, l4, y4, z4, hC4⟩, st4⟩ := callSS X0 hx (y := (⟨"pithline/html/ScriptData", "nameRead", "(IIIII)I"⟩ : MethodName)) hown (mvT hZ (hw _ (List.mem_of_getElem? (i := 56) rfl))) (mvT hZ (hw _ (List.mem_of_getElem? (i := 57) rfl))) (mvT hZ (hw _ (List.mem_of_getElem? (i := 5) rfl))) (mvT hZ (hw _ (List.mem_of_getElem? (i := 58) rfl))) (by decide) (own_backS (s := s) (vm0 := s.vm) (EL := consts_1) (W := 0) (rmNR88C l Z a0 hw [] (120 : Int32) n p2 (40 : Int32) cz fm h0 n0 Z0 hEL XO0 Scs hcz Sfm hfm hlo) hZ (hw _ (List.mem_of_getElem? (i := 58) rfl)) (hw _ (List.mem_of_getElem? (i := 5) rfl)) (by decide) (by decide) hEL C0.1) (g := (mkF m 323 #[iv p1, iv p2, iv (120 : Int32), iv n, .unset] [(.int (88 : Int32)), (.int (40 : Int32)), (.int p2), (.int n), (.int (120 : Int32))])) rfl (by rw [hml]; rfl) (argsL := [(.int (120 : Int32)), (.int n), (.int p2), (.int (40 : Int32)), (.int (88 : Int32))]) (rest := []) (lenOf pd_10 rfl) rfl (by show 2 * 0 + _ ≤ _; exact Nat.le_of_eq rfl) (hb hby d1_323) (fun _ _ => ⟨rfl, e0, (by decide : 0 + 2 ≤ _), (by decide : 0 + 28 ≤ _)⟩)
  dsimp only [Pt.U, Pt.locs, Pt.cells, Pt.slots] at X4 l4 y4 z4 st4 hQ4 hS4 hg4 hC4
  subst l4 y4 z4
  obtain ⟨rfl, N4q, E4, hV4⟩ := hQ4
  replace hZ : Z.Warmed39 (s.setVm T4.vm).vm := State.Warmed39.trans (t := s.setVm s.vm) hZ hS4.1
  replace hown : (s.setVm T4.vm).vm.findClass "pithline/html/ScriptData" = some m.cls := by rw [show (s.setVm T4.vm).vm = T4.vm from rfl, hS4.1.alike.findClass]; exact hown
  have hs4 : s.Since T4.vm T4.heap.size := hS0.trans hS4 (Nat.le_trans hk0 (by first | exact hg4 | (have q := hg4; rw [e0] at q; exact q)))
  have hk4 : T4.heap.size ≤ T4.heap.size := Nat.le_refl _
  have C4 := C0.trans hC4
  have N4 := Fr.app N0 N4q
  have Z4 : n0 ≤ T4.heap.size := Nat.le_trans Z0 E4.1
  have XO4 : Ext Z.heap T4.heap := own_ext XO0 E4
  have EX4 : Ext h0 T4.heap := own_ext EX0 E4
  obtain ⟨a4, b4, kb4, hLt4, Ex4, Fc4, Fv4, Va4⟩ := hV4
  have pre5 : ∀ t, SS p e below m T4 360 #[iv p1, iv p2, iv (120 : Int32), iv n, iv (fNR88C (120 : Int32) n p2 (40 : Int32))] [(.int (fNR88C (120 : Int32) n p2 (40 : Int32)))] t → B t := fun t kk => pre3 t (by
    refine st4.trans ?_
    refine XS.istore X4.here hx rfl (hb hby d1_326) rfl (l' := #[iv p1, iv p2, iv (120 : Int32), iv n, iv (fNR88C (120 : Int32) n p2 (40 : Int32))]) rfl ?_
    refine XS.goto X4.here hx rfl (pc0 := 328) (pc' := 358) rfl (hb hby d1_328) (by decide) (by decide) ?_
    show SS p e below m T4 358 #[iv p1, iv p2, iv (120 : Int32), iv n, iv (fNR88C (120 : Int32) n p2 (40 : Int32))] [] _
    refine XS.iload X4.here hx rfl (hb hby d1_358) rfl ?_
    exact kk)
  have CF := C4.trans (CHv.at X4 hZ hEL C4.1)
  obtain ⟨fs, hr, hrun, hended, hRW⟩ := X4.leaveW (s := s) hs4 (by first | exact hk4 | (rw [rfl]; exact hk4)) (v := some (.int (fNR88C (120 : Int32) n p2 (40 : Int32)))) (fun h => by rw [Bd.returns] at h; cases h)
  refine ⟨_, _, hB _ (pre5 _ ?_), hrun, hended, _, _, rfl, ?_, ?_, ⟨hRW.1, hRW.2.1, hRW.2.2.1, hRW.2.2.2.mono (by decide) (by decide)⟩⟩
  · exact retI X4 hx Bd.returns (hb hby d1_360) hr
  · exact ⟨by show _ = some (Value.int (fN120C p1 p2 n)); rw [fN120C], N4, EX4, ⟨a4, b4, kb4, ⟨Lit.stays (s := s) (vm0 := T4.vm) hLt4 X4.warmed.wide, Ex4, Fc4, Fv4, Va4⟩⟩⟩
  · rw [hh]; exact CF
theorem d1_331 : decode prog_41_method_2_code 331 = .ok (.sipush 128, 3) := by decide +kernel
theorem d1_334 : decode prog_41_method_2_code 334 = .ok (.iload_n 3, 1) := by decide +kernel
theorem d1_335 : decode prog_41_method_2_code 335 = .ok (.iload_n 1, 1) := by decide +kernel
theorem d1_336 : decode prog_41_method_2_code 336 = .ok (.bipush 88, 2) := by decide +kernel
theorem d1_338 : decode prog_41_method_2_code 338 = .ok (.bipush 88, 2) := by decide +kernel
theorem d1_340 : decode prog_41_method_2_code 340 = .ok (.invokestatic 13, 3) := by decide +kernel
theorem d1_343 : decode prog_41_method_2_code 343 = .ok (.istore 4, 2) := by decide +kernel
theorem d1_345 : decode prog_41_method_2_code 345 = .ok (.goto 13, 3) := by decide +kernel
theorem ef_rmN128W (m : MethodId) (p1 : Int32) (p2 : Int32) : entryFrame m #[(.int p1), (.int p2)] 5 = mkF m 0 #[iv p1, iv p2, .unset, .unset, .unset] [] := by first | (simp [entryFrame, mkF, argsToLocals, Value.category]; done) | rfl
def fN128W (p1 : Int32) (p2 : Int32) (n : Int32) : Int32 := (fNR88W (128 : Int32) n p2 (88 : Int32))
set_option maxRecDepth 65536 in
set_option maxHeartbeats 40000000 in
theorem rmN128W (l : Launch) (Z : State) (a0 : Array Value) (hw : ∀ d ∈ tables_1, d.before a0 Z = true) (ws : List Jvm.Cond) (p1 : Int32) (p2 : Int32) (cz : Int32) (fm : Value) (aA bA aB bB : Addr) (kA kB : ClassId) (n : Int32) (h0 : Heap) (n0 : Nat) (Z0 : n0 ≤ h0.size) (XO0 : Ext Z.heap h0) (Scs : Sta Z Z.heap "java/lang/String" "COMPACT_STRINGS" "Z" (.int cz)) (hcz : ¬ (cz = (0 : Int32))) (Sfm : Sta Z Z.heap "jdk/internal/util/Preconditions" "SIOOBE_FORMATTER" "Ljava/util/function/BiFunction;" fm) (hfm : fm.isRef = true) (EA : Exa Z h0 aA "java/lang/String") (CA : Fld Z h0 aA "java/lang/String" "coder" "B" (.int (0 : Int32))) (UA : Fld Z h0 aA "java/lang/String" "value" "[B" (.ref bA)) (VA : Arv Z h0 bA kA .byte (6 : Int32) (own_vs.map Value.int) (.int (0 : Int32))) (EB : Exa Z h0 aB "java/lang/String") (CB : Fld Z h0 aB "java/lang/String" "coder" "B" (.int (0 : Int32))) (UB : Fld Z h0 aB "java/lang/String" "value" "[B" (.ref bB)) (VB : Arv Z h0 bB kB .byte (6 : Int32) (own_vs.map Value.int) (.int (0 : Int32))) (hbs : (p1 - (p1 % (8 : Int32))) = (128 : Int32)) (hn : (p1 % (8 : Int32)) = n) (hlo : ¬ (n < (0 : Int32))) :
    MetFree l (⟨"pithline/html/ScriptData", "next", "(II)I"⟩ : MethodName) (head1 (Jvm.Cond.code (⟨"pithline/html/ScriptData", "next", "(II)I"⟩ : MethodName) prog_41_method_2_code 5 (some .int) :: ws) ({ frames := 5, cells := 0, slots := 0, locals := 71 } : Room)) (fun a U => a = #[(.int p1), (.int p2)] ∧ Z.Warmed39 U.vm ∧ U.heap = h0 ∧ LW Z aA aB U.vm) (fun _ _ _ _ _ => True) (fun _ U o U' => ∃ v L, o = .returned v ∧ QI (fN128W p1 p2 n) h0 n0 v U'.heap L ∧ FrameEnd U o U' L ({ frames := 5, cells := 0, slots := 0, locals := 71 } : Room).cells ({ frames := 5, cells := 0, slots := 0, locals := 71 } : Room).slots) := by
  refine MetFree.of_bodySF (plainFor_of_name pn_1) hisR ?_
  intro p e s m args below meth c s₁ Bd hml0 hP hK
  obtain ⟨rfl, hZ, hh, hLW⟩ := hP
  have hx := Bd.exec
  have hby := Bd.bytes
  have hml : c.maxLocals = 5 := hml0
  have hown : s.vm.findClass "pithline/html/ScriptData" = some m.cls := findClass_of_methodNamed Bd.named
  have hnm := (name_of_methodNamed Bd.named Bd.method).1
  have X0 : Stand p l e ({ frames := 5, cells := 0, slots := 0, locals := 71 } : Room) s m #[(.int p1), (.int p2)] below meth c s₁ [] 0 0 := Stand.of_body Bd
  have e0 : s₁.heap = h0 := by rw [← hh, Bd.state]; rfl
  have N0 := Fr.nil n0
  obtain ⟨B, hB, pre0⟩ : ∃ B : State → Prop, (∀ t, B t → Steps p.tables e below (s₁.setTop (entryFrame m #[(.int p1), (.int p2)] 5)) t) ∧ ∀ t, SS p e below m s₁ 0 #[iv p1, iv p2, .unset, .unset, .unset] [] t → B t := ⟨_, fun _ q => q, fun t kk => castTop (ef_rmN128W m p1 p2) kk⟩
  have pre1 : ∀ t, SS p e below m s₁ 6 #[iv p1, iv p2, .unset, .unset, .unset] [(.int (p1 - (p1 % (8 : Int32))))] t → B t := fun t kk => pre0 t (by
    show SS p e below m s₁ 0 #[iv p1, iv p2, .unset, .unset, .unset] [] _
    refine XS.iloadN X0.here hx rfl (hb hby d1_0) rfl ?_
    refine XS.iloadN X0.here hx rfl (hb hby d1_1) rfl ?_
    refine XS.bipush X0.here hx rfl (hb hby d1_2) ?_
    show SS p e below m s₁ 4 #[iv p1, iv p2, .unset, .unset, .unset] [(.int (8 : Int32)), (.int p1), (.int p1)] _
    refine iremM (g := (mkF m 4 #[iv p1, iv p2, .unset, .unset, .unset] [(.int (8 : Int32)), (.int p1), (.int p1)])) X0 hx rfl (hb hby d1_4) rfl (by decide) ?_
    refine XS.isub X0.here hx rfl (hb hby d1_5) rfl ?_
    exact kk)
  rw [hbs] at pre1
  have pre2 : ∀ t, SS p e below m s₁ 11 #[iv p1, iv p2, iv (128 : Int32), .unset, .unset] [(.int (p1 % (8 : Int32)))] t → B t := fun t kk => pre1 t (by
    refine XS.istoreN X0.here hx rfl (hb hby d1_6) rfl (l' := #[iv p1, iv p2, iv (128 : Int32), .unset, .unset]) rfl ?_
    refine XS.iloadN X0.here hx rfl (hb hby d1_7) rfl ?_
    refine XS.bipush X0.here hx rfl (hb hby d1_8) ?_
    show SS p e below m s₁ 10 #[iv p1, iv p2, iv (128 : Int32), .unset, .unset] [(.int (8 : Int32)), (.int p1)] _
    refine iremM (g := (mkF m 10 #[iv p1, iv p2, iv (128 : Int32), .unset, .unset] [(.int (8 : Int32)), (.int p1)])) X0 hx rfl (hb hby d1_10) rfl (by decide) ?_
    exact kk)
  rw [hn] at pre2
  have pre3 : ∀ t, SS p e below m s₁ 340 #[iv p1, iv p2, iv (128 : Int32), iv n, .unset] [(.int (88 : Int32)), (.int (88 : Int32)), (.int p2), (.int n), (.int (128 : Int32))] t → B t := fun t kk => pre2 t (by
    refine XS.istoreN X0.here hx rfl (hb hby d1_11) rfl (l' := #[iv p1, iv p2, iv (128 : Int32), iv n, .unset]) rfl ?_
    refine XS.iloadN X0.here hx rfl (hb hby d1_12) rfl ?_
    refine X0.lookupswitchHit hx (g := (mkF m 13 #[iv p1, iv p2, iv (128 : Int32), iv n, .unset] [(.int (128 : Int32))])) rfl rfl (hb hby d1_13) (by decide) (a := 128) (off := 318) (by decide +kernel) (show (0 : Int) ≤ ((13 : Nat) : Int) + 318 from by decide) _ ?_
    show SS p e below m s₁ 331 #[iv p1, iv p2, iv (128 : Int32), iv n, .unset] [] _
    refine XS.sipush X0.here hx rfl (hb hby d1_331) ?_
    refine XS.iloadN X0.here hx rfl (hb hby d1_334) rfl ?_
    refine XS.iloadN X0.here hx rfl (hb hby d1_335) rfl ?_
    show SS p e below m s₁ 336 #[iv p1, iv p2, iv (128 : Int32), iv n, .unset] [(.int p2), (.int n), (.int (128 : Int32))] _
    refine XS.bipush X0.here hx rfl (hb hby d1_336) ?_
    refine XS.bipush X0.here hx rfl (hb hby d1_338) ?_
    exact kk)
  obtain ⟨_, _, ⟨T4, L4, k4, n4⟩, -, X4, ⟨Lc4, hQ4, l4, y4, z4⟩, st4⟩ := Jvm.LawKit.callS X0 hx (y := (⟨"pithline/html/ScriptData", "nameRead", "(IIIII)I"⟩ : MethodName)) hown (mvT hZ (hw _ (List.mem_of_getElem? (i := 56) rfl))) (mvT hZ (hw _ (List.mem_of_getElem? (i := 57) rfl))) (mvT hZ (hw _ (List.mem_of_getElem? (i := 5) rfl))) (mvT hZ (hw _ (List.mem_of_getElem? (i := 58) rfl))) (by decide) (own_backL (W := 0) (rmNR88W l Z a0 hw [] (128 : Int32) n p2 (88 : Int32) cz fm aA bA aB bB kA kB h0 n0 Z0 XO0 Scs hcz Sfm hfm EA CA UA VA EB CB UB VB hlo) hZ (fun vm1 hv => LW.stays (s := s) (show LW Z aA aB s.vm from hLW) (vm0 := s.vm) hv.wide) (hw _ (List.mem_of_getElem? (i := 58) rfl)) (hw _ (List.mem_of_getElem? (i := 5) rfl)) (by decide) (by decide)) (g := (mkF m 340 #[iv p1, iv p2, iv (128 : Int32), iv n, .unset] [(.int (88 : Int32)), (.int (88 : Int32)), (.int p2), (.int n), (.int (128 : Int32))])) rfl (by rw [hml]; rfl) (argsL := [(.int (128 : Int32)), (.int n), (.int p2), (.int (88 : Int32)), (.int (88 : Int32))]) (rest := []) (lenOf pd_10 rfl) rfl (by show 2 * 0 + _ ≤ _; exact Nat.le_of_eq rfl) (hb hby d1_340) (fun _ _ => ⟨rfl, e0, (by decide : 0 + 0 ≤ _), (by decide : 0 + 0 ≤ _)⟩)
  dsimp only [Pt.U, Pt.locs, Pt.cells, Pt.slots] at X4 l4 y4 z4 st4 hQ4
  subst l4 y4 z4
  obtain ⟨rfl, N4q, e4⟩ := hQ4
  have N4 := Fr.app N0 N4q
  have pre5 : ∀ t, SS p e below m T4 360 #[iv p1, iv p2, iv (128 : Int32), iv n, iv (fNR88W (128 : Int32) n p2 (88 : Int32))] [(.int (fNR88W (128 : Int32) n p2 (88 : Int32)))] t → B t := fun t kk => pre3 t (by
    refine st4 _ ?_
    refine XS.istore X4.here hx rfl (hb hby d1_343) rfl (l' := #[iv p1, iv p2, iv (128 : Int32), iv n, iv (fNR88W (128 : Int32) n p2 (88 : Int32))]) rfl ?_
    refine XS.goto X4.here hx rfl (pc0 := 345) (pc' := 358) rfl (hb hby d1_345) (by decide) (by decide) ?_
    show SS p e below m T4 358 #[iv p1, iv p2, iv (128 : Int32), iv n, iv (fNR88W (128 : Int32) n p2 (88 : Int32))] [] _
    refine XS.iload X4.here hx rfl (hb hby d1_358) rfl ?_
    exact kk)
  obtain ⟨fs, hr, hrun, hended, hW, hsame⟩ := X4.leave (v := some (.int (fNR88W (128 : Int32) n p2 (88 : Int32)))) (fun h => by rw [Bd.returns] at h; cases h)
  refine ⟨_, _, hB _ (pre5 _ ?_), hrun, hended, _, _, rfl, ?_, ⟨_, rfl⟩, hW, hsame.mono (by decide) (by decide)⟩
  · exact retI X4 hx Bd.returns (hb hby d1_360) hr
  · exact ⟨by show _ = some (Value.int (fN128W p1 p2 n)); rw [fN128W], N4, e4⟩
theorem ef_rmN128C (m : MethodId) (p1 : Int32) (p2 : Int32) : entryFrame m #[(.int p1), (.int p2)] 5 = mkF m 0 #[iv p1, iv p2, .unset, .unset, .unset] [] := by first | (simp [entryFrame, mkF, argsToLocals, Value.category]; done) | rfl
def fN128C (p1 : Int32) (p2 : Int32) (n : Int32) : Int32 := (fNR88C (128 : Int32) n p2 (88 : Int32))
set_option maxRecDepth 65536 in
set_option maxHeartbeats 40000000 in
theorem rmN128C (l : Launch) (Z : State) (a0 : Array Value) (hw : ∀ d ∈ tables_1, d.before a0 Z = true) (ws : List Jvm.Cond) (p1 : Int32) (p2 : Int32) (cz : Int32) (fm : Value) (n : Int32) (h0 : Heap) (n0 : Nat) (Z0 : n0 ≤ h0.size) (hEL : EW Z a0 consts_1) (XO0 : Ext Z.heap h0) (Scs : Sta Z Z.heap "java/lang/String" "COMPACT_STRINGS" "Z" (.int cz)) (hcz : ¬ (cz = (0 : Int32))) (Sfm : Sta Z Z.heap "jdk/internal/util/Preconditions" "SIOOBE_FORMATTER" "Ljava/util/function/BiFunction;" fm) (hfm : fm.isRef = true) (hbs : (p1 - (p1 % (8 : Int32))) = (128 : Int32)) (hn : (p1 % (8 : Int32)) = n) (hlo : ¬ (n < (0 : Int32))) :
    MetFree l (⟨"pithline/html/ScriptData", "next", "(II)I"⟩ : MethodName) (head1 (Jvm.Cond.code (⟨"pithline/html/ScriptData", "next", "(II)I"⟩ : MethodName) prog_41_method_2_code 5 (some .int) :: ws) ({ frames := 6, cells := 2, slots := 28, locals := 84 } : Room)) (fun a U => a = #[(.int p1), (.int p2)] ∧ Z.Warmed39 U.vm ∧ U.heap = h0 ∧ CHv Z consts_1 U.vm h0) (fun _ _ _ _ _ => True) (fun _ U o U' => ∃ v L, o = .returned v ∧ QC (fN128C p1 p2 n) (fun vm h => LitS Z "pithline/html/ScriptData" 62 vm h) h0 n0 v U'.heap U'.vm L ∧ CHr Z consts_1 U.vm U.heap U'.vm U'.heap ∧ ReturnedEndW U o U' L ({ frames := 6, cells := 2, slots := 28, locals := 84 } : Room).cells ({ frames := 6, cells := 2, slots := 28, locals := 84 } : Room).slots) := by
  refine MetFree.of_bodySF (plainFor_of_name pn_1) hisR ?_
  intro p e s m args below meth c s₁ Bd hml0 hP hK
  obtain ⟨rfl, hZ, hh, hCH⟩ := hP
  have hx := Bd.exec
  have hby := Bd.bytes
  have hml : c.maxLocals = 5 := hml0
  have hown : (s.setVm s.vm).vm.findClass "pithline/html/ScriptData" = some m.cls := findClass_of_methodNamed Bd.named
  replace hZ : Z.Warmed39 (s.setVm s.vm).vm := hZ
  have X0 : Stand p l e ({ frames := 6, cells := 2, slots := 28, locals := 84 } : Room) (s.setVm s.vm) m #[(.int p1), (.int p2)] below meth c s₁ [] 0 0 := Stand.of_body Bd
  have e0 : s₁.heap = h0 := by rw [← hh, Bd.state]; rfl
  have N0 := Fr.nil n0
  have hS0 : s.Since s.vm h0.size := (State.WarmedH.refl s).since _
  have hk0 : h0.size ≤ h0.size := Nat.le_refl _
  have C0 : CHr Z consts_1 s.vm h0 s.vm h0 := CHr.refl hCH
  have EX0 : Ext h0 h0 := ⟨Nat.le_refl _, fun _ _ q => q⟩
  obtain ⟨B, hB, pre0⟩ : ∃ B : State → Prop, (∀ t, B t → Steps p.tables e below (s₁.setTop (entryFrame m #[(.int p1), (.int p2)] 5)) t) ∧ ∀ t, SS p e below m s₁ 0 #[iv p1, iv p2, .unset, .unset, .unset] [] t → B t := ⟨_, fun _ q => q, fun t kk => castTop (ef_rmN128C m p1 p2) kk⟩
  have pre1 : ∀ t, SS p e below m s₁ 6 #[iv p1, iv p2, .unset, .unset, .unset] [(.int (p1 - (p1 % (8 : Int32))))] t → B t := fun t kk => pre0 t (by
    show SS p e below m s₁ 0 #[iv p1, iv p2, .unset, .unset, .unset] [] _
    refine XS.iloadN X0.here hx rfl (hb hby d1_0) rfl ?_
    refine XS.iloadN X0.here hx rfl (hb hby d1_1) rfl ?_
    refine XS.bipush X0.here hx rfl (hb hby d1_2) ?_
    show SS p e below m s₁ 4 #[iv p1, iv p2, .unset, .unset, .unset] [(.int (8 : Int32)), (.int p1), (.int p1)] _
    refine iremM (g := (mkF m 4 #[iv p1, iv p2, .unset, .unset, .unset] [(.int (8 : Int32)), (.int p1), (.int p1)])) X0 hx rfl (hb hby d1_4) rfl (by decide) ?_
    refine XS.isub X0.here hx rfl (hb hby d1_5) rfl ?_
    exact kk)
  rw [hbs] at pre1
  have pre2 : ∀ t, SS p e below m s₁ 11 #[iv p1, iv p2, iv (128 : Int32), .unset, .unset] [(.int (p1 % (8 : Int32)))] t → B t := fun t kk => pre1 t (by
    refine XS.istoreN X0.here hx rfl (hb hby d1_6) rfl (l' := #[iv p1, iv p2, iv (128 : Int32), .unset, .unset]) rfl ?_
    refine XS.iloadN X0.here hx rfl (hb hby d1_7) rfl ?_
    refine XS.bipush X0.here hx rfl (hb hby d1_8) ?_
    show SS p e below m s₁ 10 #[iv p1, iv p2, iv (128 : Int32), .unset, .unset] [(.int (8 : Int32)), (.int p1)] _
    refine iremM (g := (mkF m 10 #[iv p1, iv p2, iv (128 : Int32), .unset, .unset] [(.int (8 : Int32)), (.int p1)])) X0 hx rfl (hb hby d1_10) rfl (by decide) ?_
    exact kk)
  rw [hn] at pre2
  have pre3 : ∀ t, SS p e below m s₁ 340 #[iv p1, iv p2, iv (128 : Int32), iv n, .unset] [(.int (88 : Int32)), (.int (88 : Int32)), (.int p2), (.int n), (.int (128 : Int32))] t → B t := fun t kk => pre2 t (by
    refine XS.istoreN X0.here hx rfl (hb hby d1_11) rfl (l' := #[iv p1, iv p2, iv (128 : Int32), iv n, .unset]) rfl ?_
    refine XS.iloadN X0.here hx rfl (hb hby d1_12) rfl ?_
    refine X0.lookupswitchHit hx (g := (mkF m 13 #[iv p1, iv p2, iv (128 : Int32), iv n, .unset] [(.int (128 : Int32))])) rfl rfl (hb hby d1_13) (by decide) (a := 128) (off := 318) (by decide +kernel) (show (0 : Int) ≤ ((13 : Nat) : Int) + 318 from by decide) _ ?_
    show SS p e below m s₁ 331 #[iv p1, iv p2, iv (128 : Int32), iv n, .unset] [] _
    refine XS.sipush X0.here hx rfl (hb hby d1_331) ?_
    refine XS.iloadN X0.here hx rfl (hb hby d1_334) rfl ?_
    refine XS.iloadN X0.here hx rfl (hb hby d1_335) rfl ?_
    show SS p e below m s₁ 336 #[iv p1, iv p2, iv (128 : Int32), iv n, .unset] [(.int p2), (.int n), (.int (128 : Int32))] _
    refine XS.bipush X0.here hx rfl (hb hby d1_336) ?_
    refine XS.bipush X0.here hx rfl (hb hby d1_338) ?_
    exact kk)
  obtain ⟨_, _, ⟨T4, L4, k4, n4⟩, -, X4, hS4, hg4, ⟨Lc4, hQ4, l4, y4, z4, hC4⟩, st4⟩ := callSS X0 hx (y := (⟨"pithline/html/ScriptData", "nameRead", "(IIIII)I"⟩ : MethodName)) hown (mvT hZ (hw _ (List.mem_of_getElem? (i := 56) rfl))) (mvT hZ (hw _ (List.mem_of_getElem? (i := 57) rfl))) (mvT hZ (hw _ (List.mem_of_getElem? (i := 5) rfl))) (mvT hZ (hw _ (List.mem_of_getElem? (i := 58) rfl))) (by decide) (own_backS (s := s) (vm0 := s.vm) (EL := consts_1) (W := 0) (rmNR88C l Z a0 hw [] (128 : Int32) n p2 (88 : Int32) cz fm h0 n0 Z0 hEL XO0 Scs hcz Sfm hfm hlo) hZ (hw _ (List.mem_of_getElem? (i := 58) rfl)) (hw _ (List.mem_of_getElem? (i := 5) rfl)) (by decide) (by decide) hEL C0.1) (g := (mkF m 340 #[iv p1, iv p2, iv (128 : Int32), iv n, .unset] [(.int (88 : Int32)), (.int (88 : Int32)), (.int p2), (.int n), (.int (128 : Int32))])) rfl (by rw [hml]; rfl) (argsL := [(.int (128 : Int32)), (.int n), (.int p2), (.int (88 : Int32)), (.int (88 : Int32))]) (rest := []) (lenOf pd_10 rfl) rfl (by show 2 * 0 + _ ≤ _; exact Nat.le_of_eq rfl) (hb hby d1_340) (fun _ _ => ⟨rfl, e0, (by decide : 0 + 2 ≤ _), (by decide : 0 + 28 ≤ _)⟩)
  dsimp only [Pt.U, Pt.locs, Pt.cells, Pt.slots] at X4 l4 y4 z4 st4 hQ4 hS4 hg4 hC4
  subst l4 y4 z4
  obtain ⟨rfl, N4q, E4, hV4⟩ := hQ4
  replace hZ : Z.Warmed39 (s.setVm T4.vm).vm := State.Warmed39.trans (t := s.setVm s.vm) hZ hS4.1
  replace hown : (s.setVm T4.vm).vm.findClass "pithline/html/ScriptData" = some m.cls := by rw [show (s.setVm T4.vm).vm = T4.vm from rfl, hS4.1.alike.findClass]; exact hown
  have hs4 : s.Since T4.vm T4.heap.size := hS0.trans hS4 (Nat.le_trans hk0 (by first | exact hg4 | (have q := hg4; rw [e0] at q; exact q)))
  have hk4 : T4.heap.size ≤ T4.heap.size := Nat.le_refl _
  have C4 := C0.trans hC4
  have N4 := Fr.app N0 N4q
  have Z4 : n0 ≤ T4.heap.size := Nat.le_trans Z0 E4.1
  have XO4 : Ext Z.heap T4.heap := own_ext XO0 E4
  have EX4 : Ext h0 T4.heap := own_ext EX0 E4
  obtain ⟨a4, b4, kb4, hLt4, Ex4, Fc4, Fv4, Va4⟩ := hV4
  have pre5 : ∀ t, SS p e below m T4 360 #[iv p1, iv p2, iv (128 : Int32), iv n, iv (fNR88C (128 : Int32) n p2 (88 : Int32))] [(.int (fNR88C (128 : Int32) n p2 (88 : Int32)))] t → B t := fun t kk => pre3 t (by
    refine st4.trans ?_
    refine XS.istore X4.here hx rfl (hb hby d1_343) rfl (l' := #[iv p1, iv p2, iv (128 : Int32), iv n, iv (fNR88C (128 : Int32) n p2 (88 : Int32))]) rfl ?_
    refine XS.goto X4.here hx rfl (pc0 := 345) (pc' := 358) rfl (hb hby d1_345) (by decide) (by decide) ?_
    show SS p e below m T4 358 #[iv p1, iv p2, iv (128 : Int32), iv n, iv (fNR88C (128 : Int32) n p2 (88 : Int32))] [] _
    refine XS.iload X4.here hx rfl (hb hby d1_358) rfl ?_
    exact kk)
  have CF := C4.trans (CHv.at X4 hZ hEL C4.1)
  obtain ⟨fs, hr, hrun, hended, hRW⟩ := X4.leaveW (s := s) hs4 (by first | exact hk4 | (rw [rfl]; exact hk4)) (v := some (.int (fNR88C (128 : Int32) n p2 (88 : Int32)))) (fun h => by rw [Bd.returns] at h; cases h)
  refine ⟨_, _, hB _ (pre5 _ ?_), hrun, hended, _, _, rfl, ?_, ?_, ⟨hRW.1, hRW.2.1, hRW.2.2.1, hRW.2.2.2.mono (by decide) (by decide)⟩⟩
  · exact retI X4 hx Bd.returns (hb hby d1_360) hr
  · exact ⟨by show _ = some (Value.int (fN128C p1 p2 n)); rw [fN128C], N4, EX4, ⟨a4, b4, kb4, ⟨Lit.stays (s := s) (vm0 := T4.vm) hLt4 X4.warmed.wide, Ex4, Fc4, Fv4, Va4⟩⟩⟩
  · rw [hh]; exact CF
theorem d11_12 : decode prog_41_method_10_code 12 = .ok (.bipush 80, 2) := by decide +kernel
theorem d11_14 : decode prog_41_method_10_code 14 = .ok (.iconst 0, 1) := by decide +kernel
theorem d11_15 : decode prog_41_method_10_code 15 = .ok (.iload_n 0, 1) := by decide +kernel
theorem d11_16 : decode prog_41_method_10_code 16 = .ok (.bipush 88, 2) := by decide +kernel
theorem d11_18 : decode prog_41_method_10_code 18 = .ok (.bipush 40, 2) := by decide +kernel
theorem d11_20 : decode prog_41_method_10_code 20 = .ok (.invokestatic 13, 3) := by decide +kernel
theorem d11_23 : decode prog_41_method_10_code 23 = .ok (.istore_n 1, 1) := by decide +kernel
theorem ef_rmAELC (m : MethodId) (p1 : Int32) : entryFrame m #[(.int p1)] 2 = mkF m 0 #[iv p1, .unset] [] := by first | (simp [entryFrame, mkF, argsToLocals, Value.category]; done) | rfl
def fAELC (p1 : Int32)  : Int32 := (if p1 = (47 : Int32) then (72 : Int32) else (fNR40C (80 : Int32) (0 : Int32) p1 (88 : Int32)))
set_option maxRecDepth 65536 in
set_option maxHeartbeats 40000000 in
theorem rmAELC (l : Launch) (Z : State) (a0 : Array Value) (hw : ∀ d ∈ tables_1, d.before a0 Z = true) (ws : List Jvm.Cond) (p1 : Int32) (cz : Int32) (fm : Value) (h0 : Heap) (n0 : Nat) (Z0 : n0 ≤ h0.size) (hEL : EW Z a0 consts_1) (XO0 : Ext Z.heap h0) (Scs : Sta Z Z.heap "java/lang/String" "COMPACT_STRINGS" "Z" (.int cz)) (hcz : ¬ (cz = (0 : Int32))) (Sfm : Sta Z Z.heap "jdk/internal/util/Preconditions" "SIOOBE_FORMATTER" "Ljava/util/function/BiFunction;" fm) (hfm : fm.isRef = true) :
    MetFree l (⟨"pithline/html/ScriptData", "afterEscapedLessThan", "(I)I"⟩ : MethodName) (head1 (Jvm.Cond.code (⟨"pithline/html/ScriptData", "afterEscapedLessThan", "(I)I"⟩ : MethodName) prog_41_method_10_code 2 (some .int) :: ws) ({ frames := 5, cells := 2, slots := 28, locals := 71 } : Room)) (fun a U => a = #[(.int p1)] ∧ Z.Warmed39 U.vm ∧ U.heap = h0 ∧ CHv Z consts_1 U.vm h0) (fun _ _ _ _ _ => True) (fun _ U o U' => ∃ v L, o = .returned v ∧ QC (fAELC p1) (fun vm h => p1 = (47 : Int32) ∨ LitS Z "pithline/html/ScriptData" 62 vm h) h0 n0 v U'.heap U'.vm L ∧ CHr Z consts_1 U.vm U.heap U'.vm U'.heap ∧ ReturnedEndW U o U' L ({ frames := 5, cells := 2, slots := 28, locals := 71 } : Room).cells ({ frames := 5, cells := 2, slots := 28, locals := 71 } : Room).slots) := by
  refine MetFree.of_bodySF (plainFor_of_name pn_11) hisR ?_
  intro p e s m args below meth c s₁ Bd hml0 hP hK
  obtain ⟨rfl, hZ, hh, hCH⟩ := hP
  have hx := Bd.exec
  have hby := Bd.bytes
  have hml : c.maxLocals = 2 := hml0
  have hown : (s.setVm s.vm).vm.findClass "pithline/html/ScriptData" = some m.cls := findClass_of_methodNamed Bd.named
  replace hZ : Z.Warmed39 (s.setVm s.vm).vm := hZ
  have X0 : Stand p l e ({ frames := 5, cells := 2, slots := 28, locals := 71 } : Room) (s.setVm s.vm) m #[(.int p1)] below meth c s₁ [] 0 0 := Stand.of_body Bd
  have e0 : s₁.heap = h0 := by rw [← hh, Bd.state]; rfl
  have N0 := Fr.nil n0
  have hS0 : s.Since s.vm h0.size := (State.WarmedH.refl s).since _
  have hk0 : h0.size ≤ h0.size := Nat.le_refl _
  have C0 : CHr Z consts_1 s.vm h0 s.vm h0 := CHr.refl hCH
  have EX0 : Ext h0 h0 := ⟨Nat.le_refl _, fun _ _ q => q⟩
  obtain ⟨B, hB, pre0⟩ : ∃ B : State → Prop, (∀ t, B t → Steps p.tables e below (s₁.setTop (entryFrame m #[(.int p1)] 2)) t) ∧ ∀ t, SS p e below m s₁ 0 #[iv p1, .unset] [] t → B t := ⟨_, fun _ q => q, fun t kk => castTop (ef_rmAELC m p1) kk⟩
  have pre1 : ∀ t, SS p e below m s₁ 3 #[iv p1, .unset] [(.int (47 : Int32)), (.int p1)] t → B t := fun t kk => pre0 t (by
    show SS p e below m s₁ 0 #[iv p1, .unset] [] _
    refine XS.iloadN X0.here hx rfl (hb hby d11_0) rfl ?_
    refine XS.bipush X0.here hx rfl (hb hby d11_1) ?_
    exact kk)
  by_cases hc2 : p1 = (47 : Int32)
  · have pre3 : ∀ t, SS p e below m s₁ 25 #[iv p1, iv (72 : Int32)] [(.int (72 : Int32))] t → B t := fun t kk => pre1 t (by
      refine XS.icmpNo X0.here hx rfl (hb hby d11_3) rfl (teq hc2).2 ?_
      refine XS.bipush X0.here hx rfl (hb hby d11_6) ?_
      refine XS.istoreN X0.here hx rfl (hb hby d11_8) rfl (l' := #[iv p1, iv (72 : Int32)]) rfl ?_
      show SS p e below m s₁ 9 #[iv p1, iv (72 : Int32)] [] _
      refine XS.goto X0.here hx rfl (pc0 := 9) (pc' := 24) rfl (hb hby d11_9) (by decide) (by decide) ?_
      refine XS.iloadN X0.here hx rfl (hb hby d11_24) rfl ?_
      exact kk)
    have CF := C0.trans (CHv.at X0 hZ hEL C0.1)
    obtain ⟨fs, hr, hrun, hended, hRW⟩ := X0.leaveW (s := s) hS0 (by first | exact hk0 | (rw [e0]; exact hk0)) (v := some (.int (72 : Int32))) (fun h => by rw [Bd.returns] at h; cases h)
    refine ⟨_, _, hB _ (pre3 _ ?_), hrun, hended, _, _, rfl, ?_, ?_, ⟨hRW.1, hRW.2.1, hRW.2.2.1, hRW.2.2.2.mono (by decide) (by decide)⟩⟩
    · exact retI X0 hx Bd.returns (hb hby d11_25) hr
    · exact ⟨by show _ = some (Value.int (fAELC p1)); rw [fAELC, if_pos hc2], N0, (by show Ext h0 s₁.heap; rw [e0]; exact EX0), (Or.inl hc2)⟩
    · rw [hh]; show CHr Z consts_1 s.vm h0 s₁.vm s₁.heap; rw [e0]; exact CF
  · have pre4 : ∀ t, SS p e below m s₁ 20 #[iv p1, .unset] [(.int (40 : Int32)), (.int (88 : Int32)), (.int p1), (.int (0 : Int32)), (.int (80 : Int32))] t → B t := fun t kk => pre1 t (by
      refine XS.icmpYes X0.here hx rfl (pc0 := 3) (pc' := 12) rfl (hb hby d11_3) rfl (feq hc2).2 (by decide) (by decide) ?_
      refine XS.bipush X0.here hx rfl (hb hby d11_12) ?_
      refine XS.iconst X0.here hx rfl (hb hby d11_14) ?_
      show SS p e below m s₁ 15 #[iv p1, .unset] [(.int (0 : Int32)), (.int (80 : Int32))] _
      refine XS.iloadN X0.here hx rfl (hb hby d11_15) rfl ?_
      refine XS.bipush X0.here hx rfl (hb hby d11_16) ?_
      refine XS.bipush X0.here hx rfl (hb hby d11_18) ?_
      show SS p e below m s₁ 20 #[iv p1, .unset] [(.int (40 : Int32)), (.int (88 : Int32)), (.int p1), (.int (0 : Int32)), (.int (80 : Int32))] _
      exact kk)
    obtain ⟨_, _, ⟨T5, L5, k5, n5⟩, -, X5, hS5, hg5, ⟨Lc5, hQ5, l5, y5, z5, hC5⟩, st5⟩ := callSS X0 hx (y := (⟨"pithline/html/ScriptData", "nameRead", "(IIIII)I"⟩ : MethodName)) hown (mvT hZ (hw _ (List.mem_of_getElem? (i := 56) rfl))) (mvT hZ (hw _ (List.mem_of_getElem? (i := 57) rfl))) (mvT hZ (hw _ (List.mem_of_getElem? (i := 5) rfl))) (mvT hZ (hw _ (List.mem_of_getElem? (i := 58) rfl))) (by decide) (own_backS (s := s) (vm0 := s.vm) (EL := consts_1) (W := 0) (rmNR40C l Z a0 hw [] (80 : Int32) (0 : Int32) p1 (88 : Int32) cz fm h0 n0 Z0 hEL XO0 Scs hcz Sfm hfm (by decide)) hZ (hw _ (List.mem_of_getElem? (i := 58) rfl)) (hw _ (List.mem_of_getElem? (i := 5) rfl)) (by decide) (by decide) hEL C0.1) (g := (mkF m 20 #[iv p1, .unset] [(.int (40 : Int32)), (.int (88 : Int32)), (.int p1), (.int (0 : Int32)), (.int (80 : Int32))])) rfl (by rw [hml]; rfl) (argsL := [(.int (80 : Int32)), (.int (0 : Int32)), (.int p1), (.int (88 : Int32)), (.int (40 : Int32))]) (rest := []) (lenOf pd_10 rfl) rfl (by show 2 * 0 + _ ≤ _; exact Nat.le_of_eq rfl) (hb hby d11_20) (fun _ _ => ⟨rfl, e0, (by decide : 0 + 2 ≤ _), (by decide : 0 + 28 ≤ _)⟩)
    dsimp only [Pt.U, Pt.locs, Pt.cells, Pt.slots] at X5 l5 y5 z5 st5 hQ5 hS5 hg5 hC5
    subst l5 y5 z5
    obtain ⟨rfl, N5q, E5, hV5⟩ := hQ5
    replace hZ : Z.Warmed39 (s.setVm T5.vm).vm := State.Warmed39.trans (t := s.setVm s.vm) hZ hS5.1
    replace hown : (s.setVm T5.vm).vm.findClass "pithline/html/ScriptData" = some m.cls := by rw [show (s.setVm T5.vm).vm = T5.vm from rfl, hS5.1.alike.findClass]; exact hown
    have hs5 : s.Since T5.vm T5.heap.size := hS0.trans hS5 (Nat.le_trans hk0 (by first | exact hg5 | (have q := hg5; rw [e0] at q; exact q)))
    have hk5 : T5.heap.size ≤ T5.heap.size := Nat.le_refl _
    have C5 := C0.trans hC5
    have N5 := Fr.app N0 N5q
    have Z5 : n0 ≤ T5.heap.size := Nat.le_trans Z0 E5.1
    have XO5 : Ext Z.heap T5.heap := own_ext XO0 E5
    have EX5 : Ext h0 T5.heap := own_ext EX0 E5
    obtain ⟨a5, b5, kb5, hLt5, Ex5, Fc5, Fv5, Va5⟩ := hV5
    have pre6 : ∀ t, SS p e below m T5 25 #[iv p1, iv (fNR40C (80 : Int32) (0 : Int32) p1 (88 : Int32))] [(.int (fNR40C (80 : Int32) (0 : Int32) p1 (88 : Int32)))] t → B t := fun t kk => pre4 t (by
      refine st5.trans ?_
      refine XS.istoreN X5.here hx rfl (hb hby d11_23) rfl (l' := #[iv p1, iv (fNR40C (80 : Int32) (0 : Int32) p1 (88 : Int32))]) rfl ?_
      refine XS.iloadN X5.here hx rfl (hb hby d11_24) rfl ?_
      show SS p e below m T5 25 #[iv p1, iv (fNR40C (80 : Int32) (0 : Int32) p1 (88 : Int32))] [(.int (fNR40C (80 : Int32) (0 : Int32) p1 (88 : Int32)))] _
      exact kk)
    have CF := C5.trans (CHv.at X5 hZ hEL C5.1)
    obtain ⟨fs, hr, hrun, hended, hRW⟩ := X5.leaveW (s := s) hs5 (by first | exact hk5 | (rw [rfl]; exact hk5)) (v := some (.int (fNR40C (80 : Int32) (0 : Int32) p1 (88 : Int32)))) (fun h => by rw [Bd.returns] at h; cases h)
    refine ⟨_, _, hB _ (pre6 _ ?_), hrun, hended, _, _, rfl, ?_, ?_, ⟨hRW.1, hRW.2.1, hRW.2.2.1, hRW.2.2.2.mono (by decide) (by decide)⟩⟩
    · exact retI X5 hx Bd.returns (hb hby d11_25) hr
    · exact ⟨by show _ = some (Value.int (fAELC p1)); rw [fAELC, if_neg hc2], N5, EX5, (Or.inr ⟨a5, b5, kb5, ⟨Lit.stays (s := s) (vm0 := T5.vm) hLt5 X5.warmed.wide, Ex5, Fc5, Fv5, Va5⟩⟩)⟩
    · rw [hh]; exact CF
theorem ef_rmN64C (m : MethodId) (p2 : Int32) : entryFrame m #[(.int (64 : Int32)), (.int p2)] 5 = mkF m 0 #[iv (64 : Int32), iv p2, .unset, .unset, .unset] [] := by first | (simp [entryFrame, mkF, argsToLocals, Value.category]; done) | rfl
def fN64C (p2 : Int32)  : Int32 := (fAELC p2)
set_option maxRecDepth 65536 in
set_option maxHeartbeats 40000000 in
theorem rmN64C (l : Launch) (Z : State) (a0 : Array Value) (hw : ∀ d ∈ tables_1, d.before a0 Z = true) (ws : List Jvm.Cond) (p2 : Int32) (cz : Int32) (fm : Value) (h0 : Heap) (n0 : Nat) (Z0 : n0 ≤ h0.size) (hEL : EW Z a0 consts_1) (XO0 : Ext Z.heap h0) (Scs : Sta Z Z.heap "java/lang/String" "COMPACT_STRINGS" "Z" (.int cz)) (hcz : ¬ (cz = (0 : Int32))) (Sfm : Sta Z Z.heap "jdk/internal/util/Preconditions" "SIOOBE_FORMATTER" "Ljava/util/function/BiFunction;" fm) (hfm : fm.isRef = true) :
    MetFree l (⟨"pithline/html/ScriptData", "next", "(II)I"⟩ : MethodName) (head1 (Jvm.Cond.code (⟨"pithline/html/ScriptData", "next", "(II)I"⟩ : MethodName) prog_41_method_2_code 5 (some .int) :: ws) ({ frames := 6, cells := 2, slots := 28, locals := 84 } : Room)) (fun a U => a = #[(.int (64 : Int32)), (.int p2)] ∧ Z.Warmed39 U.vm ∧ U.heap = h0 ∧ CHv Z consts_1 U.vm h0) (fun _ _ _ _ _ => True) (fun _ U o U' => ∃ v L, o = .returned v ∧ QC (fN64C p2) (fun vm h => p2 = (47 : Int32) ∨ LitS Z "pithline/html/ScriptData" 62 vm h) h0 n0 v U'.heap U'.vm L ∧ CHr Z consts_1 U.vm U.heap U'.vm U'.heap ∧ ReturnedEndW U o U' L ({ frames := 6, cells := 2, slots := 28, locals := 84 } : Room).cells ({ frames := 6, cells := 2, slots := 28, locals := 84 } : Room).slots) := by
  refine MetFree.of_bodySF (plainFor_of_name pn_1) hisR ?_
  intro p e s m args below meth c s₁ Bd hml0 hP hK
  obtain ⟨rfl, hZ, hh, hCH⟩ := hP
  have hx := Bd.exec
  have hby := Bd.bytes
  have hml : c.maxLocals = 5 := hml0
  have hown : (s.setVm s.vm).vm.findClass "pithline/html/ScriptData" = some m.cls := findClass_of_methodNamed Bd.named
  replace hZ : Z.Warmed39 (s.setVm s.vm).vm := hZ
  have X0 : Stand p l e ({ frames := 6, cells := 2, slots := 28, locals := 84 } : Room) (s.setVm s.vm) m #[(.int (64 : Int32)), (.int p2)] below meth c s₁ [] 0 0 := Stand.of_body Bd
  have e0 : s₁.heap = h0 := by rw [← hh, Bd.state]; rfl
  have N0 := Fr.nil n0
  have hS0 : s.Since s.vm h0.size := (State.WarmedH.refl s).since _
  have hk0 : h0.size ≤ h0.size := Nat.le_refl _
  have C0 : CHr Z consts_1 s.vm h0 s.vm h0 := CHr.refl hCH
  have EX0 : Ext h0 h0 := ⟨Nat.le_refl _, fun _ _ q => q⟩
  obtain ⟨B, hB, pre0⟩ : ∃ B : State → Prop, (∀ t, B t → Steps p.tables e below (s₁.setTop (entryFrame m #[(.int (64 : Int32)), (.int p2)] 5)) t) ∧ ∀ t, SS p e below m s₁ 0 #[iv (64 : Int32), iv p2, .unset, .unset, .unset] [] t → B t := ⟨_, fun _ q => q, fun t kk => castTop (ef_rmN64C m p2) kk⟩
  have pre1 : ∀ t, SS p e below m s₁ 6 #[iv (64 : Int32), iv p2, .unset, .unset, .unset] [(.int ((64 : Int32) - ((64 : Int32) % (8 : Int32))))] t → B t := fun t kk => pre0 t (by
    show SS p e below m s₁ 0 #[iv (64 : Int32), iv p2, .unset, .unset, .unset] [] _
    refine XS.iloadN X0.here hx rfl (hb hby d1_0) rfl ?_
    refine XS.iloadN X0.here hx rfl (hb hby d1_1) rfl ?_
    refine XS.bipush X0.here hx rfl (hb hby d1_2) ?_
    show SS p e below m s₁ 4 #[iv (64 : Int32), iv p2, .unset, .unset, .unset] [(.int (8 : Int32)), (.int (64 : Int32)), (.int (64 : Int32))] _
    refine iremM (g := (mkF m 4 #[iv (64 : Int32), iv p2, .unset, .unset, .unset] [(.int (8 : Int32)), (.int (64 : Int32)), (.int (64 : Int32))])) X0 hx rfl (hb hby d1_4) rfl (by decide) ?_
    refine XS.isub X0.here hx rfl (hb hby d1_5) rfl ?_
    exact kk)
  rw [show ((64 : Int32) - ((64 : Int32) % (8 : Int32))) = (64 : Int32) from by decide] at pre1
  have pre2 : ∀ t, SS p e below m s₁ 11 #[iv (64 : Int32), iv p2, iv (64 : Int32), .unset, .unset] [(.int ((64 : Int32) % (8 : Int32)))] t → B t := fun t kk => pre1 t (by
    refine XS.istoreN X0.here hx rfl (hb hby d1_6) rfl (l' := #[iv (64 : Int32), iv p2, iv (64 : Int32), .unset, .unset]) rfl ?_
    refine XS.iloadN X0.here hx rfl (hb hby d1_7) rfl ?_
    refine XS.bipush X0.here hx rfl (hb hby d1_8) ?_
    show SS p e below m s₁ 10 #[iv (64 : Int32), iv p2, iv (64 : Int32), .unset, .unset] [(.int (8 : Int32)), (.int (64 : Int32))] _
    refine iremM (g := (mkF m 10 #[iv (64 : Int32), iv p2, iv (64 : Int32), .unset, .unset] [(.int (8 : Int32)), (.int (64 : Int32))])) X0 hx rfl (hb hby d1_10) rfl (by decide) ?_
    exact kk)
  rw [show ((64 : Int32) % (8 : Int32)) = (0 : Int32) from by decide] at pre2
  have pre3 : ∀ t, SS p e below m s₁ 255 #[iv (64 : Int32), iv p2, iv (64 : Int32), iv (0 : Int32), .unset] [(.int p2)] t → B t := fun t kk => pre2 t (by
    refine XS.istoreN X0.here hx rfl (hb hby d1_11) rfl (l' := #[iv (64 : Int32), iv p2, iv (64 : Int32), iv (0 : Int32), .unset]) rfl ?_
    refine XS.iloadN X0.here hx rfl (hb hby d1_12) rfl ?_
    refine X0.lookupswitchHit hx (g := (mkF m 13 #[iv (64 : Int32), iv p2, iv (64 : Int32), iv (0 : Int32), .unset] [(.int (64 : Int32))])) rfl rfl (hb hby d1_13) (by decide) (a := 64) (off := 241) (by decide +kernel) (show (0 : Int) ≤ ((13 : Nat) : Int) + 241 from by decide) _ ?_
    show SS p e below m s₁ 254 #[iv (64 : Int32), iv p2, iv (64 : Int32), iv (0 : Int32), .unset] [] _
    refine XS.iloadN X0.here hx rfl (hb hby d1_254) rfl ?_
    exact kk)
  obtain ⟨_, _, ⟨T4, L4, k4, n4⟩, -, X4, hS4, hg4, ⟨Lc4, hQ4, l4, y4, z4, hC4⟩, st4⟩ := callSS X0 hx (y := (⟨"pithline/html/ScriptData", "afterEscapedLessThan", "(I)I"⟩ : MethodName)) hown (mvT hZ (hw _ (List.mem_of_getElem? (i := 53) rfl))) (mvT hZ (hw _ (List.mem_of_getElem? (i := 54) rfl))) (mvT hZ (hw _ (List.mem_of_getElem? (i := 5) rfl))) (mvT hZ (hw _ (List.mem_of_getElem? (i := 55) rfl))) (by decide) (own_backS (s := s) (vm0 := s.vm) (EL := consts_1) (W := 0) (rmAELC l Z a0 hw [] p2 cz fm h0 n0 Z0 hEL XO0 Scs hcz Sfm hfm) hZ (hw _ (List.mem_of_getElem? (i := 55) rfl)) (hw _ (List.mem_of_getElem? (i := 5) rfl)) (by decide) (by decide) hEL C0.1) (g := (mkF m 255 #[iv (64 : Int32), iv p2, iv (64 : Int32), iv (0 : Int32), .unset] [(.int p2)])) rfl (by rw [hml]; rfl) (argsL := [(.int p2)]) (rest := []) (lenOf pd_7 rfl) rfl (by show 2 * 0 + _ ≤ _; exact Nat.le_of_eq rfl) (hb hby d1_255) (fun _ _ => ⟨rfl, e0, (by decide : 0 + 2 ≤ _), (by decide : 0 + 28 ≤ _)⟩)
  dsimp only [Pt.U, Pt.locs, Pt.cells, Pt.slots] at X4 l4 y4 z4 st4 hQ4 hS4 hg4 hC4
  subst l4 y4 z4
  obtain ⟨rfl, N4q, E4, hV4⟩ := hQ4
  replace hZ : Z.Warmed39 (s.setVm T4.vm).vm := State.Warmed39.trans (t := s.setVm s.vm) hZ hS4.1
  replace hown : (s.setVm T4.vm).vm.findClass "pithline/html/ScriptData" = some m.cls := by rw [show (s.setVm T4.vm).vm = T4.vm from rfl, hS4.1.alike.findClass]; exact hown
  have hs4 : s.Since T4.vm T4.heap.size := hS0.trans hS4 (Nat.le_trans hk0 (by first | exact hg4 | (have q := hg4; rw [e0] at q; exact q)))
  have hk4 : T4.heap.size ≤ T4.heap.size := Nat.le_refl _
  have C4 := C0.trans hC4
  have N4 := Fr.app N0 N4q
  have Z4 : n0 ≤ T4.heap.size := Nat.le_trans Z0 E4.1
  have XO4 : Ext Z.heap T4.heap := own_ext XO0 E4
  have EX4 : Ext h0 T4.heap := own_ext EX0 E4
  have pre5 : ∀ t, SS p e below m T4 360 #[iv (64 : Int32), iv p2, iv (64 : Int32), iv (0 : Int32), iv (fAELC p2)] [(.int (fAELC p2))] t → B t := fun t kk => pre3 t (by
    refine st4.trans ?_
    refine XS.istore X4.here hx rfl (hb hby d1_258) rfl (l' := #[iv (64 : Int32), iv p2, iv (64 : Int32), iv (0 : Int32), iv (fAELC p2)]) rfl ?_
    refine XS.goto X4.here hx rfl (pc0 := 260) (pc' := 358) rfl (hb hby d1_260) (by decide) (by decide) ?_
    show SS p e below m T4 358 #[iv (64 : Int32), iv p2, iv (64 : Int32), iv (0 : Int32), iv (fAELC p2)] [] _
    refine XS.iload X4.here hx rfl (hb hby d1_358) rfl ?_
    exact kk)
  have CF := C4.trans (CHv.at X4 hZ hEL C4.1)
  obtain ⟨fs, hr, hrun, hended, hRW⟩ := X4.leaveW (s := s) hs4 (by first | exact hk4 | (rw [rfl]; exact hk4)) (v := some (.int (fAELC p2))) (fun h => by rw [Bd.returns] at h; cases h)
  refine ⟨_, _, hB _ (pre5 _ ?_), hrun, hended, _, _, rfl, ?_, ?_, ⟨hRW.1, hRW.2.1, hRW.2.2.1, hRW.2.2.2.mono (by decide) (by decide)⟩⟩
  · exact retI X4 hx Bd.returns (hb hby d1_360) hr
  · exact ⟨by show _ = some (Value.int (fN64C p2)); rw [fN64C], N4, EX4, (hV4.imp id fun ⟨a, b, k, q⟩ => ⟨a, b, k, Lit.stays (s := s) (vm0 := T4.vm) q.1 X4.warmed.wide, q.2⟩)⟩
  · rw [hh]; exact CF
theorem d21_12 : decode prog_41_method_12_code 12 = .ok (.sipush 128, 3) := by decide +kernel
theorem d21_15 : decode prog_41_method_12_code 15 = .ok (.iconst 0, 1) := by decide +kernel
theorem d21_16 : decode prog_41_method_12_code 16 = .ok (.iload_n 0, 1) := by decide +kernel
theorem d21_17 : decode prog_41_method_12_code 17 = .ok (.bipush 88, 2) := by decide +kernel
theorem d21_19 : decode prog_41_method_12_code 19 = .ok (.bipush 88, 2) := by decide +kernel
theorem d21_21 : decode prog_41_method_12_code 21 = .ok (.invokestatic 13, 3) := by decide +kernel
theorem d21_24 : decode prog_41_method_12_code 24 = .ok (.istore_n 1, 1) := by decide +kernel
theorem ef_rmADLC (m : MethodId) (p1 : Int32) : entryFrame m #[(.int p1)] 2 = mkF m 0 #[iv p1, .unset] [] := by first | (simp [entryFrame, mkF, argsToLocals, Value.category]; done) | rfl
def fADLC (p1 : Int32)  : Int32 := (if p1 = (47 : Int32) then (120 : Int32) else (fNR88C (128 : Int32) (0 : Int32) p1 (88 : Int32)))
set_option maxRecDepth 65536 in
set_option maxHeartbeats 40000000 in
theorem rmADLC (l : Launch) (Z : State) (a0 : Array Value) (hw : ∀ d ∈ tables_1, d.before a0 Z = true) (ws : List Jvm.Cond) (p1 : Int32) (cz : Int32) (fm : Value) (h0 : Heap) (n0 : Nat) (Z0 : n0 ≤ h0.size) (hEL : EW Z a0 consts_1) (XO0 : Ext Z.heap h0) (Scs : Sta Z Z.heap "java/lang/String" "COMPACT_STRINGS" "Z" (.int cz)) (hcz : ¬ (cz = (0 : Int32))) (Sfm : Sta Z Z.heap "jdk/internal/util/Preconditions" "SIOOBE_FORMATTER" "Ljava/util/function/BiFunction;" fm) (hfm : fm.isRef = true) :
    MetFree l (⟨"pithline/html/ScriptData", "afterDoublyEscapedLessThan", "(I)I"⟩ : MethodName) (head1 (Jvm.Cond.code (⟨"pithline/html/ScriptData", "afterDoublyEscapedLessThan", "(I)I"⟩ : MethodName) prog_41_method_12_code 2 (some .int) :: ws) ({ frames := 5, cells := 2, slots := 28, locals := 71 } : Room)) (fun a U => a = #[(.int p1)] ∧ Z.Warmed39 U.vm ∧ U.heap = h0 ∧ CHv Z consts_1 U.vm h0) (fun _ _ _ _ _ => True) (fun _ U o U' => ∃ v L, o = .returned v ∧ QC (fADLC p1) (fun vm h => p1 = (47 : Int32) ∨ LitS Z "pithline/html/ScriptData" 62 vm h) h0 n0 v U'.heap U'.vm L ∧ CHr Z consts_1 U.vm U.heap U'.vm U'.heap ∧ ReturnedEndW U o U' L ({ frames := 5, cells := 2, slots := 28, locals := 71 } : Room).cells ({ frames := 5, cells := 2, slots := 28, locals := 71 } : Room).slots) := by
  refine MetFree.of_bodySF (plainFor_of_name pn_21) hisR ?_
  intro p e s m args below meth c s₁ Bd hml0 hP hK
  obtain ⟨rfl, hZ, hh, hCH⟩ := hP
  have hx := Bd.exec
  have hby := Bd.bytes
  have hml : c.maxLocals = 2 := hml0
  have hown : (s.setVm s.vm).vm.findClass "pithline/html/ScriptData" = some m.cls := findClass_of_methodNamed Bd.named
  replace hZ : Z.Warmed39 (s.setVm s.vm).vm := hZ
  have X0 : Stand p l e ({ frames := 5, cells := 2, slots := 28, locals := 71 } : Room) (s.setVm s.vm) m #[(.int p1)] below meth c s₁ [] 0 0 := Stand.of_body Bd
  have e0 : s₁.heap = h0 := by rw [← hh, Bd.state]; rfl
  have N0 := Fr.nil n0
  have hS0 : s.Since s.vm h0.size := (State.WarmedH.refl s).since _
  have hk0 : h0.size ≤ h0.size := Nat.le_refl _
  have C0 : CHr Z consts_1 s.vm h0 s.vm h0 := CHr.refl hCH
  have EX0 : Ext h0 h0 := ⟨Nat.le_refl _, fun _ _ q => q⟩
  obtain ⟨B, hB, pre0⟩ : ∃ B : State → Prop, (∀ t, B t → Steps p.tables e below (s₁.setTop (entryFrame m #[(.int p1)] 2)) t) ∧ ∀ t, SS p e below m s₁ 0 #[iv p1, .unset] [] t → B t := ⟨_, fun _ q => q, fun t kk => castTop (ef_rmADLC m p1) kk⟩
  have pre1 : ∀ t, SS p e below m s₁ 3 #[iv p1, .unset] [(.int (47 : Int32)), (.int p1)] t → B t := fun t kk => pre0 t (by
    show SS p e below m s₁ 0 #[iv p1, .unset] [] _
    refine XS.iloadN X0.here hx rfl (hb hby d21_0) rfl ?_
    refine XS.bipush X0.here hx rfl (hb hby d21_1) ?_
    exact kk)
  by_cases hc2 : p1 = (47 : Int32)
  · have pre3 : ∀ t, SS p e below m s₁ 26 #[iv p1, iv (120 : Int32)] [(.int (120 : Int32))] t → B t := fun t kk => pre1 t (by
      refine XS.icmpNo X0.here hx rfl (hb hby d21_3) rfl (teq hc2).2 ?_
      refine XS.bipush X0.here hx rfl (hb hby d21_6) ?_
      refine XS.istoreN X0.here hx rfl (hb hby d21_8) rfl (l' := #[iv p1, iv (120 : Int32)]) rfl ?_
      show SS p e below m s₁ 9 #[iv p1, iv (120 : Int32)] [] _
      refine XS.goto X0.here hx rfl (pc0 := 9) (pc' := 25) rfl (hb hby d21_9) (by decide) (by decide) ?_
      refine XS.iloadN X0.here hx rfl (hb hby d21_25) rfl ?_
      exact kk)
    have CF := C0.trans (CHv.at X0 hZ hEL C0.1)
    obtain ⟨fs, hr, hrun, hended, hRW⟩ := X0.leaveW (s := s) hS0 (by first | exact hk0 | (rw [e0]; exact hk0)) (v := some (.int (120 : Int32))) (fun h => by rw [Bd.returns] at h; cases h)
    refine ⟨_, _, hB _ (pre3 _ ?_), hrun, hended, _, _, rfl, ?_, ?_, ⟨hRW.1, hRW.2.1, hRW.2.2.1, hRW.2.2.2.mono (by decide) (by decide)⟩⟩
    · exact retI X0 hx Bd.returns (hb hby d21_26) hr
    · exact ⟨by show _ = some (Value.int (fADLC p1)); rw [fADLC, if_pos hc2], N0, (by show Ext h0 s₁.heap; rw [e0]; exact EX0), (Or.inl hc2)⟩
    · rw [hh]; show CHr Z consts_1 s.vm h0 s₁.vm s₁.heap; rw [e0]; exact CF
  · have pre4 : ∀ t, SS p e below m s₁ 21 #[iv p1, .unset] [(.int (88 : Int32)), (.int (88 : Int32)), (.int p1), (.int (0 : Int32)), (.int (128 : Int32))] t → B t := fun t kk => pre1 t (by
      refine XS.icmpYes X0.here hx rfl (pc0 := 3) (pc' := 12) rfl (hb hby d21_3) rfl (feq hc2).2 (by decide) (by decide) ?_
      refine XS.sipush X0.here hx rfl (hb hby d21_12) ?_
      refine XS.iconst X0.here hx rfl (hb hby d21_15) ?_
      show SS p e below m s₁ 16 #[iv p1, .unset] [(.int (0 : Int32)), (.int (128 : Int32))] _
      refine XS.iloadN X0.here hx rfl (hb hby d21_16) rfl ?_
      refine XS.bipush X0.here hx rfl (hb hby d21_17) ?_
      refine XS.bipush X0.here hx rfl (hb hby d21_19) ?_
      show SS p e below m s₁ 21 #[iv p1, .unset] [(.int (88 : Int32)), (.int (88 : Int32)), (.int p1), (.int (0 : Int32)), (.int (128 : Int32))] _
      exact kk)
    obtain ⟨_, _, ⟨T5, L5, k5, n5⟩, -, X5, hS5, hg5, ⟨Lc5, hQ5, l5, y5, z5, hC5⟩, st5⟩ := callSS X0 hx (y := (⟨"pithline/html/ScriptData", "nameRead", "(IIIII)I"⟩ : MethodName)) hown (mvT hZ (hw _ (List.mem_of_getElem? (i := 56) rfl))) (mvT hZ (hw _ (List.mem_of_getElem? (i := 57) rfl))) (mvT hZ (hw _ (List.mem_of_getElem? (i := 5) rfl))) (mvT hZ (hw _ (List.mem_of_getElem? (i := 58) rfl))) (by decide) (own_backS (s := s) (vm0 := s.vm) (EL := consts_1) (W := 0) (rmNR88C l Z a0 hw [] (128 : Int32) (0 : Int32) p1 (88 : Int32) cz fm h0 n0 Z0 hEL XO0 Scs hcz Sfm hfm (by decide)) hZ (hw _ (List.mem_of_getElem? (i := 58) rfl)) (hw _ (List.mem_of_getElem? (i := 5) rfl)) (by decide) (by decide) hEL C0.1) (g := (mkF m 21 #[iv p1, .unset] [(.int (88 : Int32)), (.int (88 : Int32)), (.int p1), (.int (0 : Int32)), (.int (128 : Int32))])) rfl (by rw [hml]; rfl) (argsL := [(.int (128 : Int32)), (.int (0 : Int32)), (.int p1), (.int (88 : Int32)), (.int (88 : Int32))]) (rest := []) (lenOf pd_10 rfl) rfl (by show 2 * 0 + _ ≤ _; exact Nat.le_of_eq rfl) (hb hby d21_21) (fun _ _ => ⟨rfl, e0, (by decide : 0 + 2 ≤ _), (by decide : 0 + 28 ≤ _)⟩)
    dsimp only [Pt.U, Pt.locs, Pt.cells, Pt.slots] at X5 l5 y5 z5 st5 hQ5 hS5 hg5 hC5
    subst l5 y5 z5
    obtain ⟨rfl, N5q, E5, hV5⟩ := hQ5
    replace hZ : Z.Warmed39 (s.setVm T5.vm).vm := State.Warmed39.trans (t := s.setVm s.vm) hZ hS5.1
    replace hown : (s.setVm T5.vm).vm.findClass "pithline/html/ScriptData" = some m.cls := by rw [show (s.setVm T5.vm).vm = T5.vm from rfl, hS5.1.alike.findClass]; exact hown
    have hs5 : s.Since T5.vm T5.heap.size := hS0.trans hS5 (Nat.le_trans hk0 (by first | exact hg5 | (have q := hg5; rw [e0] at q; exact q)))
    have hk5 : T5.heap.size ≤ T5.heap.size := Nat.le_refl _
    have C5 := C0.trans hC5
    have N5 := Fr.app N0 N5q
    have Z5 : n0 ≤ T5.heap.size := Nat.le_trans Z0 E5.1
    have XO5 : Ext Z.heap T5.heap := own_ext XO0 E5
    have EX5 : Ext h0 T5.heap := own_ext EX0 E5
    obtain ⟨a5, b5, kb5, hLt5, Ex5, Fc5, Fv5, Va5⟩ := hV5
    have pre6 : ∀ t, SS p e below m T5 26 #[iv p1, iv (fNR88C (128 : Int32) (0 : Int32) p1 (88 : Int32))] [(.int (fNR88C (128 : Int32) (0 : Int32) p1 (88 : Int32)))] t → B t := fun t kk => pre4 t (by
      refine st5.trans ?_
      refine XS.istoreN X5.here hx rfl (hb hby d21_24) rfl (l' := #[iv p1, iv (fNR88C (128 : Int32) (0 : Int32) p1 (88 : Int32))]) rfl ?_
      refine XS.iloadN X5.here hx rfl (hb hby d21_25) rfl ?_
      show SS p e below m T5 26 #[iv p1, iv (fNR88C (128 : Int32) (0 : Int32) p1 (88 : Int32))] [(.int (fNR88C (128 : Int32) (0 : Int32) p1 (88 : Int32)))] _
      exact kk)
    have CF := C5.trans (CHv.at X5 hZ hEL C5.1)
    obtain ⟨fs, hr, hrun, hended, hRW⟩ := X5.leaveW (s := s) hs5 (by first | exact hk5 | (rw [rfl]; exact hk5)) (v := some (.int (fNR88C (128 : Int32) (0 : Int32) p1 (88 : Int32)))) (fun h => by rw [Bd.returns] at h; cases h)
    refine ⟨_, _, hB _ (pre6 _ ?_), hrun, hended, _, _, rfl, ?_, ?_, ⟨hRW.1, hRW.2.1, hRW.2.2.1, hRW.2.2.2.mono (by decide) (by decide)⟩⟩
    · exact retI X5 hx Bd.returns (hb hby d21_26) hr
    · exact ⟨by show _ = some (Value.int (fADLC p1)); rw [fADLC, if_neg hc2], N5, EX5, (Or.inr ⟨a5, b5, kb5, ⟨Lit.stays (s := s) (vm0 := T5.vm) hLt5 X5.warmed.wide, Ex5, Fc5, Fv5, Va5⟩⟩)⟩
    · rw [hh]; exact CF
theorem ef_rmN112C (m : MethodId) (p2 : Int32) : entryFrame m #[(.int (112 : Int32)), (.int p2)] 5 = mkF m 0 #[iv (112 : Int32), iv p2, .unset, .unset, .unset] [] := by first | (simp [entryFrame, mkF, argsToLocals, Value.category]; done) | rfl
def fN112C (p2 : Int32)  : Int32 := (fADLC p2)
set_option maxRecDepth 65536 in
set_option maxHeartbeats 40000000 in
theorem rmN112C (l : Launch) (Z : State) (a0 : Array Value) (hw : ∀ d ∈ tables_1, d.before a0 Z = true) (ws : List Jvm.Cond) (p2 : Int32) (cz : Int32) (fm : Value) (h0 : Heap) (n0 : Nat) (Z0 : n0 ≤ h0.size) (hEL : EW Z a0 consts_1) (XO0 : Ext Z.heap h0) (Scs : Sta Z Z.heap "java/lang/String" "COMPACT_STRINGS" "Z" (.int cz)) (hcz : ¬ (cz = (0 : Int32))) (Sfm : Sta Z Z.heap "jdk/internal/util/Preconditions" "SIOOBE_FORMATTER" "Ljava/util/function/BiFunction;" fm) (hfm : fm.isRef = true) :
    MetFree l (⟨"pithline/html/ScriptData", "next", "(II)I"⟩ : MethodName) (head1 (Jvm.Cond.code (⟨"pithline/html/ScriptData", "next", "(II)I"⟩ : MethodName) prog_41_method_2_code 5 (some .int) :: ws) ({ frames := 6, cells := 2, slots := 28, locals := 84 } : Room)) (fun a U => a = #[(.int (112 : Int32)), (.int p2)] ∧ Z.Warmed39 U.vm ∧ U.heap = h0 ∧ CHv Z consts_1 U.vm h0) (fun _ _ _ _ _ => True) (fun _ U o U' => ∃ v L, o = .returned v ∧ QC (fN112C p2) (fun vm h => p2 = (47 : Int32) ∨ LitS Z "pithline/html/ScriptData" 62 vm h) h0 n0 v U'.heap U'.vm L ∧ CHr Z consts_1 U.vm U.heap U'.vm U'.heap ∧ ReturnedEndW U o U' L ({ frames := 6, cells := 2, slots := 28, locals := 84 } : Room).cells ({ frames := 6, cells := 2, slots := 28, locals := 84 } : Room).slots) := by
  refine MetFree.of_bodySF (plainFor_of_name pn_1) hisR ?_
  intro p e s m args below meth c s₁ Bd hml0 hP hK
  obtain ⟨rfl, hZ, hh, hCH⟩ := hP
  have hx := Bd.exec
  have hby := Bd.bytes
  have hml : c.maxLocals = 5 := hml0
  have hown : (s.setVm s.vm).vm.findClass "pithline/html/ScriptData" = some m.cls := findClass_of_methodNamed Bd.named
  replace hZ : Z.Warmed39 (s.setVm s.vm).vm := hZ
  have X0 : Stand p l e ({ frames := 6, cells := 2, slots := 28, locals := 84 } : Room) (s.setVm s.vm) m #[(.int (112 : Int32)), (.int p2)] below meth c s₁ [] 0 0 := Stand.of_body Bd
  have e0 : s₁.heap = h0 := by rw [← hh, Bd.state]; rfl
  have N0 := Fr.nil n0
  have hS0 : s.Since s.vm h0.size := (State.WarmedH.refl s).since _
  have hk0 : h0.size ≤ h0.size := Nat.le_refl _
  have C0 : CHr Z consts_1 s.vm h0 s.vm h0 := CHr.refl hCH
  have EX0 : Ext h0 h0 := ⟨Nat.le_refl _, fun _ _ q => q⟩
  obtain ⟨B, hB, pre0⟩ : ∃ B : State → Prop, (∀ t, B t → Steps p.tables e below (s₁.setTop (entryFrame m #[(.int (112 : Int32)), (.int p2)] 5)) t) ∧ ∀ t, SS p e below m s₁ 0 #[iv (112 : Int32), iv p2, .unset, .unset, .unset] [] t → B t := ⟨_, fun _ q => q, fun t kk => castTop (ef_rmN112C m p2) kk⟩
  have pre1 : ∀ t, SS p e below m s₁ 6 #[iv (112 : Int32), iv p2, .unset, .unset, .unset] [(.int ((112 : Int32) - ((112 : Int32) % (8 : Int32))))] t → B t := fun t kk => pre0 t (by
    show SS p e below m s₁ 0 #[iv (112 : Int32), iv p2, .unset, .unset, .unset] [] _
    refine XS.iloadN X0.here hx rfl (hb hby d1_0) rfl ?_
    refine XS.iloadN X0.here hx rfl (hb hby d1_1) rfl ?_
    refine XS.bipush X0.here hx rfl (hb hby d1_2) ?_
    show SS p e below m s₁ 4 #[iv (112 : Int32), iv p2, .unset, .unset, .unset] [(.int (8 : Int32)), (.int (112 : Int32)), (.int (112 : Int32))] _
    refine iremM (g := (mkF m 4 #[iv (112 : Int32), iv p2, .unset, .unset, .unset] [(.int (8 : Int32)), (.int (112 : Int32)), (.int (112 : Int32))])) X0 hx rfl (hb hby d1_4) rfl (by decide) ?_
    refine XS.isub X0.here hx rfl (hb hby d1_5) rfl ?_
    exact kk)
  rw [show ((112 : Int32) - ((112 : Int32) % (8 : Int32))) = (112 : Int32) from by decide] at pre1
  have pre2 : ∀ t, SS p e below m s₁ 11 #[iv (112 : Int32), iv p2, iv (112 : Int32), .unset, .unset] [(.int ((112 : Int32) % (8 : Int32)))] t → B t := fun t kk => pre1 t (by
    refine XS.istoreN X0.here hx rfl (hb hby d1_6) rfl (l' := #[iv (112 : Int32), iv p2, iv (112 : Int32), .unset, .unset]) rfl ?_
    refine XS.iloadN X0.here hx rfl (hb hby d1_7) rfl ?_
    refine XS.bipush X0.here hx rfl (hb hby d1_8) ?_
    show SS p e below m s₁ 10 #[iv (112 : Int32), iv p2, iv (112 : Int32), .unset, .unset] [(.int (8 : Int32)), (.int (112 : Int32))] _
    refine iremM (g := (mkF m 10 #[iv (112 : Int32), iv p2, iv (112 : Int32), .unset, .unset] [(.int (8 : Int32)), (.int (112 : Int32))])) X0 hx rfl (hb hby d1_10) rfl (by decide) ?_
    exact kk)
  rw [show ((112 : Int32) % (8 : Int32)) = (0 : Int32) from by decide] at pre2
  have pre3 : ∀ t, SS p e below m s₁ 307 #[iv (112 : Int32), iv p2, iv (112 : Int32), iv (0 : Int32), .unset] [(.int p2)] t → B t := fun t kk => pre2 t (by
    refine XS.istoreN X0.here hx rfl (hb hby d1_11) rfl (l' := #[iv (112 : Int32), iv p2, iv (112 : Int32), iv (0 : Int32), .unset]) rfl ?_
    refine XS.iloadN X0.here hx rfl (hb hby d1_12) rfl ?_
    refine X0.lookupswitchHit hx (g := (mkF m 13 #[iv (112 : Int32), iv p2, iv (112 : Int32), iv (0 : Int32), .unset] [(.int (112 : Int32))])) rfl rfl (hb hby d1_13) (by decide) (a := 112) (off := 293) (by decide +kernel) (show (0 : Int) ≤ ((13 : Nat) : Int) + 293 from by decide) _ ?_
    show SS p e below m s₁ 306 #[iv (112 : Int32), iv p2, iv (112 : Int32), iv (0 : Int32), .unset] [] _
    refine XS.iloadN X0.here hx rfl (hb hby d1_306) rfl ?_
    exact kk)
  obtain ⟨_, _, ⟨T4, L4, k4, n4⟩, -, X4, hS4, hg4, ⟨Lc4, hQ4, l4, y4, z4, hC4⟩, st4⟩ := callSS X0 hx (y := (⟨"pithline/html/ScriptData", "afterDoublyEscapedLessThan", "(I)I"⟩ : MethodName)) hown (mvT hZ (hw _ (List.mem_of_getElem? (i := 91) rfl))) (mvT hZ (hw _ (List.mem_of_getElem? (i := 92) rfl))) (mvT hZ (hw _ (List.mem_of_getElem? (i := 5) rfl))) (mvT hZ (hw _ (List.mem_of_getElem? (i := 93) rfl))) (by decide) (own_backS (s := s) (vm0 := s.vm) (EL := consts_1) (W := 0) (rmADLC l Z a0 hw [] p2 cz fm h0 n0 Z0 hEL XO0 Scs hcz Sfm hfm) hZ (hw _ (List.mem_of_getElem? (i := 93) rfl)) (hw _ (List.mem_of_getElem? (i := 5) rfl)) (by decide) (by decide) hEL C0.1) (g := (mkF m 307 #[iv (112 : Int32), iv p2, iv (112 : Int32), iv (0 : Int32), .unset] [(.int p2)])) rfl (by rw [hml]; rfl) (argsL := [(.int p2)]) (rest := []) (lenOf pd_7 rfl) rfl (by show 2 * 0 + _ ≤ _; exact Nat.le_of_eq rfl) (hb hby d1_307) (fun _ _ => ⟨rfl, e0, (by decide : 0 + 2 ≤ _), (by decide : 0 + 28 ≤ _)⟩)
  dsimp only [Pt.U, Pt.locs, Pt.cells, Pt.slots] at X4 l4 y4 z4 st4 hQ4 hS4 hg4 hC4
  subst l4 y4 z4
  obtain ⟨rfl, N4q, E4, hV4⟩ := hQ4
  replace hZ : Z.Warmed39 (s.setVm T4.vm).vm := State.Warmed39.trans (t := s.setVm s.vm) hZ hS4.1
  replace hown : (s.setVm T4.vm).vm.findClass "pithline/html/ScriptData" = some m.cls := by rw [show (s.setVm T4.vm).vm = T4.vm from rfl, hS4.1.alike.findClass]; exact hown
  have hs4 : s.Since T4.vm T4.heap.size := hS0.trans hS4 (Nat.le_trans hk0 (by first | exact hg4 | (have q := hg4; rw [e0] at q; exact q)))
  have hk4 : T4.heap.size ≤ T4.heap.size := Nat.le_refl _
  have C4 := C0.trans hC4
  have N4 := Fr.app N0 N4q
  have Z4 : n0 ≤ T4.heap.size := Nat.le_trans Z0 E4.1
  have XO4 : Ext Z.heap T4.heap := own_ext XO0 E4
  have EX4 : Ext h0 T4.heap := own_ext EX0 E4
  have pre5 : ∀ t, SS p e below m T4 360 #[iv (112 : Int32), iv p2, iv (112 : Int32), iv (0 : Int32), iv (fADLC p2)] [(.int (fADLC p2))] t → B t := fun t kk => pre3 t (by
    refine st4.trans ?_
    refine XS.istore X4.here hx rfl (hb hby d1_310) rfl (l' := #[iv (112 : Int32), iv p2, iv (112 : Int32), iv (0 : Int32), iv (fADLC p2)]) rfl ?_
    refine XS.goto X4.here hx rfl (pc0 := 312) (pc' := 358) rfl (hb hby d1_312) (by decide) (by decide) ?_
    show SS p e below m T4 358 #[iv (112 : Int32), iv p2, iv (112 : Int32), iv (0 : Int32), iv (fADLC p2)] [] _
    refine XS.iload X4.here hx rfl (hb hby d1_358) rfl ?_
    exact kk)
  have CF := C4.trans (CHv.at X4 hZ hEL C4.1)
  obtain ⟨fs, hr, hrun, hended, hRW⟩ := X4.leaveW (s := s) hs4 (by first | exact hk4 | (rw [rfl]; exact hk4)) (v := some (.int (fADLC p2))) (fun h => by rw [Bd.returns] at h; cases h)
  refine ⟨_, _, hB _ (pre5 _ ?_), hrun, hended, _, _, rfl, ?_, ?_, ⟨hRW.1, hRW.2.1, hRW.2.2.1, hRW.2.2.2.mono (by decide) (by decide)⟩⟩
  · exact retI X4 hx Bd.returns (hb hby d1_360) hr
  · exact ⟨by show _ = some (Value.int (fN112C p2)); rw [fN112C], N4, EX4, (hV4.imp id fun ⟨a, b, k, q⟩ => ⟨a, b, k, Lit.stays (s := s) (vm0 := T4.vm) q.1 X4.warmed.wide, q.2⟩)⟩
  · rw [hh]; exact CF
def fNgW (p1 p2 n b : Int32) : Int32 := if b = (72 : Int32) then fN72W p1 p2 n else if b = (80 : Int32) then fN80W p1 p2 n else if b = (120 : Int32) then fN120W p1 p2 n else fN128W p1 p2 n
theorem rmNgW (l : Launch) (Z : State) (a0 : Array Value) (hw : ∀ d ∈ tables_1, d.before a0 Z = true) (ws : List Jvm.Cond) (p1 p2 : Int32) (cz : Int32) (fm : Value) (aA bA aB bB : Addr) (kA kB : ClassId) (n b : Int32) (h0 : Heap) (n0 : Nat) (Z0 : n0 ≤ h0.size) (XO0 : Ext Z.heap h0) (Scs : Sta Z Z.heap "java/lang/String" "COMPACT_STRINGS" "Z" (.int cz)) (hcz : ¬ (cz = (0 : Int32))) (Sfm : Sta Z Z.heap "jdk/internal/util/Preconditions" "SIOOBE_FORMATTER" "Ljava/util/function/BiFunction;" fm) (hfm : fm.isRef = true) (EA : Exa Z h0 aA "java/lang/String") (CA : Fld Z h0 aA "java/lang/String" "coder" "B" (.int (0 : Int32))) (UA : Fld Z h0 aA "java/lang/String" "value" "[B" (.ref bA)) (VA : Arv Z h0 bA kA .byte (6 : Int32) (own_vs.map Value.int) (.int (0 : Int32))) (EB : Exa Z h0 aB "java/lang/String") (CB : Fld Z h0 aB "java/lang/String" "coder" "B" (.int (0 : Int32))) (UB : Fld Z h0 aB "java/lang/String" "value" "[B" (.ref bB)) (VB : Arv Z h0 bB kB .byte (6 : Int32) (own_vs.map Value.int) (.int (0 : Int32))) (hbs : (p1 - (p1 % (8 : Int32))) = b) (hn : (p1 % (8 : Int32)) = n) (hlo : ¬ (n < (0 : Int32))) (hB : b = (72 : Int32) ∨ b = (80 : Int32) ∨ b = (120 : Int32) ∨ b = (128 : Int32)) :
    MetFree l (⟨"pithline/html/ScriptData", "next", "(II)I"⟩ : MethodName) (head1 (Jvm.Cond.code (⟨"pithline/html/ScriptData", "next", "(II)I"⟩ : MethodName) prog_41_method_2_code 5 (some .int) :: ws) ({ frames := 5, cells := 0, slots := 0, locals := 71 } : Room)) (fun a U => a = #[(.int p1), (.int p2)] ∧ Z.Warmed39 U.vm ∧ U.heap = h0 ∧ LW Z aA aB U.vm) (fun _ _ _ _ _ => True) (fun _ U o U' => ∃ v L, o = .returned v ∧ QI (fNgW p1 p2 n b) h0 n0 v U'.heap L ∧ FrameEnd U o U' L ({ frames := 5, cells := 0, slots := 0, locals := 71 } : Room).cells ({ frames := 5, cells := 0, slots := 0, locals := 71 } : Room).slots) := by
  rcases hB with rfl | rfl | rfl | rfl
  · exact rmN72W l Z a0 hw ws p1 p2 cz fm aA bA aB bB kA kB n h0 n0 Z0 XO0 Scs hcz Sfm hfm EA CA UA VA EB CB UB VB hbs hn hlo
  · exact rmN80W l Z a0 hw ws p1 p2 cz fm aA bA aB bB kA kB n h0 n0 Z0 XO0 Scs hcz Sfm hfm EA CA UA VA EB CB UB VB hbs hn hlo
  · exact rmN120W l Z a0 hw ws p1 p2 cz fm aA bA aB bB kA kB n h0 n0 Z0 XO0 Scs hcz Sfm hfm EA CA UA VA EB CB UB VB hbs hn hlo
  · exact rmN128W l Z a0 hw ws p1 p2 cz fm aA bA aB bB kA kB n h0 n0 Z0 XO0 Scs hcz Sfm hfm EA CA UA VA EB CB UB VB hbs hn hlo
def fNgC (p1 p2 n b : Int32) : Int32 := if b = (64 : Int32) then fN64C p2 else if b = (112 : Int32) then fN112C p2 else if b = (72 : Int32) then fN72C p1 p2 n else if b = (80 : Int32) then fN80C p1 p2 n else if b = (120 : Int32) then fN120C p1 p2 n else fN128C p1 p2 n
theorem rmNgC (l : Launch) (Z : State) (a0 : Array Value) (hw : ∀ d ∈ tables_1, d.before a0 Z = true) (ws : List Jvm.Cond) (p1 p2 : Int32) (cz : Int32) (fm : Value) (n b : Int32) (h0 : Heap) (n0 : Nat) (Z0 : n0 ≤ h0.size) (hEL : EW Z a0 consts_1) (XO0 : Ext Z.heap h0) (Scs : Sta Z Z.heap "java/lang/String" "COMPACT_STRINGS" "Z" (.int cz)) (hcz : ¬ (cz = (0 : Int32))) (Sfm : Sta Z Z.heap "jdk/internal/util/Preconditions" "SIOOBE_FORMATTER" "Ljava/util/function/BiFunction;" fm) (hfm : fm.isRef = true) (hbs : (p1 - (p1 % (8 : Int32))) = b) (hn : (p1 % (8 : Int32)) = n) (hlo : ¬ (n < (0 : Int32))) (hB : (b = (64 : Int32) ∧ p1 = (64 : Int32)) ∨ (b = (112 : Int32) ∧ p1 = (112 : Int32)) ∨ b = (72 : Int32) ∨ b = (80 : Int32) ∨ b = (120 : Int32) ∨ b = (128 : Int32)) :
    MetFree l (⟨"pithline/html/ScriptData", "next", "(II)I"⟩ : MethodName) (head1 (Jvm.Cond.code (⟨"pithline/html/ScriptData", "next", "(II)I"⟩ : MethodName) prog_41_method_2_code 5 (some .int) :: ws) ({ frames := 6, cells := 2, slots := 28, locals := 84 } : Room)) (fun a U => a = #[(.int p1), (.int p2)] ∧ Z.Warmed39 U.vm ∧ U.heap = h0 ∧ CHv Z consts_1 U.vm h0) (fun _ _ _ _ _ => True) (fun _ U o U' => ∃ v L, o = .returned v ∧ QC (fNgC p1 p2 n b) (fun vm h => p2 = (47 : Int32) ∨ LitS Z "pithline/html/ScriptData" 62 vm h) h0 n0 v U'.heap U'.vm L ∧ CHr Z consts_1 U.vm U.heap U'.vm U'.heap ∧ ReturnedEndW U o U' L ({ frames := 6, cells := 2, slots := 28, locals := 84 } : Room).cells ({ frames := 6, cells := 2, slots := 28, locals := 84 } : Room).slots) := by
  rcases hB with ⟨rfl, rfl⟩ | ⟨rfl, rfl⟩ | rfl | rfl | rfl | rfl
  · exact rmN64C l Z a0 hw ws p2 cz fm h0 n0 Z0 hEL XO0 Scs hcz Sfm hfm
  · exact rmN112C l Z a0 hw ws p2 cz fm h0 n0 Z0 hEL XO0 Scs hcz Sfm hfm
  · intro p e ha hc hk s m args below hf happ hP hK
    obtain ⟨n', o, h1, h2, h3, v, L, e1, q, r⟩ := rmN72C l Z a0 hw ws p1 p2 cz fm n h0 n0 Z0 hEL XO0 Scs hcz Sfm hfm hbs hn hlo p e ha hc hk s m args below hf happ hP hK
    exact ⟨n', o, h1, h2, h3, v, L, e1, ⟨q.1, q.2.1, q.2.2.1, Or.inr q.2.2.2⟩, r⟩
  · intro p e ha hc hk s m args below hf happ hP hK
    obtain ⟨n', o, h1, h2, h3, v, L, e1, q, r⟩ := rmN80C l Z a0 hw ws p1 p2 cz fm n h0 n0 Z0 hEL XO0 Scs hcz Sfm hfm hbs hn hlo p e ha hc hk s m args below hf happ hP hK
    exact ⟨n', o, h1, h2, h3, v, L, e1, ⟨q.1, q.2.1, q.2.2.1, Or.inr q.2.2.2⟩, r⟩
  · intro p e ha hc hk s m args below hf happ hP hK
    obtain ⟨n', o, h1, h2, h3, v, L, e1, q, r⟩ := rmN120C l Z a0 hw ws p1 p2 cz fm n h0 n0 Z0 hEL XO0 Scs hcz Sfm hfm hbs hn hlo p e ha hc hk s m args below hf happ hP hK
    exact ⟨n', o, h1, h2, h3, v, L, e1, ⟨q.1, q.2.1, q.2.2.1, Or.inr q.2.2.2⟩, r⟩
  · intro p e ha hc hk s m args below hf happ hP hK
    obtain ⟨n', o, h1, h2, h3, v, L, e1, q, r⟩ := rmN128C l Z a0 hw ws p1 p2 cz fm n h0 n0 Z0 hEL XO0 Scs hcz Sfm hfm hbs hn hlo p e ha hc hk s m args below hf happ hP hK
    exact ⟨n', o, h1, h2, h3, v, L, e1, ⟨q.1, q.2.1, q.2.2.1, Or.inr q.2.2.2⟩, r⟩
theorem d5_0 : decode method_5_code 0 = .ok (.ldc 29, 2) := by decide +kernel
theorem d5_2 : decode method_5_code 2 = .ok (.iload_n 0, 1) := by decide +kernel
theorem d5_3 : decode method_5_code 3 = .ok (.invokevirtual 31, 3) := by decide +kernel
theorem d5_6 : decode method_5_code 6 = .ok (.istore_n 2, 1) := by decide +kernel
theorem d5_7 : decode method_5_code 7 = .ok (.iload_n 1, 1) := by decide +kernel
theorem d5_8 : decode method_5_code 8 = .ok (.iload_n 0, 1) := by decide +kernel
theorem d5_9 : decode method_5_code 9 = .ok (.iushr, 1) := by decide +kernel
theorem d5_10 : decode method_5_code 10 = .ok (.iconst 1, 1) := by decide +kernel
theorem d5_11 : decode method_5_code 11 = .ok (.iand, 1) := by decide +kernel
theorem d5_12 : decode method_5_code 12 = .ok (.ifCond .eq 10, 3) := by decide +kernel
theorem d5_15 : decode method_5_code 15 = .ok (.iload_n 2, 1) := by decide +kernel
theorem d5_16 : decode method_5_code 16 = .ok (.bipush 32, 2) := by decide +kernel
theorem d5_18 : decode method_5_code 18 = .ok (.isub, 1) := by decide +kernel
theorem d5_19 : decode method_5_code 19 = .ok (.goto 4, 3) := by decide +kernel
theorem d5_22 : decode method_5_code 22 = .ok (.iload_n 2, 1) := by decide +kernel
theorem d5_23 : decode method_5_code 23 = .ok (.ireturn, 1) := by decide +kernel
theorem pn_5 : plainName "pithline/html/ScriptDataOpenTagLengthPinLaw" = true := by first | (simp [plainName, overriddenIn]; done) | decide +kernel
theorem ef_rmL0C (m : MethodId) (p2 : Int32) : entryFrame m #[(.int (0 : Int32)), (.int p2)] 3 = mkF m 0 #[iv (0 : Int32), iv p2, .unset] [] := by first | (simp [entryFrame, mkF, argsToLocals, Value.category]; done) | rfl
def fL0C (p2 : Int32)  : Int32 := (if (((p2.toUInt32 >>> ((0 : Int32) &&& 31).toUInt32).toInt32) &&& (1 : Int32)) = (0 : Int32) then (f6 (0 : Int32) own_vs) else ((f6 (0 : Int32) own_vs) - (32 : Int32)))
set_option maxRecDepth 65536 in
set_option maxHeartbeats 40000000 in
theorem rmL0C (l : Launch) (Z : State) (a0 : Array Value) (hw : ∀ d ∈ tables_1, d.before a0 Z = true) (ws : List Jvm.Cond) (p2 : Int32) (cz : Int32) (fm : Value) (h0 : Heap) (n0 : Nat) (Z0 : n0 ≤ h0.size) (hEL : EW Z a0 consts_1) (XO0 : Ext Z.heap h0) (Scs : Sta Z Z.heap "java/lang/String" "COMPACT_STRINGS" "Z" (.int cz)) (hcz : ¬ (cz = (0 : Int32))) (Sfm : Sta Z Z.heap "jdk/internal/util/Preconditions" "SIOOBE_FORMATTER" "Ljava/util/function/BiFunction;" fm) (hfm : fm.isRef = true) :
    MetFree l (⟨"pithline/html/ScriptDataOpenTagLengthPinLaw", "letter", "(II)I"⟩ : MethodName) (head1 (Jvm.Cond.code (⟨"pithline/html/ScriptDataOpenTagLengthPinLaw", "letter", "(II)I"⟩ : MethodName) method_5_code 3 (some .int) :: ws) ({ frames := 4, cells := 2, slots := 28, locals := 53 } : Room)) (fun a U => a = #[(.int (0 : Int32)), (.int p2)] ∧ Z.Warmed39 U.vm ∧ U.heap = h0 ∧ CHv Z consts_1 U.vm h0) (fun _ _ _ _ _ => True) (fun _ U o U' => ∃ v L, o = .returned v ∧ QC (fL0C p2) (fun vm h => LitS Z "pithline/html/ScriptDataOpenTagLengthPinLaw" 29 vm h) h0 n0 v U'.heap U'.vm L ∧ CHr Z consts_1 U.vm U.heap U'.vm U'.heap ∧ ReturnedEndW U o U' L ({ frames := 4, cells := 2, slots := 28, locals := 53 } : Room).cells ({ frames := 4, cells := 2, slots := 28, locals := 53 } : Room).slots) := by
  refine MetFree.of_bodySF (plainFor_of_name pn_5) hisR ?_
  intro p e s m args below meth c s₁ Bd hml0 hP hK
  obtain ⟨rfl, hZ, hh, hCH⟩ := hP
  have hx := Bd.exec
  have hby := Bd.bytes
  have hml : c.maxLocals = 3 := hml0
  have hown : (s.setVm s.vm).vm.findClass "pithline/html/ScriptDataOpenTagLengthPinLaw" = some m.cls := findClass_of_methodNamed Bd.named
  replace hZ : Z.Warmed39 (s.setVm s.vm).vm := hZ
  have X0 : Stand p l e ({ frames := 4, cells := 2, slots := 28, locals := 53 } : Room) (s.setVm s.vm) m #[(.int (0 : Int32)), (.int p2)] below meth c s₁ [] 0 0 := Stand.of_body Bd
  have e0 : s₁.heap = h0 := by rw [← hh, Bd.state]; rfl
  have N0 := Fr.nil n0
  have hS0 : s.Since s.vm h0.size := (State.WarmedH.refl s).since _
  have hk0 : h0.size ≤ h0.size := Nat.le_refl _
  have C0 : CHr Z consts_1 s.vm h0 s.vm h0 := CHr.refl hCH
  have EX0 : Ext h0 h0 := ⟨Nat.le_refl _, fun _ _ q => q⟩
  obtain ⟨B, hB, pre0⟩ : ∃ B : State → Prop, (∀ t, B t → Steps p.tables e below (s₁.setTop (entryFrame m #[(.int (0 : Int32)), (.int p2)] 3)) t) ∧ ∀ t, SS p e below m s₁ 0 #[iv (0 : Int32), iv p2, .unset] [] t → B t := ⟨_, fun _ q => q, fun t kk => castTop (ef_rmL0C m p2) kk⟩
  have pre1 : ∀ t, SS p e below m s₁ 0 #[iv (0 : Int32), iv p2, .unset] [] t → B t := fun t kk => pre0 t (by
    show SS p e below m s₁ 0 #[iv (0 : Int32), iv p2, .unset] [] _
    exact kk)
  obtain ⟨a2, T2, h2, k12, b2, kb2, X2, e2, E2, hS2, hk2, hZ2, hown2, Ex2, Fc2, Fv2, Va2, -, -, hC2, hLt2, -, st2⟩ := ldcCH (s := s) (vm0 := s.vm) (EL := consts_1) X0 hx hZ hown (hw _ (List.mem_of_getElem? (i := 20) rfl)) (own_wS hw) e0 hS0 hk0 hEL (List.mem_of_getElem? (i := 1) rfl) C0.1 (vs := own_vs.map Value.int) (z := (6 : Int32)) (own_litA rfl) (by decide) rfl (g := (mkF m 0 #[iv (0 : Int32), iv p2, .unset] [])) rfl (hb hby d5_0) (n := 24) (own_litnA rfl) (by decide) (by decide) (by decide)
  replace hZ := hZ2
  replace hown := hown2
  have C2 := C0.trans hC2
  have Z2 : n0 ≤ h2.size := Nat.le_trans Z0 E2.1
  have XO2 : Ext Z.heap h2 := own_ext XO0 E2
  have EX2 : Ext h0 h2 := own_ext EX0 E2
  have pre3 : ∀ t, SS p e below m T2 3 #[iv (0 : Int32), iv p2, .unset] [(.int (0 : Int32)), (.ref a2)] t → B t := fun t kk => pre1 t (by
    refine st2 _ ?_
    refine XS.iloadN X2.here hx rfl (hb hby d5_2) rfl ?_
    exact kk)
  obtain ⟨cq4, kq4, q4a, q4b, q4c⟩ := isOf hZ e2 Ex2
  obtain ⟨_, _, ⟨T4, L4, k4, n4⟩, -, X4, ⟨Lc4, hQ4, l4, y4, z4⟩, st4⟩ := X2.virtualBack hx (y := (⟨"java/lang/String", "charAt", "(I)C"⟩ : MethodName)) (z := (⟨"java/lang/String", "charAt", "(I)C"⟩ : MethodName)) hown (mvT hZ (hw _ (List.mem_of_getElem? (i := 28) rfl))) (mvT hZ (hw _ (List.mem_of_getElem? (i := 29) rfl))) (notFace_of_selects (args := #[]) (mvT hZ (hw _ (List.mem_of_getElem? (i := 31) rfl)))) (mvT hZ (hw _ (List.mem_of_getElem? (i := 31) rfl))) (mvT hZ (hw _ (List.mem_of_getElem? (i := 30) rfl))) (by decide) (backOf (W := 0) (rm6 l Z a0 hw [] a2 (0 : Int32) cz fm b2 kb2 (6 : Int32) own_vs h2 n0 Z2 (Scs.ext XO2) hcz (Sfm.ext XO2) hfm Ex2 Fc2 Fv2 Va2 (by decide) (by decide)) hZ (hw _ (List.mem_of_getElem? (i := 32) rfl)) (hw _ (List.mem_of_getElem? (i := 21) rfl)) (by decide) (by decide)) q4a q4c (g := (mkF m 3 #[iv (0 : Int32), iv p2, .unset] [(.int (0 : Int32)), (.ref a2)])) rfl (by rw [hml]; rfl) (Steps.refl _) (argsL := [(.int (0 : Int32))]) (rest := []) (lenOf pd_9 rfl) rfl (by show 2 * 0 + _ ≤ _; exact Nat.le_of_eq rfl) (hb hby d5_3) (fun _ _ => ⟨rfl, e2, (by decide : 2 + 0 ≤ _), (by decide : 28 + 0 ≤ _)⟩)
  dsimp only [Pt.U, Pt.locs, Pt.cells, Pt.slots] at X4 l4 y4 z4 st4 hQ4
  subst l4 y4 z4
  obtain ⟨rfl, N4q, e4⟩ := hQ4
  have N4 := Fr.app N0 N4q
  have pre5 : ∀ t, SS p e below m T4 12 #[iv (0 : Int32), iv p2, iv (f6 (0 : Int32) own_vs)] [(.int (((p2.toUInt32 >>> ((0 : Int32) &&& 31).toUInt32).toInt32) &&& (1 : Int32)))] t → B t := fun t kk => pre3 t (by
    refine st4.trans ?_
    refine XS.istoreN X4.here hx rfl (hb hby d5_6) rfl (l' := #[iv (0 : Int32), iv p2, iv (f6 (0 : Int32) own_vs)]) rfl ?_
    refine XS.iloadN X4.here hx rfl (hb hby d5_7) rfl ?_
    show SS p e below m T4 8 #[iv (0 : Int32), iv p2, iv (f6 (0 : Int32) own_vs)] [(.int p2)] _
    refine XS.iloadN X4.here hx rfl (hb hby d5_8) rfl ?_
    refine XS.iushr X4.here hx rfl (hb hby d5_9) rfl ?_
    refine XS.iconst X4.here hx rfl (hb hby d5_10) ?_
    show SS p e below m T4 11 #[iv (0 : Int32), iv p2, iv (f6 (0 : Int32) own_vs)] [(.int (1 : Int32)), (.int ((p2.toUInt32 >>> ((0 : Int32) &&& 31).toUInt32).toInt32))] _
    refine XS.iand X4.here hx rfl (hb hby d5_11) rfl ?_
    exact kk)
  by_cases hc6 : (((p2.toUInt32 >>> ((0 : Int32) &&& 31).toUInt32).toInt32) &&& (1 : Int32)) = (0 : Int32)
  · have pre7 : ∀ t, SS p e below m T4 23 #[iv (0 : Int32), iv p2, iv (f6 (0 : Int32) own_vs)] [(.int (f6 (0 : Int32) own_vs))] t → B t := fun t kk => pre5 t (by
      refine XS.ifYes X4.here hx rfl (pc0 := 12) (pc' := 22) rfl (hb hby d5_12) rfl ((if0 _ _).trans (teq hc6).1) (by decide) (by decide) ?_
      refine XS.iloadN X4.here hx rfl (hb hby d5_22) rfl ?_
      exact kk)
    have CF := C2.trans (CHv.at X4 hZ hEL C2.1)
    obtain ⟨fs, hr, hrun, hended, hRW⟩ := X4.leaveW (s := s) hS2 (by first | exact hk2 | (rw [e4]; exact hk2)) (v := some (.int (f6 (0 : Int32) own_vs))) (fun h => by rw [Bd.returns] at h; cases h)
    refine ⟨_, _, hB _ (pre7 _ ?_), hrun, hended, _, _, rfl, ?_, ?_, ⟨hRW.1, hRW.2.1, hRW.2.2.1, hRW.2.2.2.mono (by decide) (by decide)⟩⟩
    · exact retI X4 hx Bd.returns (hb hby d5_23) hr
    · exact ⟨by show _ = some (Value.int (fL0C p2)); rw [fL0C, if_pos hc6], N4, (by show Ext h0 T4.heap; rw [e4]; exact EX2), (by show LitS Z "pithline/html/ScriptDataOpenTagLengthPinLaw" 29 T4.vm T4.heap; rw [e4]; exact ⟨a2, b2, kb2, ⟨Lit.stays (s := s) (vm0 := T2.vm) hLt2 X4.warmed.wide, Ex2, Fc2, Fv2, Va2⟩⟩)⟩
    · rw [hh]; show CHr Z consts_1 s.vm h0 T4.vm T4.heap; rw [e4]; exact CF
  · have pre8 : ∀ t, SS p e below m T4 23 #[iv (0 : Int32), iv p2, iv (f6 (0 : Int32) own_vs)] [(.int ((f6 (0 : Int32) own_vs) - (32 : Int32)))] t → B t := fun t kk => pre5 t (by
      refine XS.ifNo X4.here hx rfl (hb hby d5_12) rfl ((if0 _ _).trans (feq hc6).1) ?_
      refine XS.iloadN X4.here hx rfl (hb hby d5_15) rfl ?_
      refine XS.bipush X4.here hx rfl (hb hby d5_16) ?_
      show SS p e below m T4 18 #[iv (0 : Int32), iv p2, iv (f6 (0 : Int32) own_vs)] [(.int (32 : Int32)), (.int (f6 (0 : Int32) own_vs))] _
      refine XS.isub X4.here hx rfl (hb hby d5_18) rfl ?_
      refine XS.goto X4.here hx rfl (pc0 := 19) (pc' := 23) rfl (hb hby d5_19) (by decide) (by decide) ?_
      exact kk)
    have CF := C2.trans (CHv.at X4 hZ hEL C2.1)
    obtain ⟨fs, hr, hrun, hended, hRW⟩ := X4.leaveW (s := s) hS2 (by first | exact hk2 | (rw [e4]; exact hk2)) (v := some (.int ((f6 (0 : Int32) own_vs) - (32 : Int32)))) (fun h => by rw [Bd.returns] at h; cases h)
    refine ⟨_, _, hB _ (pre8 _ ?_), hrun, hended, _, _, rfl, ?_, ?_, ⟨hRW.1, hRW.2.1, hRW.2.2.1, hRW.2.2.2.mono (by decide) (by decide)⟩⟩
    · exact retI X4 hx Bd.returns (hb hby d5_23) hr
    · exact ⟨by show _ = some (Value.int (fL0C p2)); rw [fL0C, if_neg hc6], N4, (by show Ext h0 T4.heap; rw [e4]; exact EX2), (by show LitS Z "pithline/html/ScriptDataOpenTagLengthPinLaw" 29 T4.vm T4.heap; rw [e4]; exact ⟨a2, b2, kb2, ⟨Lit.stays (s := s) (vm0 := T2.vm) hLt2 X4.warmed.wide, Ex2, Fc2, Fv2, Va2⟩⟩)⟩
    · rw [hh]; show CHr Z consts_1 s.vm h0 T4.vm T4.heap; rw [e4]; exact CF
theorem ef_rmLW (m : MethodId) (p1 : Int32) (p2 : Int32) : entryFrame m #[(.int p1), (.int p2)] 3 = mkF m 0 #[iv p1, iv p2, .unset] [] := by first | (simp [entryFrame, mkF, argsToLocals, Value.category]; done) | rfl
def fLW (p1 : Int32) (p2 : Int32)  : Int32 := (if (((p2.toUInt32 >>> (p1 &&& 31).toUInt32).toInt32) &&& (1 : Int32)) = (0 : Int32) then (f6 p1 own_vs) else ((f6 p1 own_vs) - (32 : Int32)))
set_option maxRecDepth 65536 in
set_option maxHeartbeats 40000000 in
theorem rmLW (l : Launch) (Z : State) (a0 : Array Value) (hw : ∀ d ∈ tables_1, d.before a0 Z = true) (ws : List Jvm.Cond) (p1 : Int32) (p2 : Int32) (cz : Int32) (fm : Value) (aA bA aB bB : Addr) (kA kB : ClassId) (h0 : Heap) (n0 : Nat) (Z0 : n0 ≤ h0.size) (XO0 : Ext Z.heap h0) (Scs : Sta Z Z.heap "java/lang/String" "COMPACT_STRINGS" "Z" (.int cz)) (hcz : ¬ (cz = (0 : Int32))) (Sfm : Sta Z Z.heap "jdk/internal/util/Preconditions" "SIOOBE_FORMATTER" "Ljava/util/function/BiFunction;" fm) (hfm : fm.isRef = true) (EA : Exa Z h0 aA "java/lang/String") (CA : Fld Z h0 aA "java/lang/String" "coder" "B" (.int (0 : Int32))) (UA : Fld Z h0 aA "java/lang/String" "value" "[B" (.ref bA)) (VA : Arv Z h0 bA kA .byte (6 : Int32) (own_vs.map Value.int) (.int (0 : Int32))) (EB : Exa Z h0 aB "java/lang/String") (CB : Fld Z h0 aB "java/lang/String" "coder" "B" (.int (0 : Int32))) (UB : Fld Z h0 aB "java/lang/String" "value" "[B" (.ref bB)) (VB : Arv Z h0 bB kB .byte (6 : Int32) (own_vs.map Value.int) (.int (0 : Int32))) (hlo : ¬ (p1 < (0 : Int32))) (h6 : p1 < (6 : Int32)) :
    MetFree l (⟨"pithline/html/ScriptDataOpenTagLengthPinLaw", "letter", "(II)I"⟩ : MethodName) (head1 (Jvm.Cond.code (⟨"pithline/html/ScriptDataOpenTagLengthPinLaw", "letter", "(II)I"⟩ : MethodName) method_5_code 3 (some .int) :: ws) ({ frames := 4, cells := 0, slots := 0, locals := 53 } : Room)) (fun a U => a = #[(.int p1), (.int p2)] ∧ Z.Warmed39 U.vm ∧ U.heap = h0 ∧ LW Z aA aB U.vm) (fun _ _ _ _ _ => True) (fun _ U o U' => ∃ v L, o = .returned v ∧ QI (fLW p1 p2) h0 n0 v U'.heap L ∧ FrameEnd U o U' L ({ frames := 4, cells := 0, slots := 0, locals := 53 } : Room).cells ({ frames := 4, cells := 0, slots := 0, locals := 53 } : Room).slots) := by
  refine MetFree.of_bodySF (plainFor_of_name pn_5) hisR ?_
  intro p e s m args below meth c s₁ Bd hml0 hP hK
  obtain ⟨rfl, hZ, hh, hLW⟩ := hP
  have hx := Bd.exec
  have hby := Bd.bytes
  have hml : c.maxLocals = 3 := hml0
  have hown : s.vm.findClass "pithline/html/ScriptDataOpenTagLengthPinLaw" = some m.cls := findClass_of_methodNamed Bd.named
  have hnm := (name_of_methodNamed Bd.named Bd.method).1
  have X0 : Stand p l e ({ frames := 4, cells := 0, slots := 0, locals := 53 } : Room) s m #[(.int p1), (.int p2)] below meth c s₁ [] 0 0 := Stand.of_body Bd
  have e0 : s₁.heap = h0 := by rw [← hh, Bd.state]; rfl
  have N0 := Fr.nil n0
  obtain ⟨B, hB, pre0⟩ : ∃ B : State → Prop, (∀ t, B t → Steps p.tables e below (s₁.setTop (entryFrame m #[(.int p1), (.int p2)] 3)) t) ∧ ∀ t, SS p e below m s₁ 0 #[iv p1, iv p2, .unset] [] t → B t := ⟨_, fun _ q => q, fun t kk => castTop (ef_rmLW m p1 p2) kk⟩
  have pre1 : ∀ t, SS p e below m s₁ 0 #[iv p1, iv p2, .unset] [] t → B t := fun t kk => pre0 t (by
    show SS p e below m s₁ 0 #[iv p1, iv p2, .unset] [] _
    exact kk)
  have pre2 : ∀ t, SS p e below m s₁ 3 #[iv p1, iv p2, .unset] [(.int p1), (.ref aA)] t → B t := fun t kk => pre1 t (by
    refine ldcAgain (s := s) (vm0 := s.vm) X0 hx hZ hown (hw _ (List.mem_of_getElem? (i := 20) rfl)) hLW.1 (g := (mkF m 0 #[iv p1, iv p2, .unset] [])) rfl (hb hby d5_0) _ ?_
    refine XS.iloadN X0.here hx rfl (hb hby d5_2) rfl ?_
    exact kk)
  obtain ⟨cq3, kq3, q3a, q3b, q3c⟩ := isOf hZ e0 EA
  obtain ⟨_, _, ⟨T3, L3, k3, n3⟩, -, X3, ⟨Lc3, hQ3, l3, y3, z3⟩, st3⟩ := X0.virtualBack hx (y := (⟨"java/lang/String", "charAt", "(I)C"⟩ : MethodName)) (z := (⟨"java/lang/String", "charAt", "(I)C"⟩ : MethodName)) hown (mvT hZ (hw _ (List.mem_of_getElem? (i := 28) rfl))) (mvT hZ (hw _ (List.mem_of_getElem? (i := 29) rfl))) (notFace_of_selects (args := #[]) (mvT hZ (hw _ (List.mem_of_getElem? (i := 31) rfl)))) (mvT hZ (hw _ (List.mem_of_getElem? (i := 31) rfl))) (mvT hZ (hw _ (List.mem_of_getElem? (i := 30) rfl))) (by decide) (backOf (W := 0) (rm6 l Z a0 hw [] aA p1 cz fm bA kA (6 : Int32) own_vs h0 n0 Z0 (Scs.ext XO0) hcz (Sfm.ext XO0) hfm EA CA UA VA hlo h6) hZ (hw _ (List.mem_of_getElem? (i := 32) rfl)) (hw _ (List.mem_of_getElem? (i := 21) rfl)) (by decide) (by decide)) q3a q3c (g := (mkF m 3 #[iv p1, iv p2, .unset] [(.int p1), (.ref aA)])) rfl (by rw [hml]; rfl) (Steps.refl _) (argsL := [(.int p1)]) (rest := []) (lenOf pd_9 rfl) rfl (by show 2 * 0 + _ ≤ _; exact Nat.le_of_eq rfl) (hb hby d5_3) (fun _ _ => ⟨rfl, e0, (by decide : 0 + 0 ≤ _), (by decide : 0 + 0 ≤ _)⟩)
  dsimp only [Pt.U, Pt.locs, Pt.cells, Pt.slots] at X3 l3 y3 z3 st3 hQ3
  subst l3 y3 z3
  obtain ⟨rfl, N3q, e3⟩ := hQ3
  have N3 := Fr.app N0 N3q
  have pre4 : ∀ t, SS p e below m T3 12 #[iv p1, iv p2, iv (f6 p1 own_vs)] [(.int (((p2.toUInt32 >>> (p1 &&& 31).toUInt32).toInt32) &&& (1 : Int32)))] t → B t := fun t kk => pre2 t (by
    refine st3.trans ?_
    refine XS.istoreN X3.here hx rfl (hb hby d5_6) rfl (l' := #[iv p1, iv p2, iv (f6 p1 own_vs)]) rfl ?_
    refine XS.iloadN X3.here hx rfl (hb hby d5_7) rfl ?_
    show SS p e below m T3 8 #[iv p1, iv p2, iv (f6 p1 own_vs)] [(.int p2)] _
    refine XS.iloadN X3.here hx rfl (hb hby d5_8) rfl ?_
    refine XS.iushr X3.here hx rfl (hb hby d5_9) rfl ?_
    refine XS.iconst X3.here hx rfl (hb hby d5_10) ?_
    show SS p e below m T3 11 #[iv p1, iv p2, iv (f6 p1 own_vs)] [(.int (1 : Int32)), (.int ((p2.toUInt32 >>> (p1 &&& 31).toUInt32).toInt32))] _
    refine XS.iand X3.here hx rfl (hb hby d5_11) rfl ?_
    exact kk)
  by_cases hc5 : (((p2.toUInt32 >>> (p1 &&& 31).toUInt32).toInt32) &&& (1 : Int32)) = (0 : Int32)
  · have pre6 : ∀ t, SS p e below m T3 23 #[iv p1, iv p2, iv (f6 p1 own_vs)] [(.int (f6 p1 own_vs))] t → B t := fun t kk => pre4 t (by
      refine XS.ifYes X3.here hx rfl (pc0 := 12) (pc' := 22) rfl (hb hby d5_12) rfl ((if0 _ _).trans (teq hc5).1) (by decide) (by decide) ?_
      refine XS.iloadN X3.here hx rfl (hb hby d5_22) rfl ?_
      exact kk)
    obtain ⟨fs, hr, hrun, hended, hW, hsame⟩ := X3.leave (v := some (.int (f6 p1 own_vs))) (fun h => by rw [Bd.returns] at h; cases h)
    refine ⟨_, _, hB _ (pre6 _ ?_), hrun, hended, _, _, rfl, ?_, ⟨_, rfl⟩, hW, hsame.mono (by decide) (by decide)⟩
    · exact retI X3 hx Bd.returns (hb hby d5_23) hr
    · exact ⟨by show _ = some (Value.int (fLW p1 p2)); rw [fLW, if_pos hc5], N3, e3⟩
  · have pre7 : ∀ t, SS p e below m T3 23 #[iv p1, iv p2, iv (f6 p1 own_vs)] [(.int ((f6 p1 own_vs) - (32 : Int32)))] t → B t := fun t kk => pre4 t (by
      refine XS.ifNo X3.here hx rfl (hb hby d5_12) rfl ((if0 _ _).trans (feq hc5).1) ?_
      refine XS.iloadN X3.here hx rfl (hb hby d5_15) rfl ?_
      refine XS.bipush X3.here hx rfl (hb hby d5_16) ?_
      show SS p e below m T3 18 #[iv p1, iv p2, iv (f6 p1 own_vs)] [(.int (32 : Int32)), (.int (f6 p1 own_vs))] _
      refine XS.isub X3.here hx rfl (hb hby d5_18) rfl ?_
      refine XS.goto X3.here hx rfl (pc0 := 19) (pc' := 23) rfl (hb hby d5_19) (by decide) (by decide) ?_
      exact kk)
    obtain ⟨fs, hr, hrun, hended, hW, hsame⟩ := X3.leave (v := some (.int ((f6 p1 own_vs) - (32 : Int32)))) (fun h => by rw [Bd.returns] at h; cases h)
    refine ⟨_, _, hB _ (pre7 _ ?_), hrun, hended, _, _, rfl, ?_, ⟨_, rfl⟩, hW, hsame.mono (by decide) (by decide)⟩
    · exact retI X3 hx Bd.returns (hb hby d5_23) hr
    · exact ⟨by show _ = some (Value.int (fLW p1 p2)); rw [fLW, if_neg hc5], N3, e3⟩
theorem own_mono {a b c : Int32} (h : a < b) (n : ¬ a < c) : ¬ b < c := fun q => by
  rw [Int32.lt_iff_toInt_lt] at h n q; omega
def own_z0 (p1 : Int32) : Int32 := if p1 = (56 : Int32) then (64 : Int32) else (112 : Int32)
def own_z1 (p1 : Int32) : Int32 := if p1 = (56 : Int32) then (72 : Int32) else (120 : Int32)
def own_ztv (p1 p2 : Int32) : Int32 := if p2 = (0 : Int32) then own_z0 p1 else own_z1 p1
def own_bt (p1 p2 : Int32) : Int32 := if p2 = (0 : Int32) then (if p1 = (56 : Int32) then (80 : Int32) else (128 : Int32)) else own_z1 p1
theorem own_np0 {p1 : Int32} (h : p1 = (56 : Int32) ∨ p1 = (88 : Int32)) : (p1 = (56 : Int32) ∧ (60 : Int32) = (60 : Int32) ∧ own_z0 p1 = (64 : Int32)) ∨ (p1 = (88 : Int32) ∧ (60 : Int32) = (60 : Int32) ∧ own_z0 p1 = (112 : Int32)) ∨ (p1 = (64 : Int32) ∧ (60 : Int32) = (47 : Int32) ∧ own_z0 p1 = (72 : Int32)) ∨ (p1 = (112 : Int32) ∧ (60 : Int32) = (47 : Int32) ∧ own_z0 p1 = (120 : Int32)) := by
  rcases h with rfl | rfl <;> decide
theorem own_np1 {p1 : Int32} (h : p1 = (56 : Int32) ∨ p1 = (88 : Int32)) : (own_z0 p1 = (56 : Int32) ∧ (47 : Int32) = (60 : Int32) ∧ own_z1 p1 = (64 : Int32)) ∨ (own_z0 p1 = (88 : Int32) ∧ (47 : Int32) = (60 : Int32) ∧ own_z1 p1 = (112 : Int32)) ∨ (own_z0 p1 = (64 : Int32) ∧ (47 : Int32) = (47 : Int32) ∧ own_z1 p1 = (72 : Int32)) ∨ (own_z0 p1 = (112 : Int32) ∧ (47 : Int32) = (47 : Int32) ∧ own_z1 p1 = (120 : Int32)) := by
  rcases h with rfl | rfl <;> decide
theorem own_zt {p1 p2 zt bt : Int32} (h : p1 = (56 : Int32) ∨ p1 = (88 : Int32)) (hs : p2 = (0 : Int32) ∨ p2 = (1 : Int32)) (g1 : zt = if p2 = (0 : Int32) then own_z0 p1 else own_z1 p1) (g2 : bt = own_bt p1 p2) :
    (zt - (zt % (8 : Int32))) = zt ∧ (zt % (8 : Int32)) = (0 : Int32) ∧ ((zt = (64 : Int32) ∧ zt = (64 : Int32)) ∨ (zt = (112 : Int32) ∧ zt = (112 : Int32)) ∨ zt = (72 : Int32) ∨ zt = (80 : Int32) ∨ zt = (120 : Int32) ∨ zt = (128 : Int32)) ∧
    (bt = (72 : Int32) ∨ bt = (80 : Int32) ∨ bt = (120 : Int32) ∨ bt = (128 : Int32)) ∧ ((zt = (64 : Int32) ∧ bt = (80 : Int32)) ∨ (zt = (72 : Int32) ∧ bt = (72 : Int32)) ∨ (zt = (112 : Int32) ∧ bt = (128 : Int32)) ∨ (zt = (120 : Int32) ∧ bt = (120 : Int32))) := by
  subst g1 g2
  rcases h with rfl | rfl <;> rcases hs with rfl | rfl <;> decide
theorem own_bj1 {bt : Int32} (h : bt = (72 : Int32) ∨ bt = (80 : Int32) ∨ bt = (120 : Int32) ∨ bt = (128 : Int32)) : ((bt + (1 : Int32)) - ((bt + (1 : Int32)) % (8 : Int32))) = bt ∧ ((bt + (1 : Int32)) % (8 : Int32)) = (1 : Int32) := by rcases h with rfl | rfl | rfl | rfl <;> decide
theorem own_LW1 (x : Int32) : fLW (1 : Int32) x = (99 : Int32) ∨ fLW (1 : Int32) x = (67 : Int32) := by
  unfold fLW
  split
  · exact Or.inl (by decide +kernel)
  · exact Or.inr (by decide +kernel)
theorem own_nxW1 {bt : Int32} (x : Int32) (h : bt = (72 : Int32) ∨ bt = (80 : Int32) ∨ bt = (120 : Int32) ∨ bt = (128 : Int32)) : fNgW (bt + (1 : Int32)) (fLW (1 : Int32) x) (1 : Int32) bt = bt + (2 : Int32) := by
  rcases own_LW1 x with e | e <;> rw [e] <;> rcases h with rfl | rfl | rfl | rfl <;> decide +kernel
theorem own_bj2 {bt : Int32} (h : bt = (72 : Int32) ∨ bt = (80 : Int32) ∨ bt = (120 : Int32) ∨ bt = (128 : Int32)) : ((bt + (2 : Int32)) - ((bt + (2 : Int32)) % (8 : Int32))) = bt ∧ ((bt + (2 : Int32)) % (8 : Int32)) = (2 : Int32) := by rcases h with rfl | rfl | rfl | rfl <;> decide
theorem own_LW2 (x : Int32) : fLW (2 : Int32) x = (114 : Int32) ∨ fLW (2 : Int32) x = (82 : Int32) := by
  unfold fLW
  split
  · exact Or.inl (by decide +kernel)
  · exact Or.inr (by decide +kernel)
theorem own_nxW2 {bt : Int32} (x : Int32) (h : bt = (72 : Int32) ∨ bt = (80 : Int32) ∨ bt = (120 : Int32) ∨ bt = (128 : Int32)) : fNgW (bt + (2 : Int32)) (fLW (2 : Int32) x) (2 : Int32) bt = bt + (3 : Int32) := by
  rcases own_LW2 x with e | e <;> rw [e] <;> rcases h with rfl | rfl | rfl | rfl <;> decide +kernel
theorem own_bj3 {bt : Int32} (h : bt = (72 : Int32) ∨ bt = (80 : Int32) ∨ bt = (120 : Int32) ∨ bt = (128 : Int32)) : ((bt + (3 : Int32)) - ((bt + (3 : Int32)) % (8 : Int32))) = bt ∧ ((bt + (3 : Int32)) % (8 : Int32)) = (3 : Int32) := by rcases h with rfl | rfl | rfl | rfl <;> decide
theorem own_LW3 (x : Int32) : fLW (3 : Int32) x = (105 : Int32) ∨ fLW (3 : Int32) x = (73 : Int32) := by
  unfold fLW
  split
  · exact Or.inl (by decide +kernel)
  · exact Or.inr (by decide +kernel)
theorem own_nxW3 {bt : Int32} (x : Int32) (h : bt = (72 : Int32) ∨ bt = (80 : Int32) ∨ bt = (120 : Int32) ∨ bt = (128 : Int32)) : fNgW (bt + (3 : Int32)) (fLW (3 : Int32) x) (3 : Int32) bt = bt + (4 : Int32) := by
  rcases own_LW3 x with e | e <;> rw [e] <;> rcases h with rfl | rfl | rfl | rfl <;> decide +kernel
theorem own_bj4 {bt : Int32} (h : bt = (72 : Int32) ∨ bt = (80 : Int32) ∨ bt = (120 : Int32) ∨ bt = (128 : Int32)) : ((bt + (4 : Int32)) - ((bt + (4 : Int32)) % (8 : Int32))) = bt ∧ ((bt + (4 : Int32)) % (8 : Int32)) = (4 : Int32) := by rcases h with rfl | rfl | rfl | rfl <;> decide
theorem own_LW4 (x : Int32) : fLW (4 : Int32) x = (112 : Int32) ∨ fLW (4 : Int32) x = (80 : Int32) := by
  unfold fLW
  split
  · exact Or.inl (by decide +kernel)
  · exact Or.inr (by decide +kernel)
theorem own_nxW4 {bt : Int32} (x : Int32) (h : bt = (72 : Int32) ∨ bt = (80 : Int32) ∨ bt = (120 : Int32) ∨ bt = (128 : Int32)) : fNgW (bt + (4 : Int32)) (fLW (4 : Int32) x) (4 : Int32) bt = bt + (5 : Int32) := by
  rcases own_LW4 x with e | e <;> rw [e] <;> rcases h with rfl | rfl | rfl | rfl <;> decide +kernel
theorem own_bj5 {bt : Int32} (h : bt = (72 : Int32) ∨ bt = (80 : Int32) ∨ bt = (120 : Int32) ∨ bt = (128 : Int32)) : ((bt + (5 : Int32)) - ((bt + (5 : Int32)) % (8 : Int32))) = bt ∧ ((bt + (5 : Int32)) % (8 : Int32)) = (5 : Int32) := by rcases h with rfl | rfl | rfl | rfl <;> decide
theorem own_LW5 (x : Int32) : fLW (5 : Int32) x = (116 : Int32) ∨ fLW (5 : Int32) x = (84 : Int32) := by
  unfold fLW
  split
  · exact Or.inl (by decide +kernel)
  · exact Or.inr (by decide +kernel)
theorem own_nxW5 {bt : Int32} (x : Int32) (h : bt = (72 : Int32) ∨ bt = (80 : Int32) ∨ bt = (120 : Int32) ∨ bt = (128 : Int32)) : fNgW (bt + (5 : Int32)) (fLW (5 : Int32) x) (5 : Int32) bt = bt + (6 : Int32) := by
  rcases own_LW5 x with e | e <;> rw [e] <;> rcases h with rfl | rfl | rfl | rfl <;> decide +kernel
theorem own_L0 (x : Int32) : fL0C x = (115 : Int32) ∨ fL0C x = (83 : Int32) := by
  unfold fL0C
  split
  · exact Or.inl (by decide +kernel)
  · exact Or.inr (by decide +kernel)
theorem own_not47 (x : Int32) : ¬ (fL0C x = (47 : Int32)) := by
  rcases own_L0 x with h | h <;> rw [h] <;> decide
theorem own_nx0C {zt bt : Int32} (x : Int32) (h : (zt = (64 : Int32) ∧ bt = (80 : Int32)) ∨ (zt = (72 : Int32) ∧ bt = (72 : Int32)) ∨ (zt = (112 : Int32) ∧ bt = (128 : Int32)) ∨ (zt = (120 : Int32) ∧ bt = (120 : Int32))) : fNgC zt (fL0C x) (0 : Int32) zt = bt + (1 : Int32) := by
  rcases own_L0 x with e | e <;> rw [e] <;> rcases h with ⟨rfl, rfl⟩ | ⟨rfl, rfl⟩ | ⟨rfl, rfl⟩ | ⟨rfl, rfl⟩ <;> decide +kernel

theorem rmNp (l : Launch) (Z : State) (a0 : Array Value) (hw : ∀ d ∈ tables_1, d.before a0 Z = true) (ws : List Jvm.Cond) (p1 p2 z : Int32) (h0 : Heap) (n0 : Nat) (Z0 : n0 ≤ h0.size) (hz : (p1 = (56 : Int32) ∧ p2 = (60 : Int32) ∧ z = (64 : Int32)) ∨ (p1 = (88 : Int32) ∧ p2 = (60 : Int32) ∧ z = (112 : Int32)) ∨ (p1 = (64 : Int32) ∧ p2 = (47 : Int32) ∧ z = (72 : Int32)) ∨ (p1 = (112 : Int32) ∧ p2 = (47 : Int32) ∧ z = (120 : Int32))) :
    MetFree l (⟨"pithline/html/ScriptData", "next", "(II)I"⟩ : MethodName) (head1 (Jvm.Cond.code (⟨"pithline/html/ScriptData", "next", "(II)I"⟩ : MethodName) prog_41_method_2_code 5 (some .int) :: ws) ({ frames := 1, cells := 0, slots := 0, locals := 14 } : Room)) (fun a U => a = #[(.int p1), (.int p2)] ∧ Z.Warmed39 U.vm ∧ U.heap = h0) (fun _ _ _ _ _ => True) (fun _ U o U' => ∃ v L, o = .returned v ∧ QI z h0 n0 v U'.heap L ∧ FrameEnd U o U' L ({ frames := 1, cells := 0, slots := 0, locals := 14 } : Room).cells ({ frames := 1, cells := 0, slots := 0, locals := 14 } : Room).slots) := by
  rcases hz with ⟨rfl, rfl, rfl⟩ | ⟨rfl, rfl, rfl⟩ | ⟨rfl, rfl, rfl⟩ | ⟨rfl, rfl, rfl⟩
  · exact rmN56 l Z a0 hw ws (60 : Int32) h0 n0 Z0
  · exact rmN88 l Z a0 hw ws (60 : Int32) h0 n0 Z0
  · exact rmN64x l Z a0 hw ws h0 n0 Z0
  · exact rmN112x l Z a0 hw ws h0 n0 Z0
theorem d3_0 : decode method_6_code 0 = .ok (.iload_n 0, 1) := by decide +kernel
theorem d3_1 : decode method_6_code 1 = .ok (.bipush 60, 2) := by decide +kernel
theorem d3_3 : decode method_6_code 3 = .ok (.invokestatic 11, 3) := by decide +kernel
theorem d3_6 : decode method_6_code 6 = .ok (.istore 4, 2) := by decide +kernel
theorem d3_8 : decode method_6_code 8 = .ok (.iload_n 1, 1) := by decide +kernel
theorem d3_9 : decode method_6_code 9 = .ok (.ifCond .eq 12, 3) := by decide +kernel
theorem d3_12 : decode method_6_code 12 = .ok (.iload 4, 2) := by decide +kernel
theorem d3_14 : decode method_6_code 14 = .ok (.bipush 47, 2) := by decide +kernel
theorem d3_16 : decode method_6_code 16 = .ok (.invokestatic 11, 3) := by decide +kernel
theorem d3_19 : decode method_6_code 19 = .ok (.istore 4, 2) := by decide +kernel
theorem d3_21 : decode method_6_code 21 = .ok (.iload_n 2, 1) := by decide +kernel
theorem d3_22 : decode method_6_code 22 = .ok (.ifCond .le 15, 3) := by decide +kernel
theorem d3_25 : decode method_6_code 25 = .ok (.iload 4, 2) := by decide +kernel
theorem d3_27 : decode method_6_code 27 = .ok (.iconst 0, 1) := by decide +kernel
theorem d3_28 : decode method_6_code 28 = .ok (.iload_n 3, 1) := by decide +kernel
theorem d3_29 : decode method_6_code 29 = .ok (.invokestatic 41, 3) := by decide +kernel
theorem d3_32 : decode method_6_code 32 = .ok (.invokestatic 11, 3) := by decide +kernel
theorem d3_35 : decode method_6_code 35 = .ok (.istore 4, 2) := by decide +kernel
theorem d3_37 : decode method_6_code 37 = .ok (.iload_n 2, 1) := by decide +kernel
theorem d3_38 : decode method_6_code 38 = .ok (.iconst 1, 1) := by decide +kernel
theorem d3_39 : decode method_6_code 39 = .ok (.if_icmp .le 15, 3) := by decide +kernel
theorem d3_42 : decode method_6_code 42 = .ok (.iload 4, 2) := by decide +kernel
theorem d3_44 : decode method_6_code 44 = .ok (.iconst 1, 1) := by decide +kernel
theorem d3_45 : decode method_6_code 45 = .ok (.iload_n 3, 1) := by decide +kernel
theorem d3_46 : decode method_6_code 46 = .ok (.invokestatic 41, 3) := by decide +kernel
theorem d3_49 : decode method_6_code 49 = .ok (.invokestatic 11, 3) := by decide +kernel
theorem d3_52 : decode method_6_code 52 = .ok (.istore 4, 2) := by decide +kernel
theorem d3_54 : decode method_6_code 54 = .ok (.iload_n 2, 1) := by decide +kernel
theorem d3_55 : decode method_6_code 55 = .ok (.iconst 2, 1) := by decide +kernel
theorem d3_56 : decode method_6_code 56 = .ok (.if_icmp .le 15, 3) := by decide +kernel
theorem d3_59 : decode method_6_code 59 = .ok (.iload 4, 2) := by decide +kernel
theorem d3_61 : decode method_6_code 61 = .ok (.iconst 2, 1) := by decide +kernel
theorem d3_62 : decode method_6_code 62 = .ok (.iload_n 3, 1) := by decide +kernel
theorem d3_63 : decode method_6_code 63 = .ok (.invokestatic 41, 3) := by decide +kernel
theorem d3_66 : decode method_6_code 66 = .ok (.invokestatic 11, 3) := by decide +kernel
theorem d3_69 : decode method_6_code 69 = .ok (.istore 4, 2) := by decide +kernel
theorem d3_71 : decode method_6_code 71 = .ok (.iload_n 2, 1) := by decide +kernel
theorem d3_72 : decode method_6_code 72 = .ok (.iconst 3, 1) := by decide +kernel
theorem d3_73 : decode method_6_code 73 = .ok (.if_icmp .le 15, 3) := by decide +kernel
theorem d3_76 : decode method_6_code 76 = .ok (.iload 4, 2) := by decide +kernel
theorem d3_78 : decode method_6_code 78 = .ok (.iconst 3, 1) := by decide +kernel
theorem d3_79 : decode method_6_code 79 = .ok (.iload_n 3, 1) := by decide +kernel
theorem d3_80 : decode method_6_code 80 = .ok (.invokestatic 41, 3) := by decide +kernel
theorem d3_83 : decode method_6_code 83 = .ok (.invokestatic 11, 3) := by decide +kernel
theorem d3_86 : decode method_6_code 86 = .ok (.istore 4, 2) := by decide +kernel
theorem d3_88 : decode method_6_code 88 = .ok (.iload_n 2, 1) := by decide +kernel
theorem d3_89 : decode method_6_code 89 = .ok (.iconst 4, 1) := by decide +kernel
theorem d3_90 : decode method_6_code 90 = .ok (.if_icmp .le 15, 3) := by decide +kernel
theorem d3_93 : decode method_6_code 93 = .ok (.iload 4, 2) := by decide +kernel
theorem d3_95 : decode method_6_code 95 = .ok (.iconst 4, 1) := by decide +kernel
theorem d3_96 : decode method_6_code 96 = .ok (.iload_n 3, 1) := by decide +kernel
theorem d3_97 : decode method_6_code 97 = .ok (.invokestatic 41, 3) := by decide +kernel
theorem d3_100 : decode method_6_code 100 = .ok (.invokestatic 11, 3) := by decide +kernel
theorem d3_103 : decode method_6_code 103 = .ok (.istore 4, 2) := by decide +kernel
theorem d3_105 : decode method_6_code 105 = .ok (.iload_n 2, 1) := by decide +kernel
theorem d3_106 : decode method_6_code 106 = .ok (.iconst 5, 1) := by decide +kernel
theorem d3_107 : decode method_6_code 107 = .ok (.if_icmp .le 15, 3) := by decide +kernel
theorem d3_110 : decode method_6_code 110 = .ok (.iload 4, 2) := by decide +kernel
theorem d3_112 : decode method_6_code 112 = .ok (.iconst 5, 1) := by decide +kernel
theorem d3_113 : decode method_6_code 113 = .ok (.iload_n 3, 1) := by decide +kernel
theorem d3_114 : decode method_6_code 114 = .ok (.invokestatic 41, 3) := by decide +kernel
theorem d3_117 : decode method_6_code 117 = .ok (.invokestatic 11, 3) := by decide +kernel
theorem d3_120 : decode method_6_code 120 = .ok (.istore 4, 2) := by decide +kernel
theorem d3_122 : decode method_6_code 122 = .ok (.iload 4, 2) := by decide +kernel
theorem d3_124 : decode method_6_code 124 = .ok (.ireturn, 1) := by decide +kernel
theorem pn_3 : plainName "pithline/html/ScriptDataOpenTagLengthPinLaw" = true := by first | (simp [plainName, overriddenIn]; done) | decide +kernel
theorem ef_rmT (m : MethodId) (p1 : Int32) (p2 : Int32) (p3 : Int32) (p4 : Int32) : entryFrame m #[(.int p1), (.int p2), (.int p3), (.int p4)] 5 = mkF m 0 #[iv p1, iv p2, iv p3, iv p4, .unset] [] := by first | (simp [entryFrame, mkF, argsToLocals, Value.category]; done) | rfl
def fT (p1 : Int32) (p2 : Int32) (p3 : Int32) (p4 : Int32)  : Int32 := (if (0 : Int32) < p3 then (if (1 : Int32) < p3 then (if (2 : Int32) < p3 then (if (3 : Int32) < p3 then (if (4 : Int32) < p3 then (if (5 : Int32) < p3 then ((own_bt p1 p2) + (6 : Int32)) else ((own_bt p1 p2) + (5 : Int32))) else ((own_bt p1 p2) + (4 : Int32))) else ((own_bt p1 p2) + (3 : Int32))) else ((own_bt p1 p2) + (2 : Int32))) else ((own_bt p1 p2) + (1 : Int32))) else (own_ztv p1 p2))
set_option maxRecDepth 65536 in
set_option maxHeartbeats 40000000 in
theorem rmT (l : Launch) (Z : State) (a0 : Array Value) (hw : ∀ d ∈ tables_1, d.before a0 Z = true) (ws : List Jvm.Cond) (p1 : Int32) (p2 : Int32) (p3 : Int32) (p4 : Int32) (cz : Int32) (fm : Value) (h0 : Heap) (n0 : Nat) (Z0 : n0 ≤ h0.size) (hEL : EW Z a0 consts_1) (XO0 : Ext Z.heap h0) (Scs : Sta Z Z.heap "java/lang/String" "COMPACT_STRINGS" "Z" (.int cz)) (hcz : ¬ (cz = (0 : Int32))) (Sfm : Sta Z Z.heap "jdk/internal/util/Preconditions" "SIOOBE_FORMATTER" "Ljava/util/function/BiFunction;" fm) (hfm : fm.isRef = true) (hp1 : p1 = (56 : Int32) ∨ p1 = (88 : Int32)) (hsl : p2 = (0 : Int32) ∨ p2 = (1 : Int32)) :
    MetFree l (⟨"pithline/html/ScriptDataOpenTagLengthPinLaw", "tag", "(IZII)I"⟩ : MethodName) (head1 (Jvm.Cond.code (⟨"pithline/html/ScriptDataOpenTagLengthPinLaw", "tag", "(IZII)I"⟩ : MethodName) method_6_code 5 (some .int) :: ws) ({ frames := 7, cells := 4, slots := 56, locals := 100 } : Room)) (fun a U => a = #[(.int p1), (.int p2), (.int p3), (.int p4)] ∧ Z.Warmed39 U.vm ∧ U.heap = h0 ∧ CHv Z consts_1 U.vm h0) (fun _ _ _ _ _ => True) (fun _ U o U' => ∃ v L, o = .returned v ∧ QIS (fT p1 p2 p3 p4) h0 n0 v U'.heap L ∧ CHr Z consts_1 U.vm U.heap U'.vm U'.heap ∧ ReturnedEndW U o U' L ({ frames := 7, cells := 4, slots := 56, locals := 100 } : Room).cells ({ frames := 7, cells := 4, slots := 56, locals := 100 } : Room).slots) := by
  refine MetFree.of_bodySF (plainFor_of_name pn_3) hisR ?_
  intro p e s m args below meth c s₁ Bd hml0 hP hK
  obtain ⟨rfl, hZ, hh, hCH⟩ := hP
  have hx := Bd.exec
  have hby := Bd.bytes
  have hml : c.maxLocals = 5 := hml0
  have hown : (s.setVm s.vm).vm.findClass "pithline/html/ScriptDataOpenTagLengthPinLaw" = some m.cls := findClass_of_methodNamed Bd.named
  replace hZ : Z.Warmed39 (s.setVm s.vm).vm := hZ
  have X0 : Stand p l e ({ frames := 7, cells := 4, slots := 56, locals := 100 } : Room) (s.setVm s.vm) m #[(.int p1), (.int p2), (.int p3), (.int p4)] below meth c s₁ [] 0 0 := Stand.of_body Bd
  have e0 : s₁.heap = h0 := by rw [← hh, Bd.state]; rfl
  have N0 := Fr.nil n0
  have hS0 : s.Since s.vm h0.size := (State.WarmedH.refl s).since _
  have hk0 : h0.size ≤ h0.size := Nat.le_refl _
  have C0 : CHr Z consts_1 s.vm h0 s.vm h0 := CHr.refl hCH
  have EX0 : Ext h0 h0 := ⟨Nat.le_refl _, fun _ _ q => q⟩
  obtain ⟨B, hB, pre0⟩ : ∃ B : State → Prop, (∀ t, B t → Steps p.tables e below (s₁.setTop (entryFrame m #[(.int p1), (.int p2), (.int p3), (.int p4)] 5)) t) ∧ ∀ t, SS p e below m s₁ 0 #[iv p1, iv p2, iv p3, iv p4, .unset] [] t → B t := ⟨_, fun _ q => q, fun t kk => castTop (ef_rmT m p1 p2 p3 p4) kk⟩
  have pre1 : ∀ t, SS p e below m s₁ 3 #[iv p1, iv p2, iv p3, iv p4, .unset] [(.int (60 : Int32)), (.int p1)] t → B t := fun t kk => pre0 t (by
    show SS p e below m s₁ 0 #[iv p1, iv p2, iv p3, iv p4, .unset] [] _
    refine XS.iloadN X0.here hx rfl (hb hby d3_0) rfl ?_
    refine XS.bipush X0.here hx rfl (hb hby d3_1) ?_
    exact kk)
  obtain ⟨_, _, ⟨T2, L2, k2, n2⟩, -, X2, ⟨Lc2, hQ2, l2, y2, z2⟩, st2⟩ := Jvm.LawKit.callS X0 hx (y := (⟨"pithline/html/ScriptData", "next", "(II)I"⟩ : MethodName)) hown (mvT hZ (hw _ (List.mem_of_getElem? (i := 3) rfl))) (mvT hZ (hw _ (List.mem_of_getElem? (i := 4) rfl))) (mvT hZ (hw _ (List.mem_of_getElem? (i := 5) rfl))) (mvT hZ (hw _ (List.mem_of_getElem? (i := 6) rfl))) (by decide) (backOf (W := 0) (rmNp l Z a0 hw [] p1 (60 : Int32) (own_z0 p1) h0 n0 Z0 (own_np0 hp1)) hZ (hw _ (List.mem_of_getElem? (i := 6) rfl)) (hw _ (List.mem_of_getElem? (i := 5) rfl)) (by decide) (by decide)) (g := (mkF m 3 #[iv p1, iv p2, iv p3, iv p4, .unset] [(.int (60 : Int32)), (.int p1)])) rfl (by rw [hml]; rfl) (argsL := [(.int p1), (.int (60 : Int32))]) (rest := []) (lenOf pd_6 rfl) rfl (by show 2 * 0 + _ ≤ _; exact Nat.le_of_eq rfl) (hb hby d3_3) (fun _ _ => ⟨rfl, e0, (by decide : 0 + 0 ≤ _), (by decide : 0 + 0 ≤ _)⟩)
  dsimp only [Pt.U, Pt.locs, Pt.cells, Pt.slots] at X2 l2 y2 z2 st2 hQ2
  subst l2 y2 z2
  obtain ⟨rfl, N2q, e2⟩ := hQ2
  have N2 := Fr.app N0 N2q
  have pre3 : ∀ t, SS p e below m T2 9 #[iv p1, iv p2, iv p3, iv p4, iv (own_z0 p1)] [(.int p2)] t → B t := fun t kk => pre1 t (by
    refine st2 _ ?_
    refine XS.istore X2.here hx rfl (hb hby d3_6) rfl (l' := #[iv p1, iv p2, iv p3, iv p4, iv (own_z0 p1)]) rfl ?_
    refine XS.iloadN X2.here hx rfl (hb hby d3_8) rfl ?_
    show SS p e below m T2 9 #[iv p1, iv p2, iv p3, iv p4, iv (own_z0 p1)] [(.int p2)] _
    exact kk)
  obtain ⟨zt, g_zt⟩ : ∃ z : Int32, z = if p2 = (0 : Int32) then (own_z0 p1) else (own_z1 p1) := ⟨_, rfl⟩
  obtain ⟨T9, vm9, L9, X9, N9, Z9, hZ9, hown9, ⟨k9, hS9, hk9⟩, C9, XO9, EX9, pre9⟩ : ∃ (T : State) (vm : Vm) (locs : List Loc), Stand p l e ({ frames := 7, cells := 4, slots := 56, locals := 100 } : Room) (s.setVm vm) m #[(.int p1), (.int p2), (.int p3), (.int p4)] below meth c T locs 0 0 ∧ Fr n0 locs ∧ n0 ≤ T.heap.size ∧ Z.Warmed39 (s.setVm vm).vm ∧ (s.setVm vm).vm.findClass "pithline/html/ScriptDataOpenTagLengthPinLaw" = some m.cls ∧ (∃ k0, s.Since vm k0 ∧ k0 ≤ T.heap.size) ∧ CHr Z consts_1 s.vm h0 vm T.heap ∧ Ext Z.heap T.heap ∧ Ext h0 T.heap ∧ (∀ t, SS p e below m T 21 #[iv p1, iv p2, iv p3, iv p4, iv zt] [] t → B t) := by
    by_cases hc4 : p2 = (0 : Int32)
    · have pre5 : ∀ t, SS p e below m T2 21 #[iv p1, iv p2, iv p3, iv p4, iv (own_z0 p1)] [] t → B t := fun t kk => pre3 t (by
        refine XS.ifYes X2.here hx rfl (pc0 := 9) (pc' := 21) rfl (hb hby d3_9) rfl ((if0 _ _).trans (teq hc4).1) (by decide) (by decide) ?_
        exact kk)
      refine ⟨T2, s.vm, _, X2.more (by decide) (by decide), N2, (by rw [e2]; exact Z0), hZ, hown, ⟨_, hS0, (by rw [e2]; exact hk0)⟩, (by rw [e2]; exact C0), (by rw [e2]; exact XO0), (by rw [e2]; exact EX0), fun t kk => ?_⟩
      rw [g_zt, if_pos hc4] at kk
      exact pre5 t kk
    · have pre6 : ∀ t, SS p e below m T2 16 #[iv p1, iv p2, iv p3, iv p4, iv (own_z0 p1)] [(.int (47 : Int32)), (.int (own_z0 p1))] t → B t := fun t kk => pre3 t (by
        refine XS.ifNo X2.here hx rfl (hb hby d3_9) rfl ((if0 _ _).trans (feq hc4).1) ?_
        refine XS.iload X2.here hx rfl (hb hby d3_12) rfl ?_
        refine XS.bipush X2.here hx rfl (hb hby d3_14) ?_
        show SS p e below m T2 16 #[iv p1, iv p2, iv p3, iv p4, iv (own_z0 p1)] [(.int (47 : Int32)), (.int (own_z0 p1))] _
        exact kk)
      obtain ⟨_, _, ⟨T7, L7, k7, n7⟩, -, X7, ⟨Lc7, hQ7, l7, y7, z7⟩, st7⟩ := Jvm.LawKit.callS X2 hx (y := (⟨"pithline/html/ScriptData", "next", "(II)I"⟩ : MethodName)) hown (mvT hZ (hw _ (List.mem_of_getElem? (i := 3) rfl))) (mvT hZ (hw _ (List.mem_of_getElem? (i := 4) rfl))) (mvT hZ (hw _ (List.mem_of_getElem? (i := 5) rfl))) (mvT hZ (hw _ (List.mem_of_getElem? (i := 6) rfl))) (by decide) (backOf (W := 0) (rmNp l Z a0 hw [] (own_z0 p1) (47 : Int32) (own_z1 p1) h0 n0 Z0 (own_np1 hp1)) hZ (hw _ (List.mem_of_getElem? (i := 6) rfl)) (hw _ (List.mem_of_getElem? (i := 5) rfl)) (by decide) (by decide)) (g := (mkF m 16 #[iv p1, iv p2, iv p3, iv p4, iv (own_z0 p1)] [(.int (47 : Int32)), (.int (own_z0 p1))])) rfl (by rw [hml]; rfl) (argsL := [(.int (own_z0 p1)), (.int (47 : Int32))]) (rest := []) (lenOf pd_6 rfl) rfl (by show 2 * 0 + _ ≤ _; exact Nat.le_of_eq rfl) (hb hby d3_16) (fun _ _ => ⟨rfl, e2, (by decide : 0 + 0 ≤ _), (by decide : 0 + 0 ≤ _)⟩)
      dsimp only [Pt.U, Pt.locs, Pt.cells, Pt.slots] at X7 l7 y7 z7 st7 hQ7
      subst l7 y7 z7
      obtain ⟨rfl, N7q, e7⟩ := hQ7
      have N7 := Fr.app N2 N7q
      have pre8 : ∀ t, SS p e below m T7 21 #[iv p1, iv p2, iv p3, iv p4, iv (own_z1 p1)] [] t → B t := fun t kk => pre6 t (by
        refine st7 _ ?_
        refine XS.istore X7.here hx rfl (hb hby d3_19) rfl (l' := #[iv p1, iv p2, iv p3, iv p4, iv (own_z1 p1)]) rfl ?_
        exact kk)
      refine ⟨T7, s.vm, _, X7.more (by decide) (by decide), N7, (by rw [e7]; exact Z0), hZ, hown, ⟨_, hS0, (by rw [e7]; exact hk0)⟩, (by rw [e7]; exact C0), (by rw [e7]; exact XO0), (by rw [e7]; exact EX0), fun t kk => ?_⟩
      rw [g_zt, if_neg hc4] at kk
      exact pre8 t kk
  replace hZ := hZ9
  replace hown := hown9
  obtain ⟨bt, g_bt⟩ : ∃ z : Int32, z = own_bt p1 p2 := ⟨_, rfl⟩
  obtain ⟨hz1, hz2, hz3, hBb, hzb⟩ := own_zt hp1 hsl g_zt g_bt
  have pre10 : ∀ t, SS p e below m T9 22 #[iv p1, iv p2, iv p3, iv p4, iv zt] [(.int p3)] t → B t := fun t kk => pre9 t (by
    refine XS.iloadN X9.here hx rfl (hb hby d3_21) rfl ?_
    exact kk)
  by_cases hc11 : (0 : Int32) < p3
  · have pre12 : ∀ t, SS p e below m T9 29 #[iv p1, iv p2, iv p3, iv p4, iv zt] [(.int p4), (.int (0 : Int32)), (.int zt)] t → B t := fun t kk => pre10 t (by
      refine XS.ifNo X9.here hx rfl (hb hby d3_22) rfl ((if0 _ _).trans (tlt hc11).2.2.2) ?_
      refine XS.iload X9.here hx rfl (hb hby d3_25) rfl ?_
      refine XS.iconst X9.here hx rfl (hb hby d3_27) ?_
      show SS p e below m T9 28 #[iv p1, iv p2, iv p3, iv p4, iv zt] [(.int (0 : Int32)), (.int zt)] _
      refine XS.iloadN X9.here hx rfl (hb hby d3_28) rfl ?_
      exact kk)
    obtain ⟨_, _, ⟨T13, L13, k13, n13⟩, -, X13, hS13, hg13, ⟨Lc13, hQ13, l13, y13, z13, hC13⟩, st13⟩ := callSS X9 hx (y := (⟨"pithline/html/ScriptDataOpenTagLengthPinLaw", "letter", "(II)I"⟩ : MethodName)) hown (mvT hZ (hw _ (List.mem_of_getElem? (i := 17) rfl))) (mvT hZ (hw _ (List.mem_of_getElem? (i := 18) rfl))) (mvT hZ (hw _ (List.mem_of_getElem? (i := 12) rfl))) (mvT hZ (hw _ (List.mem_of_getElem? (i := 19) rfl))) (by decide) (own_backS (s := s) (vm0 := vm9) (EL := consts_1) (W := 1) (rmL0C l Z a0 hw [] p4 cz fm T9.heap n0 Z9 hEL XO9 Scs hcz Sfm hfm) hZ (hw _ (List.mem_of_getElem? (i := 19) rfl)) (hw _ (List.mem_of_getElem? (i := 12) rfl)) (by decide) (by decide) hEL C9.1) (g := (mkF m 29 #[iv p1, iv p2, iv p3, iv p4, iv zt] [(.int p4), (.int (0 : Int32)), (.int zt)])) rfl (by rw [hml]; rfl) (argsL := [(.int (0 : Int32)), (.int p4)]) (rest := [(.int zt)]) (lenOf pd_6 rfl) rfl (by show 2 * 0 + _ ≤ _; exact Nat.le_of_eq rfl) (hb hby d3_29) (fun _ _ => ⟨rfl, rfl, (by decide : 0 + 2 ≤ _), (by decide : 0 + 28 ≤ _)⟩)
    dsimp only [Pt.U, Pt.locs, Pt.cells, Pt.slots] at X13 l13 y13 z13 st13 hQ13 hS13 hg13 hC13
    subst l13 y13 z13
    obtain ⟨rfl, N13q, E13, hV13⟩ := hQ13
    replace hZ : Z.Warmed39 (s.setVm T13.vm).vm := State.Warmed39.trans (t := s.setVm vm9) hZ hS13.1
    replace hown : (s.setVm T13.vm).vm.findClass "pithline/html/ScriptDataOpenTagLengthPinLaw" = some m.cls := by rw [show (s.setVm T13.vm).vm = T13.vm from rfl, hS13.1.alike.findClass]; exact hown
    have hs13 : s.Since T13.vm T13.heap.size := hS9.trans hS13 (Nat.le_trans hk9 hg13)
    have hk13 : T13.heap.size ≤ T13.heap.size := Nat.le_refl _
    have C13 := C9.trans hC13
    have N13 := Fr.app N9 N13q
    have Z13 : n0 ≤ T13.heap.size := Nat.le_trans Z9 E13.1
    have XO13 : Ext Z.heap T13.heap := own_ext XO9 E13
    have EX13 : Ext h0 T13.heap := own_ext EX9 E13
    obtain ⟨a13, b13, kb13, hLt13, Ex13, Fc13, Fv13, Va13⟩ := hV13
    have pre14 : ∀ t, SS p e below m T13 32 #[iv p1, iv p2, iv p3, iv p4, iv zt] [(.int (fL0C p4)), (.int zt)] t → B t := fun t kk => pre12 t (by
      refine st13.trans ?_
      exact kk)
    obtain ⟨_, _, ⟨T15, L15, k15, n15⟩, -, X15, hS15, hg15, ⟨Lc15, hQ15, l15, y15, z15, hC15⟩, st15⟩ := callSS X13 hx (y := (⟨"pithline/html/ScriptData", "next", "(II)I"⟩ : MethodName)) hown (mvT hZ (hw _ (List.mem_of_getElem? (i := 3) rfl))) (mvT hZ (hw _ (List.mem_of_getElem? (i := 4) rfl))) (mvT hZ (hw _ (List.mem_of_getElem? (i := 5) rfl))) (mvT hZ (hw _ (List.mem_of_getElem? (i := 6) rfl))) (by decide) (own_backS (s := s) (vm0 := T13.vm) (EL := consts_1) (W := 0) (rmNgC l Z a0 hw [] zt (fL0C p4) cz fm (0 : Int32) zt T13.heap n0 Z13 hEL XO13 Scs hcz Sfm hfm hz1 hz2 (by decide) hz3) hZ (hw _ (List.mem_of_getElem? (i := 6) rfl)) (hw _ (List.mem_of_getElem? (i := 5) rfl)) (by decide) (by decide) hEL C13.1) (g := (mkF m 32 #[iv p1, iv p2, iv p3, iv p4, iv zt] [(.int (fL0C p4)), (.int zt)])) rfl (by rw [hml]; rfl) (argsL := [(.int zt), (.int (fL0C p4))]) (rest := []) (lenOf pd_6 rfl) rfl (by show 2 * 0 + _ ≤ _; exact Nat.le_of_eq rfl) (hb hby d3_32) (fun _ _ => ⟨rfl, rfl, (by decide : 2 + 2 ≤ _), (by decide : 28 + 28 ≤ _)⟩)
    dsimp only [Pt.U, Pt.locs, Pt.cells, Pt.slots] at X15 l15 y15 z15 st15 hQ15 hS15 hg15 hC15
    subst l15 y15 z15
    obtain ⟨rfl, N15q, E15, hV15⟩ := hQ15
    replace hZ : Z.Warmed39 (s.setVm T15.vm).vm := State.Warmed39.trans (t := s.setVm T13.vm) hZ hS15.1
    replace hown : (s.setVm T15.vm).vm.findClass "pithline/html/ScriptDataOpenTagLengthPinLaw" = some m.cls := by rw [show (s.setVm T15.vm).vm = T15.vm from rfl, hS15.1.alike.findClass]; exact hown
    have hs15 : s.Since T15.vm T15.heap.size := hs13.trans hS15 (Nat.le_trans hk13 hg15)
    have hk15 : T15.heap.size ≤ T15.heap.size := Nat.le_refl _
    have C15 := C13.trans hC15
    have N15 := Fr.app N13 N15q
    have Z15 : n0 ≤ T15.heap.size := Nat.le_trans Z13 E15.1
    have XO15 : Ext Z.heap T15.heap := own_ext XO13 E15
    have EX15 : Ext h0 T15.heap := own_ext EX13 E15
    have F16 := Ex13.ext E15
    have F17 := Fc13.ext E15
    have F18 := Fv13.ext E15
    have F19 := Va13.ext E15
    have hLt20 : Lit (s.setVm T15.vm) "pithline/html/ScriptDataOpenTagLengthPinLaw" 29 a13 := Lit.stays (s := s) (vm0 := T13.vm) hLt13 hS15.1
    replace hV15 := hV15.resolve_left (own_not47 p4)
    obtain ⟨a15, b15, kb15, hLt15, Ex15, Fc15, Fv15, Va15⟩ := hV15
    have pre21 : ∀ t, SS p e below m T15 35 #[iv p1, iv p2, iv p3, iv p4, iv zt] [(.int (fNgC zt (fL0C p4) (0 : Int32) zt))] t → B t := fun t kk => pre14 t (by
      refine st15.trans ?_
      exact kk)
    rw [own_nx0C p4 hzb] at pre21
    have pre22 : ∀ t, SS p e below m T15 39 #[iv p1, iv p2, iv p3, iv p4, iv (bt + (1 : Int32))] [(.int (1 : Int32)), (.int p3)] t → B t := fun t kk => pre21 t (by
      refine XS.istore X15.here hx rfl (hb hby d3_35) rfl (l' := #[iv p1, iv p2, iv p3, iv p4, iv (bt + (1 : Int32))]) rfl ?_
      refine XS.iloadN X15.here hx rfl (hb hby d3_37) rfl ?_
      refine XS.iconst X15.here hx rfl (hb hby d3_38) ?_
      show SS p e below m T15 39 #[iv p1, iv p2, iv p3, iv p4, iv (bt + (1 : Int32))] [(.int (1 : Int32)), (.int p3)] _
      exact kk)
    by_cases hc23 : (1 : Int32) < p3
    · have pre24 : ∀ t, SS p e below m T15 46 #[iv p1, iv p2, iv p3, iv p4, iv (bt + (1 : Int32))] [(.int p4), (.int (1 : Int32)), (.int (bt + (1 : Int32)))] t → B t := fun t kk => pre22 t (by
        refine XS.icmpNo X15.here hx rfl (hb hby d3_39) rfl (tlt hc23).2.2.2 ?_
        refine XS.iload X15.here hx rfl (hb hby d3_42) rfl ?_
        refine XS.iconst X15.here hx rfl (hb hby d3_44) ?_
        show SS p e below m T15 45 #[iv p1, iv p2, iv p3, iv p4, iv (bt + (1 : Int32))] [(.int (1 : Int32)), (.int (bt + (1 : Int32)))] _
        refine XS.iloadN X15.here hx rfl (hb hby d3_45) rfl ?_
        exact kk)
      obtain ⟨_, _, ⟨T25, L25, k25, n25⟩, -, X25, ⟨Lc25, hQ25, l25, y25, z25⟩, st25⟩ := Jvm.LawKit.callS X15 hx (y := (⟨"pithline/html/ScriptDataOpenTagLengthPinLaw", "letter", "(II)I"⟩ : MethodName)) hown (mvT hZ (hw _ (List.mem_of_getElem? (i := 17) rfl))) (mvT hZ (hw _ (List.mem_of_getElem? (i := 18) rfl))) (mvT hZ (hw _ (List.mem_of_getElem? (i := 12) rfl))) (mvT hZ (hw _ (List.mem_of_getElem? (i := 19) rfl))) (by decide) (own_backL (W := 1) (rmLW l Z a0 hw [] (1 : Int32) p4 cz fm a13 b13 a15 b15 kb13 kb15 T15.heap n0 Z15 XO15 Scs hcz Sfm hfm F16 F17 F18 F19 Ex15 Fc15 Fv15 Va15 (by decide) (by decide)) hZ (fun vm1 hv => LW.stays (s := s) (vm0 := T15.vm) ⟨hLt20, hLt15⟩ hv.wide) (hw _ (List.mem_of_getElem? (i := 19) rfl)) (hw _ (List.mem_of_getElem? (i := 12) rfl)) (by decide) (by decide)) (g := (mkF m 46 #[iv p1, iv p2, iv p3, iv p4, iv (bt + (1 : Int32))] [(.int p4), (.int (1 : Int32)), (.int (bt + (1 : Int32)))])) rfl (by rw [hml]; rfl) (argsL := [(.int (1 : Int32)), (.int p4)]) (rest := [(.int (bt + (1 : Int32)))]) (lenOf pd_6 rfl) rfl (by show 2 * 0 + _ ≤ _; exact Nat.le_of_eq rfl) (hb hby d3_46) (fun _ _ => ⟨rfl, rfl, (by decide : 4 + 0 ≤ _), (by decide : 56 + 0 ≤ _)⟩)
      dsimp only [Pt.U, Pt.locs, Pt.cells, Pt.slots] at X25 l25 y25 z25 st25 hQ25
      subst l25 y25 z25
      obtain ⟨rfl, N25q, e25⟩ := hQ25
      have N25 := Fr.app N15 N25q
      have pre26 : ∀ t, SS p e below m T25 49 #[iv p1, iv p2, iv p3, iv p4, iv (bt + (1 : Int32))] [(.int (fLW (1 : Int32) p4)), (.int (bt + (1 : Int32)))] t → B t := fun t kk => pre24 t (by
        refine st25 _ ?_
        exact kk)
      obtain ⟨_, _, ⟨T27, L27, k27, n27⟩, -, X27, ⟨Lc27, hQ27, l27, y27, z27⟩, st27⟩ := Jvm.LawKit.callS X25 hx (y := (⟨"pithline/html/ScriptData", "next", "(II)I"⟩ : MethodName)) hown (mvT hZ (hw _ (List.mem_of_getElem? (i := 3) rfl))) (mvT hZ (hw _ (List.mem_of_getElem? (i := 4) rfl))) (mvT hZ (hw _ (List.mem_of_getElem? (i := 5) rfl))) (mvT hZ (hw _ (List.mem_of_getElem? (i := 6) rfl))) (by decide) (own_backL (W := 0) (rmNgW l Z a0 hw [] (bt + (1 : Int32)) (fLW (1 : Int32) p4) cz fm a13 b13 a15 b15 kb13 kb15 (1 : Int32) bt T15.heap n0 Z15 XO15 Scs hcz Sfm hfm F16 F17 F18 F19 Ex15 Fc15 Fv15 Va15 (own_bj1 hBb).1 (own_bj1 hBb).2 (by decide) hBb) hZ (fun vm1 hv => LW.stays (s := s) (vm0 := T15.vm) ⟨hLt20, hLt15⟩ hv.wide) (hw _ (List.mem_of_getElem? (i := 6) rfl)) (hw _ (List.mem_of_getElem? (i := 5) rfl)) (by decide) (by decide)) (g := (mkF m 49 #[iv p1, iv p2, iv p3, iv p4, iv (bt + (1 : Int32))] [(.int (fLW (1 : Int32) p4)), (.int (bt + (1 : Int32)))])) rfl (by rw [hml]; rfl) (argsL := [(.int (bt + (1 : Int32))), (.int (fLW (1 : Int32) p4))]) (rest := []) (lenOf pd_6 rfl) rfl (by show 2 * 0 + _ ≤ _; exact Nat.le_of_eq rfl) (hb hby d3_49) (fun _ _ => ⟨rfl, e25, (by decide : 4 + 0 ≤ _), (by decide : 56 + 0 ≤ _)⟩)
      dsimp only [Pt.U, Pt.locs, Pt.cells, Pt.slots] at X27 l27 y27 z27 st27 hQ27
      subst l27 y27 z27
      obtain ⟨rfl, N27q, e27⟩ := hQ27
      have N27 := Fr.app N25 N27q
      have pre28 : ∀ t, SS p e below m T27 52 #[iv p1, iv p2, iv p3, iv p4, iv (bt + (1 : Int32))] [(.int (fNgW (bt + (1 : Int32)) (fLW (1 : Int32) p4) (1 : Int32) bt))] t → B t := fun t kk => pre26 t (by
        refine st27 _ ?_
        exact kk)
      rw [own_nxW1 p4 hBb] at pre28
      have pre29 : ∀ t, SS p e below m T27 56 #[iv p1, iv p2, iv p3, iv p4, iv (bt + (2 : Int32))] [(.int (2 : Int32)), (.int p3)] t → B t := fun t kk => pre28 t (by
        refine XS.istore X27.here hx rfl (hb hby d3_52) rfl (l' := #[iv p1, iv p2, iv p3, iv p4, iv (bt + (2 : Int32))]) rfl ?_
        refine XS.iloadN X27.here hx rfl (hb hby d3_54) rfl ?_
        refine XS.iconst X27.here hx rfl (hb hby d3_55) ?_
        show SS p e below m T27 56 #[iv p1, iv p2, iv p3, iv p4, iv (bt + (2 : Int32))] [(.int (2 : Int32)), (.int p3)] _
        exact kk)
      by_cases hc30 : (2 : Int32) < p3
      · have pre31 : ∀ t, SS p e below m T27 63 #[iv p1, iv p2, iv p3, iv p4, iv (bt + (2 : Int32))] [(.int p4), (.int (2 : Int32)), (.int (bt + (2 : Int32)))] t → B t := fun t kk => pre29 t (by
          refine XS.icmpNo X27.here hx rfl (hb hby d3_56) rfl (tlt hc30).2.2.2 ?_
          refine XS.iload X27.here hx rfl (hb hby d3_59) rfl ?_
          refine XS.iconst X27.here hx rfl (hb hby d3_61) ?_
          show SS p e below m T27 62 #[iv p1, iv p2, iv p3, iv p4, iv (bt + (2 : Int32))] [(.int (2 : Int32)), (.int (bt + (2 : Int32)))] _
          refine XS.iloadN X27.here hx rfl (hb hby d3_62) rfl ?_
          exact kk)
        obtain ⟨_, _, ⟨T32, L32, k32, n32⟩, -, X32, ⟨Lc32, hQ32, l32, y32, z32⟩, st32⟩ := Jvm.LawKit.callS X27 hx (y := (⟨"pithline/html/ScriptDataOpenTagLengthPinLaw", "letter", "(II)I"⟩ : MethodName)) hown (mvT hZ (hw _ (List.mem_of_getElem? (i := 17) rfl))) (mvT hZ (hw _ (List.mem_of_getElem? (i := 18) rfl))) (mvT hZ (hw _ (List.mem_of_getElem? (i := 12) rfl))) (mvT hZ (hw _ (List.mem_of_getElem? (i := 19) rfl))) (by decide) (own_backL (W := 1) (rmLW l Z a0 hw [] (2 : Int32) p4 cz fm a13 b13 a15 b15 kb13 kb15 T15.heap n0 Z15 XO15 Scs hcz Sfm hfm F16 F17 F18 F19 Ex15 Fc15 Fv15 Va15 (by decide) (by decide)) hZ (fun vm1 hv => LW.stays (s := s) (vm0 := T15.vm) ⟨hLt20, hLt15⟩ hv.wide) (hw _ (List.mem_of_getElem? (i := 19) rfl)) (hw _ (List.mem_of_getElem? (i := 12) rfl)) (by decide) (by decide)) (g := (mkF m 63 #[iv p1, iv p2, iv p3, iv p4, iv (bt + (2 : Int32))] [(.int p4), (.int (2 : Int32)), (.int (bt + (2 : Int32)))])) rfl (by rw [hml]; rfl) (argsL := [(.int (2 : Int32)), (.int p4)]) (rest := [(.int (bt + (2 : Int32)))]) (lenOf pd_6 rfl) rfl (by show 2 * 0 + _ ≤ _; exact Nat.le_of_eq rfl) (hb hby d3_63) (fun _ _ => ⟨rfl, e27, (by decide : 4 + 0 ≤ _), (by decide : 56 + 0 ≤ _)⟩)
        dsimp only [Pt.U, Pt.locs, Pt.cells, Pt.slots] at X32 l32 y32 z32 st32 hQ32
        subst l32 y32 z32
        obtain ⟨rfl, N32q, e32⟩ := hQ32
        have N32 := Fr.app N27 N32q
        have pre33 : ∀ t, SS p e below m T32 66 #[iv p1, iv p2, iv p3, iv p4, iv (bt + (2 : Int32))] [(.int (fLW (2 : Int32) p4)), (.int (bt + (2 : Int32)))] t → B t := fun t kk => pre31 t (by
          refine st32 _ ?_
          exact kk)
        obtain ⟨_, _, ⟨T34, L34, k34, n34⟩, -, X34, ⟨Lc34, hQ34, l34, y34, z34⟩, st34⟩ := Jvm.LawKit.callS X32 hx (y := (⟨"pithline/html/ScriptData", "next", "(II)I"⟩ : MethodName)) hown (mvT hZ (hw _ (List.mem_of_getElem? (i := 3) rfl))) (mvT hZ (hw _ (List.mem_of_getElem? (i := 4) rfl))) (mvT hZ (hw _ (List.mem_of_getElem? (i := 5) rfl))) (mvT hZ (hw _ (List.mem_of_getElem? (i := 6) rfl))) (by decide) (own_backL (W := 0) (rmNgW l Z a0 hw [] (bt + (2 : Int32)) (fLW (2 : Int32) p4) cz fm a13 b13 a15 b15 kb13 kb15 (2 : Int32) bt T15.heap n0 Z15 XO15 Scs hcz Sfm hfm F16 F17 F18 F19 Ex15 Fc15 Fv15 Va15 (own_bj2 hBb).1 (own_bj2 hBb).2 (by decide) hBb) hZ (fun vm1 hv => LW.stays (s := s) (vm0 := T15.vm) ⟨hLt20, hLt15⟩ hv.wide) (hw _ (List.mem_of_getElem? (i := 6) rfl)) (hw _ (List.mem_of_getElem? (i := 5) rfl)) (by decide) (by decide)) (g := (mkF m 66 #[iv p1, iv p2, iv p3, iv p4, iv (bt + (2 : Int32))] [(.int (fLW (2 : Int32) p4)), (.int (bt + (2 : Int32)))])) rfl (by rw [hml]; rfl) (argsL := [(.int (bt + (2 : Int32))), (.int (fLW (2 : Int32) p4))]) (rest := []) (lenOf pd_6 rfl) rfl (by show 2 * 0 + _ ≤ _; exact Nat.le_of_eq rfl) (hb hby d3_66) (fun _ _ => ⟨rfl, e32, (by decide : 4 + 0 ≤ _), (by decide : 56 + 0 ≤ _)⟩)
        dsimp only [Pt.U, Pt.locs, Pt.cells, Pt.slots] at X34 l34 y34 z34 st34 hQ34
        subst l34 y34 z34
        obtain ⟨rfl, N34q, e34⟩ := hQ34
        have N34 := Fr.app N32 N34q
        have pre35 : ∀ t, SS p e below m T34 69 #[iv p1, iv p2, iv p3, iv p4, iv (bt + (2 : Int32))] [(.int (fNgW (bt + (2 : Int32)) (fLW (2 : Int32) p4) (2 : Int32) bt))] t → B t := fun t kk => pre33 t (by
          refine st34 _ ?_
          exact kk)
        rw [own_nxW2 p4 hBb] at pre35
        have pre36 : ∀ t, SS p e below m T34 73 #[iv p1, iv p2, iv p3, iv p4, iv (bt + (3 : Int32))] [(.int (3 : Int32)), (.int p3)] t → B t := fun t kk => pre35 t (by
          refine XS.istore X34.here hx rfl (hb hby d3_69) rfl (l' := #[iv p1, iv p2, iv p3, iv p4, iv (bt + (3 : Int32))]) rfl ?_
          refine XS.iloadN X34.here hx rfl (hb hby d3_71) rfl ?_
          refine XS.iconst X34.here hx rfl (hb hby d3_72) ?_
          show SS p e below m T34 73 #[iv p1, iv p2, iv p3, iv p4, iv (bt + (3 : Int32))] [(.int (3 : Int32)), (.int p3)] _
          exact kk)
        by_cases hc37 : (3 : Int32) < p3
        · have pre38 : ∀ t, SS p e below m T34 80 #[iv p1, iv p2, iv p3, iv p4, iv (bt + (3 : Int32))] [(.int p4), (.int (3 : Int32)), (.int (bt + (3 : Int32)))] t → B t := fun t kk => pre36 t (by
            refine XS.icmpNo X34.here hx rfl (hb hby d3_73) rfl (tlt hc37).2.2.2 ?_
            refine XS.iload X34.here hx rfl (hb hby d3_76) rfl ?_
            refine XS.iconst X34.here hx rfl (hb hby d3_78) ?_
            show SS p e below m T34 79 #[iv p1, iv p2, iv p3, iv p4, iv (bt + (3 : Int32))] [(.int (3 : Int32)), (.int (bt + (3 : Int32)))] _
            refine XS.iloadN X34.here hx rfl (hb hby d3_79) rfl ?_
            exact kk)
          obtain ⟨_, _, ⟨T39, L39, k39, n39⟩, -, X39, ⟨Lc39, hQ39, l39, y39, z39⟩, st39⟩ := Jvm.LawKit.callS X34 hx (y := (⟨"pithline/html/ScriptDataOpenTagLengthPinLaw", "letter", "(II)I"⟩ : MethodName)) hown (mvT hZ (hw _ (List.mem_of_getElem? (i := 17) rfl))) (mvT hZ (hw _ (List.mem_of_getElem? (i := 18) rfl))) (mvT hZ (hw _ (List.mem_of_getElem? (i := 12) rfl))) (mvT hZ (hw _ (List.mem_of_getElem? (i := 19) rfl))) (by decide) (own_backL (W := 1) (rmLW l Z a0 hw [] (3 : Int32) p4 cz fm a13 b13 a15 b15 kb13 kb15 T15.heap n0 Z15 XO15 Scs hcz Sfm hfm F16 F17 F18 F19 Ex15 Fc15 Fv15 Va15 (by decide) (by decide)) hZ (fun vm1 hv => LW.stays (s := s) (vm0 := T15.vm) ⟨hLt20, hLt15⟩ hv.wide) (hw _ (List.mem_of_getElem? (i := 19) rfl)) (hw _ (List.mem_of_getElem? (i := 12) rfl)) (by decide) (by decide)) (g := (mkF m 80 #[iv p1, iv p2, iv p3, iv p4, iv (bt + (3 : Int32))] [(.int p4), (.int (3 : Int32)), (.int (bt + (3 : Int32)))])) rfl (by rw [hml]; rfl) (argsL := [(.int (3 : Int32)), (.int p4)]) (rest := [(.int (bt + (3 : Int32)))]) (lenOf pd_6 rfl) rfl (by show 2 * 0 + _ ≤ _; exact Nat.le_of_eq rfl) (hb hby d3_80) (fun _ _ => ⟨rfl, e34, (by decide : 4 + 0 ≤ _), (by decide : 56 + 0 ≤ _)⟩)
          dsimp only [Pt.U, Pt.locs, Pt.cells, Pt.slots] at X39 l39 y39 z39 st39 hQ39
          subst l39 y39 z39
          obtain ⟨rfl, N39q, e39⟩ := hQ39
          have N39 := Fr.app N34 N39q
          have pre40 : ∀ t, SS p e below m T39 83 #[iv p1, iv p2, iv p3, iv p4, iv (bt + (3 : Int32))] [(.int (fLW (3 : Int32) p4)), (.int (bt + (3 : Int32)))] t → B t := fun t kk => pre38 t (by
            refine st39 _ ?_
            exact kk)
          obtain ⟨_, _, ⟨T41, L41, k41, n41⟩, -, X41, ⟨Lc41, hQ41, l41, y41, z41⟩, st41⟩ := Jvm.LawKit.callS X39 hx (y := (⟨"pithline/html/ScriptData", "next", "(II)I"⟩ : MethodName)) hown (mvT hZ (hw _ (List.mem_of_getElem? (i := 3) rfl))) (mvT hZ (hw _ (List.mem_of_getElem? (i := 4) rfl))) (mvT hZ (hw _ (List.mem_of_getElem? (i := 5) rfl))) (mvT hZ (hw _ (List.mem_of_getElem? (i := 6) rfl))) (by decide) (own_backL (W := 0) (rmNgW l Z a0 hw [] (bt + (3 : Int32)) (fLW (3 : Int32) p4) cz fm a13 b13 a15 b15 kb13 kb15 (3 : Int32) bt T15.heap n0 Z15 XO15 Scs hcz Sfm hfm F16 F17 F18 F19 Ex15 Fc15 Fv15 Va15 (own_bj3 hBb).1 (own_bj3 hBb).2 (by decide) hBb) hZ (fun vm1 hv => LW.stays (s := s) (vm0 := T15.vm) ⟨hLt20, hLt15⟩ hv.wide) (hw _ (List.mem_of_getElem? (i := 6) rfl)) (hw _ (List.mem_of_getElem? (i := 5) rfl)) (by decide) (by decide)) (g := (mkF m 83 #[iv p1, iv p2, iv p3, iv p4, iv (bt + (3 : Int32))] [(.int (fLW (3 : Int32) p4)), (.int (bt + (3 : Int32)))])) rfl (by rw [hml]; rfl) (argsL := [(.int (bt + (3 : Int32))), (.int (fLW (3 : Int32) p4))]) (rest := []) (lenOf pd_6 rfl) rfl (by show 2 * 0 + _ ≤ _; exact Nat.le_of_eq rfl) (hb hby d3_83) (fun _ _ => ⟨rfl, e39, (by decide : 4 + 0 ≤ _), (by decide : 56 + 0 ≤ _)⟩)
          dsimp only [Pt.U, Pt.locs, Pt.cells, Pt.slots] at X41 l41 y41 z41 st41 hQ41
          subst l41 y41 z41
          obtain ⟨rfl, N41q, e41⟩ := hQ41
          have N41 := Fr.app N39 N41q
          have pre42 : ∀ t, SS p e below m T41 86 #[iv p1, iv p2, iv p3, iv p4, iv (bt + (3 : Int32))] [(.int (fNgW (bt + (3 : Int32)) (fLW (3 : Int32) p4) (3 : Int32) bt))] t → B t := fun t kk => pre40 t (by
            refine st41 _ ?_
            exact kk)
          rw [own_nxW3 p4 hBb] at pre42
          have pre43 : ∀ t, SS p e below m T41 90 #[iv p1, iv p2, iv p3, iv p4, iv (bt + (4 : Int32))] [(.int (4 : Int32)), (.int p3)] t → B t := fun t kk => pre42 t (by
            refine XS.istore X41.here hx rfl (hb hby d3_86) rfl (l' := #[iv p1, iv p2, iv p3, iv p4, iv (bt + (4 : Int32))]) rfl ?_
            refine XS.iloadN X41.here hx rfl (hb hby d3_88) rfl ?_
            refine XS.iconst X41.here hx rfl (hb hby d3_89) ?_
            show SS p e below m T41 90 #[iv p1, iv p2, iv p3, iv p4, iv (bt + (4 : Int32))] [(.int (4 : Int32)), (.int p3)] _
            exact kk)
          by_cases hc44 : (4 : Int32) < p3
          · have pre45 : ∀ t, SS p e below m T41 97 #[iv p1, iv p2, iv p3, iv p4, iv (bt + (4 : Int32))] [(.int p4), (.int (4 : Int32)), (.int (bt + (4 : Int32)))] t → B t := fun t kk => pre43 t (by
              refine XS.icmpNo X41.here hx rfl (hb hby d3_90) rfl (tlt hc44).2.2.2 ?_
              refine XS.iload X41.here hx rfl (hb hby d3_93) rfl ?_
              refine XS.iconst X41.here hx rfl (hb hby d3_95) ?_
              show SS p e below m T41 96 #[iv p1, iv p2, iv p3, iv p4, iv (bt + (4 : Int32))] [(.int (4 : Int32)), (.int (bt + (4 : Int32)))] _
              refine XS.iloadN X41.here hx rfl (hb hby d3_96) rfl ?_
              exact kk)
            obtain ⟨_, _, ⟨T46, L46, k46, n46⟩, -, X46, ⟨Lc46, hQ46, l46, y46, z46⟩, st46⟩ := Jvm.LawKit.callS X41 hx (y := (⟨"pithline/html/ScriptDataOpenTagLengthPinLaw", "letter", "(II)I"⟩ : MethodName)) hown (mvT hZ (hw _ (List.mem_of_getElem? (i := 17) rfl))) (mvT hZ (hw _ (List.mem_of_getElem? (i := 18) rfl))) (mvT hZ (hw _ (List.mem_of_getElem? (i := 12) rfl))) (mvT hZ (hw _ (List.mem_of_getElem? (i := 19) rfl))) (by decide) (own_backL (W := 1) (rmLW l Z a0 hw [] (4 : Int32) p4 cz fm a13 b13 a15 b15 kb13 kb15 T15.heap n0 Z15 XO15 Scs hcz Sfm hfm F16 F17 F18 F19 Ex15 Fc15 Fv15 Va15 (by decide) (by decide)) hZ (fun vm1 hv => LW.stays (s := s) (vm0 := T15.vm) ⟨hLt20, hLt15⟩ hv.wide) (hw _ (List.mem_of_getElem? (i := 19) rfl)) (hw _ (List.mem_of_getElem? (i := 12) rfl)) (by decide) (by decide)) (g := (mkF m 97 #[iv p1, iv p2, iv p3, iv p4, iv (bt + (4 : Int32))] [(.int p4), (.int (4 : Int32)), (.int (bt + (4 : Int32)))])) rfl (by rw [hml]; rfl) (argsL := [(.int (4 : Int32)), (.int p4)]) (rest := [(.int (bt + (4 : Int32)))]) (lenOf pd_6 rfl) rfl (by show 2 * 0 + _ ≤ _; exact Nat.le_of_eq rfl) (hb hby d3_97) (fun _ _ => ⟨rfl, e41, (by decide : 4 + 0 ≤ _), (by decide : 56 + 0 ≤ _)⟩)
            dsimp only [Pt.U, Pt.locs, Pt.cells, Pt.slots] at X46 l46 y46 z46 st46 hQ46
            subst l46 y46 z46
            obtain ⟨rfl, N46q, e46⟩ := hQ46
            have N46 := Fr.app N41 N46q
            have pre47 : ∀ t, SS p e below m T46 100 #[iv p1, iv p2, iv p3, iv p4, iv (bt + (4 : Int32))] [(.int (fLW (4 : Int32) p4)), (.int (bt + (4 : Int32)))] t → B t := fun t kk => pre45 t (by
              refine st46 _ ?_
              exact kk)
            obtain ⟨_, _, ⟨T48, L48, k48, n48⟩, -, X48, ⟨Lc48, hQ48, l48, y48, z48⟩, st48⟩ := Jvm.LawKit.callS X46 hx (y := (⟨"pithline/html/ScriptData", "next", "(II)I"⟩ : MethodName)) hown (mvT hZ (hw _ (List.mem_of_getElem? (i := 3) rfl))) (mvT hZ (hw _ (List.mem_of_getElem? (i := 4) rfl))) (mvT hZ (hw _ (List.mem_of_getElem? (i := 5) rfl))) (mvT hZ (hw _ (List.mem_of_getElem? (i := 6) rfl))) (by decide) (own_backL (W := 0) (rmNgW l Z a0 hw [] (bt + (4 : Int32)) (fLW (4 : Int32) p4) cz fm a13 b13 a15 b15 kb13 kb15 (4 : Int32) bt T15.heap n0 Z15 XO15 Scs hcz Sfm hfm F16 F17 F18 F19 Ex15 Fc15 Fv15 Va15 (own_bj4 hBb).1 (own_bj4 hBb).2 (by decide) hBb) hZ (fun vm1 hv => LW.stays (s := s) (vm0 := T15.vm) ⟨hLt20, hLt15⟩ hv.wide) (hw _ (List.mem_of_getElem? (i := 6) rfl)) (hw _ (List.mem_of_getElem? (i := 5) rfl)) (by decide) (by decide)) (g := (mkF m 100 #[iv p1, iv p2, iv p3, iv p4, iv (bt + (4 : Int32))] [(.int (fLW (4 : Int32) p4)), (.int (bt + (4 : Int32)))])) rfl (by rw [hml]; rfl) (argsL := [(.int (bt + (4 : Int32))), (.int (fLW (4 : Int32) p4))]) (rest := []) (lenOf pd_6 rfl) rfl (by show 2 * 0 + _ ≤ _; exact Nat.le_of_eq rfl) (hb hby d3_100) (fun _ _ => ⟨rfl, e46, (by decide : 4 + 0 ≤ _), (by decide : 56 + 0 ≤ _)⟩)
            dsimp only [Pt.U, Pt.locs, Pt.cells, Pt.slots] at X48 l48 y48 z48 st48 hQ48
            subst l48 y48 z48
            obtain ⟨rfl, N48q, e48⟩ := hQ48
            have N48 := Fr.app N46 N48q
            have pre49 : ∀ t, SS p e below m T48 103 #[iv p1, iv p2, iv p3, iv p4, iv (bt + (4 : Int32))] [(.int (fNgW (bt + (4 : Int32)) (fLW (4 : Int32) p4) (4 : Int32) bt))] t → B t := fun t kk => pre47 t (by
              refine st48 _ ?_
              exact kk)
            rw [own_nxW4 p4 hBb] at pre49
            have pre50 : ∀ t, SS p e below m T48 107 #[iv p1, iv p2, iv p3, iv p4, iv (bt + (5 : Int32))] [(.int (5 : Int32)), (.int p3)] t → B t := fun t kk => pre49 t (by
              refine XS.istore X48.here hx rfl (hb hby d3_103) rfl (l' := #[iv p1, iv p2, iv p3, iv p4, iv (bt + (5 : Int32))]) rfl ?_
              refine XS.iloadN X48.here hx rfl (hb hby d3_105) rfl ?_
              refine XS.iconst X48.here hx rfl (hb hby d3_106) ?_
              show SS p e below m T48 107 #[iv p1, iv p2, iv p3, iv p4, iv (bt + (5 : Int32))] [(.int (5 : Int32)), (.int p3)] _
              exact kk)
            by_cases hc51 : (5 : Int32) < p3
            · have pre52 : ∀ t, SS p e below m T48 114 #[iv p1, iv p2, iv p3, iv p4, iv (bt + (5 : Int32))] [(.int p4), (.int (5 : Int32)), (.int (bt + (5 : Int32)))] t → B t := fun t kk => pre50 t (by
                refine XS.icmpNo X48.here hx rfl (hb hby d3_107) rfl (tlt hc51).2.2.2 ?_
                refine XS.iload X48.here hx rfl (hb hby d3_110) rfl ?_
                refine XS.iconst X48.here hx rfl (hb hby d3_112) ?_
                show SS p e below m T48 113 #[iv p1, iv p2, iv p3, iv p4, iv (bt + (5 : Int32))] [(.int (5 : Int32)), (.int (bt + (5 : Int32)))] _
                refine XS.iloadN X48.here hx rfl (hb hby d3_113) rfl ?_
                exact kk)
              obtain ⟨_, _, ⟨T53, L53, k53, n53⟩, -, X53, ⟨Lc53, hQ53, l53, y53, z53⟩, st53⟩ := Jvm.LawKit.callS X48 hx (y := (⟨"pithline/html/ScriptDataOpenTagLengthPinLaw", "letter", "(II)I"⟩ : MethodName)) hown (mvT hZ (hw _ (List.mem_of_getElem? (i := 17) rfl))) (mvT hZ (hw _ (List.mem_of_getElem? (i := 18) rfl))) (mvT hZ (hw _ (List.mem_of_getElem? (i := 12) rfl))) (mvT hZ (hw _ (List.mem_of_getElem? (i := 19) rfl))) (by decide) (own_backL (W := 1) (rmLW l Z a0 hw [] (5 : Int32) p4 cz fm a13 b13 a15 b15 kb13 kb15 T15.heap n0 Z15 XO15 Scs hcz Sfm hfm F16 F17 F18 F19 Ex15 Fc15 Fv15 Va15 (by decide) (by decide)) hZ (fun vm1 hv => LW.stays (s := s) (vm0 := T15.vm) ⟨hLt20, hLt15⟩ hv.wide) (hw _ (List.mem_of_getElem? (i := 19) rfl)) (hw _ (List.mem_of_getElem? (i := 12) rfl)) (by decide) (by decide)) (g := (mkF m 114 #[iv p1, iv p2, iv p3, iv p4, iv (bt + (5 : Int32))] [(.int p4), (.int (5 : Int32)), (.int (bt + (5 : Int32)))])) rfl (by rw [hml]; rfl) (argsL := [(.int (5 : Int32)), (.int p4)]) (rest := [(.int (bt + (5 : Int32)))]) (lenOf pd_6 rfl) rfl (by show 2 * 0 + _ ≤ _; exact Nat.le_of_eq rfl) (hb hby d3_114) (fun _ _ => ⟨rfl, e48, (by decide : 4 + 0 ≤ _), (by decide : 56 + 0 ≤ _)⟩)
              dsimp only [Pt.U, Pt.locs, Pt.cells, Pt.slots] at X53 l53 y53 z53 st53 hQ53
              subst l53 y53 z53
              obtain ⟨rfl, N53q, e53⟩ := hQ53
              have N53 := Fr.app N48 N53q
              have pre54 : ∀ t, SS p e below m T53 117 #[iv p1, iv p2, iv p3, iv p4, iv (bt + (5 : Int32))] [(.int (fLW (5 : Int32) p4)), (.int (bt + (5 : Int32)))] t → B t := fun t kk => pre52 t (by
                refine st53 _ ?_
                exact kk)
              obtain ⟨_, _, ⟨T55, L55, k55, n55⟩, -, X55, ⟨Lc55, hQ55, l55, y55, z55⟩, st55⟩ := Jvm.LawKit.callS X53 hx (y := (⟨"pithline/html/ScriptData", "next", "(II)I"⟩ : MethodName)) hown (mvT hZ (hw _ (List.mem_of_getElem? (i := 3) rfl))) (mvT hZ (hw _ (List.mem_of_getElem? (i := 4) rfl))) (mvT hZ (hw _ (List.mem_of_getElem? (i := 5) rfl))) (mvT hZ (hw _ (List.mem_of_getElem? (i := 6) rfl))) (by decide) (own_backL (W := 0) (rmNgW l Z a0 hw [] (bt + (5 : Int32)) (fLW (5 : Int32) p4) cz fm a13 b13 a15 b15 kb13 kb15 (5 : Int32) bt T15.heap n0 Z15 XO15 Scs hcz Sfm hfm F16 F17 F18 F19 Ex15 Fc15 Fv15 Va15 (own_bj5 hBb).1 (own_bj5 hBb).2 (by decide) hBb) hZ (fun vm1 hv => LW.stays (s := s) (vm0 := T15.vm) ⟨hLt20, hLt15⟩ hv.wide) (hw _ (List.mem_of_getElem? (i := 6) rfl)) (hw _ (List.mem_of_getElem? (i := 5) rfl)) (by decide) (by decide)) (g := (mkF m 117 #[iv p1, iv p2, iv p3, iv p4, iv (bt + (5 : Int32))] [(.int (fLW (5 : Int32) p4)), (.int (bt + (5 : Int32)))])) rfl (by rw [hml]; rfl) (argsL := [(.int (bt + (5 : Int32))), (.int (fLW (5 : Int32) p4))]) (rest := []) (lenOf pd_6 rfl) rfl (by show 2 * 0 + _ ≤ _; exact Nat.le_of_eq rfl) (hb hby d3_117) (fun _ _ => ⟨rfl, e53, (by decide : 4 + 0 ≤ _), (by decide : 56 + 0 ≤ _)⟩)
              dsimp only [Pt.U, Pt.locs, Pt.cells, Pt.slots] at X55 l55 y55 z55 st55 hQ55
              subst l55 y55 z55
              obtain ⟨rfl, N55q, e55⟩ := hQ55
              have N55 := Fr.app N53 N55q
              have pre56 : ∀ t, SS p e below m T55 120 #[iv p1, iv p2, iv p3, iv p4, iv (bt + (5 : Int32))] [(.int (fNgW (bt + (5 : Int32)) (fLW (5 : Int32) p4) (5 : Int32) bt))] t → B t := fun t kk => pre54 t (by
                refine st55 _ ?_
                exact kk)
              rw [own_nxW5 p4 hBb] at pre56
              have pre57 : ∀ t, SS p e below m T55 124 #[iv p1, iv p2, iv p3, iv p4, iv (bt + (6 : Int32))] [(.int (bt + (6 : Int32)))] t → B t := fun t kk => pre56 t (by
                refine XS.istore X55.here hx rfl (hb hby d3_120) rfl (l' := #[iv p1, iv p2, iv p3, iv p4, iv (bt + (6 : Int32))]) rfl ?_
                refine XS.iload X55.here hx rfl (hb hby d3_122) rfl ?_
                exact kk)
              have CF := C15.trans (CHv.at X55 hZ hEL C15.1)
              obtain ⟨fs, hr, hrun, hended, hRW⟩ := X55.leaveW (s := s) hs15 (by first | exact hk15 | (rw [e55]; exact hk15)) (v := some (.int (bt + (6 : Int32)))) (fun h => by rw [Bd.returns] at h; cases h)
              refine ⟨_, _, hB _ (pre57 _ ?_), hrun, hended, _, _, rfl, ?_, ?_, ⟨hRW.1, hRW.2.1, hRW.2.2.1, hRW.2.2.2.mono (by decide) (by decide)⟩⟩
              · exact retI X55 hx Bd.returns (hb hby d3_124) hr
              · exact ⟨by show _ = some (Value.int (fT p1 p2 p3 p4)); rw [fT, show own_ztv p1 p2 = zt from g_zt.symm, ← g_bt, if_pos hc11, if_pos hc23, if_pos hc30, if_pos hc37, if_pos hc44, if_pos hc51], N55, (by show Ext h0 T55.heap; rw [e55]; exact EX15)⟩
              · rw [hh]; show CHr Z consts_1 s.vm h0 T55.vm T55.heap; rw [e55]; exact CF
            · have pre58 : ∀ t, SS p e below m T48 124 #[iv p1, iv p2, iv p3, iv p4, iv (bt + (5 : Int32))] [(.int (bt + (5 : Int32)))] t → B t := fun t kk => pre50 t (by
                refine XS.icmpYes X48.here hx rfl (pc0 := 107) (pc' := 122) rfl (hb hby d3_107) rfl (flt hc51).2.2.2 (by decide) (by decide) ?_
                refine XS.iload X48.here hx rfl (hb hby d3_122) rfl ?_
                exact kk)
              have CF := C15.trans (CHv.at X48 hZ hEL C15.1)
              obtain ⟨fs, hr, hrun, hended, hRW⟩ := X48.leaveW (s := s) hs15 (by first | exact hk15 | (rw [e48]; exact hk15)) (v := some (.int (bt + (5 : Int32)))) (fun h => by rw [Bd.returns] at h; cases h)
              refine ⟨_, _, hB _ (pre58 _ ?_), hrun, hended, _, _, rfl, ?_, ?_, ⟨hRW.1, hRW.2.1, hRW.2.2.1, hRW.2.2.2.mono (by decide) (by decide)⟩⟩
              · exact retI X48 hx Bd.returns (hb hby d3_124) hr
              · exact ⟨by show _ = some (Value.int (fT p1 p2 p3 p4)); rw [fT, show own_ztv p1 p2 = zt from g_zt.symm, ← g_bt, if_pos hc11, if_pos hc23, if_pos hc30, if_pos hc37, if_pos hc44, if_neg hc51], N48, (by show Ext h0 T48.heap; rw [e48]; exact EX15)⟩
              · rw [hh]; show CHr Z consts_1 s.vm h0 T48.vm T48.heap; rw [e48]; exact CF
          · have pre59 : ∀ t, SS p e below m T41 124 #[iv p1, iv p2, iv p3, iv p4, iv (bt + (4 : Int32))] [(.int (bt + (4 : Int32)))] t → B t := fun t kk => pre43 t (by
              refine XS.icmpYes X41.here hx rfl (pc0 := 90) (pc' := 105) rfl (hb hby d3_90) rfl (flt hc44).2.2.2 (by decide) (by decide) ?_
              refine XS.iloadN X41.here hx rfl (hb hby d3_105) rfl ?_
              refine XS.iconst X41.here hx rfl (hb hby d3_106) ?_
              show SS p e below m T41 107 #[iv p1, iv p2, iv p3, iv p4, iv (bt + (4 : Int32))] [(.int (5 : Int32)), (.int p3)] _
              refine XS.icmpYes X41.here hx rfl (pc0 := 107) (pc' := 122) rfl (hb hby d3_107) rfl (flt (own_mono (by decide : (4 : Int32) < (5 : Int32)) hc44)).2.2.2 (by decide) (by decide) ?_
              refine XS.iload X41.here hx rfl (hb hby d3_122) rfl ?_
              exact kk)
            have CF := C15.trans (CHv.at X41 hZ hEL C15.1)
            obtain ⟨fs, hr, hrun, hended, hRW⟩ := X41.leaveW (s := s) hs15 (by first | exact hk15 | (rw [e41]; exact hk15)) (v := some (.int (bt + (4 : Int32)))) (fun h => by rw [Bd.returns] at h; cases h)
            refine ⟨_, _, hB _ (pre59 _ ?_), hrun, hended, _, _, rfl, ?_, ?_, ⟨hRW.1, hRW.2.1, hRW.2.2.1, hRW.2.2.2.mono (by decide) (by decide)⟩⟩
            · exact retI X41 hx Bd.returns (hb hby d3_124) hr
            · exact ⟨by show _ = some (Value.int (fT p1 p2 p3 p4)); rw [fT, show own_ztv p1 p2 = zt from g_zt.symm, ← g_bt, if_pos hc11, if_pos hc23, if_pos hc30, if_pos hc37, if_neg hc44], N41, (by show Ext h0 T41.heap; rw [e41]; exact EX15)⟩
            · rw [hh]; show CHr Z consts_1 s.vm h0 T41.vm T41.heap; rw [e41]; exact CF
        · have pre60 : ∀ t, SS p e below m T34 124 #[iv p1, iv p2, iv p3, iv p4, iv (bt + (3 : Int32))] [(.int (bt + (3 : Int32)))] t → B t := fun t kk => pre36 t (by
            refine XS.icmpYes X34.here hx rfl (pc0 := 73) (pc' := 88) rfl (hb hby d3_73) rfl (flt hc37).2.2.2 (by decide) (by decide) ?_
            refine XS.iloadN X34.here hx rfl (hb hby d3_88) rfl ?_
            refine XS.iconst X34.here hx rfl (hb hby d3_89) ?_
            show SS p e below m T34 90 #[iv p1, iv p2, iv p3, iv p4, iv (bt + (3 : Int32))] [(.int (4 : Int32)), (.int p3)] _
            refine XS.icmpYes X34.here hx rfl (pc0 := 90) (pc' := 105) rfl (hb hby d3_90) rfl (flt (own_mono (by decide : (3 : Int32) < (4 : Int32)) hc37)).2.2.2 (by decide) (by decide) ?_
            refine XS.iloadN X34.here hx rfl (hb hby d3_105) rfl ?_
            refine XS.iconst X34.here hx rfl (hb hby d3_106) ?_
            show SS p e below m T34 107 #[iv p1, iv p2, iv p3, iv p4, iv (bt + (3 : Int32))] [(.int (5 : Int32)), (.int p3)] _
            refine XS.icmpYes X34.here hx rfl (pc0 := 107) (pc' := 122) rfl (hb hby d3_107) rfl (flt (own_mono (by decide : (3 : Int32) < (5 : Int32)) hc37)).2.2.2 (by decide) (by decide) ?_
            refine XS.iload X34.here hx rfl (hb hby d3_122) rfl ?_
            exact kk)
          have CF := C15.trans (CHv.at X34 hZ hEL C15.1)
          obtain ⟨fs, hr, hrun, hended, hRW⟩ := X34.leaveW (s := s) hs15 (by first | exact hk15 | (rw [e34]; exact hk15)) (v := some (.int (bt + (3 : Int32)))) (fun h => by rw [Bd.returns] at h; cases h)
          refine ⟨_, _, hB _ (pre60 _ ?_), hrun, hended, _, _, rfl, ?_, ?_, ⟨hRW.1, hRW.2.1, hRW.2.2.1, hRW.2.2.2.mono (by decide) (by decide)⟩⟩
          · exact retI X34 hx Bd.returns (hb hby d3_124) hr
          · exact ⟨by show _ = some (Value.int (fT p1 p2 p3 p4)); rw [fT, show own_ztv p1 p2 = zt from g_zt.symm, ← g_bt, if_pos hc11, if_pos hc23, if_pos hc30, if_neg hc37], N34, (by show Ext h0 T34.heap; rw [e34]; exact EX15)⟩
          · rw [hh]; show CHr Z consts_1 s.vm h0 T34.vm T34.heap; rw [e34]; exact CF
      · have pre61 : ∀ t, SS p e below m T27 124 #[iv p1, iv p2, iv p3, iv p4, iv (bt + (2 : Int32))] [(.int (bt + (2 : Int32)))] t → B t := fun t kk => pre29 t (by
          refine XS.icmpYes X27.here hx rfl (pc0 := 56) (pc' := 71) rfl (hb hby d3_56) rfl (flt hc30).2.2.2 (by decide) (by decide) ?_
          refine XS.iloadN X27.here hx rfl (hb hby d3_71) rfl ?_
          refine XS.iconst X27.here hx rfl (hb hby d3_72) ?_
          show SS p e below m T27 73 #[iv p1, iv p2, iv p3, iv p4, iv (bt + (2 : Int32))] [(.int (3 : Int32)), (.int p3)] _
          refine XS.icmpYes X27.here hx rfl (pc0 := 73) (pc' := 88) rfl (hb hby d3_73) rfl (flt (own_mono (by decide : (2 : Int32) < (3 : Int32)) hc30)).2.2.2 (by decide) (by decide) ?_
          refine XS.iloadN X27.here hx rfl (hb hby d3_88) rfl ?_
          refine XS.iconst X27.here hx rfl (hb hby d3_89) ?_
          show SS p e below m T27 90 #[iv p1, iv p2, iv p3, iv p4, iv (bt + (2 : Int32))] [(.int (4 : Int32)), (.int p3)] _
          refine XS.icmpYes X27.here hx rfl (pc0 := 90) (pc' := 105) rfl (hb hby d3_90) rfl (flt (own_mono (by decide : (2 : Int32) < (4 : Int32)) hc30)).2.2.2 (by decide) (by decide) ?_
          refine XS.iloadN X27.here hx rfl (hb hby d3_105) rfl ?_
          refine XS.iconst X27.here hx rfl (hb hby d3_106) ?_
          show SS p e below m T27 107 #[iv p1, iv p2, iv p3, iv p4, iv (bt + (2 : Int32))] [(.int (5 : Int32)), (.int p3)] _
          refine XS.icmpYes X27.here hx rfl (pc0 := 107) (pc' := 122) rfl (hb hby d3_107) rfl (flt (own_mono (by decide : (2 : Int32) < (5 : Int32)) hc30)).2.2.2 (by decide) (by decide) ?_
          refine XS.iload X27.here hx rfl (hb hby d3_122) rfl ?_
          exact kk)
        have CF := C15.trans (CHv.at X27 hZ hEL C15.1)
        obtain ⟨fs, hr, hrun, hended, hRW⟩ := X27.leaveW (s := s) hs15 (by first | exact hk15 | (rw [e27]; exact hk15)) (v := some (.int (bt + (2 : Int32)))) (fun h => by rw [Bd.returns] at h; cases h)
        refine ⟨_, _, hB _ (pre61 _ ?_), hrun, hended, _, _, rfl, ?_, ?_, ⟨hRW.1, hRW.2.1, hRW.2.2.1, hRW.2.2.2.mono (by decide) (by decide)⟩⟩
        · exact retI X27 hx Bd.returns (hb hby d3_124) hr
        · exact ⟨by show _ = some (Value.int (fT p1 p2 p3 p4)); rw [fT, show own_ztv p1 p2 = zt from g_zt.symm, ← g_bt, if_pos hc11, if_pos hc23, if_neg hc30], N27, (by show Ext h0 T27.heap; rw [e27]; exact EX15)⟩
        · rw [hh]; show CHr Z consts_1 s.vm h0 T27.vm T27.heap; rw [e27]; exact CF
    · have pre62 : ∀ t, SS p e below m T15 124 #[iv p1, iv p2, iv p3, iv p4, iv (bt + (1 : Int32))] [(.int (bt + (1 : Int32)))] t → B t := fun t kk => pre22 t (by
        refine XS.icmpYes X15.here hx rfl (pc0 := 39) (pc' := 54) rfl (hb hby d3_39) rfl (flt hc23).2.2.2 (by decide) (by decide) ?_
        refine XS.iloadN X15.here hx rfl (hb hby d3_54) rfl ?_
        refine XS.iconst X15.here hx rfl (hb hby d3_55) ?_
        show SS p e below m T15 56 #[iv p1, iv p2, iv p3, iv p4, iv (bt + (1 : Int32))] [(.int (2 : Int32)), (.int p3)] _
        refine XS.icmpYes X15.here hx rfl (pc0 := 56) (pc' := 71) rfl (hb hby d3_56) rfl (flt (own_mono (by decide : (1 : Int32) < (2 : Int32)) hc23)).2.2.2 (by decide) (by decide) ?_
        refine XS.iloadN X15.here hx rfl (hb hby d3_71) rfl ?_
        refine XS.iconst X15.here hx rfl (hb hby d3_72) ?_
        show SS p e below m T15 73 #[iv p1, iv p2, iv p3, iv p4, iv (bt + (1 : Int32))] [(.int (3 : Int32)), (.int p3)] _
        refine XS.icmpYes X15.here hx rfl (pc0 := 73) (pc' := 88) rfl (hb hby d3_73) rfl (flt (own_mono (by decide : (1 : Int32) < (3 : Int32)) hc23)).2.2.2 (by decide) (by decide) ?_
        refine XS.iloadN X15.here hx rfl (hb hby d3_88) rfl ?_
        refine XS.iconst X15.here hx rfl (hb hby d3_89) ?_
        show SS p e below m T15 90 #[iv p1, iv p2, iv p3, iv p4, iv (bt + (1 : Int32))] [(.int (4 : Int32)), (.int p3)] _
        refine XS.icmpYes X15.here hx rfl (pc0 := 90) (pc' := 105) rfl (hb hby d3_90) rfl (flt (own_mono (by decide : (1 : Int32) < (4 : Int32)) hc23)).2.2.2 (by decide) (by decide) ?_
        refine XS.iloadN X15.here hx rfl (hb hby d3_105) rfl ?_
        refine XS.iconst X15.here hx rfl (hb hby d3_106) ?_
        show SS p e below m T15 107 #[iv p1, iv p2, iv p3, iv p4, iv (bt + (1 : Int32))] [(.int (5 : Int32)), (.int p3)] _
        refine XS.icmpYes X15.here hx rfl (pc0 := 107) (pc' := 122) rfl (hb hby d3_107) rfl (flt (own_mono (by decide : (1 : Int32) < (5 : Int32)) hc23)).2.2.2 (by decide) (by decide) ?_
        refine XS.iload X15.here hx rfl (hb hby d3_122) rfl ?_
        exact kk)
      have CF := C15.trans (CHv.at X15 hZ hEL C15.1)
      obtain ⟨fs, hr, hrun, hended, hRW⟩ := X15.leaveW (s := s) hs15 (by first | exact hk15 | (rw [rfl]; exact hk15)) (v := some (.int (bt + (1 : Int32)))) (fun h => by rw [Bd.returns] at h; cases h)
      refine ⟨_, _, hB _ (pre62 _ ?_), hrun, hended, _, _, rfl, ?_, ?_, ⟨hRW.1, hRW.2.1, hRW.2.2.1, hRW.2.2.2.mono (by decide) (by decide)⟩⟩
      · exact retI X15 hx Bd.returns (hb hby d3_124) hr
      · exact ⟨by show _ = some (Value.int (fT p1 p2 p3 p4)); rw [fT, show own_ztv p1 p2 = zt from g_zt.symm, ← g_bt, if_pos hc11, if_neg hc23], N15, EX15⟩
      · rw [hh]; exact CF
  · have pre63 : ∀ t, SS p e below m T9 124 #[iv p1, iv p2, iv p3, iv p4, iv zt] [(.int zt)] t → B t := fun t kk => pre10 t (by
      refine XS.ifYes X9.here hx rfl (pc0 := 22) (pc' := 37) rfl (hb hby d3_22) rfl ((if0 _ _).trans (flt hc11).2.2.2) (by decide) (by decide) ?_
      refine XS.iloadN X9.here hx rfl (hb hby d3_37) rfl ?_
      refine XS.iconst X9.here hx rfl (hb hby d3_38) ?_
      show SS p e below m T9 39 #[iv p1, iv p2, iv p3, iv p4, iv zt] [(.int (1 : Int32)), (.int p3)] _
      refine XS.icmpYes X9.here hx rfl (pc0 := 39) (pc' := 54) rfl (hb hby d3_39) rfl (flt (own_mono (by decide : (0 : Int32) < (1 : Int32)) hc11)).2.2.2 (by decide) (by decide) ?_
      refine XS.iloadN X9.here hx rfl (hb hby d3_54) rfl ?_
      refine XS.iconst X9.here hx rfl (hb hby d3_55) ?_
      show SS p e below m T9 56 #[iv p1, iv p2, iv p3, iv p4, iv zt] [(.int (2 : Int32)), (.int p3)] _
      refine XS.icmpYes X9.here hx rfl (pc0 := 56) (pc' := 71) rfl (hb hby d3_56) rfl (flt (own_mono (by decide : (0 : Int32) < (2 : Int32)) hc11)).2.2.2 (by decide) (by decide) ?_
      refine XS.iloadN X9.here hx rfl (hb hby d3_71) rfl ?_
      refine XS.iconst X9.here hx rfl (hb hby d3_72) ?_
      show SS p e below m T9 73 #[iv p1, iv p2, iv p3, iv p4, iv zt] [(.int (3 : Int32)), (.int p3)] _
      refine XS.icmpYes X9.here hx rfl (pc0 := 73) (pc' := 88) rfl (hb hby d3_73) rfl (flt (own_mono (by decide : (0 : Int32) < (3 : Int32)) hc11)).2.2.2 (by decide) (by decide) ?_
      refine XS.iloadN X9.here hx rfl (hb hby d3_88) rfl ?_
      refine XS.iconst X9.here hx rfl (hb hby d3_89) ?_
      show SS p e below m T9 90 #[iv p1, iv p2, iv p3, iv p4, iv zt] [(.int (4 : Int32)), (.int p3)] _
      refine XS.icmpYes X9.here hx rfl (pc0 := 90) (pc' := 105) rfl (hb hby d3_90) rfl (flt (own_mono (by decide : (0 : Int32) < (4 : Int32)) hc11)).2.2.2 (by decide) (by decide) ?_
      refine XS.iloadN X9.here hx rfl (hb hby d3_105) rfl ?_
      refine XS.iconst X9.here hx rfl (hb hby d3_106) ?_
      show SS p e below m T9 107 #[iv p1, iv p2, iv p3, iv p4, iv zt] [(.int (5 : Int32)), (.int p3)] _
      refine XS.icmpYes X9.here hx rfl (pc0 := 107) (pc' := 122) rfl (hb hby d3_107) rfl (flt (own_mono (by decide : (0 : Int32) < (5 : Int32)) hc11)).2.2.2 (by decide) (by decide) ?_
      refine XS.iload X9.here hx rfl (hb hby d3_122) rfl ?_
      exact kk)
    have CF := C9.trans (CHv.at X9 hZ hEL C9.1)
    obtain ⟨fs, hr, hrun, hended, hRW⟩ := X9.leaveW (s := s) hS9 (by first | exact hk9 | (rw [rfl]; exact hk9)) (v := some (.int zt)) (fun h => by rw [Bd.returns] at h; cases h)
    refine ⟨_, _, hB _ (pre63 _ ?_), hrun, hended, _, _, rfl, ?_, ?_, ⟨hRW.1, hRW.2.1, hRW.2.2.1, hRW.2.2.2.mono (by decide) (by decide)⟩⟩
    · exact retI X9 hx Bd.returns (hb hby d3_124) hr
    · exact ⟨by show _ = some (Value.int (fT p1 p2 p3 p4)); rw [fT, show own_ztv p1 p2 = zt from g_zt.symm, ← g_bt, if_neg hc11], N9, EX9⟩
    · rw [hh]; exact CF
theorem own_t6 (x : Int32) : fT (56 : Int32) (0 : Int32) (6 : Int32) x = (86 : Int32) := by
  unfold fT
  decide
theorem own_lc (c lcv : Int32) (h : 0 ≤ c.toInt ∧ c.toInt ≤ 65535) (g : lcv = (if c < (65 : Int32) then c else (if (90 : Int32) < c then c else (c + (32 : Int32))))) : f15 c = lcv := by
  rw [g]
  unfold f15
  have key : ∀ z : Int32, 0 ≤ z.toInt → z.toInt ≤ 65535 → nar .char (z.toUInt32.toUInt16.toUInt32.toInt32) = z := fun z a b => by
    have q1 := c_i2c z
    have q2 := c_i2c (z.toUInt32.toUInt16.toUInt32.toInt32)
    show (z.toUInt32.toUInt16.toUInt32.toInt32).toUInt32.toUInt16.toUInt32.toInt32 = z
    exact Int32.toInt_inj.1 (by omega)
  have L65 : (65 : Int32).toInt = 65 := by decide
  have L90 : (90 : Int32).toInt = 90 := by decide
  have L97 : (97 : Int32).toInt = 97 := by decide
  have L32 : (32 : Int32).toInt = 32 := by decide
  by_cases h1 : c < (65 : Int32)
  · rw [if_pos h1, if_pos h1]; exact key c h.1 h.2
  · rw [if_neg h1, if_neg h1]
    by_cases h2 : (90 : Int32) < c
    · rw [if_pos h2, if_pos h2]; exact key c h.1 h.2
    · rw [if_neg h2, if_neg h2]
      rw [Int32.lt_iff_toInt_lt] at h1 h2
      have e1 := c_isub c (65 : Int32)
      have e2 := c_iadd (c - (65 : Int32)) (97 : Int32)
      have e3 := c_iadd c (32 : Int32)
      have r1 := rng32 (c - (65 : Int32))
      have r2 := rng32 ((c - (65 : Int32)) + (97 : Int32))
      have r3 := rng32 (c + (32 : Int32))
      have q : (c - (65 : Int32)) + (97 : Int32) = c + (32 : Int32) := Int32.toInt_inj.1 (by omega)
      rw [q]
      exact key _ (by omega) (by omega)
theorem own_ne (c : Int32) : (f18 c = (0 : Int32)) ↔ (f22 c = (0 : Int32)) := by
  unfold f18 f22 f19
  by_cases h9 : c = (9 : Int32)
  · subst h9; decide
  · by_cases h10 : c = (10 : Int32)
    · subst h10; decide
    · by_cases h12 : c = (12 : Int32)
      · subst h12; decide
      · by_cases h13 : c = (13 : Int32)
        · subst h13; decide
        · by_cases h32 : c = (32 : Int32)
          · subst h32; decide
          · by_cases h47 : c = (47 : Int32)
            · subst h47; decide
            · by_cases h62 : c = (62 : Int32)
              · subst h62; decide
              · simp only [if_neg h9, if_neg h10, if_neg h12, if_neg h13, if_neg h32, if_neg h47, if_neg h62, if_pos]
theorem own_t40 (c : Int32) : f16 (fN40 c) = if c = (60 : Int32) then (1 : Int32) else (0 : Int32) := by
  unfold fN40 f4
  by_cases h45 : c = (45 : Int32)
  · subst h45; decide
  · by_cases h60 : c = (60 : Int32)
    · subst h60; decide
    · by_cases h62 : c = (62 : Int32)
      · subst h62; decide
      · rw [if_neg h45, if_neg h60, if_neg h62, if_neg h60]; decide
theorem own_t88 (c : Int32) : f16 (fN88 c) = if c = (60 : Int32) then (1 : Int32) else (0 : Int32) := by
  unfold fN88 f20
  by_cases h45 : c = (45 : Int32)
  · subst h45; decide
  · by_cases h60 : c = (60 : Int32)
    · subst h60; decide
    · by_cases h62 : c = (62 : Int32)
      · subst h62; decide
      · rw [if_neg h45, if_neg h60, if_neg h62, if_neg h60]; decide
theorem own_nr40 (B e n c : Int32) (h : n < (6 : Int32)) (h6 : ¬ n = (6 : Int32)) : f16 (fNR40C B n c e) = if f15 c = (f6 n own_vs) then f16 ((B + n) + (1 : Int32)) else (if c = (60 : Int32) then (1 : Int32) else (0 : Int32)) := by
  unfold fNR40C
  rw [if_pos h]
  split
  · rfl
  · first | exact own_t40 c | (rw [if_neg h6]; exact own_t40 c)
theorem own_nr406 (B e c : Int32) : f16 (fNR40C B (6 : Int32) c e) = if f22 c = (0 : Int32) then (if c = (60 : Int32) then (1 : Int32) else (0 : Int32)) else f16 e := by
  unfold fNR40C
  rw [if_neg (by decide), if_pos rfl]
  by_cases q : f18 c = (0 : Int32)
  · rw [if_pos q, if_pos ((own_ne c).mp q)]; exact own_t40 c
  · rw [if_neg q, if_neg (mt (own_ne c).mpr q)]
theorem own_nr88 (B e n c : Int32) (h : n < (6 : Int32)) (h6 : ¬ n = (6 : Int32)) : f16 (fNR88C B n c e) = if f15 c = (f6 n own_vs) then f16 ((B + n) + (1 : Int32)) else (if c = (60 : Int32) then (1 : Int32) else (0 : Int32)) := by
  unfold fNR88C
  rw [if_pos h]
  split
  · rfl
  · first | exact own_t88 c | (rw [if_neg h6]; exact own_t88 c)
theorem own_nr886 (B e c : Int32) : f16 (fNR88C B (6 : Int32) c e) = if f22 c = (0 : Int32) then (if c = (60 : Int32) then (1 : Int32) else (0 : Int32)) else f16 e := by
  unfold fNR88C
  rw [if_neg (by decide), if_pos rfl]
  by_cases q : f18 c = (0 : Int32)
  · rw [if_pos q, if_pos ((own_ne c).mp q)]; exact own_t88 c
  · rw [if_neg q, if_neg (mt (own_ne c).mpr q)]
def own_R3 (cc : Int32) : Int32 := if cc = (60 : Int32) then (1 : Int32) else (0 : Int32)
def own_R2 (kq cc : Int32) : Int32 := if kq = (6 : Int32) then (if (f22 cc) = (0 : Int32) then own_R3 cc else (0 : Int32)) else own_R3 cc
def own_R1 (db sl kq cc : Int32) : Int32 := if kq = (0 : Int32) then (if sl = (0 : Int32) then (if cc = (47 : Int32) then (f17 db (1 : Int32) (0 : Int32)) else own_R2 kq cc) else own_R2 kq cc) else own_R2 kq cc

def own_svv (db sl kq : Int32) : Int32 := fT (if db = (0 : Int32) then (56 : Int32) else (88 : Int32)) sl kq (0 : Int32)
def own_b (db sl kq : Int32) : Int32 := if db = (0 : Int32) then (if sl = (0 : Int32) then (if kq = (0 : Int32) then (64 : Int32) else (80 : Int32)) else (72 : Int32)) else (if sl = (0 : Int32) then (if kq = (0 : Int32) then (112 : Int32) else (128 : Int32)) else (120 : Int32))
theorem own_k7 (k : Int32) (h : 0 ≤ k.toInt ∧ k.toInt ≤ 6) : k = (0 : Int32) ∨ k = (1 : Int32) ∨ k = (2 : Int32) ∨ k = (3 : Int32) ∨ k = (4 : Int32) ∨ k = (5 : Int32) ∨ k = (6 : Int32) := by
  simp only [← Int32.toInt_inj]
  have L0 : (0 : Int32).toInt = 0 := by decide
  have L1 : (1 : Int32).toInt = 1 := by decide
  have L2 : (2 : Int32).toInt = 2 := by decide
  have L3 : (3 : Int32).toInt = 3 := by decide
  have L4 : (4 : Int32).toInt = 4 := by decide
  have L5 : (5 : Int32).toInt = 5 := by decide
  have L6 : (6 : Int32).toInt = 6 := by decide
  omega
theorem own_sv (db sl kq x : Int32) (hdb : db = (0 : Int32) ∨ db = (1 : Int32)) (hsl : sl = (0 : Int32) ∨ sl = (1 : Int32)) (hk : kq = (0 : Int32) ∨ kq = (1 : Int32) ∨ kq = (2 : Int32) ∨ kq = (3 : Int32) ∨ kq = (4 : Int32) ∨ kq = (5 : Int32) ∨ kq = (6 : Int32)) (sv : Int32) (g : sv = own_svv db sl kq) :
    (sv - (sv % (8 : Int32))) = own_b db sl kq ∧ (sv % (8 : Int32)) = kq ∧ ¬ (kq < (0 : Int32)) ∧ ((own_b db sl kq = (64 : Int32) ∧ sv = (64 : Int32)) ∨ (own_b db sl kq = (112 : Int32) ∧ sv = (112 : Int32)) ∨ own_b db sl kq = (72 : Int32) ∨ own_b db sl kq = (80 : Int32) ∨ own_b db sl kq = (120 : Int32) ∨ own_b db sl kq = (128 : Int32)) ∧ f16 sv = f17 db sl kq := by
  subst g
  rcases hdb with rfl | rfl <;> rcases hsl with rfl | rfl <;> rcases hk with rfl | rfl | rfl | rfl | rfl | rfl | rfl <;> decide +kernel
def own_E (db sl kq cc lcv : Int32) : Int32 :=
  if kq < (6 : Int32) then (if lcv = (f6 kq own_vs) then (f17 db sl (kq + (1 : Int32))) else own_R1 db sl kq cc) else own_R1 db sl kq cc
theorem own_final (db sl kq cc lcv sv b : Int32) (hdb : db = (0 : Int32) ∨ db = (1 : Int32)) (hsl : sl = (0 : Int32) ∨ sl = (1 : Int32)) (hk : kq = (0 : Int32) ∨ kq = (1 : Int32) ∨ kq = (2 : Int32) ∨ kq = (3 : Int32) ∨ kq = (4 : Int32) ∨ kq = (5 : Int32) ∨ kq = (6 : Int32)) (hl : f15 cc = lcv) (hsv : sv = own_svv db sl kq) (hb : b = own_b db sl kq) : f16 (fNgC sv cc kq b) = own_E db sl kq cc lcv := by
  subst hsv hb
  rcases hdb with rfl | rfl <;> rcases hsl with rfl | rfl <;> rcases hk with rfl | rfl | rfl | rfl | rfl | rfl | rfl
  · by_cases q7 : cc = (47 : Int32)
    · subst q7 hl
      unfold own_E own_R1 own_R2 own_R3
      rw [if_pos (by decide : (0 : Int32) < (6 : Int32)), if_neg (by decide +kernel), if_pos (rfl : (0 : Int32) = (0 : Int32)), if_pos (rfl : (0 : Int32) = (0 : Int32)), if_pos (rfl : (47 : Int32) = (47 : Int32))]
      decide +kernel
    · have e : fNgC (own_svv (0 : Int32) (0 : Int32) (0 : Int32)) cc (0 : Int32) (own_b (0 : Int32) (0 : Int32) (0 : Int32)) = fNR40C (80 : Int32) (0 : Int32) cc (88 : Int32) := by
        show fAELC cc = _
        unfold fAELC; rw [if_neg q7]
      rw [e, own_nr40 _ _ _ _ (by decide) (by decide), hl]
      unfold own_E own_R1 own_R2 own_R3
      rw [if_pos (by decide : (0 : Int32) < (6 : Int32))]
      by_cases q : lcv = (f6 (0 : Int32) own_vs)
      · rw [if_pos q, if_pos q]; decide +kernel
      · rw [if_neg q, if_neg q, if_pos (rfl : (0 : Int32) = (0 : Int32)), if_pos (rfl : (0 : Int32) = (0 : Int32)), if_neg q7, if_neg (by decide : ¬ (0 : Int32) = (6 : Int32))]
  · show f16 (fNR40C (80 : Int32) (1 : Int32) cc (88 : Int32)) = _
    rw [own_nr40 _ _ _ _ (by decide) (by decide), hl]
    unfold own_E own_R1 own_R2 own_R3
    rw [if_pos (by decide : (1 : Int32) < (6 : Int32))]
    by_cases q : lcv = (f6 (1 : Int32) own_vs)
    · rw [if_pos q, if_pos q]; decide +kernel
    · rw [if_neg q, if_neg q, if_neg (by decide : ¬ (1 : Int32) = (0 : Int32)), if_neg (by decide : ¬ (1 : Int32) = (6 : Int32))]
  · show f16 (fNR40C (80 : Int32) (2 : Int32) cc (88 : Int32)) = _
    rw [own_nr40 _ _ _ _ (by decide) (by decide), hl]
    unfold own_E own_R1 own_R2 own_R3
    rw [if_pos (by decide : (2 : Int32) < (6 : Int32))]
    by_cases q : lcv = (f6 (2 : Int32) own_vs)
    · rw [if_pos q, if_pos q]; decide +kernel
    · rw [if_neg q, if_neg q, if_neg (by decide : ¬ (2 : Int32) = (0 : Int32)), if_neg (by decide : ¬ (2 : Int32) = (6 : Int32))]
  · show f16 (fNR40C (80 : Int32) (3 : Int32) cc (88 : Int32)) = _
    rw [own_nr40 _ _ _ _ (by decide) (by decide), hl]
    unfold own_E own_R1 own_R2 own_R3
    rw [if_pos (by decide : (3 : Int32) < (6 : Int32))]
    by_cases q : lcv = (f6 (3 : Int32) own_vs)
    · rw [if_pos q, if_pos q]; decide +kernel
    · rw [if_neg q, if_neg q, if_neg (by decide : ¬ (3 : Int32) = (0 : Int32)), if_neg (by decide : ¬ (3 : Int32) = (6 : Int32))]
  · show f16 (fNR40C (80 : Int32) (4 : Int32) cc (88 : Int32)) = _
    rw [own_nr40 _ _ _ _ (by decide) (by decide), hl]
    unfold own_E own_R1 own_R2 own_R3
    rw [if_pos (by decide : (4 : Int32) < (6 : Int32))]
    by_cases q : lcv = (f6 (4 : Int32) own_vs)
    · rw [if_pos q, if_pos q]; decide +kernel
    · rw [if_neg q, if_neg q, if_neg (by decide : ¬ (4 : Int32) = (0 : Int32)), if_neg (by decide : ¬ (4 : Int32) = (6 : Int32))]
  · show f16 (fNR40C (80 : Int32) (5 : Int32) cc (88 : Int32)) = _
    rw [own_nr40 _ _ _ _ (by decide) (by decide), hl]
    unfold own_E own_R1 own_R2 own_R3
    rw [if_pos (by decide : (5 : Int32) < (6 : Int32))]
    by_cases q : lcv = (f6 (5 : Int32) own_vs)
    · rw [if_pos q, if_pos q]; decide +kernel
    · rw [if_neg q, if_neg q, if_neg (by decide : ¬ (5 : Int32) = (0 : Int32)), if_neg (by decide : ¬ (5 : Int32) = (6 : Int32))]
  · show f16 (fNR40C (80 : Int32) (6 : Int32) cc (88 : Int32)) = _
    rw [own_nr406]
    unfold own_E own_R1 own_R2 own_R3
    rw [if_neg (by decide : ¬ (6 : Int32) < (6 : Int32)), if_neg (by decide : ¬ (6 : Int32) = (0 : Int32)), if_pos (rfl : (6 : Int32) = (6 : Int32))]
    split <;> first | rfl | decide
  · show f16 (fNR40C (72 : Int32) (0 : Int32) cc (136 : Int32)) = _
    rw [own_nr40 _ _ _ _ (by decide) (by decide), hl]
    unfold own_E own_R1 own_R2 own_R3
    rw [if_pos (by decide : (0 : Int32) < (6 : Int32))]
    by_cases q : lcv = (f6 (0 : Int32) own_vs)
    · rw [if_pos q, if_pos q]; decide +kernel
    · rw [if_neg q, if_neg q, if_pos (rfl : (0 : Int32) = (0 : Int32)), if_neg (by decide : ¬ (1 : Int32) = (0 : Int32)), if_neg (by decide : ¬ (0 : Int32) = (6 : Int32))]
  · show f16 (fNR40C (72 : Int32) (1 : Int32) cc (136 : Int32)) = _
    rw [own_nr40 _ _ _ _ (by decide) (by decide), hl]
    unfold own_E own_R1 own_R2 own_R3
    rw [if_pos (by decide : (1 : Int32) < (6 : Int32))]
    by_cases q : lcv = (f6 (1 : Int32) own_vs)
    · rw [if_pos q, if_pos q]; decide +kernel
    · rw [if_neg q, if_neg q, if_neg (by decide : ¬ (1 : Int32) = (0 : Int32)), if_neg (by decide : ¬ (1 : Int32) = (6 : Int32))]
  · show f16 (fNR40C (72 : Int32) (2 : Int32) cc (136 : Int32)) = _
    rw [own_nr40 _ _ _ _ (by decide) (by decide), hl]
    unfold own_E own_R1 own_R2 own_R3
    rw [if_pos (by decide : (2 : Int32) < (6 : Int32))]
    by_cases q : lcv = (f6 (2 : Int32) own_vs)
    · rw [if_pos q, if_pos q]; decide +kernel
    · rw [if_neg q, if_neg q, if_neg (by decide : ¬ (2 : Int32) = (0 : Int32)), if_neg (by decide : ¬ (2 : Int32) = (6 : Int32))]
  · show f16 (fNR40C (72 : Int32) (3 : Int32) cc (136 : Int32)) = _
    rw [own_nr40 _ _ _ _ (by decide) (by decide), hl]
    unfold own_E own_R1 own_R2 own_R3
    rw [if_pos (by decide : (3 : Int32) < (6 : Int32))]
    by_cases q : lcv = (f6 (3 : Int32) own_vs)
    · rw [if_pos q, if_pos q]; decide +kernel
    · rw [if_neg q, if_neg q, if_neg (by decide : ¬ (3 : Int32) = (0 : Int32)), if_neg (by decide : ¬ (3 : Int32) = (6 : Int32))]
  · show f16 (fNR40C (72 : Int32) (4 : Int32) cc (136 : Int32)) = _
    rw [own_nr40 _ _ _ _ (by decide) (by decide), hl]
    unfold own_E own_R1 own_R2 own_R3
    rw [if_pos (by decide : (4 : Int32) < (6 : Int32))]
    by_cases q : lcv = (f6 (4 : Int32) own_vs)
    · rw [if_pos q, if_pos q]; decide +kernel
    · rw [if_neg q, if_neg q, if_neg (by decide : ¬ (4 : Int32) = (0 : Int32)), if_neg (by decide : ¬ (4 : Int32) = (6 : Int32))]
  · show f16 (fNR40C (72 : Int32) (5 : Int32) cc (136 : Int32)) = _
    rw [own_nr40 _ _ _ _ (by decide) (by decide), hl]
    unfold own_E own_R1 own_R2 own_R3
    rw [if_pos (by decide : (5 : Int32) < (6 : Int32))]
    by_cases q : lcv = (f6 (5 : Int32) own_vs)
    · rw [if_pos q, if_pos q]; decide +kernel
    · rw [if_neg q, if_neg q, if_neg (by decide : ¬ (5 : Int32) = (0 : Int32)), if_neg (by decide : ¬ (5 : Int32) = (6 : Int32))]
  · show f16 (fNR40C (72 : Int32) (6 : Int32) cc (136 : Int32)) = _
    rw [own_nr406]
    unfold own_E own_R1 own_R2 own_R3
    rw [if_neg (by decide : ¬ (6 : Int32) < (6 : Int32)), if_neg (by decide : ¬ (6 : Int32) = (0 : Int32)), if_pos (rfl : (6 : Int32) = (6 : Int32))]
    split <;> first | rfl | decide
  · by_cases q7 : cc = (47 : Int32)
    · subst q7 hl
      unfold own_E own_R1 own_R2 own_R3
      rw [if_pos (by decide : (0 : Int32) < (6 : Int32)), if_neg (by decide +kernel), if_pos (rfl : (0 : Int32) = (0 : Int32)), if_pos (rfl : (0 : Int32) = (0 : Int32)), if_pos (rfl : (47 : Int32) = (47 : Int32))]
      decide +kernel
    · have e : fNgC (own_svv (1 : Int32) (0 : Int32) (0 : Int32)) cc (0 : Int32) (own_b (1 : Int32) (0 : Int32) (0 : Int32)) = fNR88C (128 : Int32) (0 : Int32) cc (88 : Int32) := by
        show fADLC cc = _
        unfold fADLC; rw [if_neg q7]
      rw [e, own_nr88 _ _ _ _ (by decide) (by decide), hl]
      unfold own_E own_R1 own_R2 own_R3
      rw [if_pos (by decide : (0 : Int32) < (6 : Int32))]
      by_cases q : lcv = (f6 (0 : Int32) own_vs)
      · rw [if_pos q, if_pos q]; decide +kernel
      · rw [if_neg q, if_neg q, if_pos (rfl : (0 : Int32) = (0 : Int32)), if_pos (rfl : (0 : Int32) = (0 : Int32)), if_neg q7, if_neg (by decide : ¬ (0 : Int32) = (6 : Int32))]
  · show f16 (fNR88C (128 : Int32) (1 : Int32) cc (88 : Int32)) = _
    rw [own_nr88 _ _ _ _ (by decide) (by decide), hl]
    unfold own_E own_R1 own_R2 own_R3
    rw [if_pos (by decide : (1 : Int32) < (6 : Int32))]
    by_cases q : lcv = (f6 (1 : Int32) own_vs)
    · rw [if_pos q, if_pos q]; decide +kernel
    · rw [if_neg q, if_neg q, if_neg (by decide : ¬ (1 : Int32) = (0 : Int32)), if_neg (by decide : ¬ (1 : Int32) = (6 : Int32))]
  · show f16 (fNR88C (128 : Int32) (2 : Int32) cc (88 : Int32)) = _
    rw [own_nr88 _ _ _ _ (by decide) (by decide), hl]
    unfold own_E own_R1 own_R2 own_R3
    rw [if_pos (by decide : (2 : Int32) < (6 : Int32))]
    by_cases q : lcv = (f6 (2 : Int32) own_vs)
    · rw [if_pos q, if_pos q]; decide +kernel
    · rw [if_neg q, if_neg q, if_neg (by decide : ¬ (2 : Int32) = (0 : Int32)), if_neg (by decide : ¬ (2 : Int32) = (6 : Int32))]
  · show f16 (fNR88C (128 : Int32) (3 : Int32) cc (88 : Int32)) = _
    rw [own_nr88 _ _ _ _ (by decide) (by decide), hl]
    unfold own_E own_R1 own_R2 own_R3
    rw [if_pos (by decide : (3 : Int32) < (6 : Int32))]
    by_cases q : lcv = (f6 (3 : Int32) own_vs)
    · rw [if_pos q, if_pos q]; decide +kernel
    · rw [if_neg q, if_neg q, if_neg (by decide : ¬ (3 : Int32) = (0 : Int32)), if_neg (by decide : ¬ (3 : Int32) = (6 : Int32))]
  · show f16 (fNR88C (128 : Int32) (4 : Int32) cc (88 : Int32)) = _
    rw [own_nr88 _ _ _ _ (by decide) (by decide), hl]
    unfold own_E own_R1 own_R2 own_R3
    rw [if_pos (by decide : (4 : Int32) < (6 : Int32))]
    by_cases q : lcv = (f6 (4 : Int32) own_vs)
    · rw [if_pos q, if_pos q]; decide +kernel
    · rw [if_neg q, if_neg q, if_neg (by decide : ¬ (4 : Int32) = (0 : Int32)), if_neg (by decide : ¬ (4 : Int32) = (6 : Int32))]
  · show f16 (fNR88C (128 : Int32) (5 : Int32) cc (88 : Int32)) = _
    rw [own_nr88 _ _ _ _ (by decide) (by decide), hl]
    unfold own_E own_R1 own_R2 own_R3
    rw [if_pos (by decide : (5 : Int32) < (6 : Int32))]
    by_cases q : lcv = (f6 (5 : Int32) own_vs)
    · rw [if_pos q, if_pos q]; decide +kernel
    · rw [if_neg q, if_neg q, if_neg (by decide : ¬ (5 : Int32) = (0 : Int32)), if_neg (by decide : ¬ (5 : Int32) = (6 : Int32))]
  · show f16 (fNR88C (128 : Int32) (6 : Int32) cc (88 : Int32)) = _
    rw [own_nr886]
    unfold own_E own_R1 own_R2 own_R3
    rw [if_neg (by decide : ¬ (6 : Int32) < (6 : Int32)), if_neg (by decide : ¬ (6 : Int32) = (0 : Int32)), if_pos (rfl : (6 : Int32) = (6 : Int32))]
    split <;> first | rfl | decide
  · show f16 (fNR88C (120 : Int32) (0 : Int32) cc (40 : Int32)) = _
    rw [own_nr88 _ _ _ _ (by decide) (by decide), hl]
    unfold own_E own_R1 own_R2 own_R3
    rw [if_pos (by decide : (0 : Int32) < (6 : Int32))]
    by_cases q : lcv = (f6 (0 : Int32) own_vs)
    · rw [if_pos q, if_pos q]; decide +kernel
    · rw [if_neg q, if_neg q, if_pos (rfl : (0 : Int32) = (0 : Int32)), if_neg (by decide : ¬ (1 : Int32) = (0 : Int32)), if_neg (by decide : ¬ (0 : Int32) = (6 : Int32))]
  · show f16 (fNR88C (120 : Int32) (1 : Int32) cc (40 : Int32)) = _
    rw [own_nr88 _ _ _ _ (by decide) (by decide), hl]
    unfold own_E own_R1 own_R2 own_R3
    rw [if_pos (by decide : (1 : Int32) < (6 : Int32))]
    by_cases q : lcv = (f6 (1 : Int32) own_vs)
    · rw [if_pos q, if_pos q]; decide +kernel
    · rw [if_neg q, if_neg q, if_neg (by decide : ¬ (1 : Int32) = (0 : Int32)), if_neg (by decide : ¬ (1 : Int32) = (6 : Int32))]
  · show f16 (fNR88C (120 : Int32) (2 : Int32) cc (40 : Int32)) = _
    rw [own_nr88 _ _ _ _ (by decide) (by decide), hl]
    unfold own_E own_R1 own_R2 own_R3
    rw [if_pos (by decide : (2 : Int32) < (6 : Int32))]
    by_cases q : lcv = (f6 (2 : Int32) own_vs)
    · rw [if_pos q, if_pos q]; decide +kernel
    · rw [if_neg q, if_neg q, if_neg (by decide : ¬ (2 : Int32) = (0 : Int32)), if_neg (by decide : ¬ (2 : Int32) = (6 : Int32))]
  · show f16 (fNR88C (120 : Int32) (3 : Int32) cc (40 : Int32)) = _
    rw [own_nr88 _ _ _ _ (by decide) (by decide), hl]
    unfold own_E own_R1 own_R2 own_R3
    rw [if_pos (by decide : (3 : Int32) < (6 : Int32))]
    by_cases q : lcv = (f6 (3 : Int32) own_vs)
    · rw [if_pos q, if_pos q]; decide +kernel
    · rw [if_neg q, if_neg q, if_neg (by decide : ¬ (3 : Int32) = (0 : Int32)), if_neg (by decide : ¬ (3 : Int32) = (6 : Int32))]
  · show f16 (fNR88C (120 : Int32) (4 : Int32) cc (40 : Int32)) = _
    rw [own_nr88 _ _ _ _ (by decide) (by decide), hl]
    unfold own_E own_R1 own_R2 own_R3
    rw [if_pos (by decide : (4 : Int32) < (6 : Int32))]
    by_cases q : lcv = (f6 (4 : Int32) own_vs)
    · rw [if_pos q, if_pos q]; decide +kernel
    · rw [if_neg q, if_neg q, if_neg (by decide : ¬ (4 : Int32) = (0 : Int32)), if_neg (by decide : ¬ (4 : Int32) = (6 : Int32))]
  · show f16 (fNR88C (120 : Int32) (5 : Int32) cc (40 : Int32)) = _
    rw [own_nr88 _ _ _ _ (by decide) (by decide), hl]
    unfold own_E own_R1 own_R2 own_R3
    rw [if_pos (by decide : (5 : Int32) < (6 : Int32))]
    by_cases q : lcv = (f6 (5 : Int32) own_vs)
    · rw [if_pos q, if_pos q]; decide +kernel
    · rw [if_neg q, if_neg q, if_neg (by decide : ¬ (5 : Int32) = (0 : Int32)), if_neg (by decide : ¬ (5 : Int32) = (6 : Int32))]
  · show f16 (fNR88C (120 : Int32) (6 : Int32) cc (40 : Int32)) = _
    rw [own_nr886]
    unfold own_E own_R1 own_R2 own_R3
    rw [if_neg (by decide : ¬ (6 : Int32) < (6 : Int32)), if_neg (by decide : ¬ (6 : Int32) = (0 : Int32)), if_pos (rfl : (6 : Int32) = (6 : Int32))]
    split <;> first | rfl | decide

theorem own_rem (x m : Int32) (M : Int) (hm : m.toInt = M) (h0 : 0 < M) : 0 ≤ ((x &&& (2147483647 : Int32)) % m).toInt ∧ ((x &&& (2147483647 : Int32)) % m).toInt < M := by
  have q : (x &&& (2147483647 : Int32)).toInt = x.toInt % 2147483648 := c_mask x 2147483647 31 (by decide) (by decide)
  have r := (c_iremV (x &&& (2147483647 : Int32)) m).1 (by omega) (by omega)
  omega
theorem own_inb (x m : Int32) (M : Int) (hm : m.toInt = M) (h0 : 0 < M) : ¬ ((x &&& (2147483647 : Int32)) % m) < 0 ∧ ((x &&& (2147483647 : Int32)) % m) < m := by
  have q := own_rem x m M hm h0
  have L0 : (0 : Int32).toInt = 0 := by decide
  rw [Int32.lt_iff_toInt_lt, Int32.lt_iff_toInt_lt]; omega
theorem own_getm (l : List Int32) (P : Int32 → Prop) (hl : ∀ z ∈ l, P z) (h0 : P 0) (k : Nat) : P (l.getD k 0) := by
  rw [List.getD_eq_getElem?_getD]
  cases h : l[k]? with
  | none => exact h0
  | some z => exact hl z (List.mem_of_getElem? h)
theorem own_ec (x : Int32) : fNgC (86 : Int32) ([(9 : Int32), (10 : Int32), (12 : Int32), (13 : Int32), (32 : Int32), (47 : Int32), (62 : Int32)].getD ((x &&& (2147483647 : Int32)) % (7 : Int32)).toNatClampNeg 0) (6 : Int32) (80 : Int32) = (88 : Int32) := by
  have r := own_rem x (7 : Int32) 7 (by decide) (by decide)
  have q : ((x &&& (2147483647 : Int32)) % (7 : Int32)).toNatClampNeg < 7 := by
    have e : ((x &&& (2147483647 : Int32)) % (7 : Int32)).toNatClampNeg = ((x &&& (2147483647 : Int32)) % (7 : Int32)).toInt.toNat := rfl
    omega
  generalize ((x &&& (2147483647 : Int32)) % (7 : Int32)).toNatClampNeg = k at q
  have key : ∀ k : Fin 7, fNgC (86 : Int32) ([(9 : Int32), (10 : Int32), (12 : Int32), (13 : Int32), (32 : Int32), (47 : Int32), (62 : Int32)].getD k.1 0) (6 : Int32) (80 : Int32) = (88 : Int32) := by decide +kernel
  exact key ⟨k, q⟩
theorem pn_0 : plainName "pithline/html/ScriptDataOpenTagLengthPinLaw" = true := by first | (simp [plainName, overriddenIn]; done) | decide +kernel
theorem pd_11 : parseMethodDescriptor "(IZII)I" = some ⟨[.int, .boolean, .int, .int], some .int⟩ := by decide +kernel
theorem pd_12 : parseMethodDescriptor "(ZZI)I" = some ⟨[.boolean, .boolean, .int], some .int⟩ := by decide +kernel
theorem ef_0 (m : MethodId) (p1 : Int32) (p2 : Int32) (p3 : Int32) (p4 : Int32) : entryFrame m #[(.int p1), (.int p2), (.int p3), (.int p4)] maxLocals = mkF m 0 #[iv p1, iv p2, iv p3, iv p4, .unset, .unset, .unset, .unset, .unset, .unset, .unset, .unset, .unset, .unset, .unset, .unset, .unset, .unset, .unset] [] := by first | (simp [entryFrame, mkF, argsToLocals, Value.category, maxLocals]; done) | rfl
set_option maxRecDepth 65536 in
set_option maxHeartbeats 40000000 in
theorem rm0 (l : Launch) (Z : State) (a0 : Array Value) (hw : ∀ d ∈ tables_1, d.before a0 Z = true) (ws : List Jvm.Cond) (p1 : Int32) (p2 : Int32) (p3 : Int32) (p4 : Int32) (cz : Int32) (fm : Value) (h0 : Heap) (n0 : Nat) (Z0 : n0 ≤ h0.size) (hEL : EW Z a0 consts_1) (XO0 : Ext Z.heap h0) (Scs : Sta Z Z.heap "java/lang/String" "COMPACT_STRINGS" "Z" (.int cz)) (hcz : ¬ (cz = (0 : Int32))) (Sfm : Sta Z Z.heap "jdk/internal/util/Preconditions" "SIOOBE_FORMATTER" "Ljava/util/function/BiFunction;" fm) (hfm : fm.isRef = true) :
    MetFree l x (head1 (Jvm.Cond.code x code maxLocals ret :: ws) room_1) (fun a U => a = #[(.int p1), (.int p2), (.int p3), (.int p4)] ∧ Z.Warmed39 U.vm ∧ U.heap = h0 ∧ CHv Z consts_1 U.vm h0) (fun _ _ _ _ _ => True) (fun _ U o U' => ∃ v L, o = .returned v ∧ QE n0 v U'.heap L ∧ CHr Z consts_1 U.vm U.heap U'.vm U'.heap ∧ ReturnedEndW U o U' L room_1.cells room_1.slots) := by
  refine MetFree.of_bodySF (plainFor_of_name pn_0) hisR ?_
  intro p e s m args below meth c s₁ Bd hml0 hP hK
  obtain ⟨rfl, hZ, hh, hCH⟩ := hP
  have hx := Bd.exec
  have hby := Bd.bytes
  have hml : c.maxLocals = 19 := hml0
  have hown : (s.setVm s.vm).vm.findClass "pithline/html/ScriptDataOpenTagLengthPinLaw" = some m.cls := findClass_of_methodNamed Bd.named
  replace hZ : Z.Warmed39 (s.setVm s.vm).vm := hZ
  have X0 : Stand p l e room_1 (s.setVm s.vm) m #[(.int p1), (.int p2), (.int p3), (.int p4)] below meth c s₁ [] 0 0 := Stand.of_body Bd
  have e0 : s₁.heap = h0 := by rw [← hh, Bd.state]; rfl
  have N0 := Fr.nil n0
  have hS0 : s.Since s.vm h0.size := (State.WarmedH.refl s).since _
  have hk0 : h0.size ≤ h0.size := Nat.le_refl _
  have C0 : CHr Z consts_1 s.vm h0 s.vm h0 := CHr.refl hCH
  have EX0 : Ext h0 h0 := ⟨Nat.le_refl _, fun _ _ q => q⟩
  obtain ⟨B, hB, pre0⟩ : ∃ B : State → Prop, (∀ t, B t → Steps p.tables e below (s₁.setTop (entryFrame m #[(.int p1), (.int p2), (.int p3), (.int p4)] maxLocals)) t) ∧ ∀ t, SS p e below m s₁ 0 #[iv p1, iv p2, iv p3, iv p4, .unset, .unset, .unset, .unset, .unset, .unset, .unset, .unset, .unset, .unset, .unset, .unset, .unset, .unset, .unset] [] t → B t := ⟨_, fun _ q => q, fun t kk => castTop (ef_0 m p1 p2 p3 p4) kk⟩
  have pre1 : ∀ t, SS p e below m s₁ 0 #[iv p1, iv p2, iv p3, iv p4, .unset, .unset, .unset, .unset, .unset, .unset, .unset, .unset, .unset, .unset, .unset, .unset, .unset, .unset, .unset] [] t → B t := fun t kk => pre0 t (by
    show SS p e below m s₁ 0 #[iv p1, iv p2, iv p3, iv p4, .unset, .unset, .unset, .unset, .unset, .unset, .unset, .unset, .unset, .unset, .unset, .unset, .unset, .unset, .unset] [] _
    exact kk)
  obtain ⟨db, g_db⟩ : ∃ z : Int32, z = (if (p1 &&& (1 : Int32)) = (0 : Int32) then (0 : Int32) else (1 : Int32)) := ⟨_, rfl⟩
  have pre2 : ∀ t, SS p e below m s₁ 11 #[iv p1, iv p2, iv p3, iv p4, .unset, .unset, .unset, .unset, .unset, .unset, .unset, .unset, .unset, .unset, .unset, .unset, .unset, .unset, .unset] [(.int db)] t → B t := by
    intro t kk
    by_cases hc4 : (p1 &&& (1 : Int32)) = (0 : Int32)
    · rw [g_db, if_pos hc4] at kk
      exact pre1 t (by
        refine XS.iloadN X0.here hx rfl (hb hby at_0) rfl ?_
        refine XS.iconst X0.here hx rfl (hb hby at_1) ?_
        refine XS.iand X0.here hx rfl (hb hby at_2) rfl ?_
        refine XS.ifYes X0.here hx rfl (pc0 := 3) (pc' := 10) rfl (hb hby at_3) rfl ((if0 _ _).trans (teq hc4).1) (by decide) (by decide) ?_
        show SS p e below m s₁ 10 #[iv p1, iv p2, iv p3, iv p4, .unset, .unset, .unset, .unset, .unset, .unset, .unset, .unset, .unset, .unset, .unset, .unset, .unset, .unset, .unset] [] _
        refine XS.iconst X0.here hx rfl (hb hby at_10) ?_
        exact kk)
    · rw [g_db, if_neg hc4] at kk
      exact pre1 t (by
        refine XS.iloadN X0.here hx rfl (hb hby at_0) rfl ?_
        refine XS.iconst X0.here hx rfl (hb hby at_1) ?_
        refine XS.iand X0.here hx rfl (hb hby at_2) rfl ?_
        refine XS.ifNo X0.here hx rfl (hb hby at_3) rfl ((if0 _ _).trans (feq hc4).1) ?_
        show SS p e below m s₁ 6 #[iv p1, iv p2, iv p3, iv p4, .unset, .unset, .unset, .unset, .unset, .unset, .unset, .unset, .unset, .unset, .unset, .unset, .unset, .unset, .unset] [] _
        refine XS.iconst X0.here hx rfl (hb hby at_6) ?_
        refine XS.goto X0.here hx rfl (pc0 := 7) (pc' := 11) rfl (hb hby at_7) (by decide) (by decide) ?_
        exact kk)
  have hdb : db = (0 : Int32) ∨ db = (1 : Int32) := by
    rw [g_db]
    split
    · exact Or.inl rfl
    · exact Or.inr rfl
  have pre5 : ∀ t, SS p e below m s₁ 13 #[iv p1, iv p2, iv p3, iv p4, iv db, .unset, .unset, .unset, .unset, .unset, .unset, .unset, .unset, .unset, .unset, .unset, .unset, .unset, .unset] [] t → B t := fun t kk => pre2 t (by
    refine XS.istore X0.here hx rfl (hb hby at_11) rfl (l' := #[iv p1, iv p2, iv p3, iv p4, iv db, .unset, .unset, .unset, .unset, .unset, .unset, .unset, .unset, .unset, .unset, .unset, .unset, .unset, .unset]) rfl ?_
    exact kk)
  obtain ⟨sl, g_sl⟩ : ∃ z : Int32, z = (if (p1 &&& (2 : Int32)) = (0 : Int32) then (0 : Int32) else (1 : Int32)) := ⟨_, rfl⟩
  have pre6 : ∀ t, SS p e below m s₁ 24 #[iv p1, iv p2, iv p3, iv p4, iv db, .unset, .unset, .unset, .unset, .unset, .unset, .unset, .unset, .unset, .unset, .unset, .unset, .unset, .unset] [(.int sl)] t → B t := by
    intro t kk
    by_cases hc8 : (p1 &&& (2 : Int32)) = (0 : Int32)
    · rw [g_sl, if_pos hc8] at kk
      exact pre5 t (by
        refine XS.iloadN X0.here hx rfl (hb hby at_13) rfl ?_
        refine XS.iconst X0.here hx rfl (hb hby at_14) ?_
        refine XS.iand X0.here hx rfl (hb hby at_15) rfl ?_
        refine XS.ifYes X0.here hx rfl (pc0 := 16) (pc' := 23) rfl (hb hby at_16) rfl ((if0 _ _).trans (teq hc8).1) (by decide) (by decide) ?_
        show SS p e below m s₁ 23 #[iv p1, iv p2, iv p3, iv p4, iv db, .unset, .unset, .unset, .unset, .unset, .unset, .unset, .unset, .unset, .unset, .unset, .unset, .unset, .unset] [] _
        refine XS.iconst X0.here hx rfl (hb hby at_23) ?_
        exact kk)
    · rw [g_sl, if_neg hc8] at kk
      exact pre5 t (by
        refine XS.iloadN X0.here hx rfl (hb hby at_13) rfl ?_
        refine XS.iconst X0.here hx rfl (hb hby at_14) ?_
        refine XS.iand X0.here hx rfl (hb hby at_15) rfl ?_
        refine XS.ifNo X0.here hx rfl (hb hby at_16) rfl ((if0 _ _).trans (feq hc8).1) ?_
        show SS p e below m s₁ 19 #[iv p1, iv p2, iv p3, iv p4, iv db, .unset, .unset, .unset, .unset, .unset, .unset, .unset, .unset, .unset, .unset, .unset, .unset, .unset, .unset] [] _
        refine XS.iconst X0.here hx rfl (hb hby at_19) ?_
        refine XS.goto X0.here hx rfl (pc0 := 20) (pc' := 24) rfl (hb hby at_20) (by decide) (by decide) ?_
        exact kk)
  have hsl : sl = (0 : Int32) ∨ sl = (1 : Int32) := by
    rw [g_sl]
    split
    · exact Or.inl rfl
    · exact Or.inr rfl
  have pre9 : ∀ t, SS p e below m s₁ 26 #[iv p1, iv p2, iv p3, iv p4, iv db, iv sl, .unset, .unset, .unset, .unset, .unset, .unset, .unset, .unset, .unset, .unset, .unset, .unset, .unset] [] t → B t := fun t kk => pre6 t (by
    refine XS.istore X0.here hx rfl (hb hby at_24) rfl (l' := #[iv p1, iv p2, iv p3, iv p4, iv db, iv sl, .unset, .unset, .unset, .unset, .unset, .unset, .unset, .unset, .unset, .unset, .unset, .unset, .unset]) rfl ?_
    exact kk)
  obtain ⟨spc, g_spc⟩ : ∃ z : Int32, z = (if (p1 &&& (4 : Int32)) = (0 : Int32) then (0 : Int32) else (1 : Int32)) := ⟨_, rfl⟩
  have pre10 : ∀ t, SS p e below m s₁ 37 #[iv p1, iv p2, iv p3, iv p4, iv db, iv sl, .unset, .unset, .unset, .unset, .unset, .unset, .unset, .unset, .unset, .unset, .unset, .unset, .unset] [(.int spc)] t → B t := by
    intro t kk
    by_cases hc12 : (p1 &&& (4 : Int32)) = (0 : Int32)
    · rw [g_spc, if_pos hc12] at kk
      exact pre9 t (by
        refine XS.iloadN X0.here hx rfl (hb hby at_26) rfl ?_
        refine XS.iconst X0.here hx rfl (hb hby at_27) ?_
        refine XS.iand X0.here hx rfl (hb hby at_28) rfl ?_
        refine XS.ifYes X0.here hx rfl (pc0 := 29) (pc' := 36) rfl (hb hby at_29) rfl ((if0 _ _).trans (teq hc12).1) (by decide) (by decide) ?_
        show SS p e below m s₁ 36 #[iv p1, iv p2, iv p3, iv p4, iv db, iv sl, .unset, .unset, .unset, .unset, .unset, .unset, .unset, .unset, .unset, .unset, .unset, .unset, .unset] [] _
        refine XS.iconst X0.here hx rfl (hb hby at_36) ?_
        exact kk)
    · rw [g_spc, if_neg hc12] at kk
      exact pre9 t (by
        refine XS.iloadN X0.here hx rfl (hb hby at_26) rfl ?_
        refine XS.iconst X0.here hx rfl (hb hby at_27) ?_
        refine XS.iand X0.here hx rfl (hb hby at_28) rfl ?_
        refine XS.ifNo X0.here hx rfl (hb hby at_29) rfl ((if0 _ _).trans (feq hc12).1) ?_
        show SS p e below m s₁ 32 #[iv p1, iv p2, iv p3, iv p4, iv db, iv sl, .unset, .unset, .unset, .unset, .unset, .unset, .unset, .unset, .unset, .unset, .unset, .unset, .unset] [] _
        refine XS.iconst X0.here hx rfl (hb hby at_32) ?_
        refine XS.goto X0.here hx rfl (pc0 := 33) (pc' := 37) rfl (hb hby at_33) (by decide) (by decide) ?_
        exact kk)
  have pre13 : ∀ t, SS p e below m s₁ 45 #[iv p1, iv p2, iv p3, iv p4, iv db, iv sl, iv spc, .unset, .unset, .unset, .unset, .unset, .unset, .unset, .unset, .unset, .unset, .unset, .unset] [(.int (((p1.toUInt32 >>> ((3 : Int32) &&& 31).toUInt32).toInt32) &&& (63 : Int32)))] t → B t := fun t kk => pre10 t (by
    refine XS.istore X0.here hx rfl (hb hby at_37) rfl (l' := #[iv p1, iv p2, iv p3, iv p4, iv db, iv sl, iv spc, .unset, .unset, .unset, .unset, .unset, .unset, .unset, .unset, .unset, .unset, .unset, .unset]) rfl ?_
    refine XS.iloadN X0.here hx rfl (hb hby at_39) rfl ?_
    refine XS.iconst X0.here hx rfl (hb hby at_40) ?_
    refine XS.iushr X0.here hx rfl (hb hby at_41) rfl ?_
    show SS p e below m s₁ 42 #[iv p1, iv p2, iv p3, iv p4, iv db, iv sl, iv spc, .unset, .unset, .unset, .unset, .unset, .unset, .unset, .unset, .unset, .unset, .unset, .unset] [(.int ((p1.toUInt32 >>> ((3 : Int32) &&& 31).toUInt32).toInt32))] _
    refine XS.bipush X0.here hx rfl (hb hby at_42) ?_
    refine XS.iand X0.here hx rfl (hb hby at_44) rfl ?_
    exact kk)
  obtain ⟨tc, g_tc⟩ : ∃ z, z = (((p1.toUInt32 >>> ((3 : Int32) &&& 31).toUInt32).toInt32) &&& (63 : Int32)) := ⟨_, rfl⟩
  rw [← g_tc] at pre13
  have pre14 : ∀ t, SS p e below m s₁ 54 #[iv p1, iv p2, iv p3, iv p4, iv db, iv sl, iv spc, iv tc, .unset, .unset, .unset, .unset, .unset, .unset, .unset, .unset, .unset, .unset, .unset] [(.int (((p1.toUInt32 >>> ((9 : Int32) &&& 31).toUInt32).toInt32) &&& (63 : Int32)))] t → B t := fun t kk => pre13 t (by
    refine XS.istore X0.here hx rfl (hb hby at_45) rfl (l' := #[iv p1, iv p2, iv p3, iv p4, iv db, iv sl, iv spc, iv tc, .unset, .unset, .unset, .unset, .unset, .unset, .unset, .unset, .unset, .unset, .unset]) rfl ?_
    refine XS.iloadN X0.here hx rfl (hb hby at_47) rfl ?_
    refine XS.bipush X0.here hx rfl (hb hby at_48) ?_
    refine XS.iushr X0.here hx rfl (hb hby at_50) rfl ?_
    show SS p e below m s₁ 51 #[iv p1, iv p2, iv p3, iv p4, iv db, iv sl, iv spc, iv tc, .unset, .unset, .unset, .unset, .unset, .unset, .unset, .unset, .unset, .unset, .unset] [(.int ((p1.toUInt32 >>> ((9 : Int32) &&& 31).toUInt32).toInt32))] _
    refine XS.bipush X0.here hx rfl (hb hby at_51) ?_
    refine XS.iand X0.here hx rfl (hb hby at_53) rfl ?_
    exact kk)
  obtain ⟨pfx, g_pfx⟩ : ∃ z, z = (((p1.toUInt32 >>> ((9 : Int32) &&& 31).toUInt32).toInt32) &&& (63 : Int32)) := ⟨_, rfl⟩
  rw [← g_pfx] at pre14
  have pre15 : ∀ t, SS p e below m s₁ 63 #[iv p1, iv p2, iv p3, iv p4, iv db, iv sl, iv spc, iv tc, iv pfx, .unset, .unset, .unset, .unset, .unset, .unset, .unset, .unset, .unset, .unset] [(.int ((p2 &&& (2147483647 : Int32)) % (7 : Int32)))] t → B t := fun t kk => pre14 t (by
    refine XS.istore X0.here hx rfl (hb hby at_54) rfl (l' := #[iv p1, iv p2, iv p3, iv p4, iv db, iv sl, iv spc, iv tc, iv pfx, .unset, .unset, .unset, .unset, .unset, .unset, .unset, .unset, .unset, .unset]) rfl ?_
    refine XS.iloadN X0.here hx rfl (hb hby at_56) rfl ?_
    refine X0.ldcInt hx hown (mvT hZ (hw _ (List.mem_of_getElem? (i := 0) rfl))) (g := (mkF m 57 #[iv p1, iv p2, iv p3, iv p4, iv db, iv sl, iv spc, iv tc, iv pfx, .unset, .unset, .unset, .unset, .unset, .unset, .unset, .unset, .unset, .unset] [(.int p2)])) rfl (hb hby at_57) _ ?_
    refine XS.iand X0.here hx rfl (hb hby at_59) rfl ?_
    show SS p e below m s₁ 60 #[iv p1, iv p2, iv p3, iv p4, iv db, iv sl, iv spc, iv tc, iv pfx, .unset, .unset, .unset, .unset, .unset, .unset, .unset, .unset, .unset, .unset] [(.int (p2 &&& (2147483647 : Int32)))] _
    refine XS.bipush X0.here hx rfl (hb hby at_60) ?_
    refine iremM (g := (mkF m 62 #[iv p1, iv p2, iv p3, iv p4, iv db, iv sl, iv spc, iv tc, iv pfx, .unset, .unset, .unset, .unset, .unset, .unset, .unset, .unset, .unset, .unset] [(.int (7 : Int32)), (.int (p2 &&& (2147483647 : Int32)))])) X0 hx rfl (hb hby at_62) rfl (by decide) ?_
    exact kk)
  obtain ⟨kq, g_kq⟩ : ∃ z, z = ((p2 &&& (2147483647 : Int32)) % (7 : Int32)) := ⟨_, rfl⟩
  rw [← g_kq] at pre15
  have hkq := own_k7 kq (by rw [g_kq]; have := own_rem p2 (7 : Int32) 7 (by decide) (by decide); omega)
  have pre16 : ∀ t, SS p e below m s₁ 67 #[iv p1, iv p2, iv p3, iv p4, iv db, iv sl, iv spc, iv tc, iv pfx, iv kq, .unset, .unset, .unset, .unset, .unset, .unset, .unset, .unset, .unset] [(.int (7 : Int32))] t → B t := fun t kk => pre15 t (by
    refine XS.istore X0.here hx rfl (hb hby at_63) rfl (l' := #[iv p1, iv p2, iv p3, iv p4, iv db, iv sl, iv spc, iv tc, iv pfx, iv kq, .unset, .unset, .unset, .unset, .unset, .unset, .unset, .unset, .unset]) rfl ?_
    refine XS.bipush X0.here hx rfl (hb hby at_65) ?_
    exact kk)
  obtain ⟨T17, h17, k17, X17, e17, E17, A17, st17⟩ := newP X0 hx hZ (hw _ (List.mem_of_getElem? (i := 1) rfl)) e0 (g := (mkF m 67 #[iv p1, iv p2, iv p3, iv p4, iv db, iv sl, iv spc, iv tc, iv pfx, iv kq, .unset, .unset, .unset, .unset, .unset, .unset, .unset, .unset, .unset] [(.int (7 : Int32))])) rfl (hb hby at_67) rfl (by decide) (cap := 7) (by decide) (by decide) (by decide) (by decide)
  obtain ⟨b17, g17⟩ : ∃ z, z = h0.size := ⟨_, rfl⟩
  rw [← g17] at A17 st17
  have V17 : Arv Z h17 b17 k17 .char (7 : Int32) [(.int (0 : Int32)), (.int (0 : Int32)), (.int (0 : Int32)), (.int (0 : Int32)), (.int (0 : Int32)), (.int (0 : Int32)), (.int (0 : Int32))] (.int (0 : Int32)) := (Arv.new A17 (by decide)).pad (pad_rep [] (.int (0 : Int32)) 7)
  have g_b17 : n0 ≤ b17 := Nat.le_trans Z0 (Nat.le_of_eq g17.symm)
  have Z17 : n0 ≤ h17.size := Nat.le_trans Z0 E17.1
  have szZ_b17 : Z.heap.size ≤ b17 := Nat.le_trans XO0.1 (Nat.le_of_eq g17.symm)
  have sz0_b17 : h0.size ≤ b17 := Nat.le_trans EX0.1 (Nat.le_of_eq g17.symm)
  have XO17 : Ext Z.heap h17 := own_ext XO0 E17
  have EX17 : Ext h0 h17 := own_ext EX0 E17
  have C17 := C0.trans (CHr.ext E17 C0.1)
  have hk17 := Nat.le_trans hk0 E17.1
  have pre18 : ∀ t, SS p e below m T17 69 #[iv p1, iv p2, iv p3, iv p4, iv db, iv sl, iv spc, iv tc, iv pfx, iv kq, .unset, .unset, .unset, .unset, .unset, .unset, .unset, .unset, .unset] [(.ref b17)] t → B t := fun t kk => pre16 t (by
    refine st17 _ ?_
    exact kk)
  obtain ⟨T34, h34, L34, X34, e34, N34, Z34, V34_0, C34, XO34, EX34, hk34, pre34⟩ : ∃ (T : State) (h : Heap) (locs : List Loc), Stand p l e room_1 (s.setVm s.vm) m #[(.int p1), (.int p2), (.int p3), (.int p4)] below meth c T locs 1 7 ∧ T.heap = h ∧ Fr n0 locs ∧ n0 ≤ h.size ∧ Arv Z h b17 k17 .char (7 : Int32) [(.int (9 : Int32)), (.int (10 : Int32)), (.int (12 : Int32)), (.int (13 : Int32)), (.int (32 : Int32)), (.int (47 : Int32)), (.int (62 : Int32))] (.int (0 : Int32)) ∧ CHr Z consts_1 s.vm h0 s.vm h ∧ Ext Z.heap h ∧ Ext h0 h ∧ h0.size ≤ h.size ∧ (∀ t, SS p e below m T 105 #[iv p1, iv p2, iv p3, iv p4, iv db, iv sl, iv spc, iv tc, iv pfx, iv kq, .unset, .unset, .unset, .unset, .unset, .unset, .unset, .unset, .unset] [(.ref b17)] t → B t) := by
    have pre19 : ∀ t, SS p e below m T17 73 #[iv p1, iv p2, iv p3, iv p4, iv db, iv sl, iv spc, iv tc, iv pfx, iv kq, .unset, .unset, .unset, .unset, .unset, .unset, .unset, .unset, .unset] [(.int (9 : Int32)), (.int (0 : Int32)), (.ref b17), (.ref b17)] t → B t := fun t kk => pre18 t (by
      refine XS.dup X17.here hx rfl (hb hby at_69) rfl rfl ?_
      refine XS.iconst X17.here hx rfl (hb hby at_70) ?_
      refine XS.bipush X17.here hx rfl (hb hby at_71) ?_
      exact kk)
    obtain ⟨cl20, Ar20, q20, S20, M20, H20, G20⟩ := V17
    have hin20 : ¬ ((0 : Int32) < 0 ∨ cl20.slots.size ≤ ((0 : Int32)).toNatClampNeg) := inb_of S20 ⟨by decide, by decide⟩
    obtain ⟨T20, h20, X20, e20, W20, st20⟩ := stC X17 hx hZ e17 Ar20 (j := (0 : Int32)) hin20 (g := (mkF m 73 #[iv p1, iv p2, iv p3, iv p4, iv db, iv sl, iv spc, iv tc, iv pfx, iv kq, .unset, .unset, .unset, .unset, .unset, .unset, .unset, .unset, .unset] [(.int (9 : Int32)), (.int (0 : Int32)), (.ref b17), (.ref b17)])) rfl rfl (hb hby at_73)
    have V20 := Arv.set Ar20 q20 S20 M20 H20 G20 (fits_nar_char _) W20 0 rfl (Nat.le_of_ble_eq_true rfl)
    have V20' : Arv Z h20 b17 k17 .char (7 : Int32) [(.int (9 : Int32)), (.int (0 : Int32)), (.int (0 : Int32)), (.int (0 : Int32)), (.int (0 : Int32)), (.int (0 : Int32)), (.int (0 : Int32))] (.int (0 : Int32)) := V20
    have XO20 : Ext Z.heap h20 := own_extw XO17 W20 szZ_b17
    have EX20 : Ext h0 h20 := own_extw EX17 W20 sz0_b17
    have C20 := C17.trans (CHr.wr W20 (Safe.arr hZ.alike Ar20 (by decide)) C17.1)
    have hk20 := Nat.le_trans hk17 (Keep.of_wr W20).1
    have N20 := Fr.snoc X20 N0 g_b17
    have Z20 : n0 ≤ h20.size := Nat.le_trans Z17 (Keep.of_wr W20).1
    have pre21 : ∀ t, SS p e below m T20 78 #[iv p1, iv p2, iv p3, iv p4, iv db, iv sl, iv spc, iv tc, iv pfx, iv kq, .unset, .unset, .unset, .unset, .unset, .unset, .unset, .unset, .unset] [(.int (10 : Int32)), (.int (1 : Int32)), (.ref b17), (.ref b17)] t → B t := fun t kk => pre19 t (by
      refine st20 _ ?_
      refine XS.dup X20.here hx rfl (hb hby at_74) rfl rfl ?_
      refine XS.iconst X20.here hx rfl (hb hby at_75) ?_
      refine XS.bipush X20.here hx rfl (hb hby at_76) ?_
      show SS p e below m T20 78 #[iv p1, iv p2, iv p3, iv p4, iv db, iv sl, iv spc, iv tc, iv pfx, iv kq, .unset, .unset, .unset, .unset, .unset, .unset, .unset, .unset, .unset] [(.int (10 : Int32)), (.int (1 : Int32)), (.ref b17), (.ref b17)] _
      exact kk)
    obtain ⟨cl22, Ar22, q22, S22, M22, H22, G22⟩ := V20'
    have hin22 : ¬ ((1 : Int32) < 0 ∨ cl22.slots.size ≤ ((1 : Int32)).toNatClampNeg) := inb_of S22 ⟨by decide, by decide⟩
    obtain ⟨T22, h22, X22, e22, W22, st22⟩ := stC X20 hx hZ e20 Ar22 (j := (1 : Int32)) hin22 (g := (mkF m 78 #[iv p1, iv p2, iv p3, iv p4, iv db, iv sl, iv spc, iv tc, iv pfx, iv kq, .unset, .unset, .unset, .unset, .unset, .unset, .unset, .unset, .unset] [(.int (10 : Int32)), (.int (1 : Int32)), (.ref b17), (.ref b17)])) rfl rfl (hb hby at_78)
    have V22 := Arv.set Ar22 q22 S22 M22 H22 G22 (fits_nar_char _) W22 1 rfl (Nat.le_of_ble_eq_true rfl)
    have V22' : Arv Z h22 b17 k17 .char (7 : Int32) [(.int (9 : Int32)), (.int (10 : Int32)), (.int (0 : Int32)), (.int (0 : Int32)), (.int (0 : Int32)), (.int (0 : Int32)), (.int (0 : Int32))] (.int (0 : Int32)) := V22
    have XO22 : Ext Z.heap h22 := own_extw XO20 W22 szZ_b17
    have EX22 : Ext h0 h22 := own_extw EX20 W22 sz0_b17
    have C22 := C20.trans (CHr.wr W22 (Safe.arr hZ.alike Ar22 (by decide)) C20.1)
    have hk22 := Nat.le_trans hk20 (Keep.of_wr W22).1
    have N22 := Fr.snoc X22 N20 g_b17
    have Z22 : n0 ≤ h22.size := Nat.le_trans Z20 (Keep.of_wr W22).1
    have pre23 : ∀ t, SS p e below m T22 83 #[iv p1, iv p2, iv p3, iv p4, iv db, iv sl, iv spc, iv tc, iv pfx, iv kq, .unset, .unset, .unset, .unset, .unset, .unset, .unset, .unset, .unset] [(.int (12 : Int32)), (.int (2 : Int32)), (.ref b17), (.ref b17)] t → B t := fun t kk => pre21 t (by
      refine st22 _ ?_
      refine XS.dup X22.here hx rfl (hb hby at_79) rfl rfl ?_
      refine XS.iconst X22.here hx rfl (hb hby at_80) ?_
      refine XS.bipush X22.here hx rfl (hb hby at_81) ?_
      show SS p e below m T22 83 #[iv p1, iv p2, iv p3, iv p4, iv db, iv sl, iv spc, iv tc, iv pfx, iv kq, .unset, .unset, .unset, .unset, .unset, .unset, .unset, .unset, .unset] [(.int (12 : Int32)), (.int (2 : Int32)), (.ref b17), (.ref b17)] _
      exact kk)
    obtain ⟨cl24, Ar24, q24, S24, M24, H24, G24⟩ := V22'
    have hin24 : ¬ ((2 : Int32) < 0 ∨ cl24.slots.size ≤ ((2 : Int32)).toNatClampNeg) := inb_of S24 ⟨by decide, by decide⟩
    obtain ⟨T24, h24, X24, e24, W24, st24⟩ := stC X22 hx hZ e22 Ar24 (j := (2 : Int32)) hin24 (g := (mkF m 83 #[iv p1, iv p2, iv p3, iv p4, iv db, iv sl, iv spc, iv tc, iv pfx, iv kq, .unset, .unset, .unset, .unset, .unset, .unset, .unset, .unset, .unset] [(.int (12 : Int32)), (.int (2 : Int32)), (.ref b17), (.ref b17)])) rfl rfl (hb hby at_83)
    have V24 := Arv.set Ar24 q24 S24 M24 H24 G24 (fits_nar_char _) W24 2 rfl (Nat.le_of_ble_eq_true rfl)
    have V24' : Arv Z h24 b17 k17 .char (7 : Int32) [(.int (9 : Int32)), (.int (10 : Int32)), (.int (12 : Int32)), (.int (0 : Int32)), (.int (0 : Int32)), (.int (0 : Int32)), (.int (0 : Int32))] (.int (0 : Int32)) := V24
    have XO24 : Ext Z.heap h24 := own_extw XO22 W24 szZ_b17
    have EX24 : Ext h0 h24 := own_extw EX22 W24 sz0_b17
    have C24 := C22.trans (CHr.wr W24 (Safe.arr hZ.alike Ar24 (by decide)) C22.1)
    have hk24 := Nat.le_trans hk22 (Keep.of_wr W24).1
    have N24 := Fr.snoc X24 N22 g_b17
    have Z24 : n0 ≤ h24.size := Nat.le_trans Z22 (Keep.of_wr W24).1
    have pre25 : ∀ t, SS p e below m T24 88 #[iv p1, iv p2, iv p3, iv p4, iv db, iv sl, iv spc, iv tc, iv pfx, iv kq, .unset, .unset, .unset, .unset, .unset, .unset, .unset, .unset, .unset] [(.int (13 : Int32)), (.int (3 : Int32)), (.ref b17), (.ref b17)] t → B t := fun t kk => pre23 t (by
      refine st24 _ ?_
      refine XS.dup X24.here hx rfl (hb hby at_84) rfl rfl ?_
      refine XS.iconst X24.here hx rfl (hb hby at_85) ?_
      refine XS.bipush X24.here hx rfl (hb hby at_86) ?_
      show SS p e below m T24 88 #[iv p1, iv p2, iv p3, iv p4, iv db, iv sl, iv spc, iv tc, iv pfx, iv kq, .unset, .unset, .unset, .unset, .unset, .unset, .unset, .unset, .unset] [(.int (13 : Int32)), (.int (3 : Int32)), (.ref b17), (.ref b17)] _
      exact kk)
    obtain ⟨cl26, Ar26, q26, S26, M26, H26, G26⟩ := V24'
    have hin26 : ¬ ((3 : Int32) < 0 ∨ cl26.slots.size ≤ ((3 : Int32)).toNatClampNeg) := inb_of S26 ⟨by decide, by decide⟩
    obtain ⟨T26, h26, X26, e26, W26, st26⟩ := stC X24 hx hZ e24 Ar26 (j := (3 : Int32)) hin26 (g := (mkF m 88 #[iv p1, iv p2, iv p3, iv p4, iv db, iv sl, iv spc, iv tc, iv pfx, iv kq, .unset, .unset, .unset, .unset, .unset, .unset, .unset, .unset, .unset] [(.int (13 : Int32)), (.int (3 : Int32)), (.ref b17), (.ref b17)])) rfl rfl (hb hby at_88)
    have V26 := Arv.set Ar26 q26 S26 M26 H26 G26 (fits_nar_char _) W26 3 rfl (Nat.le_of_ble_eq_true rfl)
    have V26' : Arv Z h26 b17 k17 .char (7 : Int32) [(.int (9 : Int32)), (.int (10 : Int32)), (.int (12 : Int32)), (.int (13 : Int32)), (.int (0 : Int32)), (.int (0 : Int32)), (.int (0 : Int32))] (.int (0 : Int32)) := V26
    have XO26 : Ext Z.heap h26 := own_extw XO24 W26 szZ_b17
    have EX26 : Ext h0 h26 := own_extw EX24 W26 sz0_b17
    have C26 := C24.trans (CHr.wr W26 (Safe.arr hZ.alike Ar26 (by decide)) C24.1)
    have hk26 := Nat.le_trans hk24 (Keep.of_wr W26).1
    have N26 := Fr.snoc X26 N24 g_b17
    have Z26 : n0 ≤ h26.size := Nat.le_trans Z24 (Keep.of_wr W26).1
    have pre27 : ∀ t, SS p e below m T26 93 #[iv p1, iv p2, iv p3, iv p4, iv db, iv sl, iv spc, iv tc, iv pfx, iv kq, .unset, .unset, .unset, .unset, .unset, .unset, .unset, .unset, .unset] [(.int (32 : Int32)), (.int (4 : Int32)), (.ref b17), (.ref b17)] t → B t := fun t kk => pre25 t (by
      refine st26 _ ?_
      refine XS.dup X26.here hx rfl (hb hby at_89) rfl rfl ?_
      refine XS.iconst X26.here hx rfl (hb hby at_90) ?_
      refine XS.bipush X26.here hx rfl (hb hby at_91) ?_
      show SS p e below m T26 93 #[iv p1, iv p2, iv p3, iv p4, iv db, iv sl, iv spc, iv tc, iv pfx, iv kq, .unset, .unset, .unset, .unset, .unset, .unset, .unset, .unset, .unset] [(.int (32 : Int32)), (.int (4 : Int32)), (.ref b17), (.ref b17)] _
      exact kk)
    obtain ⟨cl28, Ar28, q28, S28, M28, H28, G28⟩ := V26'
    have hin28 : ¬ ((4 : Int32) < 0 ∨ cl28.slots.size ≤ ((4 : Int32)).toNatClampNeg) := inb_of S28 ⟨by decide, by decide⟩
    obtain ⟨T28, h28, X28, e28, W28, st28⟩ := stC X26 hx hZ e26 Ar28 (j := (4 : Int32)) hin28 (g := (mkF m 93 #[iv p1, iv p2, iv p3, iv p4, iv db, iv sl, iv spc, iv tc, iv pfx, iv kq, .unset, .unset, .unset, .unset, .unset, .unset, .unset, .unset, .unset] [(.int (32 : Int32)), (.int (4 : Int32)), (.ref b17), (.ref b17)])) rfl rfl (hb hby at_93)
    have V28 := Arv.set Ar28 q28 S28 M28 H28 G28 (fits_nar_char _) W28 4 rfl (Nat.le_of_ble_eq_true rfl)
    have V28' : Arv Z h28 b17 k17 .char (7 : Int32) [(.int (9 : Int32)), (.int (10 : Int32)), (.int (12 : Int32)), (.int (13 : Int32)), (.int (32 : Int32)), (.int (0 : Int32)), (.int (0 : Int32))] (.int (0 : Int32)) := V28
    have XO28 : Ext Z.heap h28 := own_extw XO26 W28 szZ_b17
    have EX28 : Ext h0 h28 := own_extw EX26 W28 sz0_b17
    have C28 := C26.trans (CHr.wr W28 (Safe.arr hZ.alike Ar28 (by decide)) C26.1)
    have hk28 := Nat.le_trans hk26 (Keep.of_wr W28).1
    have N28 := Fr.snoc X28 N26 g_b17
    have Z28 : n0 ≤ h28.size := Nat.le_trans Z26 (Keep.of_wr W28).1
    have pre29 : ∀ t, SS p e below m T28 98 #[iv p1, iv p2, iv p3, iv p4, iv db, iv sl, iv spc, iv tc, iv pfx, iv kq, .unset, .unset, .unset, .unset, .unset, .unset, .unset, .unset, .unset] [(.int (47 : Int32)), (.int (5 : Int32)), (.ref b17), (.ref b17)] t → B t := fun t kk => pre27 t (by
      refine st28 _ ?_
      refine XS.dup X28.here hx rfl (hb hby at_94) rfl rfl ?_
      refine XS.iconst X28.here hx rfl (hb hby at_95) ?_
      refine XS.bipush X28.here hx rfl (hb hby at_96) ?_
      show SS p e below m T28 98 #[iv p1, iv p2, iv p3, iv p4, iv db, iv sl, iv spc, iv tc, iv pfx, iv kq, .unset, .unset, .unset, .unset, .unset, .unset, .unset, .unset, .unset] [(.int (47 : Int32)), (.int (5 : Int32)), (.ref b17), (.ref b17)] _
      exact kk)
    obtain ⟨cl30, Ar30, q30, S30, M30, H30, G30⟩ := V28'
    have hin30 : ¬ ((5 : Int32) < 0 ∨ cl30.slots.size ≤ ((5 : Int32)).toNatClampNeg) := inb_of S30 ⟨by decide, by decide⟩
    obtain ⟨T30, h30, X30, e30, W30, st30⟩ := stC X28 hx hZ e28 Ar30 (j := (5 : Int32)) hin30 (g := (mkF m 98 #[iv p1, iv p2, iv p3, iv p4, iv db, iv sl, iv spc, iv tc, iv pfx, iv kq, .unset, .unset, .unset, .unset, .unset, .unset, .unset, .unset, .unset] [(.int (47 : Int32)), (.int (5 : Int32)), (.ref b17), (.ref b17)])) rfl rfl (hb hby at_98)
    have V30 := Arv.set Ar30 q30 S30 M30 H30 G30 (fits_nar_char _) W30 5 rfl (Nat.le_of_ble_eq_true rfl)
    have V30' : Arv Z h30 b17 k17 .char (7 : Int32) [(.int (9 : Int32)), (.int (10 : Int32)), (.int (12 : Int32)), (.int (13 : Int32)), (.int (32 : Int32)), (.int (47 : Int32)), (.int (0 : Int32))] (.int (0 : Int32)) := V30
    have XO30 : Ext Z.heap h30 := own_extw XO28 W30 szZ_b17
    have EX30 : Ext h0 h30 := own_extw EX28 W30 sz0_b17
    have C30 := C28.trans (CHr.wr W30 (Safe.arr hZ.alike Ar30 (by decide)) C28.1)
    have hk30 := Nat.le_trans hk28 (Keep.of_wr W30).1
    have N30 := Fr.snoc X30 N28 g_b17
    have Z30 : n0 ≤ h30.size := Nat.le_trans Z28 (Keep.of_wr W30).1
    have pre31 : ∀ t, SS p e below m T30 104 #[iv p1, iv p2, iv p3, iv p4, iv db, iv sl, iv spc, iv tc, iv pfx, iv kq, .unset, .unset, .unset, .unset, .unset, .unset, .unset, .unset, .unset] [(.int (62 : Int32)), (.int (6 : Int32)), (.ref b17), (.ref b17)] t → B t := fun t kk => pre29 t (by
      refine st30 _ ?_
      refine XS.dup X30.here hx rfl (hb hby at_99) rfl rfl ?_
      refine XS.bipush X30.here hx rfl (hb hby at_100) ?_
      refine XS.bipush X30.here hx rfl (hb hby at_102) ?_
      show SS p e below m T30 104 #[iv p1, iv p2, iv p3, iv p4, iv db, iv sl, iv spc, iv tc, iv pfx, iv kq, .unset, .unset, .unset, .unset, .unset, .unset, .unset, .unset, .unset] [(.int (62 : Int32)), (.int (6 : Int32)), (.ref b17), (.ref b17)] _
      exact kk)
    obtain ⟨cl32, Ar32, q32, S32, M32, H32, G32⟩ := V30'
    have hin32 : ¬ ((6 : Int32) < 0 ∨ cl32.slots.size ≤ ((6 : Int32)).toNatClampNeg) := inb_of S32 ⟨by decide, by decide⟩
    obtain ⟨T32, h32, X32, e32, W32, st32⟩ := stC X30 hx hZ e30 Ar32 (j := (6 : Int32)) hin32 (g := (mkF m 104 #[iv p1, iv p2, iv p3, iv p4, iv db, iv sl, iv spc, iv tc, iv pfx, iv kq, .unset, .unset, .unset, .unset, .unset, .unset, .unset, .unset, .unset] [(.int (62 : Int32)), (.int (6 : Int32)), (.ref b17), (.ref b17)])) rfl rfl (hb hby at_104)
    have V32 := Arv.set Ar32 q32 S32 M32 H32 G32 (fits_nar_char _) W32 6 rfl (Nat.le_of_ble_eq_true rfl)
    have V32' : Arv Z h32 b17 k17 .char (7 : Int32) [(.int (9 : Int32)), (.int (10 : Int32)), (.int (12 : Int32)), (.int (13 : Int32)), (.int (32 : Int32)), (.int (47 : Int32)), (.int (62 : Int32))] (.int (0 : Int32)) := V32
    have XO32 : Ext Z.heap h32 := own_extw XO30 W32 szZ_b17
    have EX32 : Ext h0 h32 := own_extw EX30 W32 sz0_b17
    have C32 := C30.trans (CHr.wr W32 (Safe.arr hZ.alike Ar32 (by decide)) C30.1)
    have hk32 := Nat.le_trans hk30 (Keep.of_wr W32).1
    have N32 := Fr.snoc X32 N30 g_b17
    have Z32 : n0 ≤ h32.size := Nat.le_trans Z30 (Keep.of_wr W32).1
    have pre33 : ∀ t, SS p e below m T32 105 #[iv p1, iv p2, iv p3, iv p4, iv db, iv sl, iv spc, iv tc, iv pfx, iv kq, .unset, .unset, .unset, .unset, .unset, .unset, .unset, .unset, .unset] [(.ref b17)] t → B t := fun t kk => pre31 t (by
      refine st32 _ ?_
      exact kk)
    exact ⟨T32, h32, _, X32, e32, N32, Z32, V32', C32, XO32, EX32, hk32, pre33⟩
  have pre35 : ∀ t, SS p e below m T34 109 #[iv p1, iv p2, iv p3, iv p4, iv db, iv sl, iv spc, iv tc, iv pfx, iv kq, rv b17, .unset, .unset, .unset, .unset, .unset, .unset, .unset, .unset] [(.int (23 : Int32))] t → B t := fun t kk => pre34 t (by
    refine XS.astore X34.here hx rfl (hb hby at_105) rfl rfl (l' := #[iv p1, iv p2, iv p3, iv p4, iv db, iv sl, iv spc, iv tc, iv pfx, iv kq, rv b17, .unset, .unset, .unset, .unset, .unset, .unset, .unset, .unset]) rfl ?_
    refine XS.bipush X34.here hx rfl (hb hby at_107) ?_
    exact kk)
  obtain ⟨T36, h36, k36, X36, e36, E36, A36, st36⟩ := newP X34 hx hZ (hw _ (List.mem_of_getElem? (i := 1) rfl)) e34 (g := (mkF m 109 #[iv p1, iv p2, iv p3, iv p4, iv db, iv sl, iv spc, iv tc, iv pfx, iv kq, rv b17, .unset, .unset, .unset, .unset, .unset, .unset, .unset, .unset] [(.int (23 : Int32))])) rfl (hb hby at_109) rfl (by decide) (cap := 23) (by decide) (by decide) (by decide) (by decide)
  obtain ⟨b36, g36⟩ : ∃ z, z = h34.size := ⟨_, rfl⟩
  rw [← g36] at A36 st36
  have F37 := V34_0.ext E36
  have V36 : Arv Z h36 b36 k36 .char (23 : Int32) [(.int (0 : Int32)), (.int (0 : Int32)), (.int (0 : Int32)), (.int (0 : Int32)), (.int (0 : Int32)), (.int (0 : Int32)), (.int (0 : Int32)), (.int (0 : Int32)), (.int (0 : Int32)), (.int (0 : Int32)), (.int (0 : Int32)), (.int (0 : Int32)), (.int (0 : Int32)), (.int (0 : Int32)), (.int (0 : Int32)), (.int (0 : Int32)), (.int (0 : Int32)), (.int (0 : Int32)), (.int (0 : Int32)), (.int (0 : Int32)), (.int (0 : Int32)), (.int (0 : Int32)), (.int (0 : Int32))] (.int (0 : Int32)) := (Arv.new A36 (by decide)).pad (pad_rep [] (.int (0 : Int32)) 23)
  have g_b36 : n0 ≤ b36 := Nat.le_trans Z34 (Nat.le_of_eq g36.symm)
  have Z36 : n0 ≤ h36.size := Nat.le_trans Z34 E36.1
  have szZ_b36 : Z.heap.size ≤ b36 := Nat.le_trans XO34.1 (Nat.le_of_eq g36.symm)
  have sz0_b36 : h0.size ≤ b36 := Nat.le_trans EX34.1 (Nat.le_of_eq g36.symm)
  have XO36 : Ext Z.heap h36 := own_ext XO34 E36
  have EX36 : Ext h0 h36 := own_ext EX34 E36
  have C36 := C34.trans (CHr.ext E36 C34.1)
  have hk36 := Nat.le_trans hk34 E36.1
  have pre38 : ∀ t, SS p e below m T36 111 #[iv p1, iv p2, iv p3, iv p4, iv db, iv sl, iv spc, iv tc, iv pfx, iv kq, rv b17, .unset, .unset, .unset, .unset, .unset, .unset, .unset, .unset] [(.ref b36)] t → B t := fun t kk => pre35 t (by
    refine st36 _ ?_
    exact kk)
  have nearr : b17 ≠ b36 := Nat.ne_of_lt (Nat.lt_of_lt_of_le V34_0.lt (Nat.le_of_eq g36.symm))
  obtain ⟨T64, h64, L64, X64, e64, N64, Z64, V64_0, V64_1, C64, XO64, EX64, hk64, pre64⟩ : ∃ (T : State) (h : Heap) (locs : List Loc), Stand p l e room_1 (s.setVm s.vm) m #[(.int p1), (.int p2), (.int p3), (.int p4)] below meth c T locs 2 30 ∧ T.heap = h ∧ Fr n0 locs ∧ n0 ≤ h.size ∧ Arv Z h b17 k17 .char (7 : Int32) [(.int (9 : Int32)), (.int (10 : Int32)), (.int (12 : Int32)), (.int (13 : Int32)), (.int (32 : Int32)), (.int (47 : Int32)), (.int (62 : Int32))] (.int (0 : Int32)) ∧ Arv Z h b36 k36 .char (23 : Int32) [(.int (60 : Int32)), (.int (47 : Int32)), (.int (45 : Int32)), (.int (62 : Int32)), (.int (32 : Int32)), (.int (9 : Int32)), (.int (10 : Int32)), (.int (12 : Int32)), (.int (0 : Int32)), (.int (0 : Int32)), (.int (0 : Int32)), (.int (0 : Int32)), (.int (0 : Int32)), (.int (0 : Int32)), (.int (0 : Int32)), (.int (0 : Int32)), (.int (0 : Int32)), (.int (0 : Int32)), (.int (0 : Int32)), (.int (0 : Int32)), (.int (0 : Int32)), (.int (0 : Int32)), (.int (0 : Int32))] (.int (0 : Int32)) ∧ CHr Z consts_1 s.vm h0 s.vm h ∧ Ext Z.heap h ∧ Ext h0 h ∧ h0.size ≤ h.size ∧ (∀ t, SS p e below m T 153 #[iv p1, iv p2, iv p3, iv p4, iv db, iv sl, iv spc, iv tc, iv pfx, iv kq, rv b17, .unset, .unset, .unset, .unset, .unset, .unset, .unset, .unset] [(.ref b36)] t → B t) := by
    have pre39 : ∀ t, SS p e below m T36 115 #[iv p1, iv p2, iv p3, iv p4, iv db, iv sl, iv spc, iv tc, iv pfx, iv kq, rv b17, .unset, .unset, .unset, .unset, .unset, .unset, .unset, .unset] [(.int (60 : Int32)), (.int (0 : Int32)), (.ref b36), (.ref b36)] t → B t := fun t kk => pre38 t (by
      refine XS.dup X36.here hx rfl (hb hby at_111) rfl rfl ?_
      refine XS.iconst X36.here hx rfl (hb hby at_112) ?_
      refine XS.bipush X36.here hx rfl (hb hby at_113) ?_
      exact kk)
    obtain ⟨cl40, Ar40, q40, S40, M40, H40, G40⟩ := V36
    have hin40 : ¬ ((0 : Int32) < 0 ∨ cl40.slots.size ≤ ((0 : Int32)).toNatClampNeg) := inb_of S40 ⟨by decide, by decide⟩
    obtain ⟨T40, h40, X40, e40, W40, st40⟩ := stC X36 hx hZ e36 Ar40 (j := (0 : Int32)) hin40 (g := (mkF m 115 #[iv p1, iv p2, iv p3, iv p4, iv db, iv sl, iv spc, iv tc, iv pfx, iv kq, rv b17, .unset, .unset, .unset, .unset, .unset, .unset, .unset, .unset] [(.int (60 : Int32)), (.int (0 : Int32)), (.ref b36), (.ref b36)])) rfl rfl (hb hby at_115)
    have V40 := Arv.set Ar40 q40 S40 M40 H40 G40 (fits_nar_char _) W40 0 rfl (Nat.le_of_ble_eq_true rfl)
    have V40' : Arv Z h40 b36 k36 .char (23 : Int32) [(.int (60 : Int32)), (.int (0 : Int32)), (.int (0 : Int32)), (.int (0 : Int32)), (.int (0 : Int32)), (.int (0 : Int32)), (.int (0 : Int32)), (.int (0 : Int32)), (.int (0 : Int32)), (.int (0 : Int32)), (.int (0 : Int32)), (.int (0 : Int32)), (.int (0 : Int32)), (.int (0 : Int32)), (.int (0 : Int32)), (.int (0 : Int32)), (.int (0 : Int32)), (.int (0 : Int32)), (.int (0 : Int32)), (.int (0 : Int32)), (.int (0 : Int32)), (.int (0 : Int32)), (.int (0 : Int32))] (.int (0 : Int32)) := V40
    have XO40 : Ext Z.heap h40 := own_extw XO36 W40 szZ_b36
    have EX40 : Ext h0 h40 := own_extw EX36 W40 sz0_b36
    have C40 := C36.trans (CHr.wr W40 (Safe.arr hZ.alike Ar40 (by decide)) C36.1)
    have hk40 := Nat.le_trans hk36 (Keep.of_wr W40).1
    have F41 := F37.other W40 nearr
    have N40 := Fr.snoc X40 N34 g_b36
    have Z40 : n0 ≤ h40.size := Nat.le_trans Z36 (Keep.of_wr W40).1
    have pre42 : ∀ t, SS p e below m T40 120 #[iv p1, iv p2, iv p3, iv p4, iv db, iv sl, iv spc, iv tc, iv pfx, iv kq, rv b17, .unset, .unset, .unset, .unset, .unset, .unset, .unset, .unset] [(.int (47 : Int32)), (.int (1 : Int32)), (.ref b36), (.ref b36)] t → B t := fun t kk => pre39 t (by
      refine st40 _ ?_
      refine XS.dup X40.here hx rfl (hb hby at_116) rfl rfl ?_
      refine XS.iconst X40.here hx rfl (hb hby at_117) ?_
      refine XS.bipush X40.here hx rfl (hb hby at_118) ?_
      show SS p e below m T40 120 #[iv p1, iv p2, iv p3, iv p4, iv db, iv sl, iv spc, iv tc, iv pfx, iv kq, rv b17, .unset, .unset, .unset, .unset, .unset, .unset, .unset, .unset] [(.int (47 : Int32)), (.int (1 : Int32)), (.ref b36), (.ref b36)] _
      exact kk)
    obtain ⟨cl43, Ar43, q43, S43, M43, H43, G43⟩ := V40'
    have hin43 : ¬ ((1 : Int32) < 0 ∨ cl43.slots.size ≤ ((1 : Int32)).toNatClampNeg) := inb_of S43 ⟨by decide, by decide⟩
    obtain ⟨T43, h43, X43, e43, W43, st43⟩ := stC X40 hx hZ e40 Ar43 (j := (1 : Int32)) hin43 (g := (mkF m 120 #[iv p1, iv p2, iv p3, iv p4, iv db, iv sl, iv spc, iv tc, iv pfx, iv kq, rv b17, .unset, .unset, .unset, .unset, .unset, .unset, .unset, .unset] [(.int (47 : Int32)), (.int (1 : Int32)), (.ref b36), (.ref b36)])) rfl rfl (hb hby at_120)
    have V43 := Arv.set Ar43 q43 S43 M43 H43 G43 (fits_nar_char _) W43 1 rfl (Nat.le_of_ble_eq_true rfl)
    have V43' : Arv Z h43 b36 k36 .char (23 : Int32) [(.int (60 : Int32)), (.int (47 : Int32)), (.int (0 : Int32)), (.int (0 : Int32)), (.int (0 : Int32)), (.int (0 : Int32)), (.int (0 : Int32)), (.int (0 : Int32)), (.int (0 : Int32)), (.int (0 : Int32)), (.int (0 : Int32)), (.int (0 : Int32)), (.int (0 : Int32)), (.int (0 : Int32)), (.int (0 : Int32)), (.int (0 : Int32)), (.int (0 : Int32)), (.int (0 : Int32)), (.int (0 : Int32)), (.int (0 : Int32)), (.int (0 : Int32)), (.int (0 : Int32)), (.int (0 : Int32))] (.int (0 : Int32)) := V43
    have XO43 : Ext Z.heap h43 := own_extw XO40 W43 szZ_b36
    have EX43 : Ext h0 h43 := own_extw EX40 W43 sz0_b36
    have C43 := C40.trans (CHr.wr W43 (Safe.arr hZ.alike Ar43 (by decide)) C40.1)
    have hk43 := Nat.le_trans hk40 (Keep.of_wr W43).1
    have F44 := F41.other W43 nearr
    have N43 := Fr.snoc X43 N40 g_b36
    have Z43 : n0 ≤ h43.size := Nat.le_trans Z40 (Keep.of_wr W43).1
    have pre45 : ∀ t, SS p e below m T43 125 #[iv p1, iv p2, iv p3, iv p4, iv db, iv sl, iv spc, iv tc, iv pfx, iv kq, rv b17, .unset, .unset, .unset, .unset, .unset, .unset, .unset, .unset] [(.int (45 : Int32)), (.int (2 : Int32)), (.ref b36), (.ref b36)] t → B t := fun t kk => pre42 t (by
      refine st43 _ ?_
      refine XS.dup X43.here hx rfl (hb hby at_121) rfl rfl ?_
      refine XS.iconst X43.here hx rfl (hb hby at_122) ?_
      refine XS.bipush X43.here hx rfl (hb hby at_123) ?_
      show SS p e below m T43 125 #[iv p1, iv p2, iv p3, iv p4, iv db, iv sl, iv spc, iv tc, iv pfx, iv kq, rv b17, .unset, .unset, .unset, .unset, .unset, .unset, .unset, .unset] [(.int (45 : Int32)), (.int (2 : Int32)), (.ref b36), (.ref b36)] _
      exact kk)
    obtain ⟨cl46, Ar46, q46, S46, M46, H46, G46⟩ := V43'
    have hin46 : ¬ ((2 : Int32) < 0 ∨ cl46.slots.size ≤ ((2 : Int32)).toNatClampNeg) := inb_of S46 ⟨by decide, by decide⟩
    obtain ⟨T46, h46, X46, e46, W46, st46⟩ := stC X43 hx hZ e43 Ar46 (j := (2 : Int32)) hin46 (g := (mkF m 125 #[iv p1, iv p2, iv p3, iv p4, iv db, iv sl, iv spc, iv tc, iv pfx, iv kq, rv b17, .unset, .unset, .unset, .unset, .unset, .unset, .unset, .unset] [(.int (45 : Int32)), (.int (2 : Int32)), (.ref b36), (.ref b36)])) rfl rfl (hb hby at_125)
    have V46 := Arv.set Ar46 q46 S46 M46 H46 G46 (fits_nar_char _) W46 2 rfl (Nat.le_of_ble_eq_true rfl)
    have V46' : Arv Z h46 b36 k36 .char (23 : Int32) [(.int (60 : Int32)), (.int (47 : Int32)), (.int (45 : Int32)), (.int (0 : Int32)), (.int (0 : Int32)), (.int (0 : Int32)), (.int (0 : Int32)), (.int (0 : Int32)), (.int (0 : Int32)), (.int (0 : Int32)), (.int (0 : Int32)), (.int (0 : Int32)), (.int (0 : Int32)), (.int (0 : Int32)), (.int (0 : Int32)), (.int (0 : Int32)), (.int (0 : Int32)), (.int (0 : Int32)), (.int (0 : Int32)), (.int (0 : Int32)), (.int (0 : Int32)), (.int (0 : Int32)), (.int (0 : Int32))] (.int (0 : Int32)) := V46
    have XO46 : Ext Z.heap h46 := own_extw XO43 W46 szZ_b36
    have EX46 : Ext h0 h46 := own_extw EX43 W46 sz0_b36
    have C46 := C43.trans (CHr.wr W46 (Safe.arr hZ.alike Ar46 (by decide)) C43.1)
    have hk46 := Nat.le_trans hk43 (Keep.of_wr W46).1
    have F47 := F44.other W46 nearr
    have N46 := Fr.snoc X46 N43 g_b36
    have Z46 : n0 ≤ h46.size := Nat.le_trans Z43 (Keep.of_wr W46).1
    have pre48 : ∀ t, SS p e below m T46 130 #[iv p1, iv p2, iv p3, iv p4, iv db, iv sl, iv spc, iv tc, iv pfx, iv kq, rv b17, .unset, .unset, .unset, .unset, .unset, .unset, .unset, .unset] [(.int (62 : Int32)), (.int (3 : Int32)), (.ref b36), (.ref b36)] t → B t := fun t kk => pre45 t (by
      refine st46 _ ?_
      refine XS.dup X46.here hx rfl (hb hby at_126) rfl rfl ?_
      refine XS.iconst X46.here hx rfl (hb hby at_127) ?_
      refine XS.bipush X46.here hx rfl (hb hby at_128) ?_
      show SS p e below m T46 130 #[iv p1, iv p2, iv p3, iv p4, iv db, iv sl, iv spc, iv tc, iv pfx, iv kq, rv b17, .unset, .unset, .unset, .unset, .unset, .unset, .unset, .unset] [(.int (62 : Int32)), (.int (3 : Int32)), (.ref b36), (.ref b36)] _
      exact kk)
    obtain ⟨cl49, Ar49, q49, S49, M49, H49, G49⟩ := V46'
    have hin49 : ¬ ((3 : Int32) < 0 ∨ cl49.slots.size ≤ ((3 : Int32)).toNatClampNeg) := inb_of S49 ⟨by decide, by decide⟩
    obtain ⟨T49, h49, X49, e49, W49, st49⟩ := stC X46 hx hZ e46 Ar49 (j := (3 : Int32)) hin49 (g := (mkF m 130 #[iv p1, iv p2, iv p3, iv p4, iv db, iv sl, iv spc, iv tc, iv pfx, iv kq, rv b17, .unset, .unset, .unset, .unset, .unset, .unset, .unset, .unset] [(.int (62 : Int32)), (.int (3 : Int32)), (.ref b36), (.ref b36)])) rfl rfl (hb hby at_130)
    have V49 := Arv.set Ar49 q49 S49 M49 H49 G49 (fits_nar_char _) W49 3 rfl (Nat.le_of_ble_eq_true rfl)
    have V49' : Arv Z h49 b36 k36 .char (23 : Int32) [(.int (60 : Int32)), (.int (47 : Int32)), (.int (45 : Int32)), (.int (62 : Int32)), (.int (0 : Int32)), (.int (0 : Int32)), (.int (0 : Int32)), (.int (0 : Int32)), (.int (0 : Int32)), (.int (0 : Int32)), (.int (0 : Int32)), (.int (0 : Int32)), (.int (0 : Int32)), (.int (0 : Int32)), (.int (0 : Int32)), (.int (0 : Int32)), (.int (0 : Int32)), (.int (0 : Int32)), (.int (0 : Int32)), (.int (0 : Int32)), (.int (0 : Int32)), (.int (0 : Int32)), (.int (0 : Int32))] (.int (0 : Int32)) := V49
    have XO49 : Ext Z.heap h49 := own_extw XO46 W49 szZ_b36
    have EX49 : Ext h0 h49 := own_extw EX46 W49 sz0_b36
    have C49 := C46.trans (CHr.wr W49 (Safe.arr hZ.alike Ar49 (by decide)) C46.1)
    have hk49 := Nat.le_trans hk46 (Keep.of_wr W49).1
    have F50 := F47.other W49 nearr
    have N49 := Fr.snoc X49 N46 g_b36
    have Z49 : n0 ≤ h49.size := Nat.le_trans Z46 (Keep.of_wr W49).1
    have pre51 : ∀ t, SS p e below m T49 135 #[iv p1, iv p2, iv p3, iv p4, iv db, iv sl, iv spc, iv tc, iv pfx, iv kq, rv b17, .unset, .unset, .unset, .unset, .unset, .unset, .unset, .unset] [(.int (32 : Int32)), (.int (4 : Int32)), (.ref b36), (.ref b36)] t → B t := fun t kk => pre48 t (by
      refine st49 _ ?_
      refine XS.dup X49.here hx rfl (hb hby at_131) rfl rfl ?_
      refine XS.iconst X49.here hx rfl (hb hby at_132) ?_
      refine XS.bipush X49.here hx rfl (hb hby at_133) ?_
      show SS p e below m T49 135 #[iv p1, iv p2, iv p3, iv p4, iv db, iv sl, iv spc, iv tc, iv pfx, iv kq, rv b17, .unset, .unset, .unset, .unset, .unset, .unset, .unset, .unset] [(.int (32 : Int32)), (.int (4 : Int32)), (.ref b36), (.ref b36)] _
      exact kk)
    obtain ⟨cl52, Ar52, q52, S52, M52, H52, G52⟩ := V49'
    have hin52 : ¬ ((4 : Int32) < 0 ∨ cl52.slots.size ≤ ((4 : Int32)).toNatClampNeg) := inb_of S52 ⟨by decide, by decide⟩
    obtain ⟨T52, h52, X52, e52, W52, st52⟩ := stC X49 hx hZ e49 Ar52 (j := (4 : Int32)) hin52 (g := (mkF m 135 #[iv p1, iv p2, iv p3, iv p4, iv db, iv sl, iv spc, iv tc, iv pfx, iv kq, rv b17, .unset, .unset, .unset, .unset, .unset, .unset, .unset, .unset] [(.int (32 : Int32)), (.int (4 : Int32)), (.ref b36), (.ref b36)])) rfl rfl (hb hby at_135)
    have V52 := Arv.set Ar52 q52 S52 M52 H52 G52 (fits_nar_char _) W52 4 rfl (Nat.le_of_ble_eq_true rfl)
    have V52' : Arv Z h52 b36 k36 .char (23 : Int32) [(.int (60 : Int32)), (.int (47 : Int32)), (.int (45 : Int32)), (.int (62 : Int32)), (.int (32 : Int32)), (.int (0 : Int32)), (.int (0 : Int32)), (.int (0 : Int32)), (.int (0 : Int32)), (.int (0 : Int32)), (.int (0 : Int32)), (.int (0 : Int32)), (.int (0 : Int32)), (.int (0 : Int32)), (.int (0 : Int32)), (.int (0 : Int32)), (.int (0 : Int32)), (.int (0 : Int32)), (.int (0 : Int32)), (.int (0 : Int32)), (.int (0 : Int32)), (.int (0 : Int32)), (.int (0 : Int32))] (.int (0 : Int32)) := V52
    have XO52 : Ext Z.heap h52 := own_extw XO49 W52 szZ_b36
    have EX52 : Ext h0 h52 := own_extw EX49 W52 sz0_b36
    have C52 := C49.trans (CHr.wr W52 (Safe.arr hZ.alike Ar52 (by decide)) C49.1)
    have hk52 := Nat.le_trans hk49 (Keep.of_wr W52).1
    have F53 := F50.other W52 nearr
    have N52 := Fr.snoc X52 N49 g_b36
    have Z52 : n0 ≤ h52.size := Nat.le_trans Z49 (Keep.of_wr W52).1
    have pre54 : ∀ t, SS p e below m T52 140 #[iv p1, iv p2, iv p3, iv p4, iv db, iv sl, iv spc, iv tc, iv pfx, iv kq, rv b17, .unset, .unset, .unset, .unset, .unset, .unset, .unset, .unset] [(.int (9 : Int32)), (.int (5 : Int32)), (.ref b36), (.ref b36)] t → B t := fun t kk => pre51 t (by
      refine st52 _ ?_
      refine XS.dup X52.here hx rfl (hb hby at_136) rfl rfl ?_
      refine XS.iconst X52.here hx rfl (hb hby at_137) ?_
      refine XS.bipush X52.here hx rfl (hb hby at_138) ?_
      show SS p e below m T52 140 #[iv p1, iv p2, iv p3, iv p4, iv db, iv sl, iv spc, iv tc, iv pfx, iv kq, rv b17, .unset, .unset, .unset, .unset, .unset, .unset, .unset, .unset] [(.int (9 : Int32)), (.int (5 : Int32)), (.ref b36), (.ref b36)] _
      exact kk)
    obtain ⟨cl55, Ar55, q55, S55, M55, H55, G55⟩ := V52'
    have hin55 : ¬ ((5 : Int32) < 0 ∨ cl55.slots.size ≤ ((5 : Int32)).toNatClampNeg) := inb_of S55 ⟨by decide, by decide⟩
    obtain ⟨T55, h55, X55, e55, W55, st55⟩ := stC X52 hx hZ e52 Ar55 (j := (5 : Int32)) hin55 (g := (mkF m 140 #[iv p1, iv p2, iv p3, iv p4, iv db, iv sl, iv spc, iv tc, iv pfx, iv kq, rv b17, .unset, .unset, .unset, .unset, .unset, .unset, .unset, .unset] [(.int (9 : Int32)), (.int (5 : Int32)), (.ref b36), (.ref b36)])) rfl rfl (hb hby at_140)
    have V55 := Arv.set Ar55 q55 S55 M55 H55 G55 (fits_nar_char _) W55 5 rfl (Nat.le_of_ble_eq_true rfl)
    have V55' : Arv Z h55 b36 k36 .char (23 : Int32) [(.int (60 : Int32)), (.int (47 : Int32)), (.int (45 : Int32)), (.int (62 : Int32)), (.int (32 : Int32)), (.int (9 : Int32)), (.int (0 : Int32)), (.int (0 : Int32)), (.int (0 : Int32)), (.int (0 : Int32)), (.int (0 : Int32)), (.int (0 : Int32)), (.int (0 : Int32)), (.int (0 : Int32)), (.int (0 : Int32)), (.int (0 : Int32)), (.int (0 : Int32)), (.int (0 : Int32)), (.int (0 : Int32)), (.int (0 : Int32)), (.int (0 : Int32)), (.int (0 : Int32)), (.int (0 : Int32))] (.int (0 : Int32)) := V55
    have XO55 : Ext Z.heap h55 := own_extw XO52 W55 szZ_b36
    have EX55 : Ext h0 h55 := own_extw EX52 W55 sz0_b36
    have C55 := C52.trans (CHr.wr W55 (Safe.arr hZ.alike Ar55 (by decide)) C52.1)
    have hk55 := Nat.le_trans hk52 (Keep.of_wr W55).1
    have F56 := F53.other W55 nearr
    have N55 := Fr.snoc X55 N52 g_b36
    have Z55 : n0 ≤ h55.size := Nat.le_trans Z52 (Keep.of_wr W55).1
    have pre57 : ∀ t, SS p e below m T55 146 #[iv p1, iv p2, iv p3, iv p4, iv db, iv sl, iv spc, iv tc, iv pfx, iv kq, rv b17, .unset, .unset, .unset, .unset, .unset, .unset, .unset, .unset] [(.int (10 : Int32)), (.int (6 : Int32)), (.ref b36), (.ref b36)] t → B t := fun t kk => pre54 t (by
      refine st55 _ ?_
      refine XS.dup X55.here hx rfl (hb hby at_141) rfl rfl ?_
      refine XS.bipush X55.here hx rfl (hb hby at_142) ?_
      refine XS.bipush X55.here hx rfl (hb hby at_144) ?_
      show SS p e below m T55 146 #[iv p1, iv p2, iv p3, iv p4, iv db, iv sl, iv spc, iv tc, iv pfx, iv kq, rv b17, .unset, .unset, .unset, .unset, .unset, .unset, .unset, .unset] [(.int (10 : Int32)), (.int (6 : Int32)), (.ref b36), (.ref b36)] _
      exact kk)
    obtain ⟨cl58, Ar58, q58, S58, M58, H58, G58⟩ := V55'
    have hin58 : ¬ ((6 : Int32) < 0 ∨ cl58.slots.size ≤ ((6 : Int32)).toNatClampNeg) := inb_of S58 ⟨by decide, by decide⟩
    obtain ⟨T58, h58, X58, e58, W58, st58⟩ := stC X55 hx hZ e55 Ar58 (j := (6 : Int32)) hin58 (g := (mkF m 146 #[iv p1, iv p2, iv p3, iv p4, iv db, iv sl, iv spc, iv tc, iv pfx, iv kq, rv b17, .unset, .unset, .unset, .unset, .unset, .unset, .unset, .unset] [(.int (10 : Int32)), (.int (6 : Int32)), (.ref b36), (.ref b36)])) rfl rfl (hb hby at_146)
    have V58 := Arv.set Ar58 q58 S58 M58 H58 G58 (fits_nar_char _) W58 6 rfl (Nat.le_of_ble_eq_true rfl)
    have V58' : Arv Z h58 b36 k36 .char (23 : Int32) [(.int (60 : Int32)), (.int (47 : Int32)), (.int (45 : Int32)), (.int (62 : Int32)), (.int (32 : Int32)), (.int (9 : Int32)), (.int (10 : Int32)), (.int (0 : Int32)), (.int (0 : Int32)), (.int (0 : Int32)), (.int (0 : Int32)), (.int (0 : Int32)), (.int (0 : Int32)), (.int (0 : Int32)), (.int (0 : Int32)), (.int (0 : Int32)), (.int (0 : Int32)), (.int (0 : Int32)), (.int (0 : Int32)), (.int (0 : Int32)), (.int (0 : Int32)), (.int (0 : Int32)), (.int (0 : Int32))] (.int (0 : Int32)) := V58
    have XO58 : Ext Z.heap h58 := own_extw XO55 W58 szZ_b36
    have EX58 : Ext h0 h58 := own_extw EX55 W58 sz0_b36
    have C58 := C55.trans (CHr.wr W58 (Safe.arr hZ.alike Ar58 (by decide)) C55.1)
    have hk58 := Nat.le_trans hk55 (Keep.of_wr W58).1
    have F59 := F56.other W58 nearr
    have N58 := Fr.snoc X58 N55 g_b36
    have Z58 : n0 ≤ h58.size := Nat.le_trans Z55 (Keep.of_wr W58).1
    have pre60 : ∀ t, SS p e below m T58 152 #[iv p1, iv p2, iv p3, iv p4, iv db, iv sl, iv spc, iv tc, iv pfx, iv kq, rv b17, .unset, .unset, .unset, .unset, .unset, .unset, .unset, .unset] [(.int (12 : Int32)), (.int (7 : Int32)), (.ref b36), (.ref b36)] t → B t := fun t kk => pre57 t (by
      refine st58 _ ?_
      refine XS.dup X58.here hx rfl (hb hby at_147) rfl rfl ?_
      refine XS.bipush X58.here hx rfl (hb hby at_148) ?_
      refine XS.bipush X58.here hx rfl (hb hby at_150) ?_
      show SS p e below m T58 152 #[iv p1, iv p2, iv p3, iv p4, iv db, iv sl, iv spc, iv tc, iv pfx, iv kq, rv b17, .unset, .unset, .unset, .unset, .unset, .unset, .unset, .unset] [(.int (12 : Int32)), (.int (7 : Int32)), (.ref b36), (.ref b36)] _
      exact kk)
    obtain ⟨cl61, Ar61, q61, S61, M61, H61, G61⟩ := V58'
    have hin61 : ¬ ((7 : Int32) < 0 ∨ cl61.slots.size ≤ ((7 : Int32)).toNatClampNeg) := inb_of S61 ⟨by decide, by decide⟩
    obtain ⟨T61, h61, X61, e61, W61, st61⟩ := stC X58 hx hZ e58 Ar61 (j := (7 : Int32)) hin61 (g := (mkF m 152 #[iv p1, iv p2, iv p3, iv p4, iv db, iv sl, iv spc, iv tc, iv pfx, iv kq, rv b17, .unset, .unset, .unset, .unset, .unset, .unset, .unset, .unset] [(.int (12 : Int32)), (.int (7 : Int32)), (.ref b36), (.ref b36)])) rfl rfl (hb hby at_152)
    have V61 := Arv.set Ar61 q61 S61 M61 H61 G61 (fits_nar_char _) W61 7 rfl (Nat.le_of_ble_eq_true rfl)
    have V61' : Arv Z h61 b36 k36 .char (23 : Int32) [(.int (60 : Int32)), (.int (47 : Int32)), (.int (45 : Int32)), (.int (62 : Int32)), (.int (32 : Int32)), (.int (9 : Int32)), (.int (10 : Int32)), (.int (12 : Int32)), (.int (0 : Int32)), (.int (0 : Int32)), (.int (0 : Int32)), (.int (0 : Int32)), (.int (0 : Int32)), (.int (0 : Int32)), (.int (0 : Int32)), (.int (0 : Int32)), (.int (0 : Int32)), (.int (0 : Int32)), (.int (0 : Int32)), (.int (0 : Int32)), (.int (0 : Int32)), (.int (0 : Int32)), (.int (0 : Int32))] (.int (0 : Int32)) := V61
    have XO61 : Ext Z.heap h61 := own_extw XO58 W61 szZ_b36
    have EX61 : Ext h0 h61 := own_extw EX58 W61 sz0_b36
    have C61 := C58.trans (CHr.wr W61 (Safe.arr hZ.alike Ar61 (by decide)) C58.1)
    have hk61 := Nat.le_trans hk58 (Keep.of_wr W61).1
    have F62 := F59.other W61 nearr
    have N61 := Fr.snoc X61 N58 g_b36
    have Z61 : n0 ≤ h61.size := Nat.le_trans Z58 (Keep.of_wr W61).1
    have pre63 : ∀ t, SS p e below m T61 153 #[iv p1, iv p2, iv p3, iv p4, iv db, iv sl, iv spc, iv tc, iv pfx, iv kq, rv b17, .unset, .unset, .unset, .unset, .unset, .unset, .unset, .unset] [(.ref b36)] t → B t := fun t kk => pre60 t (by
      refine st61 _ ?_
      exact kk)
    exact ⟨T61, h61, _, X61, e61, N61, Z61, F62, V61', C61, XO61, EX61, hk61, pre63⟩
  obtain ⟨T90, h90, L90, X90, e90, N90, Z90, V90_0, V90_1, C90, XO90, EX90, hk90, pre90⟩ : ∃ (T : State) (h : Heap) (locs : List Loc), Stand p l e room_1 (s.setVm s.vm) m #[(.int p1), (.int p2), (.int p3), (.int p4)] below meth c T locs 2 30 ∧ T.heap = h ∧ Fr n0 locs ∧ n0 ≤ h.size ∧ Arv Z h b17 k17 .char (7 : Int32) [(.int (9 : Int32)), (.int (10 : Int32)), (.int (12 : Int32)), (.int (13 : Int32)), (.int (32 : Int32)), (.int (47 : Int32)), (.int (62 : Int32))] (.int (0 : Int32)) ∧ Arv Z h b36 k36 .char (23 : Int32) [(.int (60 : Int32)), (.int (47 : Int32)), (.int (45 : Int32)), (.int (62 : Int32)), (.int (32 : Int32)), (.int (9 : Int32)), (.int (10 : Int32)), (.int (12 : Int32)), (.int (13 : Int32)), (.int (115 : Int32)), (.int (83 : Int32)), (.int (99 : Int32)), (.int (67 : Int32)), (.int (114 : Int32)), (.int (82 : Int32)), (.int (105 : Int32)), (.int (0 : Int32)), (.int (0 : Int32)), (.int (0 : Int32)), (.int (0 : Int32)), (.int (0 : Int32)), (.int (0 : Int32)), (.int (0 : Int32))] (.int (0 : Int32)) ∧ CHr Z consts_1 s.vm h0 s.vm h ∧ Ext Z.heap h ∧ Ext h0 h ∧ h0.size ≤ h.size ∧ (∀ t, SS p e below m T 201 #[iv p1, iv p2, iv p3, iv p4, iv db, iv sl, iv spc, iv tc, iv pfx, iv kq, rv b17, .unset, .unset, .unset, .unset, .unset, .unset, .unset, .unset] [(.ref b36)] t → B t) := by
    have pre65 : ∀ t, SS p e below m T64 158 #[iv p1, iv p2, iv p3, iv p4, iv db, iv sl, iv spc, iv tc, iv pfx, iv kq, rv b17, .unset, .unset, .unset, .unset, .unset, .unset, .unset, .unset] [(.int (13 : Int32)), (.int (8 : Int32)), (.ref b36), (.ref b36)] t → B t := fun t kk => pre64 t (by
      refine XS.dup X64.here hx rfl (hb hby at_153) rfl rfl ?_
      refine XS.bipush X64.here hx rfl (hb hby at_154) ?_
      refine XS.bipush X64.here hx rfl (hb hby at_156) ?_
      exact kk)
    obtain ⟨cl66, Ar66, q66, S66, M66, H66, G66⟩ := V64_1
    have hin66 : ¬ ((8 : Int32) < 0 ∨ cl66.slots.size ≤ ((8 : Int32)).toNatClampNeg) := inb_of S66 ⟨by decide, by decide⟩
    obtain ⟨T66, h66, X66, e66, W66, st66⟩ := stC X64 hx hZ e64 Ar66 (j := (8 : Int32)) hin66 (g := (mkF m 158 #[iv p1, iv p2, iv p3, iv p4, iv db, iv sl, iv spc, iv tc, iv pfx, iv kq, rv b17, .unset, .unset, .unset, .unset, .unset, .unset, .unset, .unset] [(.int (13 : Int32)), (.int (8 : Int32)), (.ref b36), (.ref b36)])) rfl rfl (hb hby at_158)
    have V66 := Arv.set Ar66 q66 S66 M66 H66 G66 (fits_nar_char _) W66 8 rfl (Nat.le_of_ble_eq_true rfl)
    have V66' : Arv Z h66 b36 k36 .char (23 : Int32) [(.int (60 : Int32)), (.int (47 : Int32)), (.int (45 : Int32)), (.int (62 : Int32)), (.int (32 : Int32)), (.int (9 : Int32)), (.int (10 : Int32)), (.int (12 : Int32)), (.int (13 : Int32)), (.int (0 : Int32)), (.int (0 : Int32)), (.int (0 : Int32)), (.int (0 : Int32)), (.int (0 : Int32)), (.int (0 : Int32)), (.int (0 : Int32)), (.int (0 : Int32)), (.int (0 : Int32)), (.int (0 : Int32)), (.int (0 : Int32)), (.int (0 : Int32)), (.int (0 : Int32)), (.int (0 : Int32))] (.int (0 : Int32)) := V66
    have XO66 : Ext Z.heap h66 := own_extw XO64 W66 szZ_b36
    have EX66 : Ext h0 h66 := own_extw EX64 W66 sz0_b36
    have C66 := C64.trans (CHr.wr W66 (Safe.arr hZ.alike Ar66 (by decide)) C64.1)
    have hk66 := Nat.le_trans hk64 (Keep.of_wr W66).1
    have F67 := V64_0.other W66 nearr
    have N66 := Fr.snoc X66 N64 g_b36
    have Z66 : n0 ≤ h66.size := Nat.le_trans Z64 (Keep.of_wr W66).1
    have pre68 : ∀ t, SS p e below m T66 164 #[iv p1, iv p2, iv p3, iv p4, iv db, iv sl, iv spc, iv tc, iv pfx, iv kq, rv b17, .unset, .unset, .unset, .unset, .unset, .unset, .unset, .unset] [(.int (115 : Int32)), (.int (9 : Int32)), (.ref b36), (.ref b36)] t → B t := fun t kk => pre65 t (by
      refine st66 _ ?_
      refine XS.dup X66.here hx rfl (hb hby at_159) rfl rfl ?_
      refine XS.bipush X66.here hx rfl (hb hby at_160) ?_
      refine XS.bipush X66.here hx rfl (hb hby at_162) ?_
      show SS p e below m T66 164 #[iv p1, iv p2, iv p3, iv p4, iv db, iv sl, iv spc, iv tc, iv pfx, iv kq, rv b17, .unset, .unset, .unset, .unset, .unset, .unset, .unset, .unset] [(.int (115 : Int32)), (.int (9 : Int32)), (.ref b36), (.ref b36)] _
      exact kk)
    obtain ⟨cl69, Ar69, q69, S69, M69, H69, G69⟩ := V66'
    have hin69 : ¬ ((9 : Int32) < 0 ∨ cl69.slots.size ≤ ((9 : Int32)).toNatClampNeg) := inb_of S69 ⟨by decide, by decide⟩
    obtain ⟨T69, h69, X69, e69, W69, st69⟩ := stC X66 hx hZ e66 Ar69 (j := (9 : Int32)) hin69 (g := (mkF m 164 #[iv p1, iv p2, iv p3, iv p4, iv db, iv sl, iv spc, iv tc, iv pfx, iv kq, rv b17, .unset, .unset, .unset, .unset, .unset, .unset, .unset, .unset] [(.int (115 : Int32)), (.int (9 : Int32)), (.ref b36), (.ref b36)])) rfl rfl (hb hby at_164)
    have V69 := Arv.set Ar69 q69 S69 M69 H69 G69 (fits_nar_char _) W69 9 rfl (Nat.le_of_ble_eq_true rfl)
    have V69' : Arv Z h69 b36 k36 .char (23 : Int32) [(.int (60 : Int32)), (.int (47 : Int32)), (.int (45 : Int32)), (.int (62 : Int32)), (.int (32 : Int32)), (.int (9 : Int32)), (.int (10 : Int32)), (.int (12 : Int32)), (.int (13 : Int32)), (.int (115 : Int32)), (.int (0 : Int32)), (.int (0 : Int32)), (.int (0 : Int32)), (.int (0 : Int32)), (.int (0 : Int32)), (.int (0 : Int32)), (.int (0 : Int32)), (.int (0 : Int32)), (.int (0 : Int32)), (.int (0 : Int32)), (.int (0 : Int32)), (.int (0 : Int32)), (.int (0 : Int32))] (.int (0 : Int32)) := V69
    have XO69 : Ext Z.heap h69 := own_extw XO66 W69 szZ_b36
    have EX69 : Ext h0 h69 := own_extw EX66 W69 sz0_b36
    have C69 := C66.trans (CHr.wr W69 (Safe.arr hZ.alike Ar69 (by decide)) C66.1)
    have hk69 := Nat.le_trans hk66 (Keep.of_wr W69).1
    have F70 := F67.other W69 nearr
    have N69 := Fr.snoc X69 N66 g_b36
    have Z69 : n0 ≤ h69.size := Nat.le_trans Z66 (Keep.of_wr W69).1
    have pre71 : ∀ t, SS p e below m T69 170 #[iv p1, iv p2, iv p3, iv p4, iv db, iv sl, iv spc, iv tc, iv pfx, iv kq, rv b17, .unset, .unset, .unset, .unset, .unset, .unset, .unset, .unset] [(.int (83 : Int32)), (.int (10 : Int32)), (.ref b36), (.ref b36)] t → B t := fun t kk => pre68 t (by
      refine st69 _ ?_
      refine XS.dup X69.here hx rfl (hb hby at_165) rfl rfl ?_
      refine XS.bipush X69.here hx rfl (hb hby at_166) ?_
      refine XS.bipush X69.here hx rfl (hb hby at_168) ?_
      show SS p e below m T69 170 #[iv p1, iv p2, iv p3, iv p4, iv db, iv sl, iv spc, iv tc, iv pfx, iv kq, rv b17, .unset, .unset, .unset, .unset, .unset, .unset, .unset, .unset] [(.int (83 : Int32)), (.int (10 : Int32)), (.ref b36), (.ref b36)] _
      exact kk)
    obtain ⟨cl72, Ar72, q72, S72, M72, H72, G72⟩ := V69'
    have hin72 : ¬ ((10 : Int32) < 0 ∨ cl72.slots.size ≤ ((10 : Int32)).toNatClampNeg) := inb_of S72 ⟨by decide, by decide⟩
    obtain ⟨T72, h72, X72, e72, W72, st72⟩ := stC X69 hx hZ e69 Ar72 (j := (10 : Int32)) hin72 (g := (mkF m 170 #[iv p1, iv p2, iv p3, iv p4, iv db, iv sl, iv spc, iv tc, iv pfx, iv kq, rv b17, .unset, .unset, .unset, .unset, .unset, .unset, .unset, .unset] [(.int (83 : Int32)), (.int (10 : Int32)), (.ref b36), (.ref b36)])) rfl rfl (hb hby at_170)
    have V72 := Arv.set Ar72 q72 S72 M72 H72 G72 (fits_nar_char _) W72 10 rfl (Nat.le_of_ble_eq_true rfl)
    have V72' : Arv Z h72 b36 k36 .char (23 : Int32) [(.int (60 : Int32)), (.int (47 : Int32)), (.int (45 : Int32)), (.int (62 : Int32)), (.int (32 : Int32)), (.int (9 : Int32)), (.int (10 : Int32)), (.int (12 : Int32)), (.int (13 : Int32)), (.int (115 : Int32)), (.int (83 : Int32)), (.int (0 : Int32)), (.int (0 : Int32)), (.int (0 : Int32)), (.int (0 : Int32)), (.int (0 : Int32)), (.int (0 : Int32)), (.int (0 : Int32)), (.int (0 : Int32)), (.int (0 : Int32)), (.int (0 : Int32)), (.int (0 : Int32)), (.int (0 : Int32))] (.int (0 : Int32)) := V72
    have XO72 : Ext Z.heap h72 := own_extw XO69 W72 szZ_b36
    have EX72 : Ext h0 h72 := own_extw EX69 W72 sz0_b36
    have C72 := C69.trans (CHr.wr W72 (Safe.arr hZ.alike Ar72 (by decide)) C69.1)
    have hk72 := Nat.le_trans hk69 (Keep.of_wr W72).1
    have F73 := F70.other W72 nearr
    have N72 := Fr.snoc X72 N69 g_b36
    have Z72 : n0 ≤ h72.size := Nat.le_trans Z69 (Keep.of_wr W72).1
    have pre74 : ∀ t, SS p e below m T72 176 #[iv p1, iv p2, iv p3, iv p4, iv db, iv sl, iv spc, iv tc, iv pfx, iv kq, rv b17, .unset, .unset, .unset, .unset, .unset, .unset, .unset, .unset] [(.int (99 : Int32)), (.int (11 : Int32)), (.ref b36), (.ref b36)] t → B t := fun t kk => pre71 t (by
      refine st72 _ ?_
      refine XS.dup X72.here hx rfl (hb hby at_171) rfl rfl ?_
      refine XS.bipush X72.here hx rfl (hb hby at_172) ?_
      refine XS.bipush X72.here hx rfl (hb hby at_174) ?_
      show SS p e below m T72 176 #[iv p1, iv p2, iv p3, iv p4, iv db, iv sl, iv spc, iv tc, iv pfx, iv kq, rv b17, .unset, .unset, .unset, .unset, .unset, .unset, .unset, .unset] [(.int (99 : Int32)), (.int (11 : Int32)), (.ref b36), (.ref b36)] _
      exact kk)
    obtain ⟨cl75, Ar75, q75, S75, M75, H75, G75⟩ := V72'
    have hin75 : ¬ ((11 : Int32) < 0 ∨ cl75.slots.size ≤ ((11 : Int32)).toNatClampNeg) := inb_of S75 ⟨by decide, by decide⟩
    obtain ⟨T75, h75, X75, e75, W75, st75⟩ := stC X72 hx hZ e72 Ar75 (j := (11 : Int32)) hin75 (g := (mkF m 176 #[iv p1, iv p2, iv p3, iv p4, iv db, iv sl, iv spc, iv tc, iv pfx, iv kq, rv b17, .unset, .unset, .unset, .unset, .unset, .unset, .unset, .unset] [(.int (99 : Int32)), (.int (11 : Int32)), (.ref b36), (.ref b36)])) rfl rfl (hb hby at_176)
    have V75 := Arv.set Ar75 q75 S75 M75 H75 G75 (fits_nar_char _) W75 11 rfl (Nat.le_of_ble_eq_true rfl)
    have V75' : Arv Z h75 b36 k36 .char (23 : Int32) [(.int (60 : Int32)), (.int (47 : Int32)), (.int (45 : Int32)), (.int (62 : Int32)), (.int (32 : Int32)), (.int (9 : Int32)), (.int (10 : Int32)), (.int (12 : Int32)), (.int (13 : Int32)), (.int (115 : Int32)), (.int (83 : Int32)), (.int (99 : Int32)), (.int (0 : Int32)), (.int (0 : Int32)), (.int (0 : Int32)), (.int (0 : Int32)), (.int (0 : Int32)), (.int (0 : Int32)), (.int (0 : Int32)), (.int (0 : Int32)), (.int (0 : Int32)), (.int (0 : Int32)), (.int (0 : Int32))] (.int (0 : Int32)) := V75
    have XO75 : Ext Z.heap h75 := own_extw XO72 W75 szZ_b36
    have EX75 : Ext h0 h75 := own_extw EX72 W75 sz0_b36
    have C75 := C72.trans (CHr.wr W75 (Safe.arr hZ.alike Ar75 (by decide)) C72.1)
    have hk75 := Nat.le_trans hk72 (Keep.of_wr W75).1
    have F76 := F73.other W75 nearr
    have N75 := Fr.snoc X75 N72 g_b36
    have Z75 : n0 ≤ h75.size := Nat.le_trans Z72 (Keep.of_wr W75).1
    have pre77 : ∀ t, SS p e below m T75 182 #[iv p1, iv p2, iv p3, iv p4, iv db, iv sl, iv spc, iv tc, iv pfx, iv kq, rv b17, .unset, .unset, .unset, .unset, .unset, .unset, .unset, .unset] [(.int (67 : Int32)), (.int (12 : Int32)), (.ref b36), (.ref b36)] t → B t := fun t kk => pre74 t (by
      refine st75 _ ?_
      refine XS.dup X75.here hx rfl (hb hby at_177) rfl rfl ?_
      refine XS.bipush X75.here hx rfl (hb hby at_178) ?_
      refine XS.bipush X75.here hx rfl (hb hby at_180) ?_
      show SS p e below m T75 182 #[iv p1, iv p2, iv p3, iv p4, iv db, iv sl, iv spc, iv tc, iv pfx, iv kq, rv b17, .unset, .unset, .unset, .unset, .unset, .unset, .unset, .unset] [(.int (67 : Int32)), (.int (12 : Int32)), (.ref b36), (.ref b36)] _
      exact kk)
    obtain ⟨cl78, Ar78, q78, S78, M78, H78, G78⟩ := V75'
    have hin78 : ¬ ((12 : Int32) < 0 ∨ cl78.slots.size ≤ ((12 : Int32)).toNatClampNeg) := inb_of S78 ⟨by decide, by decide⟩
    obtain ⟨T78, h78, X78, e78, W78, st78⟩ := stC X75 hx hZ e75 Ar78 (j := (12 : Int32)) hin78 (g := (mkF m 182 #[iv p1, iv p2, iv p3, iv p4, iv db, iv sl, iv spc, iv tc, iv pfx, iv kq, rv b17, .unset, .unset, .unset, .unset, .unset, .unset, .unset, .unset] [(.int (67 : Int32)), (.int (12 : Int32)), (.ref b36), (.ref b36)])) rfl rfl (hb hby at_182)
    have V78 := Arv.set Ar78 q78 S78 M78 H78 G78 (fits_nar_char _) W78 12 rfl (Nat.le_of_ble_eq_true rfl)
    have V78' : Arv Z h78 b36 k36 .char (23 : Int32) [(.int (60 : Int32)), (.int (47 : Int32)), (.int (45 : Int32)), (.int (62 : Int32)), (.int (32 : Int32)), (.int (9 : Int32)), (.int (10 : Int32)), (.int (12 : Int32)), (.int (13 : Int32)), (.int (115 : Int32)), (.int (83 : Int32)), (.int (99 : Int32)), (.int (67 : Int32)), (.int (0 : Int32)), (.int (0 : Int32)), (.int (0 : Int32)), (.int (0 : Int32)), (.int (0 : Int32)), (.int (0 : Int32)), (.int (0 : Int32)), (.int (0 : Int32)), (.int (0 : Int32)), (.int (0 : Int32))] (.int (0 : Int32)) := V78
    have XO78 : Ext Z.heap h78 := own_extw XO75 W78 szZ_b36
    have EX78 : Ext h0 h78 := own_extw EX75 W78 sz0_b36
    have C78 := C75.trans (CHr.wr W78 (Safe.arr hZ.alike Ar78 (by decide)) C75.1)
    have hk78 := Nat.le_trans hk75 (Keep.of_wr W78).1
    have F79 := F76.other W78 nearr
    have N78 := Fr.snoc X78 N75 g_b36
    have Z78 : n0 ≤ h78.size := Nat.le_trans Z75 (Keep.of_wr W78).1
    have pre80 : ∀ t, SS p e below m T78 188 #[iv p1, iv p2, iv p3, iv p4, iv db, iv sl, iv spc, iv tc, iv pfx, iv kq, rv b17, .unset, .unset, .unset, .unset, .unset, .unset, .unset, .unset] [(.int (114 : Int32)), (.int (13 : Int32)), (.ref b36), (.ref b36)] t → B t := fun t kk => pre77 t (by
      refine st78 _ ?_
      refine XS.dup X78.here hx rfl (hb hby at_183) rfl rfl ?_
      refine XS.bipush X78.here hx rfl (hb hby at_184) ?_
      refine XS.bipush X78.here hx rfl (hb hby at_186) ?_
      show SS p e below m T78 188 #[iv p1, iv p2, iv p3, iv p4, iv db, iv sl, iv spc, iv tc, iv pfx, iv kq, rv b17, .unset, .unset, .unset, .unset, .unset, .unset, .unset, .unset] [(.int (114 : Int32)), (.int (13 : Int32)), (.ref b36), (.ref b36)] _
      exact kk)
    obtain ⟨cl81, Ar81, q81, S81, M81, H81, G81⟩ := V78'
    have hin81 : ¬ ((13 : Int32) < 0 ∨ cl81.slots.size ≤ ((13 : Int32)).toNatClampNeg) := inb_of S81 ⟨by decide, by decide⟩
    obtain ⟨T81, h81, X81, e81, W81, st81⟩ := stC X78 hx hZ e78 Ar81 (j := (13 : Int32)) hin81 (g := (mkF m 188 #[iv p1, iv p2, iv p3, iv p4, iv db, iv sl, iv spc, iv tc, iv pfx, iv kq, rv b17, .unset, .unset, .unset, .unset, .unset, .unset, .unset, .unset] [(.int (114 : Int32)), (.int (13 : Int32)), (.ref b36), (.ref b36)])) rfl rfl (hb hby at_188)
    have V81 := Arv.set Ar81 q81 S81 M81 H81 G81 (fits_nar_char _) W81 13 rfl (Nat.le_of_ble_eq_true rfl)
    have V81' : Arv Z h81 b36 k36 .char (23 : Int32) [(.int (60 : Int32)), (.int (47 : Int32)), (.int (45 : Int32)), (.int (62 : Int32)), (.int (32 : Int32)), (.int (9 : Int32)), (.int (10 : Int32)), (.int (12 : Int32)), (.int (13 : Int32)), (.int (115 : Int32)), (.int (83 : Int32)), (.int (99 : Int32)), (.int (67 : Int32)), (.int (114 : Int32)), (.int (0 : Int32)), (.int (0 : Int32)), (.int (0 : Int32)), (.int (0 : Int32)), (.int (0 : Int32)), (.int (0 : Int32)), (.int (0 : Int32)), (.int (0 : Int32)), (.int (0 : Int32))] (.int (0 : Int32)) := V81
    have XO81 : Ext Z.heap h81 := own_extw XO78 W81 szZ_b36
    have EX81 : Ext h0 h81 := own_extw EX78 W81 sz0_b36
    have C81 := C78.trans (CHr.wr W81 (Safe.arr hZ.alike Ar81 (by decide)) C78.1)
    have hk81 := Nat.le_trans hk78 (Keep.of_wr W81).1
    have F82 := F79.other W81 nearr
    have N81 := Fr.snoc X81 N78 g_b36
    have Z81 : n0 ≤ h81.size := Nat.le_trans Z78 (Keep.of_wr W81).1
    have pre83 : ∀ t, SS p e below m T81 194 #[iv p1, iv p2, iv p3, iv p4, iv db, iv sl, iv spc, iv tc, iv pfx, iv kq, rv b17, .unset, .unset, .unset, .unset, .unset, .unset, .unset, .unset] [(.int (82 : Int32)), (.int (14 : Int32)), (.ref b36), (.ref b36)] t → B t := fun t kk => pre80 t (by
      refine st81 _ ?_
      refine XS.dup X81.here hx rfl (hb hby at_189) rfl rfl ?_
      refine XS.bipush X81.here hx rfl (hb hby at_190) ?_
      refine XS.bipush X81.here hx rfl (hb hby at_192) ?_
      show SS p e below m T81 194 #[iv p1, iv p2, iv p3, iv p4, iv db, iv sl, iv spc, iv tc, iv pfx, iv kq, rv b17, .unset, .unset, .unset, .unset, .unset, .unset, .unset, .unset] [(.int (82 : Int32)), (.int (14 : Int32)), (.ref b36), (.ref b36)] _
      exact kk)
    obtain ⟨cl84, Ar84, q84, S84, M84, H84, G84⟩ := V81'
    have hin84 : ¬ ((14 : Int32) < 0 ∨ cl84.slots.size ≤ ((14 : Int32)).toNatClampNeg) := inb_of S84 ⟨by decide, by decide⟩
    obtain ⟨T84, h84, X84, e84, W84, st84⟩ := stC X81 hx hZ e81 Ar84 (j := (14 : Int32)) hin84 (g := (mkF m 194 #[iv p1, iv p2, iv p3, iv p4, iv db, iv sl, iv spc, iv tc, iv pfx, iv kq, rv b17, .unset, .unset, .unset, .unset, .unset, .unset, .unset, .unset] [(.int (82 : Int32)), (.int (14 : Int32)), (.ref b36), (.ref b36)])) rfl rfl (hb hby at_194)
    have V84 := Arv.set Ar84 q84 S84 M84 H84 G84 (fits_nar_char _) W84 14 rfl (Nat.le_of_ble_eq_true rfl)
    have V84' : Arv Z h84 b36 k36 .char (23 : Int32) [(.int (60 : Int32)), (.int (47 : Int32)), (.int (45 : Int32)), (.int (62 : Int32)), (.int (32 : Int32)), (.int (9 : Int32)), (.int (10 : Int32)), (.int (12 : Int32)), (.int (13 : Int32)), (.int (115 : Int32)), (.int (83 : Int32)), (.int (99 : Int32)), (.int (67 : Int32)), (.int (114 : Int32)), (.int (82 : Int32)), (.int (0 : Int32)), (.int (0 : Int32)), (.int (0 : Int32)), (.int (0 : Int32)), (.int (0 : Int32)), (.int (0 : Int32)), (.int (0 : Int32)), (.int (0 : Int32))] (.int (0 : Int32)) := V84
    have XO84 : Ext Z.heap h84 := own_extw XO81 W84 szZ_b36
    have EX84 : Ext h0 h84 := own_extw EX81 W84 sz0_b36
    have C84 := C81.trans (CHr.wr W84 (Safe.arr hZ.alike Ar84 (by decide)) C81.1)
    have hk84 := Nat.le_trans hk81 (Keep.of_wr W84).1
    have F85 := F82.other W84 nearr
    have N84 := Fr.snoc X84 N81 g_b36
    have Z84 : n0 ≤ h84.size := Nat.le_trans Z81 (Keep.of_wr W84).1
    have pre86 : ∀ t, SS p e below m T84 200 #[iv p1, iv p2, iv p3, iv p4, iv db, iv sl, iv spc, iv tc, iv pfx, iv kq, rv b17, .unset, .unset, .unset, .unset, .unset, .unset, .unset, .unset] [(.int (105 : Int32)), (.int (15 : Int32)), (.ref b36), (.ref b36)] t → B t := fun t kk => pre83 t (by
      refine st84 _ ?_
      refine XS.dup X84.here hx rfl (hb hby at_195) rfl rfl ?_
      refine XS.bipush X84.here hx rfl (hb hby at_196) ?_
      refine XS.bipush X84.here hx rfl (hb hby at_198) ?_
      show SS p e below m T84 200 #[iv p1, iv p2, iv p3, iv p4, iv db, iv sl, iv spc, iv tc, iv pfx, iv kq, rv b17, .unset, .unset, .unset, .unset, .unset, .unset, .unset, .unset] [(.int (105 : Int32)), (.int (15 : Int32)), (.ref b36), (.ref b36)] _
      exact kk)
    obtain ⟨cl87, Ar87, q87, S87, M87, H87, G87⟩ := V84'
    have hin87 : ¬ ((15 : Int32) < 0 ∨ cl87.slots.size ≤ ((15 : Int32)).toNatClampNeg) := inb_of S87 ⟨by decide, by decide⟩
    obtain ⟨T87, h87, X87, e87, W87, st87⟩ := stC X84 hx hZ e84 Ar87 (j := (15 : Int32)) hin87 (g := (mkF m 200 #[iv p1, iv p2, iv p3, iv p4, iv db, iv sl, iv spc, iv tc, iv pfx, iv kq, rv b17, .unset, .unset, .unset, .unset, .unset, .unset, .unset, .unset] [(.int (105 : Int32)), (.int (15 : Int32)), (.ref b36), (.ref b36)])) rfl rfl (hb hby at_200)
    have V87 := Arv.set Ar87 q87 S87 M87 H87 G87 (fits_nar_char _) W87 15 rfl (Nat.le_of_ble_eq_true rfl)
    have V87' : Arv Z h87 b36 k36 .char (23 : Int32) [(.int (60 : Int32)), (.int (47 : Int32)), (.int (45 : Int32)), (.int (62 : Int32)), (.int (32 : Int32)), (.int (9 : Int32)), (.int (10 : Int32)), (.int (12 : Int32)), (.int (13 : Int32)), (.int (115 : Int32)), (.int (83 : Int32)), (.int (99 : Int32)), (.int (67 : Int32)), (.int (114 : Int32)), (.int (82 : Int32)), (.int (105 : Int32)), (.int (0 : Int32)), (.int (0 : Int32)), (.int (0 : Int32)), (.int (0 : Int32)), (.int (0 : Int32)), (.int (0 : Int32)), (.int (0 : Int32))] (.int (0 : Int32)) := V87
    have XO87 : Ext Z.heap h87 := own_extw XO84 W87 szZ_b36
    have EX87 : Ext h0 h87 := own_extw EX84 W87 sz0_b36
    have C87 := C84.trans (CHr.wr W87 (Safe.arr hZ.alike Ar87 (by decide)) C84.1)
    have hk87 := Nat.le_trans hk84 (Keep.of_wr W87).1
    have F88 := F85.other W87 nearr
    have N87 := Fr.snoc X87 N84 g_b36
    have Z87 : n0 ≤ h87.size := Nat.le_trans Z84 (Keep.of_wr W87).1
    have pre89 : ∀ t, SS p e below m T87 201 #[iv p1, iv p2, iv p3, iv p4, iv db, iv sl, iv spc, iv tc, iv pfx, iv kq, rv b17, .unset, .unset, .unset, .unset, .unset, .unset, .unset, .unset] [(.ref b36)] t → B t := fun t kk => pre86 t (by
      refine st87 _ ?_
      exact kk)
    exact ⟨T87, h87, _, X87, e87, N87, Z87, F88, V87', C87, XO87, EX87, hk87, pre89⟩
  obtain ⟨T113, h113, L113, X113, e113, N113, Z113, V113_0, V113_1, C113, XO113, EX113, hk113, pre113⟩ : ∃ (T : State) (h : Heap) (locs : List Loc), Stand p l e room_1 (s.setVm s.vm) m #[(.int p1), (.int p2), (.int p3), (.int p4)] below meth c T locs 2 30 ∧ T.heap = h ∧ Fr n0 locs ∧ n0 ≤ h.size ∧ Arv Z h b17 k17 .char (7 : Int32) [(.int (9 : Int32)), (.int (10 : Int32)), (.int (12 : Int32)), (.int (13 : Int32)), (.int (32 : Int32)), (.int (47 : Int32)), (.int (62 : Int32))] (.int (0 : Int32)) ∧ Arv Z h b36 k36 .char (23 : Int32) [(.int (60 : Int32)), (.int (47 : Int32)), (.int (45 : Int32)), (.int (62 : Int32)), (.int (32 : Int32)), (.int (9 : Int32)), (.int (10 : Int32)), (.int (12 : Int32)), (.int (13 : Int32)), (.int (115 : Int32)), (.int (83 : Int32)), (.int (99 : Int32)), (.int (67 : Int32)), (.int (114 : Int32)), (.int (82 : Int32)), (.int (105 : Int32)), (.int (73 : Int32)), (.int (112 : Int32)), (.int (80 : Int32)), (.int (116 : Int32)), (.int (84 : Int32)), (.int (33 : Int32)), (.int (120 : Int32))] (.int (0 : Int32)) ∧ CHr Z consts_1 s.vm h0 s.vm h ∧ Ext Z.heap h ∧ Ext h0 h ∧ h0.size ≤ h.size ∧ (∀ t, SS p e below m T 243 #[iv p1, iv p2, iv p3, iv p4, iv db, iv sl, iv spc, iv tc, iv pfx, iv kq, rv b17, .unset, .unset, .unset, .unset, .unset, .unset, .unset, .unset] [(.ref b36)] t → B t) := by
    have pre91 : ∀ t, SS p e below m T90 206 #[iv p1, iv p2, iv p3, iv p4, iv db, iv sl, iv spc, iv tc, iv pfx, iv kq, rv b17, .unset, .unset, .unset, .unset, .unset, .unset, .unset, .unset] [(.int (73 : Int32)), (.int (16 : Int32)), (.ref b36), (.ref b36)] t → B t := fun t kk => pre90 t (by
      refine XS.dup X90.here hx rfl (hb hby at_201) rfl rfl ?_
      refine XS.bipush X90.here hx rfl (hb hby at_202) ?_
      refine XS.bipush X90.here hx rfl (hb hby at_204) ?_
      exact kk)
    obtain ⟨cl92, Ar92, q92, S92, M92, H92, G92⟩ := V90_1
    have hin92 : ¬ ((16 : Int32) < 0 ∨ cl92.slots.size ≤ ((16 : Int32)).toNatClampNeg) := inb_of S92 ⟨by decide, by decide⟩
    obtain ⟨T92, h92, X92, e92, W92, st92⟩ := stC X90 hx hZ e90 Ar92 (j := (16 : Int32)) hin92 (g := (mkF m 206 #[iv p1, iv p2, iv p3, iv p4, iv db, iv sl, iv spc, iv tc, iv pfx, iv kq, rv b17, .unset, .unset, .unset, .unset, .unset, .unset, .unset, .unset] [(.int (73 : Int32)), (.int (16 : Int32)), (.ref b36), (.ref b36)])) rfl rfl (hb hby at_206)
    have V92 := Arv.set Ar92 q92 S92 M92 H92 G92 (fits_nar_char _) W92 16 rfl (Nat.le_of_ble_eq_true rfl)
    have V92' : Arv Z h92 b36 k36 .char (23 : Int32) [(.int (60 : Int32)), (.int (47 : Int32)), (.int (45 : Int32)), (.int (62 : Int32)), (.int (32 : Int32)), (.int (9 : Int32)), (.int (10 : Int32)), (.int (12 : Int32)), (.int (13 : Int32)), (.int (115 : Int32)), (.int (83 : Int32)), (.int (99 : Int32)), (.int (67 : Int32)), (.int (114 : Int32)), (.int (82 : Int32)), (.int (105 : Int32)), (.int (73 : Int32)), (.int (0 : Int32)), (.int (0 : Int32)), (.int (0 : Int32)), (.int (0 : Int32)), (.int (0 : Int32)), (.int (0 : Int32))] (.int (0 : Int32)) := V92
    have XO92 : Ext Z.heap h92 := own_extw XO90 W92 szZ_b36
    have EX92 : Ext h0 h92 := own_extw EX90 W92 sz0_b36
    have C92 := C90.trans (CHr.wr W92 (Safe.arr hZ.alike Ar92 (by decide)) C90.1)
    have hk92 := Nat.le_trans hk90 (Keep.of_wr W92).1
    have F93 := V90_0.other W92 nearr
    have N92 := Fr.snoc X92 N90 g_b36
    have Z92 : n0 ≤ h92.size := Nat.le_trans Z90 (Keep.of_wr W92).1
    have pre94 : ∀ t, SS p e below m T92 212 #[iv p1, iv p2, iv p3, iv p4, iv db, iv sl, iv spc, iv tc, iv pfx, iv kq, rv b17, .unset, .unset, .unset, .unset, .unset, .unset, .unset, .unset] [(.int (112 : Int32)), (.int (17 : Int32)), (.ref b36), (.ref b36)] t → B t := fun t kk => pre91 t (by
      refine st92 _ ?_
      refine XS.dup X92.here hx rfl (hb hby at_207) rfl rfl ?_
      refine XS.bipush X92.here hx rfl (hb hby at_208) ?_
      refine XS.bipush X92.here hx rfl (hb hby at_210) ?_
      show SS p e below m T92 212 #[iv p1, iv p2, iv p3, iv p4, iv db, iv sl, iv spc, iv tc, iv pfx, iv kq, rv b17, .unset, .unset, .unset, .unset, .unset, .unset, .unset, .unset] [(.int (112 : Int32)), (.int (17 : Int32)), (.ref b36), (.ref b36)] _
      exact kk)
    obtain ⟨cl95, Ar95, q95, S95, M95, H95, G95⟩ := V92'
    have hin95 : ¬ ((17 : Int32) < 0 ∨ cl95.slots.size ≤ ((17 : Int32)).toNatClampNeg) := inb_of S95 ⟨by decide, by decide⟩
    obtain ⟨T95, h95, X95, e95, W95, st95⟩ := stC X92 hx hZ e92 Ar95 (j := (17 : Int32)) hin95 (g := (mkF m 212 #[iv p1, iv p2, iv p3, iv p4, iv db, iv sl, iv spc, iv tc, iv pfx, iv kq, rv b17, .unset, .unset, .unset, .unset, .unset, .unset, .unset, .unset] [(.int (112 : Int32)), (.int (17 : Int32)), (.ref b36), (.ref b36)])) rfl rfl (hb hby at_212)
    have V95 := Arv.set Ar95 q95 S95 M95 H95 G95 (fits_nar_char _) W95 17 rfl (Nat.le_of_ble_eq_true rfl)
    have V95' : Arv Z h95 b36 k36 .char (23 : Int32) [(.int (60 : Int32)), (.int (47 : Int32)), (.int (45 : Int32)), (.int (62 : Int32)), (.int (32 : Int32)), (.int (9 : Int32)), (.int (10 : Int32)), (.int (12 : Int32)), (.int (13 : Int32)), (.int (115 : Int32)), (.int (83 : Int32)), (.int (99 : Int32)), (.int (67 : Int32)), (.int (114 : Int32)), (.int (82 : Int32)), (.int (105 : Int32)), (.int (73 : Int32)), (.int (112 : Int32)), (.int (0 : Int32)), (.int (0 : Int32)), (.int (0 : Int32)), (.int (0 : Int32)), (.int (0 : Int32))] (.int (0 : Int32)) := V95
    have XO95 : Ext Z.heap h95 := own_extw XO92 W95 szZ_b36
    have EX95 : Ext h0 h95 := own_extw EX92 W95 sz0_b36
    have C95 := C92.trans (CHr.wr W95 (Safe.arr hZ.alike Ar95 (by decide)) C92.1)
    have hk95 := Nat.le_trans hk92 (Keep.of_wr W95).1
    have F96 := F93.other W95 nearr
    have N95 := Fr.snoc X95 N92 g_b36
    have Z95 : n0 ≤ h95.size := Nat.le_trans Z92 (Keep.of_wr W95).1
    have pre97 : ∀ t, SS p e below m T95 218 #[iv p1, iv p2, iv p3, iv p4, iv db, iv sl, iv spc, iv tc, iv pfx, iv kq, rv b17, .unset, .unset, .unset, .unset, .unset, .unset, .unset, .unset] [(.int (80 : Int32)), (.int (18 : Int32)), (.ref b36), (.ref b36)] t → B t := fun t kk => pre94 t (by
      refine st95 _ ?_
      refine XS.dup X95.here hx rfl (hb hby at_213) rfl rfl ?_
      refine XS.bipush X95.here hx rfl (hb hby at_214) ?_
      refine XS.bipush X95.here hx rfl (hb hby at_216) ?_
      show SS p e below m T95 218 #[iv p1, iv p2, iv p3, iv p4, iv db, iv sl, iv spc, iv tc, iv pfx, iv kq, rv b17, .unset, .unset, .unset, .unset, .unset, .unset, .unset, .unset] [(.int (80 : Int32)), (.int (18 : Int32)), (.ref b36), (.ref b36)] _
      exact kk)
    obtain ⟨cl98, Ar98, q98, S98, M98, H98, G98⟩ := V95'
    have hin98 : ¬ ((18 : Int32) < 0 ∨ cl98.slots.size ≤ ((18 : Int32)).toNatClampNeg) := inb_of S98 ⟨by decide, by decide⟩
    obtain ⟨T98, h98, X98, e98, W98, st98⟩ := stC X95 hx hZ e95 Ar98 (j := (18 : Int32)) hin98 (g := (mkF m 218 #[iv p1, iv p2, iv p3, iv p4, iv db, iv sl, iv spc, iv tc, iv pfx, iv kq, rv b17, .unset, .unset, .unset, .unset, .unset, .unset, .unset, .unset] [(.int (80 : Int32)), (.int (18 : Int32)), (.ref b36), (.ref b36)])) rfl rfl (hb hby at_218)
    have V98 := Arv.set Ar98 q98 S98 M98 H98 G98 (fits_nar_char _) W98 18 rfl (Nat.le_of_ble_eq_true rfl)
    have V98' : Arv Z h98 b36 k36 .char (23 : Int32) [(.int (60 : Int32)), (.int (47 : Int32)), (.int (45 : Int32)), (.int (62 : Int32)), (.int (32 : Int32)), (.int (9 : Int32)), (.int (10 : Int32)), (.int (12 : Int32)), (.int (13 : Int32)), (.int (115 : Int32)), (.int (83 : Int32)), (.int (99 : Int32)), (.int (67 : Int32)), (.int (114 : Int32)), (.int (82 : Int32)), (.int (105 : Int32)), (.int (73 : Int32)), (.int (112 : Int32)), (.int (80 : Int32)), (.int (0 : Int32)), (.int (0 : Int32)), (.int (0 : Int32)), (.int (0 : Int32))] (.int (0 : Int32)) := V98
    have XO98 : Ext Z.heap h98 := own_extw XO95 W98 szZ_b36
    have EX98 : Ext h0 h98 := own_extw EX95 W98 sz0_b36
    have C98 := C95.trans (CHr.wr W98 (Safe.arr hZ.alike Ar98 (by decide)) C95.1)
    have hk98 := Nat.le_trans hk95 (Keep.of_wr W98).1
    have F99 := F96.other W98 nearr
    have N98 := Fr.snoc X98 N95 g_b36
    have Z98 : n0 ≤ h98.size := Nat.le_trans Z95 (Keep.of_wr W98).1
    have pre100 : ∀ t, SS p e below m T98 224 #[iv p1, iv p2, iv p3, iv p4, iv db, iv sl, iv spc, iv tc, iv pfx, iv kq, rv b17, .unset, .unset, .unset, .unset, .unset, .unset, .unset, .unset] [(.int (116 : Int32)), (.int (19 : Int32)), (.ref b36), (.ref b36)] t → B t := fun t kk => pre97 t (by
      refine st98 _ ?_
      refine XS.dup X98.here hx rfl (hb hby at_219) rfl rfl ?_
      refine XS.bipush X98.here hx rfl (hb hby at_220) ?_
      refine XS.bipush X98.here hx rfl (hb hby at_222) ?_
      show SS p e below m T98 224 #[iv p1, iv p2, iv p3, iv p4, iv db, iv sl, iv spc, iv tc, iv pfx, iv kq, rv b17, .unset, .unset, .unset, .unset, .unset, .unset, .unset, .unset] [(.int (116 : Int32)), (.int (19 : Int32)), (.ref b36), (.ref b36)] _
      exact kk)
    obtain ⟨cl101, Ar101, q101, S101, M101, H101, G101⟩ := V98'
    have hin101 : ¬ ((19 : Int32) < 0 ∨ cl101.slots.size ≤ ((19 : Int32)).toNatClampNeg) := inb_of S101 ⟨by decide, by decide⟩
    obtain ⟨T101, h101, X101, e101, W101, st101⟩ := stC X98 hx hZ e98 Ar101 (j := (19 : Int32)) hin101 (g := (mkF m 224 #[iv p1, iv p2, iv p3, iv p4, iv db, iv sl, iv spc, iv tc, iv pfx, iv kq, rv b17, .unset, .unset, .unset, .unset, .unset, .unset, .unset, .unset] [(.int (116 : Int32)), (.int (19 : Int32)), (.ref b36), (.ref b36)])) rfl rfl (hb hby at_224)
    have V101 := Arv.set Ar101 q101 S101 M101 H101 G101 (fits_nar_char _) W101 19 rfl (Nat.le_of_ble_eq_true rfl)
    have V101' : Arv Z h101 b36 k36 .char (23 : Int32) [(.int (60 : Int32)), (.int (47 : Int32)), (.int (45 : Int32)), (.int (62 : Int32)), (.int (32 : Int32)), (.int (9 : Int32)), (.int (10 : Int32)), (.int (12 : Int32)), (.int (13 : Int32)), (.int (115 : Int32)), (.int (83 : Int32)), (.int (99 : Int32)), (.int (67 : Int32)), (.int (114 : Int32)), (.int (82 : Int32)), (.int (105 : Int32)), (.int (73 : Int32)), (.int (112 : Int32)), (.int (80 : Int32)), (.int (116 : Int32)), (.int (0 : Int32)), (.int (0 : Int32)), (.int (0 : Int32))] (.int (0 : Int32)) := V101
    have XO101 : Ext Z.heap h101 := own_extw XO98 W101 szZ_b36
    have EX101 : Ext h0 h101 := own_extw EX98 W101 sz0_b36
    have C101 := C98.trans (CHr.wr W101 (Safe.arr hZ.alike Ar101 (by decide)) C98.1)
    have hk101 := Nat.le_trans hk98 (Keep.of_wr W101).1
    have F102 := F99.other W101 nearr
    have N101 := Fr.snoc X101 N98 g_b36
    have Z101 : n0 ≤ h101.size := Nat.le_trans Z98 (Keep.of_wr W101).1
    have pre103 : ∀ t, SS p e below m T101 230 #[iv p1, iv p2, iv p3, iv p4, iv db, iv sl, iv spc, iv tc, iv pfx, iv kq, rv b17, .unset, .unset, .unset, .unset, .unset, .unset, .unset, .unset] [(.int (84 : Int32)), (.int (20 : Int32)), (.ref b36), (.ref b36)] t → B t := fun t kk => pre100 t (by
      refine st101 _ ?_
      refine XS.dup X101.here hx rfl (hb hby at_225) rfl rfl ?_
      refine XS.bipush X101.here hx rfl (hb hby at_226) ?_
      refine XS.bipush X101.here hx rfl (hb hby at_228) ?_
      show SS p e below m T101 230 #[iv p1, iv p2, iv p3, iv p4, iv db, iv sl, iv spc, iv tc, iv pfx, iv kq, rv b17, .unset, .unset, .unset, .unset, .unset, .unset, .unset, .unset] [(.int (84 : Int32)), (.int (20 : Int32)), (.ref b36), (.ref b36)] _
      exact kk)
    obtain ⟨cl104, Ar104, q104, S104, M104, H104, G104⟩ := V101'
    have hin104 : ¬ ((20 : Int32) < 0 ∨ cl104.slots.size ≤ ((20 : Int32)).toNatClampNeg) := inb_of S104 ⟨by decide, by decide⟩
    obtain ⟨T104, h104, X104, e104, W104, st104⟩ := stC X101 hx hZ e101 Ar104 (j := (20 : Int32)) hin104 (g := (mkF m 230 #[iv p1, iv p2, iv p3, iv p4, iv db, iv sl, iv spc, iv tc, iv pfx, iv kq, rv b17, .unset, .unset, .unset, .unset, .unset, .unset, .unset, .unset] [(.int (84 : Int32)), (.int (20 : Int32)), (.ref b36), (.ref b36)])) rfl rfl (hb hby at_230)
    have V104 := Arv.set Ar104 q104 S104 M104 H104 G104 (fits_nar_char _) W104 20 rfl (Nat.le_of_ble_eq_true rfl)
    have V104' : Arv Z h104 b36 k36 .char (23 : Int32) [(.int (60 : Int32)), (.int (47 : Int32)), (.int (45 : Int32)), (.int (62 : Int32)), (.int (32 : Int32)), (.int (9 : Int32)), (.int (10 : Int32)), (.int (12 : Int32)), (.int (13 : Int32)), (.int (115 : Int32)), (.int (83 : Int32)), (.int (99 : Int32)), (.int (67 : Int32)), (.int (114 : Int32)), (.int (82 : Int32)), (.int (105 : Int32)), (.int (73 : Int32)), (.int (112 : Int32)), (.int (80 : Int32)), (.int (116 : Int32)), (.int (84 : Int32)), (.int (0 : Int32)), (.int (0 : Int32))] (.int (0 : Int32)) := V104
    have XO104 : Ext Z.heap h104 := own_extw XO101 W104 szZ_b36
    have EX104 : Ext h0 h104 := own_extw EX101 W104 sz0_b36
    have C104 := C101.trans (CHr.wr W104 (Safe.arr hZ.alike Ar104 (by decide)) C101.1)
    have hk104 := Nat.le_trans hk101 (Keep.of_wr W104).1
    have F105 := F102.other W104 nearr
    have N104 := Fr.snoc X104 N101 g_b36
    have Z104 : n0 ≤ h104.size := Nat.le_trans Z101 (Keep.of_wr W104).1
    have pre106 : ∀ t, SS p e below m T104 236 #[iv p1, iv p2, iv p3, iv p4, iv db, iv sl, iv spc, iv tc, iv pfx, iv kq, rv b17, .unset, .unset, .unset, .unset, .unset, .unset, .unset, .unset] [(.int (33 : Int32)), (.int (21 : Int32)), (.ref b36), (.ref b36)] t → B t := fun t kk => pre103 t (by
      refine st104 _ ?_
      refine XS.dup X104.here hx rfl (hb hby at_231) rfl rfl ?_
      refine XS.bipush X104.here hx rfl (hb hby at_232) ?_
      refine XS.bipush X104.here hx rfl (hb hby at_234) ?_
      show SS p e below m T104 236 #[iv p1, iv p2, iv p3, iv p4, iv db, iv sl, iv spc, iv tc, iv pfx, iv kq, rv b17, .unset, .unset, .unset, .unset, .unset, .unset, .unset, .unset] [(.int (33 : Int32)), (.int (21 : Int32)), (.ref b36), (.ref b36)] _
      exact kk)
    obtain ⟨cl107, Ar107, q107, S107, M107, H107, G107⟩ := V104'
    have hin107 : ¬ ((21 : Int32) < 0 ∨ cl107.slots.size ≤ ((21 : Int32)).toNatClampNeg) := inb_of S107 ⟨by decide, by decide⟩
    obtain ⟨T107, h107, X107, e107, W107, st107⟩ := stC X104 hx hZ e104 Ar107 (j := (21 : Int32)) hin107 (g := (mkF m 236 #[iv p1, iv p2, iv p3, iv p4, iv db, iv sl, iv spc, iv tc, iv pfx, iv kq, rv b17, .unset, .unset, .unset, .unset, .unset, .unset, .unset, .unset] [(.int (33 : Int32)), (.int (21 : Int32)), (.ref b36), (.ref b36)])) rfl rfl (hb hby at_236)
    have V107 := Arv.set Ar107 q107 S107 M107 H107 G107 (fits_nar_char _) W107 21 rfl (Nat.le_of_ble_eq_true rfl)
    have V107' : Arv Z h107 b36 k36 .char (23 : Int32) [(.int (60 : Int32)), (.int (47 : Int32)), (.int (45 : Int32)), (.int (62 : Int32)), (.int (32 : Int32)), (.int (9 : Int32)), (.int (10 : Int32)), (.int (12 : Int32)), (.int (13 : Int32)), (.int (115 : Int32)), (.int (83 : Int32)), (.int (99 : Int32)), (.int (67 : Int32)), (.int (114 : Int32)), (.int (82 : Int32)), (.int (105 : Int32)), (.int (73 : Int32)), (.int (112 : Int32)), (.int (80 : Int32)), (.int (116 : Int32)), (.int (84 : Int32)), (.int (33 : Int32)), (.int (0 : Int32))] (.int (0 : Int32)) := V107
    have XO107 : Ext Z.heap h107 := own_extw XO104 W107 szZ_b36
    have EX107 : Ext h0 h107 := own_extw EX104 W107 sz0_b36
    have C107 := C104.trans (CHr.wr W107 (Safe.arr hZ.alike Ar107 (by decide)) C104.1)
    have hk107 := Nat.le_trans hk104 (Keep.of_wr W107).1
    have F108 := F105.other W107 nearr
    have N107 := Fr.snoc X107 N104 g_b36
    have Z107 : n0 ≤ h107.size := Nat.le_trans Z104 (Keep.of_wr W107).1
    have pre109 : ∀ t, SS p e below m T107 242 #[iv p1, iv p2, iv p3, iv p4, iv db, iv sl, iv spc, iv tc, iv pfx, iv kq, rv b17, .unset, .unset, .unset, .unset, .unset, .unset, .unset, .unset] [(.int (120 : Int32)), (.int (22 : Int32)), (.ref b36), (.ref b36)] t → B t := fun t kk => pre106 t (by
      refine st107 _ ?_
      refine XS.dup X107.here hx rfl (hb hby at_237) rfl rfl ?_
      refine XS.bipush X107.here hx rfl (hb hby at_238) ?_
      refine XS.bipush X107.here hx rfl (hb hby at_240) ?_
      show SS p e below m T107 242 #[iv p1, iv p2, iv p3, iv p4, iv db, iv sl, iv spc, iv tc, iv pfx, iv kq, rv b17, .unset, .unset, .unset, .unset, .unset, .unset, .unset, .unset] [(.int (120 : Int32)), (.int (22 : Int32)), (.ref b36), (.ref b36)] _
      exact kk)
    obtain ⟨cl110, Ar110, q110, S110, M110, H110, G110⟩ := V107'
    have hin110 : ¬ ((22 : Int32) < 0 ∨ cl110.slots.size ≤ ((22 : Int32)).toNatClampNeg) := inb_of S110 ⟨by decide, by decide⟩
    obtain ⟨T110, h110, X110, e110, W110, st110⟩ := stC X107 hx hZ e107 Ar110 (j := (22 : Int32)) hin110 (g := (mkF m 242 #[iv p1, iv p2, iv p3, iv p4, iv db, iv sl, iv spc, iv tc, iv pfx, iv kq, rv b17, .unset, .unset, .unset, .unset, .unset, .unset, .unset, .unset] [(.int (120 : Int32)), (.int (22 : Int32)), (.ref b36), (.ref b36)])) rfl rfl (hb hby at_242)
    have V110 := Arv.set Ar110 q110 S110 M110 H110 G110 (fits_nar_char _) W110 22 rfl (Nat.le_of_ble_eq_true rfl)
    have V110' : Arv Z h110 b36 k36 .char (23 : Int32) [(.int (60 : Int32)), (.int (47 : Int32)), (.int (45 : Int32)), (.int (62 : Int32)), (.int (32 : Int32)), (.int (9 : Int32)), (.int (10 : Int32)), (.int (12 : Int32)), (.int (13 : Int32)), (.int (115 : Int32)), (.int (83 : Int32)), (.int (99 : Int32)), (.int (67 : Int32)), (.int (114 : Int32)), (.int (82 : Int32)), (.int (105 : Int32)), (.int (73 : Int32)), (.int (112 : Int32)), (.int (80 : Int32)), (.int (116 : Int32)), (.int (84 : Int32)), (.int (33 : Int32)), (.int (120 : Int32))] (.int (0 : Int32)) := V110
    have XO110 : Ext Z.heap h110 := own_extw XO107 W110 szZ_b36
    have EX110 : Ext h0 h110 := own_extw EX107 W110 sz0_b36
    have C110 := C107.trans (CHr.wr W110 (Safe.arr hZ.alike Ar110 (by decide)) C107.1)
    have hk110 := Nat.le_trans hk107 (Keep.of_wr W110).1
    have F111 := F108.other W110 nearr
    have N110 := Fr.snoc X110 N107 g_b36
    have Z110 : n0 ≤ h110.size := Nat.le_trans Z107 (Keep.of_wr W110).1
    have pre112 : ∀ t, SS p e below m T110 243 #[iv p1, iv p2, iv p3, iv p4, iv db, iv sl, iv spc, iv tc, iv pfx, iv kq, rv b17, .unset, .unset, .unset, .unset, .unset, .unset, .unset, .unset] [(.ref b36)] t → B t := fun t kk => pre109 t (by
      refine st110 _ ?_
      exact kk)
    exact ⟨T110, h110, _, X110, e110, N110, Z110, F111, V110', C110, XO110, EX110, hk110, pre112⟩
  have pre114 : ∀ t, SS p e below m T113 245 #[iv p1, iv p2, iv p3, iv p4, iv db, iv sl, iv spc, iv tc, iv pfx, iv kq, rv b17, rv b36, .unset, .unset, .unset, .unset, .unset, .unset, .unset] [] t → B t := fun t kk => pre113 t (by
    refine XS.astore X113.here hx rfl (hb hby at_243) rfl rfl (l' := #[iv p1, iv p2, iv p3, iv p4, iv db, iv sl, iv spc, iv tc, iv pfx, iv kq, rv b17, rv b36, .unset, .unset, .unset, .unset, .unset, .unset, .unset]) rfl ?_
    exact kk)
  obtain ⟨cc, g_cc⟩ : ∃ z : Int32, z = (if spc = (0 : Int32) then (p3 &&& (65535 : Int32)) else ([(60 : Int32), (47 : Int32), (45 : Int32), (62 : Int32), (32 : Int32), (9 : Int32), (10 : Int32), (12 : Int32), (13 : Int32), (115 : Int32), (83 : Int32), (99 : Int32), (67 : Int32), (114 : Int32), (82 : Int32), (105 : Int32), (73 : Int32), (112 : Int32), (80 : Int32), (116 : Int32), (84 : Int32), (33 : Int32), (120 : Int32)].getD (((p3 &&& (2147483647 : Int32)) % (23 : Int32))).toNatClampNeg 0)) := ⟨_, rfl⟩
  have pre115 : ∀ t, SS p e below m T113 268 #[iv p1, iv p2, iv p3, iv p4, iv db, iv sl, iv spc, iv tc, iv pfx, iv kq, rv b17, rv b36, .unset, .unset, .unset, .unset, .unset, .unset, .unset] [(.int cc)] t → B t := by
    intro t kk
    by_cases hc121 : spc = (0 : Int32)
    · rw [g_cc, if_pos hc121] at kk
      exact pre114 t (by
        refine XS.iload X113.here hx rfl (hb hby at_245) rfl ?_
        refine XS.ifYes X113.here hx rfl (pc0 := 247) (pc' := 264) rfl (hb hby at_247) rfl ((if0 _ _).trans (teq hc121).1) (by decide) (by decide) ?_
        refine XS.iloadN X113.here hx rfl (hb hby at_264) rfl ?_
        refine X113.ldcInt hx hown (mvT hZ (hw _ (List.mem_of_getElem? (i := 2) rfl))) (g := (mkF m 265 #[iv p1, iv p2, iv p3, iv p4, iv db, iv sl, iv spc, iv tc, iv pfx, iv kq, rv b17, rv b36, .unset, .unset, .unset, .unset, .unset, .unset, .unset] [(.int p3)])) rfl (hb hby at_265) _ ?_
        show SS p e below m T113 267 #[iv p1, iv p2, iv p3, iv p4, iv db, iv sl, iv spc, iv tc, iv pfx, iv kq, rv b17, rv b36, .unset, .unset, .unset, .unset, .unset, .unset, .unset] [(.int (65535 : Int32)), (.int p3)] _
        refine XS.iand X113.here hx rfl (hb hby at_267) rfl ?_
        exact kk)
    · have pre122 : ∀ t, SS p e below m T113 258 #[iv p1, iv p2, iv p3, iv p4, iv db, iv sl, iv spc, iv tc, iv pfx, iv kq, rv b17, rv b36, .unset, .unset, .unset, .unset, .unset, .unset, .unset] [(.ref b36), (.int (p3 &&& (2147483647 : Int32))), (.ref b36)] t → B t := fun t kk => pre114 t (by
        refine XS.iload X113.here hx rfl (hb hby at_245) rfl ?_
        refine XS.ifNo X113.here hx rfl (hb hby at_247) rfl ((if0 _ _).trans (feq hc121).1) ?_
        refine XS.aload X113.here hx rfl (hb hby at_250) rfl rfl ?_
        refine XS.iloadN X113.here hx rfl (hb hby at_252) rfl ?_
        show SS p e below m T113 253 #[iv p1, iv p2, iv p3, iv p4, iv db, iv sl, iv spc, iv tc, iv pfx, iv kq, rv b17, rv b36, .unset, .unset, .unset, .unset, .unset, .unset, .unset] [(.int p3), (.ref b36)] _
        refine X113.ldcInt hx hown (mvT hZ (hw _ (List.mem_of_getElem? (i := 0) rfl))) (g := (mkF m 253 #[iv p1, iv p2, iv p3, iv p4, iv db, iv sl, iv spc, iv tc, iv pfx, iv kq, rv b17, rv b36, .unset, .unset, .unset, .unset, .unset, .unset, .unset] [(.int p3), (.ref b36)])) rfl (hb hby at_253) _ ?_
        refine XS.iand X113.here hx rfl (hb hby at_255) rfl ?_
        refine XS.aload X113.here hx rfl (hb hby at_256) rfl rfl ?_
        exact kk)
      obtain ⟨cl123, Ar123, -, S123, M123, -, -⟩ := id V113_1
      have pre124 : ∀ t, SS p e below m T113 260 #[iv p1, iv p2, iv p3, iv p4, iv db, iv sl, iv spc, iv tc, iv pfx, iv kq, rv b17, rv b36, .unset, .unset, .unset, .unset, .unset, .unset, .unset] [(.int ((p3 &&& (2147483647 : Int32)) % (23 : Int32))), (.ref b36)] t → B t := fun t kk => pre122 t (by
        refine X113.arraylength hx (by rw [e113]; exact Ar123.1) (State.isArrayOf_alike hZ.alike Ar123.2.1) (g := (mkF m 258 #[iv p1, iv p2, iv p3, iv p4, iv db, iv sl, iv spc, iv tc, iv pfx, iv kq, rv b17, rv b36, .unset, .unset, .unset, .unset, .unset, .unset, .unset] [(.ref b36), (.int (p3 &&& (2147483647 : Int32))), (.ref b36)])) rfl rfl (hb hby at_258) _ ?_
        rw [len_of S123 M123]
        refine iremM (g := (mkF m 259 #[iv p1, iv p2, iv p3, iv p4, iv db, iv sl, iv spc, iv tc, iv pfx, iv kq, rv b17, rv b36, .unset, .unset, .unset, .unset, .unset, .unset, .unset] [(.int (23 : Int32)), (.int (p3 &&& (2147483647 : Int32))), (.ref b36)])) X113 hx rfl (hb hby at_259) rfl (by decide) ?_
        exact kk)
      obtain ⟨cl125, Ar125, -, S125, -, H125, -⟩ := id V113_1
      have hin125 : ¬ (((p3 &&& (2147483647 : Int32)) % (23 : Int32)) < 0 ∨ cl125.slots.size ≤ (((p3 &&& (2147483647 : Int32)) % (23 : Int32))).toNatClampNeg) := inb_of S125 (own_inb p3 (23 : Int32) 23 (by decide) (by decide))
      have hat125 : cl125.slots[(((p3 &&& (2147483647 : Int32)) % (23 : Int32))).toNatClampNeg]? = some (.int ([(60 : Int32), (47 : Int32), (45 : Int32), (62 : Int32), (32 : Int32), (9 : Int32), (10 : Int32), (12 : Int32), (13 : Int32), (115 : Int32), (83 : Int32), (99 : Int32), (67 : Int32), (114 : Int32), (82 : Int32), (105 : Int32), (73 : Int32), (112 : Int32), (80 : Int32), (116 : Int32), (84 : Int32), (33 : Int32), (120 : Int32)].getD (((p3 &&& (2147483647 : Int32)) % (23 : Int32))).toNatClampNeg 0)) := by
        rw [H125 _ (Nat.lt_of_not_le fun q => hin125 (Or.inr q))]; exact congrArg some (own_getD [(60 : Int32), (47 : Int32), (45 : Int32), (62 : Int32), (32 : Int32), (9 : Int32), (10 : Int32), (12 : Int32), (13 : Int32), (115 : Int32), (83 : Int32), (99 : Int32), (67 : Int32), (114 : Int32), (82 : Int32), (105 : Int32), (73 : Int32), (112 : Int32), (80 : Int32), (116 : Int32), (84 : Int32), (33 : Int32), (120 : Int32)] _ 0)
      rw [g_cc, if_neg hc121] at kk
      exact pre124 t (by
        refine X113.caload hx (j := ((p3 &&& (2147483647 : Int32)) % (23 : Int32))) (v := (.int ([(60 : Int32), (47 : Int32), (45 : Int32), (62 : Int32), (32 : Int32), (9 : Int32), (10 : Int32), (12 : Int32), (13 : Int32), (115 : Int32), (83 : Int32), (99 : Int32), (67 : Int32), (114 : Int32), (82 : Int32), (105 : Int32), (73 : Int32), (112 : Int32), (80 : Int32), (116 : Int32), (84 : Int32), (33 : Int32), (120 : Int32)].getD (((p3 &&& (2147483647 : Int32)) % (23 : Int32))).toNatClampNeg 0))) (by rw [e113]; exact Ar125.1) (State.isArrayOf_alike hZ.alike Ar125.2.1) Ar125.2.2 hin125 hat125 (g := (mkF m 260 #[iv p1, iv p2, iv p3, iv p4, iv db, iv sl, iv spc, iv tc, iv pfx, iv kq, rv b17, rv b36, .unset, .unset, .unset, .unset, .unset, .unset, .unset] [(.int ((p3 &&& (2147483647 : Int32)) % (23 : Int32))), (.ref b36)])) rfl rfl (hb hby at_260) _ ?_
        refine XS.goto X113.here hx rfl (pc0 := 261) (pc' := 268) rfl (hb hby at_261) (by decide) (by decide) ?_
        exact kk)
  have hcc : 0 ≤ cc.toInt ∧ cc.toInt ≤ 65535 := by
    rw [g_cc]
    split
    · have q : (p3 &&& (65535 : Int32)).toInt = p3.toInt % 65536 := c_mask p3 65535 16 (by decide) (by decide)
      omega
    · exact own_getm _ (fun z => 0 ≤ z.toInt ∧ z.toInt ≤ 65535) (by decide) (by decide) _
  have pre126 : ∀ t, SS p e below m T113 279 #[iv p1, iv p2, iv p3, iv p4, iv db, iv sl, iv spc, iv tc, iv pfx, iv kq, rv b17, rv b36, iv cc, .unset, .unset, .unset, .unset, .unset, .unset] [(.int ((p4 &&& (2147483647 : Int32)) % (7 : Int32))), (.ref b17)] t → B t := fun t kk => pre115 t (by
    refine XS.istore X113.here hx rfl (hb hby at_268) rfl (l' := #[iv p1, iv p2, iv p3, iv p4, iv db, iv sl, iv spc, iv tc, iv pfx, iv kq, rv b17, rv b36, iv cc, .unset, .unset, .unset, .unset, .unset, .unset]) rfl ?_
    refine XS.aload X113.here hx rfl (hb hby at_270) rfl rfl ?_
    refine XS.iloadN X113.here hx rfl (hb hby at_272) rfl ?_
    refine X113.ldcInt hx hown (mvT hZ (hw _ (List.mem_of_getElem? (i := 0) rfl))) (g := (mkF m 273 #[iv p1, iv p2, iv p3, iv p4, iv db, iv sl, iv spc, iv tc, iv pfx, iv kq, rv b17, rv b36, iv cc, .unset, .unset, .unset, .unset, .unset, .unset] [(.int p4), (.ref b17)])) rfl (hb hby at_273) _ ?_
    show SS p e below m T113 275 #[iv p1, iv p2, iv p3, iv p4, iv db, iv sl, iv spc, iv tc, iv pfx, iv kq, rv b17, rv b36, iv cc, .unset, .unset, .unset, .unset, .unset, .unset] [(.int (2147483647 : Int32)), (.int p4), (.ref b17)] _
    refine XS.iand X113.here hx rfl (hb hby at_275) rfl ?_
    refine XS.bipush X113.here hx rfl (hb hby at_276) ?_
    refine iremM (g := (mkF m 278 #[iv p1, iv p2, iv p3, iv p4, iv db, iv sl, iv spc, iv tc, iv pfx, iv kq, rv b17, rv b36, iv cc, .unset, .unset, .unset, .unset, .unset, .unset] [(.int (7 : Int32)), (.int (p4 &&& (2147483647 : Int32))), (.ref b17)])) X113 hx rfl (hb hby at_278) rfl (by decide) ?_
    exact kk)
  obtain ⟨cl127, Ar127, -, S127, -, H127, -⟩ := id V113_0
  have hin127 : ¬ (((p4 &&& (2147483647 : Int32)) % (7 : Int32)) < 0 ∨ cl127.slots.size ≤ (((p4 &&& (2147483647 : Int32)) % (7 : Int32))).toNatClampNeg) := inb_of S127 (own_inb p4 (7 : Int32) 7 (by decide) (by decide))
  have hat127 : cl127.slots[(((p4 &&& (2147483647 : Int32)) % (7 : Int32))).toNatClampNeg]? = some (.int ([(9 : Int32), (10 : Int32), (12 : Int32), (13 : Int32), (32 : Int32), (47 : Int32), (62 : Int32)].getD (((p4 &&& (2147483647 : Int32)) % (7 : Int32))).toNatClampNeg 0)) := by
    rw [H127 _ (Nat.lt_of_not_le fun q => hin127 (Or.inr q))]; exact congrArg some (own_getD [(9 : Int32), (10 : Int32), (12 : Int32), (13 : Int32), (32 : Int32), (47 : Int32), (62 : Int32)] _ 0)
  have pre128 : ∀ t, SS p e below m T113 280 #[iv p1, iv p2, iv p3, iv p4, iv db, iv sl, iv spc, iv tc, iv pfx, iv kq, rv b17, rv b36, iv cc, .unset, .unset, .unset, .unset, .unset, .unset] [(.int ([(9 : Int32), (10 : Int32), (12 : Int32), (13 : Int32), (32 : Int32), (47 : Int32), (62 : Int32)].getD (((p4 &&& (2147483647 : Int32)) % (7 : Int32))).toNatClampNeg 0))] t → B t := fun t kk => pre126 t (by
    refine X113.caload hx (j := ((p4 &&& (2147483647 : Int32)) % (7 : Int32))) (v := (.int ([(9 : Int32), (10 : Int32), (12 : Int32), (13 : Int32), (32 : Int32), (47 : Int32), (62 : Int32)].getD (((p4 &&& (2147483647 : Int32)) % (7 : Int32))).toNatClampNeg 0))) (by rw [e113]; exact Ar127.1) (State.isArrayOf_alike hZ.alike Ar127.2.1) Ar127.2.2 hin127 hat127 (g := (mkF m 279 #[iv p1, iv p2, iv p3, iv p4, iv db, iv sl, iv spc, iv tc, iv pfx, iv kq, rv b17, rv b36, iv cc, .unset, .unset, .unset, .unset, .unset, .unset] [(.int ((p4 &&& (2147483647 : Int32)) % (7 : Int32))), (.ref b17)])) rfl rfl (hb hby at_279) _ ?_
    exact kk)
  obtain ⟨ec, g_ec⟩ : ∃ z, z = ([(9 : Int32), (10 : Int32), (12 : Int32), (13 : Int32), (32 : Int32), (47 : Int32), (62 : Int32)].getD (((p4 &&& (2147483647 : Int32)) % (7 : Int32))).toNatClampNeg 0) := ⟨_, rfl⟩
  rw [← g_ec] at pre128
  have pre129 : ∀ t, SS p e below m T113 289 #[iv p1, iv p2, iv p3, iv p4, iv db, iv sl, iv spc, iv tc, iv pfx, iv kq, rv b17, rv b36, iv cc, iv ec, iv (0 : Int32), .unset, .unset, .unset, .unset] [(.int (60 : Int32)), (.int (0 : Int32))] t → B t := fun t kk => pre128 t (by
    refine XS.istore X113.here hx rfl (hb hby at_280) rfl (l' := #[iv p1, iv p2, iv p3, iv p4, iv db, iv sl, iv spc, iv tc, iv pfx, iv kq, rv b17, rv b36, iv cc, iv ec, .unset, .unset, .unset, .unset, .unset]) rfl ?_
    refine XS.iconst X113.here hx rfl (hb hby at_282) ?_
    refine XS.istore X113.here hx rfl (hb hby at_283) rfl (l' := #[iv p1, iv p2, iv p3, iv p4, iv db, iv sl, iv spc, iv tc, iv pfx, iv kq, rv b17, rv b36, iv cc, iv ec, iv (0 : Int32), .unset, .unset, .unset, .unset]) rfl ?_
    refine XS.iload X113.here hx rfl (hb hby at_285) rfl ?_
    show SS p e below m T113 287 #[iv p1, iv p2, iv p3, iv p4, iv db, iv sl, iv spc, iv tc, iv pfx, iv kq, rv b17, rv b36, iv cc, iv ec, iv (0 : Int32), .unset, .unset, .unset, .unset] [(.int (0 : Int32))] _
    refine XS.bipush X113.here hx rfl (hb hby at_287) ?_
    exact kk)
  obtain ⟨_, _, ⟨T130, L130, k130, n130⟩, -, X130, ⟨Lc130, hQ130, l130, y130, z130⟩, st130⟩ := Jvm.LawKit.callS X113 hx (y := (⟨"pithline/html/ScriptData", "next", "(II)I"⟩ : MethodName)) hown (mvT hZ (hw _ (List.mem_of_getElem? (i := 3) rfl))) (mvT hZ (hw _ (List.mem_of_getElem? (i := 4) rfl))) (mvT hZ (hw _ (List.mem_of_getElem? (i := 5) rfl))) (mvT hZ (hw _ (List.mem_of_getElem? (i := 6) rfl))) (by decide) (backOf (W := 0) (rmN0 l Z a0 hw [] (60 : Int32) h113 n0 Z113 ) hZ (hw _ (List.mem_of_getElem? (i := 6) rfl)) (hw _ (List.mem_of_getElem? (i := 5) rfl)) (by decide) (by decide)) (g := (mkF m 289 #[iv p1, iv p2, iv p3, iv p4, iv db, iv sl, iv spc, iv tc, iv pfx, iv kq, rv b17, rv b36, iv cc, iv ec, iv (0 : Int32), .unset, .unset, .unset, .unset] [(.int (60 : Int32)), (.int (0 : Int32))])) rfl (by rw [hml]; rfl) (argsL := [(.int (0 : Int32)), (.int (60 : Int32))]) (rest := []) (lenOf pd_6 rfl) rfl (by show 2 * 0 + _ ≤ _; exact Nat.le_of_eq rfl) (hb hby at_289) (fun _ _ => ⟨rfl, e113, (by decide : 2 + 0 ≤ _), (by decide : 30 + 0 ≤ _)⟩)
  dsimp only [Pt.U, Pt.locs, Pt.cells, Pt.slots] at X130 l130 y130 z130 st130 hQ130
  subst l130 y130 z130
  obtain ⟨rfl, N130q, e130⟩ := hQ130
  have N130 := Fr.app N113 N130q
  have pre131 : ∀ t, SS p e below m T130 292 #[iv p1, iv p2, iv p3, iv p4, iv db, iv sl, iv spc, iv tc, iv pfx, iv kq, rv b17, rv b36, iv cc, iv ec, iv (0 : Int32), .unset, .unset, .unset, .unset] [(.int (fN0 (60 : Int32)))] t → B t := fun t kk => pre129 t (by
    refine st130 _ ?_
    exact kk)
  rw [show fN0 (60 : Int32) = (8 : Int32) from by decide] at pre131
  have pre132 : ∀ t, SS p e below m T130 298 #[iv p1, iv p2, iv p3, iv p4, iv db, iv sl, iv spc, iv tc, iv pfx, iv kq, rv b17, rv b36, iv cc, iv ec, iv (8 : Int32), .unset, .unset, .unset, .unset] [(.int (33 : Int32)), (.int (8 : Int32))] t → B t := fun t kk => pre131 t (by
    refine XS.istore X130.here hx rfl (hb hby at_292) rfl (l' := #[iv p1, iv p2, iv p3, iv p4, iv db, iv sl, iv spc, iv tc, iv pfx, iv kq, rv b17, rv b36, iv cc, iv ec, iv (8 : Int32), .unset, .unset, .unset, .unset]) rfl ?_
    refine XS.iload X130.here hx rfl (hb hby at_294) rfl ?_
    refine XS.bipush X130.here hx rfl (hb hby at_296) ?_
    exact kk)
  obtain ⟨_, _, ⟨T133, L133, k133, n133⟩, -, X133, ⟨Lc133, hQ133, l133, y133, z133⟩, st133⟩ := Jvm.LawKit.callS X130 hx (y := (⟨"pithline/html/ScriptData", "next", "(II)I"⟩ : MethodName)) hown (mvT hZ (hw _ (List.mem_of_getElem? (i := 3) rfl))) (mvT hZ (hw _ (List.mem_of_getElem? (i := 4) rfl))) (mvT hZ (hw _ (List.mem_of_getElem? (i := 5) rfl))) (mvT hZ (hw _ (List.mem_of_getElem? (i := 6) rfl))) (by decide) (backOf (W := 0) (rmN8 l Z a0 hw []  h113 n0 Z113 ) hZ (hw _ (List.mem_of_getElem? (i := 6) rfl)) (hw _ (List.mem_of_getElem? (i := 5) rfl)) (by decide) (by decide)) (g := (mkF m 298 #[iv p1, iv p2, iv p3, iv p4, iv db, iv sl, iv spc, iv tc, iv pfx, iv kq, rv b17, rv b36, iv cc, iv ec, iv (8 : Int32), .unset, .unset, .unset, .unset] [(.int (33 : Int32)), (.int (8 : Int32))])) rfl (by rw [hml]; rfl) (argsL := [(.int (8 : Int32)), (.int (33 : Int32))]) (rest := []) (lenOf pd_6 rfl) rfl (by show 2 * 0 + _ ≤ _; exact Nat.le_of_eq rfl) (hb hby at_298) (fun _ _ => ⟨rfl, e130, (by decide : 2 + 0 ≤ _), (by decide : 30 + 0 ≤ _)⟩)
  dsimp only [Pt.U, Pt.locs, Pt.cells, Pt.slots] at X133 l133 y133 z133 st133 hQ133
  subst l133 y133 z133
  obtain ⟨rfl, N133q, e133⟩ := hQ133
  have N133 := Fr.app N130 N133q
  have pre134 : ∀ t, SS p e below m T133 301 #[iv p1, iv p2, iv p3, iv p4, iv db, iv sl, iv spc, iv tc, iv pfx, iv kq, rv b17, rv b36, iv cc, iv ec, iv (8 : Int32), .unset, .unset, .unset, .unset] [(.int fN8)] t → B t := fun t kk => pre132 t (by
    refine st133 _ ?_
    exact kk)
  rw [show fN8 = (24 : Int32) from rfl] at pre134
  have pre135 : ∀ t, SS p e below m T133 307 #[iv p1, iv p2, iv p3, iv p4, iv db, iv sl, iv spc, iv tc, iv pfx, iv kq, rv b17, rv b36, iv cc, iv ec, iv (24 : Int32), .unset, .unset, .unset, .unset] [(.int (45 : Int32)), (.int (24 : Int32))] t → B t := fun t kk => pre134 t (by
    refine XS.istore X133.here hx rfl (hb hby at_301) rfl (l' := #[iv p1, iv p2, iv p3, iv p4, iv db, iv sl, iv spc, iv tc, iv pfx, iv kq, rv b17, rv b36, iv cc, iv ec, iv (24 : Int32), .unset, .unset, .unset, .unset]) rfl ?_
    refine XS.iload X133.here hx rfl (hb hby at_303) rfl ?_
    refine XS.bipush X133.here hx rfl (hb hby at_305) ?_
    exact kk)
  obtain ⟨_, _, ⟨T136, L136, k136, n136⟩, -, X136, ⟨Lc136, hQ136, l136, y136, z136⟩, st136⟩ := Jvm.LawKit.callS X133 hx (y := (⟨"pithline/html/ScriptData", "next", "(II)I"⟩ : MethodName)) hown (mvT hZ (hw _ (List.mem_of_getElem? (i := 3) rfl))) (mvT hZ (hw _ (List.mem_of_getElem? (i := 4) rfl))) (mvT hZ (hw _ (List.mem_of_getElem? (i := 5) rfl))) (mvT hZ (hw _ (List.mem_of_getElem? (i := 6) rfl))) (by decide) (backOf (W := 0) (rmN24 l Z a0 hw []  h113 n0 Z113 ) hZ (hw _ (List.mem_of_getElem? (i := 6) rfl)) (hw _ (List.mem_of_getElem? (i := 5) rfl)) (by decide) (by decide)) (g := (mkF m 307 #[iv p1, iv p2, iv p3, iv p4, iv db, iv sl, iv spc, iv tc, iv pfx, iv kq, rv b17, rv b36, iv cc, iv ec, iv (24 : Int32), .unset, .unset, .unset, .unset] [(.int (45 : Int32)), (.int (24 : Int32))])) rfl (by rw [hml]; rfl) (argsL := [(.int (24 : Int32)), (.int (45 : Int32))]) (rest := []) (lenOf pd_6 rfl) rfl (by show 2 * 0 + _ ≤ _; exact Nat.le_of_eq rfl) (hb hby at_307) (fun _ _ => ⟨rfl, e133, (by decide : 2 + 0 ≤ _), (by decide : 30 + 0 ≤ _)⟩)
  dsimp only [Pt.U, Pt.locs, Pt.cells, Pt.slots] at X136 l136 y136 z136 st136 hQ136
  subst l136 y136 z136
  obtain ⟨rfl, N136q, e136⟩ := hQ136
  have N136 := Fr.app N133 N136q
  have pre137 : ∀ t, SS p e below m T136 310 #[iv p1, iv p2, iv p3, iv p4, iv db, iv sl, iv spc, iv tc, iv pfx, iv kq, rv b17, rv b36, iv cc, iv ec, iv (24 : Int32), .unset, .unset, .unset, .unset] [(.int fN24)] t → B t := fun t kk => pre135 t (by
    refine st136 _ ?_
    exact kk)
  rw [show fN24 = (32 : Int32) from rfl] at pre137
  have pre138 : ∀ t, SS p e below m T136 316 #[iv p1, iv p2, iv p3, iv p4, iv db, iv sl, iv spc, iv tc, iv pfx, iv kq, rv b17, rv b36, iv cc, iv ec, iv (32 : Int32), .unset, .unset, .unset, .unset] [(.int (45 : Int32)), (.int (32 : Int32))] t → B t := fun t kk => pre137 t (by
    refine XS.istore X136.here hx rfl (hb hby at_310) rfl (l' := #[iv p1, iv p2, iv p3, iv p4, iv db, iv sl, iv spc, iv tc, iv pfx, iv kq, rv b17, rv b36, iv cc, iv ec, iv (32 : Int32), .unset, .unset, .unset, .unset]) rfl ?_
    refine XS.iload X136.here hx rfl (hb hby at_312) rfl ?_
    refine XS.bipush X136.here hx rfl (hb hby at_314) ?_
    exact kk)
  obtain ⟨_, _, ⟨T139, L139, k139, n139⟩, -, X139, ⟨Lc139, hQ139, l139, y139, z139⟩, st139⟩ := Jvm.LawKit.callS X136 hx (y := (⟨"pithline/html/ScriptData", "next", "(II)I"⟩ : MethodName)) hown (mvT hZ (hw _ (List.mem_of_getElem? (i := 3) rfl))) (mvT hZ (hw _ (List.mem_of_getElem? (i := 4) rfl))) (mvT hZ (hw _ (List.mem_of_getElem? (i := 5) rfl))) (mvT hZ (hw _ (List.mem_of_getElem? (i := 6) rfl))) (by decide) (backOf (W := 0) (rmN32 l Z a0 hw []  h113 n0 Z113 ) hZ (hw _ (List.mem_of_getElem? (i := 6) rfl)) (hw _ (List.mem_of_getElem? (i := 5) rfl)) (by decide) (by decide)) (g := (mkF m 316 #[iv p1, iv p2, iv p3, iv p4, iv db, iv sl, iv spc, iv tc, iv pfx, iv kq, rv b17, rv b36, iv cc, iv ec, iv (32 : Int32), .unset, .unset, .unset, .unset] [(.int (45 : Int32)), (.int (32 : Int32))])) rfl (by rw [hml]; rfl) (argsL := [(.int (32 : Int32)), (.int (45 : Int32))]) (rest := []) (lenOf pd_6 rfl) rfl (by show 2 * 0 + _ ≤ _; exact Nat.le_of_eq rfl) (hb hby at_316) (fun _ _ => ⟨rfl, e136, (by decide : 2 + 0 ≤ _), (by decide : 30 + 0 ≤ _)⟩)
  dsimp only [Pt.U, Pt.locs, Pt.cells, Pt.slots] at X139 l139 y139 z139 st139 hQ139
  subst l139 y139 z139
  obtain ⟨rfl, N139q, e139⟩ := hQ139
  have N139 := Fr.app N136 N139q
  have pre140 : ∀ t, SS p e below m T139 319 #[iv p1, iv p2, iv p3, iv p4, iv db, iv sl, iv spc, iv tc, iv pfx, iv kq, rv b17, rv b36, iv cc, iv ec, iv (32 : Int32), .unset, .unset, .unset, .unset] [(.int fN32)] t → B t := fun t kk => pre138 t (by
    refine st139 _ ?_
    exact kk)
  rw [show fN32 = (56 : Int32) from rfl] at pre140
  have pre141 : ∀ t, SS p e below m T139 323 #[iv p1, iv p2, iv p3, iv p4, iv db, iv sl, iv spc, iv tc, iv pfx, iv kq, rv b17, rv b36, iv cc, iv ec, iv (56 : Int32), .unset, .unset, .unset, .unset] [(.int db)] t → B t := fun t kk => pre140 t (by
    refine XS.istore X139.here hx rfl (hb hby at_319) rfl (l' := #[iv p1, iv p2, iv p3, iv p4, iv db, iv sl, iv spc, iv tc, iv pfx, iv kq, rv b17, rv b36, iv cc, iv ec, iv (56 : Int32), .unset, .unset, .unset, .unset]) rfl ?_
    refine XS.iload X139.here hx rfl (hb hby at_321) rfl ?_
    exact kk)
  obtain ⟨sB, g_sB⟩ : ∃ z : Int32, z = if db = (0 : Int32) then (56 : Int32) else (88 : Int32) := ⟨_, rfl⟩
  obtain ⟨T155, vm155, L155, X155, N155, Z155, hZ155, hown155, ⟨k155, hS155, hk155⟩, C155, XO155, EX155, pre155⟩ : ∃ (T : State) (vm : Vm) (locs : List Loc), Stand p l e room_1 (s.setVm vm) m #[(.int p1), (.int p2), (.int p3), (.int p4)] below meth c T locs 8 114 ∧ Fr n0 locs ∧ n0 ≤ T.heap.size ∧ Z.Warmed39 (s.setVm vm).vm ∧ (s.setVm vm).vm.findClass "pithline/html/ScriptDataOpenTagLengthPinLaw" = some m.cls ∧ (∃ k0, s.Since vm k0 ∧ k0 ≤ T.heap.size) ∧ CHr Z consts_1 s.vm h0 vm T.heap ∧ Ext Z.heap T.heap ∧ Ext h0 T.heap ∧ (∀ t, SS p e below m T 347 #[iv p1, iv p2, iv p3, iv p4, iv db, iv sl, iv spc, iv tc, iv pfx, iv kq, rv b17, rv b36, iv cc, iv ec, iv sB, .unset, .unset, .unset, .unset] [] t → B t) := by
    by_cases hc142 : db = (0 : Int32)
    · have pre143 : ∀ t, SS p e below m T139 347 #[iv p1, iv p2, iv p3, iv p4, iv db, iv sl, iv spc, iv tc, iv pfx, iv kq, rv b17, rv b36, iv cc, iv ec, iv (56 : Int32), .unset, .unset, .unset, .unset] [] t → B t := fun t kk => pre141 t (by
        refine XS.ifYes X139.here hx rfl (pc0 := 323) (pc' := 347) rfl (hb hby at_323) rfl ((if0 _ _).trans (teq hc142).1) (by decide) (by decide) ?_
        exact kk)
      refine ⟨T139, s.vm, _, X139.more (by decide) (by decide), N139, (by rw [e139]; exact Z113), hZ, hown, ⟨_, hS0, (by rw [e139]; exact hk113)⟩, (by rw [e139]; exact C113), (by rw [e139]; exact XO113), (by rw [e139]; exact EX113), fun t kk => ?_⟩
      rw [g_sB, if_pos hc142] at kk
      exact pre143 t kk
    · have pre144 : ∀ t, SS p e below m T139 333 #[iv p1, iv p2, iv p3, iv p4, iv db, iv sl, iv spc, iv tc, iv pfx, iv kq, rv b17, rv b36, iv cc, iv ec, iv (56 : Int32), .unset, .unset, .unset, .unset] [(.int pfx), (.int (6 : Int32)), (.int (0 : Int32)), (.int (56 : Int32))] t → B t := fun t kk => pre141 t (by
        refine XS.ifNo X139.here hx rfl (hb hby at_323) rfl ((if0 _ _).trans (feq hc142).1) ?_
        refine XS.iload X139.here hx rfl (hb hby at_326) rfl ?_
        refine XS.iconst X139.here hx rfl (hb hby at_328) ?_
        refine XS.bipush X139.here hx rfl (hb hby at_329) ?_
        show SS p e below m T139 331 #[iv p1, iv p2, iv p3, iv p4, iv db, iv sl, iv spc, iv tc, iv pfx, iv kq, rv b17, rv b36, iv cc, iv ec, iv (56 : Int32), .unset, .unset, .unset, .unset] [(.int (6 : Int32)), (.int (0 : Int32)), (.int (56 : Int32))] _
        refine XS.iload X139.here hx rfl (hb hby at_331) rfl ?_
        exact kk)
      obtain ⟨_, _, ⟨T145, L145, k145, n145⟩, -, X145, hS145, hg145, ⟨Lc145, hQ145, l145, y145, z145, hC145⟩, st145⟩ := callSS X139 hx (y := (⟨"pithline/html/ScriptDataOpenTagLengthPinLaw", "tag", "(IZII)I"⟩ : MethodName)) hown (mvT hZ (hw _ (List.mem_of_getElem? (i := 10) rfl))) (mvT hZ (hw _ (List.mem_of_getElem? (i := 11) rfl))) (mvT hZ (hw _ (List.mem_of_getElem? (i := 12) rfl))) (mvT hZ (hw _ (List.mem_of_getElem? (i := 13) rfl))) (by decide) (backOfSH (s := s) (vm0 := s.vm) (EL := consts_1) (W := 0) (rmT l Z a0 hw [] (56 : Int32) (0 : Int32) (6 : Int32) pfx cz fm h113 n0 Z113 hEL XO113 Scs hcz Sfm hfm (Or.inl rfl) (Or.inl rfl)) hZ (hw _ (List.mem_of_getElem? (i := 13) rfl)) (hw _ (List.mem_of_getElem? (i := 12) rfl)) (by decide) (by decide) hEL C113.1) (g := (mkF m 333 #[iv p1, iv p2, iv p3, iv p4, iv db, iv sl, iv spc, iv tc, iv pfx, iv kq, rv b17, rv b36, iv cc, iv ec, iv (56 : Int32), .unset, .unset, .unset, .unset] [(.int pfx), (.int (6 : Int32)), (.int (0 : Int32)), (.int (56 : Int32))])) rfl (by rw [hml]; rfl) (argsL := [(.int (56 : Int32)), (.int (0 : Int32)), (.int (6 : Int32)), (.int pfx)]) (rest := []) (lenOf pd_11 rfl) rfl (by show 2 * 0 + _ ≤ _; exact Nat.le_of_eq rfl) (hb hby at_333) (fun _ _ => ⟨rfl, e139, (by decide : 2 + 4 ≤ _), (by decide : 30 + 56 ≤ _)⟩)
      dsimp only [Pt.U, Pt.locs, Pt.cells, Pt.slots] at X145 l145 y145 z145 st145 hQ145 hS145 hg145 hC145
      subst l145 y145 z145
      obtain ⟨rfl, N145q, E145⟩ := hQ145
      replace hZ : Z.Warmed39 (s.setVm T145.vm).vm := State.Warmed39.trans (t := s.setVm s.vm) hZ hS145.1
      replace hown : (s.setVm T145.vm).vm.findClass "pithline/html/ScriptDataOpenTagLengthPinLaw" = some m.cls := by rw [show (s.setVm T145.vm).vm = T145.vm from rfl, hS145.1.alike.findClass]; exact hown
      have hs145 : s.Since T145.vm T145.heap.size := hS0.trans hS145 (Nat.le_trans hk113 (by first | exact hg145 | (have q := hg145; rw [e139] at q; exact q)))
      have hk145 : T145.heap.size ≤ T145.heap.size := Nat.le_refl _
      have C145 := C113.trans hC145
      have N145 := Fr.app N139 N145q
      have Z145 : n0 ≤ T145.heap.size := Nat.le_trans Z113 E145.1
      have XO145 : Ext Z.heap T145.heap := own_ext XO113 E145
      have EX145 : Ext h0 T145.heap := own_ext EX113 E145
      have F146 := V113_0.ext E145
      have F147 := V113_1.ext E145
      have pre148 : ∀ t, SS p e below m T145 336 #[iv p1, iv p2, iv p3, iv p4, iv db, iv sl, iv spc, iv tc, iv pfx, iv kq, rv b17, rv b36, iv cc, iv ec, iv (56 : Int32), .unset, .unset, .unset, .unset] [(.int (fT (56 : Int32) (0 : Int32) (6 : Int32) pfx))] t → B t := fun t kk => pre144 t (by
        refine st145.trans ?_
        exact kk)
      rw [own_t6 pfx] at pre148
      have pre149 : ∀ t, SS p e below m T145 342 #[iv p1, iv p2, iv p3, iv p4, iv db, iv sl, iv spc, iv tc, iv pfx, iv kq, rv b17, rv b36, iv cc, iv ec, iv (86 : Int32), .unset, .unset, .unset, .unset] [(.int ec), (.int (86 : Int32))] t → B t := fun t kk => pre148 t (by
        refine XS.istore X145.here hx rfl (hb hby at_336) rfl (l' := #[iv p1, iv p2, iv p3, iv p4, iv db, iv sl, iv spc, iv tc, iv pfx, iv kq, rv b17, rv b36, iv cc, iv ec, iv (86 : Int32), .unset, .unset, .unset, .unset]) rfl ?_
        refine XS.iload X145.here hx rfl (hb hby at_338) rfl ?_
        refine XS.iload X145.here hx rfl (hb hby at_340) rfl ?_
        exact kk)
      obtain ⟨_, _, ⟨T150, L150, k150, n150⟩, -, X150, hS150, hg150, ⟨Lc150, hQ150, l150, y150, z150, hC150⟩, st150⟩ := callSS X145 hx (y := (⟨"pithline/html/ScriptData", "next", "(II)I"⟩ : MethodName)) hown (mvT hZ (hw _ (List.mem_of_getElem? (i := 3) rfl))) (mvT hZ (hw _ (List.mem_of_getElem? (i := 4) rfl))) (mvT hZ (hw _ (List.mem_of_getElem? (i := 5) rfl))) (mvT hZ (hw _ (List.mem_of_getElem? (i := 6) rfl))) (by decide) (own_backS (s := s) (vm0 := T145.vm) (EL := consts_1) (W := 0) (rmNgC l Z a0 hw [] (86 : Int32) ec cz fm (6 : Int32) (80 : Int32) T145.heap n0 Z145 hEL XO145 Scs hcz Sfm hfm (by decide) (by decide) (by decide) (Or.inr (Or.inr (Or.inr (Or.inl rfl))))) hZ (hw _ (List.mem_of_getElem? (i := 6) rfl)) (hw _ (List.mem_of_getElem? (i := 5) rfl)) (by decide) (by decide) hEL C145.1) (g := (mkF m 342 #[iv p1, iv p2, iv p3, iv p4, iv db, iv sl, iv spc, iv tc, iv pfx, iv kq, rv b17, rv b36, iv cc, iv ec, iv (86 : Int32), .unset, .unset, .unset, .unset] [(.int ec), (.int (86 : Int32))])) rfl (by rw [hml]; rfl) (argsL := [(.int (86 : Int32)), (.int ec)]) (rest := []) (lenOf pd_6 rfl) rfl (by show 2 * 0 + _ ≤ _; exact Nat.le_of_eq rfl) (hb hby at_342) (fun _ _ => ⟨rfl, rfl, (by decide : 6 + 2 ≤ _), (by decide : 86 + 28 ≤ _)⟩)
      dsimp only [Pt.U, Pt.locs, Pt.cells, Pt.slots] at X150 l150 y150 z150 st150 hQ150 hS150 hg150 hC150
      subst l150 y150 z150
      obtain ⟨rfl, N150q, E150, hV150⟩ := hQ150
      replace hZ : Z.Warmed39 (s.setVm T150.vm).vm := State.Warmed39.trans (t := s.setVm T145.vm) hZ hS150.1
      replace hown : (s.setVm T150.vm).vm.findClass "pithline/html/ScriptDataOpenTagLengthPinLaw" = some m.cls := by rw [show (s.setVm T150.vm).vm = T150.vm from rfl, hS150.1.alike.findClass]; exact hown
      have hs150 : s.Since T150.vm T150.heap.size := hs145.trans hS150 (Nat.le_trans hk145 hg150)
      have hk150 : T150.heap.size ≤ T150.heap.size := Nat.le_refl _
      have C150 := C145.trans hC150
      have N150 := Fr.app N145 N150q
      have Z150 : n0 ≤ T150.heap.size := Nat.le_trans Z145 E150.1
      have XO150 : Ext Z.heap T150.heap := own_ext XO145 E150
      have EX150 : Ext h0 T150.heap := own_ext EX145 E150
      have F151 := F146.ext E150
      have F152 := F147.ext E150
      have pre153 : ∀ t, SS p e below m T150 345 #[iv p1, iv p2, iv p3, iv p4, iv db, iv sl, iv spc, iv tc, iv pfx, iv kq, rv b17, rv b36, iv cc, iv ec, iv (86 : Int32), .unset, .unset, .unset, .unset] [(.int (fNgC (86 : Int32) ec (6 : Int32) (80 : Int32)))] t → B t := fun t kk => pre149 t (by
        refine st150.trans ?_
        exact kk)
      rw [show fNgC (86 : Int32) ec (6 : Int32) (80 : Int32) = (88 : Int32) from by rw [g_ec]; exact own_ec p4] at pre153
      have pre154 : ∀ t, SS p e below m T150 347 #[iv p1, iv p2, iv p3, iv p4, iv db, iv sl, iv spc, iv tc, iv pfx, iv kq, rv b17, rv b36, iv cc, iv ec, iv (88 : Int32), .unset, .unset, .unset, .unset] [] t → B t := fun t kk => pre153 t (by
        refine XS.istore X150.here hx rfl (hb hby at_345) rfl (l' := #[iv p1, iv p2, iv p3, iv p4, iv db, iv sl, iv spc, iv tc, iv pfx, iv kq, rv b17, rv b36, iv cc, iv ec, iv (88 : Int32), .unset, .unset, .unset, .unset]) rfl ?_
        exact kk)
      refine ⟨T150, T150.vm, _, X150.more (by decide) (by decide), N150, Z150, hZ, hown, ⟨_, hs150, hk150⟩, C150, XO150, EX150, fun t kk => ?_⟩
      rw [g_sB, if_neg hc142] at kk
      exact pre154 t kk
  replace hZ := hZ155
  replace hown := hown155
  have hsB : sB = (56 : Int32) ∨ sB = (88 : Int32) := by
    rw [g_sB]
    split
    · exact Or.inl rfl
    · exact Or.inr rfl
  have pre156 : ∀ t, SS p e below m T155 355 #[iv p1, iv p2, iv p3, iv p4, iv db, iv sl, iv spc, iv tc, iv pfx, iv kq, rv b17, rv b36, iv cc, iv ec, iv sB, .unset, .unset, .unset, .unset] [(.int tc), (.int kq), (.int sl), (.int sB)] t → B t := fun t kk => pre155 t (by
    refine XS.iload X155.here hx rfl (hb hby at_347) rfl ?_
    refine XS.iload X155.here hx rfl (hb hby at_349) rfl ?_
    refine XS.iload X155.here hx rfl (hb hby at_351) rfl ?_
    refine XS.iload X155.here hx rfl (hb hby at_353) rfl ?_
    show SS p e below m T155 355 #[iv p1, iv p2, iv p3, iv p4, iv db, iv sl, iv spc, iv tc, iv pfx, iv kq, rv b17, rv b36, iv cc, iv ec, iv sB, .unset, .unset, .unset, .unset] [(.int tc), (.int kq), (.int sl), (.int sB)] _
    exact kk)
  obtain ⟨_, _, ⟨T157, L157, k157, n157⟩, -, X157, hS157, hg157, ⟨Lc157, hQ157, l157, y157, z157, hC157⟩, st157⟩ := callSS X155 hx (y := (⟨"pithline/html/ScriptDataOpenTagLengthPinLaw", "tag", "(IZII)I"⟩ : MethodName)) hown (mvT hZ (hw _ (List.mem_of_getElem? (i := 10) rfl))) (mvT hZ (hw _ (List.mem_of_getElem? (i := 11) rfl))) (mvT hZ (hw _ (List.mem_of_getElem? (i := 12) rfl))) (mvT hZ (hw _ (List.mem_of_getElem? (i := 13) rfl))) (by decide) (backOfSH (s := s) (vm0 := vm155) (EL := consts_1) (W := 0) (rmT l Z a0 hw [] sB sl kq tc cz fm T155.heap n0 Z155 hEL XO155 Scs hcz Sfm hfm hsB hsl) hZ (hw _ (List.mem_of_getElem? (i := 13) rfl)) (hw _ (List.mem_of_getElem? (i := 12) rfl)) (by decide) (by decide) hEL C155.1) (g := (mkF m 355 #[iv p1, iv p2, iv p3, iv p4, iv db, iv sl, iv spc, iv tc, iv pfx, iv kq, rv b17, rv b36, iv cc, iv ec, iv sB, .unset, .unset, .unset, .unset] [(.int tc), (.int kq), (.int sl), (.int sB)])) rfl (by rw [hml]; rfl) (argsL := [(.int sB), (.int sl), (.int kq), (.int tc)]) (rest := []) (lenOf pd_11 rfl) rfl (by show 2 * 0 + _ ≤ _; exact Nat.le_of_eq rfl) (hb hby at_355) (fun _ _ => ⟨rfl, rfl, (by decide : 8 + 4 ≤ _), (by decide : 114 + 56 ≤ _)⟩)
  dsimp only [Pt.U, Pt.locs, Pt.cells, Pt.slots] at X157 l157 y157 z157 st157 hQ157 hS157 hg157 hC157
  subst l157 y157 z157
  obtain ⟨rfl, N157q, E157⟩ := hQ157
  replace hZ : Z.Warmed39 (s.setVm T157.vm).vm := State.Warmed39.trans (t := s.setVm vm155) hZ hS157.1
  replace hown : (s.setVm T157.vm).vm.findClass "pithline/html/ScriptDataOpenTagLengthPinLaw" = some m.cls := by rw [show (s.setVm T157.vm).vm = T157.vm from rfl, hS157.1.alike.findClass]; exact hown
  have hs157 : s.Since T157.vm T157.heap.size := hS155.trans hS157 (Nat.le_trans hk155 hg157)
  have hk157 : T157.heap.size ≤ T157.heap.size := Nat.le_refl _
  have C157 := C155.trans hC157
  have N157 := Fr.app N155 N157q
  have Z157 : n0 ≤ T157.heap.size := Nat.le_trans Z155 E157.1
  have XO157 : Ext Z.heap T157.heap := own_ext XO155 E157
  have EX157 : Ext h0 T157.heap := own_ext EX155 E157
  have pre158 : ∀ t, SS p e below m T157 358 #[iv p1, iv p2, iv p3, iv p4, iv db, iv sl, iv spc, iv tc, iv pfx, iv kq, rv b17, rv b36, iv cc, iv ec, iv sB, .unset, .unset, .unset, .unset] [(.int (fT sB sl kq tc))] t → B t := fun t kk => pre156 t (by
    refine st157.trans ?_
    exact kk)
  obtain ⟨sv, g_sv⟩ : ∃ z, z = (fT sB sl kq tc) := ⟨_, rfl⟩
  rw [← g_sv] at pre158
  have hsv0 : sv = own_svv db sl kq := by rw [g_sv, g_sB]; rfl
  have hsv := own_sv db sl kq tc hdb hsl hkq sv hsv0
  have pre159 : ∀ t, SS p e below m T157 362 #[iv p1, iv p2, iv p3, iv p4, iv db, iv sl, iv spc, iv tc, iv pfx, iv kq, rv b17, rv b36, iv cc, iv ec, iv sv, .unset, .unset, .unset, .unset] [(.int sv)] t → B t := fun t kk => pre158 t (by
    refine XS.istore X157.here hx rfl (hb hby at_358) rfl (l' := #[iv p1, iv p2, iv p3, iv p4, iv db, iv sl, iv spc, iv tc, iv pfx, iv kq, rv b17, rv b36, iv cc, iv ec, iv sv, .unset, .unset, .unset, .unset]) rfl ?_
    refine XS.iload X157.here hx rfl (hb hby at_360) rfl ?_
    exact kk)
  obtain ⟨_, _, ⟨T160, L160, k160, n160⟩, -, X160, ⟨Lc160, hQ160, l160, y160, z160⟩, st160⟩ := Jvm.LawKit.callS X157 hx (y := (⟨"pithline/html/ScriptData", "openTagLength", "(I)I"⟩ : MethodName)) hown (mvT hZ (hw _ (List.mem_of_getElem? (i := 75) rfl))) (mvT hZ (hw _ (List.mem_of_getElem? (i := 76) rfl))) (mvT hZ (hw _ (List.mem_of_getElem? (i := 5) rfl))) (mvT hZ (hw _ (List.mem_of_getElem? (i := 77) rfl))) (by decide) (backOf (W := 0) (rm16 l Z a0 hw [] sv T157.heap n0 Z157 ) hZ (hw _ (List.mem_of_getElem? (i := 77) rfl)) (hw _ (List.mem_of_getElem? (i := 5) rfl)) (by decide) (by decide)) (g := (mkF m 362 #[iv p1, iv p2, iv p3, iv p4, iv db, iv sl, iv spc, iv tc, iv pfx, iv kq, rv b17, rv b36, iv cc, iv ec, iv sv, .unset, .unset, .unset, .unset] [(.int sv)])) rfl (by rw [hml]; rfl) (argsL := [(.int sv)]) (rest := []) (lenOf pd_7 rfl) rfl (by show 2 * 0 + _ ≤ _; exact Nat.le_of_eq rfl) (hb hby at_362) (fun _ _ => ⟨rfl, rfl, (by decide : 12 + 0 ≤ _), (by decide : 170 + 0 ≤ _)⟩)
  dsimp only [Pt.U, Pt.locs, Pt.cells, Pt.slots] at X160 l160 y160 z160 st160 hQ160
  subst l160 y160 z160
  obtain ⟨rfl, N160q, e160⟩ := hQ160
  have N160 := Fr.app N157 N160q
  have pre161 : ∀ t, SS p e below m T160 371 #[iv p1, iv p2, iv p3, iv p4, iv db, iv sl, iv spc, iv tc, iv pfx, iv kq, rv b17, rv b36, iv cc, iv ec, iv sv, .unset, .unset, .unset, .unset] [(.int kq), (.int sl), (.int db), (.int (f16 sv))] t → B t := fun t kk => pre159 t (by
    refine st160 _ ?_
    refine XS.iload X160.here hx rfl (hb hby at_365) rfl ?_
    refine XS.iload X160.here hx rfl (hb hby at_367) rfl ?_
    refine XS.iload X160.here hx rfl (hb hby at_369) rfl ?_
    show SS p e below m T160 371 #[iv p1, iv p2, iv p3, iv p4, iv db, iv sl, iv spc, iv tc, iv pfx, iv kq, rv b17, rv b36, iv cc, iv ec, iv sv, .unset, .unset, .unset, .unset] [(.int kq), (.int sl), (.int db), (.int (f16 sv))] _
    exact kk)
  obtain ⟨_, _, ⟨T162, L162, k162, n162⟩, -, X162, ⟨Lc162, hQ162, l162, y162, z162⟩, st162⟩ := Jvm.LawKit.callS X160 hx (y := (⟨"pithline/html/ScriptDataOpenTagLengthPinLaw", "base", "(ZZI)I"⟩ : MethodName)) hown (mvT hZ (hw _ (List.mem_of_getElem? (i := 78) rfl))) (mvT hZ (hw _ (List.mem_of_getElem? (i := 79) rfl))) (mvT hZ (hw _ (List.mem_of_getElem? (i := 12) rfl))) (mvT hZ (hw _ (List.mem_of_getElem? (i := 80) rfl))) (by decide) (backOf (W := 1) (rm17 l Z a0 hw [] db sl kq T157.heap n0 Z157 ) hZ (hw _ (List.mem_of_getElem? (i := 80) rfl)) (hw _ (List.mem_of_getElem? (i := 12) rfl)) (by decide) (by decide)) (g := (mkF m 371 #[iv p1, iv p2, iv p3, iv p4, iv db, iv sl, iv spc, iv tc, iv pfx, iv kq, rv b17, rv b36, iv cc, iv ec, iv sv, .unset, .unset, .unset, .unset] [(.int kq), (.int sl), (.int db), (.int (f16 sv))])) rfl (by rw [hml]; rfl) (argsL := [(.int db), (.int sl), (.int kq)]) (rest := [(.int (f16 sv))]) (lenOf pd_12 rfl) rfl (by show 2 * 0 + _ ≤ _; exact Nat.le_of_eq rfl) (hb hby at_371) (fun _ _ => ⟨rfl, e160, (by decide : 12 + 0 ≤ _), (by decide : 170 + 0 ≤ _)⟩)
  dsimp only [Pt.U, Pt.locs, Pt.cells, Pt.slots] at X162 l162 y162 z162 st162 hQ162
  subst l162 y162 z162
  obtain ⟨rfl, N162q, e162⟩ := hQ162
  have N162 := Fr.app N160 N162q
  have pre163 : ∀ t, SS p e below m T162 388 #[iv p1, iv p2, iv p3, iv p4, iv db, iv sl, iv spc, iv tc, iv pfx, iv kq, rv b17, rv b36, iv cc, iv ec, iv sv, iv (1 : Int32), .unset, .unset, .unset] [(.int cc), (.int sv)] t → B t := fun t kk => pre161 t (by
    refine st162 _ ?_
    refine XS.icmpNo X162.here hx rfl (hb hby at_374) rfl (teq hsv.2.2.2.2).2 ?_
    refine XS.iconst X162.here hx rfl (hb hby at_377) ?_
    refine XS.goto X162.here hx rfl (pc0 := 378) (pc' := 382) rfl (hb hby at_378) (by decide) (by decide) ?_
    show SS p e below m T162 382 #[iv p1, iv p2, iv p3, iv p4, iv db, iv sl, iv spc, iv tc, iv pfx, iv kq, rv b17, rv b36, iv cc, iv ec, iv sv, .unset, .unset, .unset, .unset] [(.int (1 : Int32))] _
    refine XS.istore X162.here hx rfl (hb hby at_382) rfl (l' := #[iv p1, iv p2, iv p3, iv p4, iv db, iv sl, iv spc, iv tc, iv pfx, iv kq, rv b17, rv b36, iv cc, iv ec, iv sv, iv (1 : Int32), .unset, .unset, .unset]) rfl ?_
    refine XS.iload X162.here hx rfl (hb hby at_384) rfl ?_
    refine XS.iload X162.here hx rfl (hb hby at_386) rfl ?_
    exact kk)
  obtain ⟨_, _, ⟨T164, L164, k164, n164⟩, -, X164, hS164, hg164, ⟨Lc164, hQ164, l164, y164, z164, hC164⟩, st164⟩ := callSS X162 hx (y := (⟨"pithline/html/ScriptData", "next", "(II)I"⟩ : MethodName)) hown (mvT hZ (hw _ (List.mem_of_getElem? (i := 3) rfl))) (mvT hZ (hw _ (List.mem_of_getElem? (i := 4) rfl))) (mvT hZ (hw _ (List.mem_of_getElem? (i := 5) rfl))) (mvT hZ (hw _ (List.mem_of_getElem? (i := 6) rfl))) (by decide) (own_backS (s := s) (vm0 := T157.vm) (EL := consts_1) (W := 0) (rmNgC l Z a0 hw [] sv cc cz fm kq (own_b db sl kq) T157.heap n0 Z157 hEL XO157 Scs hcz Sfm hfm hsv.1 hsv.2.1 hsv.2.2.1 hsv.2.2.2.1) hZ (hw _ (List.mem_of_getElem? (i := 6) rfl)) (hw _ (List.mem_of_getElem? (i := 5) rfl)) (by decide) (by decide) hEL C157.1) (g := (mkF m 388 #[iv p1, iv p2, iv p3, iv p4, iv db, iv sl, iv spc, iv tc, iv pfx, iv kq, rv b17, rv b36, iv cc, iv ec, iv sv, iv (1 : Int32), .unset, .unset, .unset] [(.int cc), (.int sv)])) rfl (by rw [hml]; rfl) (argsL := [(.int sv), (.int cc)]) (rest := []) (lenOf pd_6 rfl) rfl (by show 2 * 0 + _ ≤ _; exact Nat.le_of_eq rfl) (hb hby at_388) (fun _ _ => ⟨rfl, e162, (by decide : 12 + 2 ≤ _), (by decide : 170 + 28 ≤ _)⟩)
  dsimp only [Pt.U, Pt.locs, Pt.cells, Pt.slots] at X164 l164 y164 z164 st164 hQ164 hS164 hg164 hC164
  subst l164 y164 z164
  obtain ⟨rfl, N164q, E164, hV164⟩ := hQ164
  replace hZ : Z.Warmed39 (s.setVm T164.vm).vm := State.Warmed39.trans (t := s.setVm T157.vm) hZ hS164.1
  replace hown : (s.setVm T164.vm).vm.findClass "pithline/html/ScriptDataOpenTagLengthPinLaw" = some m.cls := by rw [show (s.setVm T164.vm).vm = T164.vm from rfl, hS164.1.alike.findClass]; exact hown
  have hs164 : s.Since T164.vm T164.heap.size := hs157.trans hS164 (Nat.le_trans hk157 (by first | exact hg164 | (have q := hg164; rw [e162] at q; exact q)))
  have hk164 : T164.heap.size ≤ T164.heap.size := Nat.le_refl _
  have C164 := C157.trans hC164
  have N164 := Fr.app N162 N164q
  have Z164 : n0 ≤ T164.heap.size := Nat.le_trans Z157 E164.1
  have XO164 : Ext Z.heap T164.heap := own_ext XO157 E164
  have EX164 : Ext h0 T164.heap := own_ext EX157 E164
  have pre165 : ∀ t, SS p e below m T164 391 #[iv p1, iv p2, iv p3, iv p4, iv db, iv sl, iv spc, iv tc, iv pfx, iv kq, rv b17, rv b36, iv cc, iv ec, iv sv, iv (1 : Int32), .unset, .unset, .unset] [(.int (fNgC sv cc kq (own_b db sl kq)))] t → B t := fun t kk => pre163 t (by
    refine st164.trans ?_
    exact kk)
  obtain ⟨tv, g_tv⟩ : ∃ z, z = (fNgC sv cc kq (own_b db sl kq)) := ⟨_, rfl⟩
  rw [← g_tv] at pre165
  have pre166 : ∀ t, SS p e below m T164 393 #[iv p1, iv p2, iv p3, iv p4, iv db, iv sl, iv spc, iv tc, iv pfx, iv kq, rv b17, rv b36, iv cc, iv ec, iv sv, iv (1 : Int32), iv tv, .unset, .unset] [] t → B t := fun t kk => pre165 t (by
    refine XS.istore X164.here hx rfl (hb hby at_391) rfl (l' := #[iv p1, iv p2, iv p3, iv p4, iv db, iv sl, iv spc, iv tc, iv pfx, iv kq, rv b17, rv b36, iv cc, iv ec, iv sv, iv (1 : Int32), iv tv, .unset, .unset]) rfl ?_
    exact kk)
  obtain ⟨lcv, g_lcv⟩ : ∃ z : Int32, z = (if cc < (65 : Int32) then cc else (if (90 : Int32) < cc then cc else (cc + (32 : Int32)))) := ⟨_, rfl⟩
  have pre167 : ∀ t, SS p e below m T164 417 #[iv p1, iv p2, iv p3, iv p4, iv db, iv sl, iv spc, iv tc, iv pfx, iv kq, rv b17, rv b36, iv cc, iv ec, iv sv, iv (1 : Int32), iv tv, .unset, .unset] [(.int lcv)] t → B t := by
    intro t kk
    by_cases hc170 : cc < (65 : Int32)
    · rw [g_lcv, if_pos hc170] at kk
      exact pre166 t (by
        refine XS.iload X164.here hx rfl (hb hby at_393) rfl ?_
        refine XS.bipush X164.here hx rfl (hb hby at_395) ?_
        refine XS.icmpYes X164.here hx rfl (pc0 := 397) (pc' := 415) rfl (hb hby at_397) rfl (tlt hc170).1 (by decide) (by decide) ?_
        refine XS.iload X164.here hx rfl (hb hby at_415) rfl ?_
        show SS p e below m T164 417 #[iv p1, iv p2, iv p3, iv p4, iv db, iv sl, iv spc, iv tc, iv pfx, iv kq, rv b17, rv b36, iv cc, iv ec, iv sv, iv (1 : Int32), iv tv, .unset, .unset] [(.int cc)] _
        exact kk)
    · by_cases hc171 : (90 : Int32) < cc
      · rw [g_lcv, if_neg hc170, if_pos hc171] at kk
        exact pre166 t (by
          refine XS.iload X164.here hx rfl (hb hby at_393) rfl ?_
          refine XS.bipush X164.here hx rfl (hb hby at_395) ?_
          refine XS.icmpNo X164.here hx rfl (hb hby at_397) rfl (flt hc170).1 ?_
          refine XS.iload X164.here hx rfl (hb hby at_400) rfl ?_
          show SS p e below m T164 402 #[iv p1, iv p2, iv p3, iv p4, iv db, iv sl, iv spc, iv tc, iv pfx, iv kq, rv b17, rv b36, iv cc, iv ec, iv sv, iv (1 : Int32), iv tv, .unset, .unset] [(.int cc)] _
          refine XS.bipush X164.here hx rfl (hb hby at_402) ?_
          refine XS.icmpYes X164.here hx rfl (pc0 := 404) (pc' := 415) rfl (hb hby at_404) rfl (tlt hc171).2.2.1 (by decide) (by decide) ?_
          refine XS.iload X164.here hx rfl (hb hby at_415) rfl ?_
          exact kk)
      · rw [g_lcv, if_neg hc170, if_neg hc171] at kk
        exact pre166 t (by
          refine XS.iload X164.here hx rfl (hb hby at_393) rfl ?_
          refine XS.bipush X164.here hx rfl (hb hby at_395) ?_
          refine XS.icmpNo X164.here hx rfl (hb hby at_397) rfl (flt hc170).1 ?_
          refine XS.iload X164.here hx rfl (hb hby at_400) rfl ?_
          show SS p e below m T164 402 #[iv p1, iv p2, iv p3, iv p4, iv db, iv sl, iv spc, iv tc, iv pfx, iv kq, rv b17, rv b36, iv cc, iv ec, iv sv, iv (1 : Int32), iv tv, .unset, .unset] [(.int cc)] _
          refine XS.bipush X164.here hx rfl (hb hby at_402) ?_
          refine XS.icmpNo X164.here hx rfl (hb hby at_404) rfl (flt hc171).2.2.1 ?_
          refine XS.iload X164.here hx rfl (hb hby at_407) rfl ?_
          refine XS.bipush X164.here hx rfl (hb hby at_409) ?_
          show SS p e below m T164 411 #[iv p1, iv p2, iv p3, iv p4, iv db, iv sl, iv spc, iv tc, iv pfx, iv kq, rv b17, rv b36, iv cc, iv ec, iv sv, iv (1 : Int32), iv tv, .unset, .unset] [(.int (32 : Int32)), (.int cc)] _
          refine XS.iadd X164.here hx rfl (hb hby at_411) rfl ?_
          refine XS.goto X164.here hx rfl (pc0 := 412) (pc' := 417) rfl (hb hby at_412) (by decide) (by decide) ?_
          exact kk)
  have hlc := own_lc cc lcv hcc g_lcv
  have pre172 : ∀ t, SS p e below m T164 423 #[iv p1, iv p2, iv p3, iv p4, iv db, iv sl, iv spc, iv tc, iv pfx, iv kq, rv b17, rv b36, iv cc, iv ec, iv sv, iv (1 : Int32), iv tv, iv lcv, .unset] [(.int (6 : Int32)), (.int kq)] t → B t := fun t kk => pre167 t (by
    refine XS.istore X164.here hx rfl (hb hby at_417) rfl (l' := #[iv p1, iv p2, iv p3, iv p4, iv db, iv sl, iv spc, iv tc, iv pfx, iv kq, rv b17, rv b36, iv cc, iv ec, iv sv, iv (1 : Int32), iv tv, iv lcv, .unset]) rfl ?_
    refine XS.iload X164.here hx rfl (hb hby at_419) rfl ?_
    refine XS.bipush X164.here hx rfl (hb hby at_421) ?_
    exact kk)
  by_cases hc173 : kq < (6 : Int32)
  · have pre174 : ∀ t, SS p e below m T164 428 #[iv p1, iv p2, iv p3, iv p4, iv db, iv sl, iv spc, iv tc, iv pfx, iv kq, rv b17, rv b36, iv cc, iv ec, iv sv, iv (1 : Int32), iv tv, iv lcv, .unset] [(.int lcv)] t → B t := fun t kk => pre172 t (by
      refine XS.icmpNo X164.here hx rfl (hb hby at_423) rfl (tlt hc173).2.1 ?_
      refine XS.iload X164.here hx rfl (hb hby at_426) rfl ?_
      exact kk)
    obtain ⟨a175, T175, h175, k1175, b175, kb175, X175, e175, E175, hS175, hk175, hZ175, hown175, Ex175, Fc175, Fv175, Va175, -, -, hC175, hLt175, -, st175⟩ := ldcCH (s := s) (vm0 := T164.vm) (EL := consts_1) X164 hx hZ hown (hw _ (List.mem_of_getElem? (i := 20) rfl)) (own_wS hw) rfl hs164 hk164 hEL (List.mem_of_getElem? (i := 1) rfl) C164.1 (vs := own_vs.map Value.int) (z := (6 : Int32)) (own_litA rfl) (by decide) rfl (g := (mkF m 428 #[iv p1, iv p2, iv p3, iv p4, iv db, iv sl, iv spc, iv tc, iv pfx, iv kq, rv b17, rv b36, iv cc, iv ec, iv sv, iv (1 : Int32), iv tv, iv lcv, .unset] [(.int lcv)])) rfl (hb hby at_428) (n := 24) (own_litnA rfl) (by decide) (by decide) (by decide)
    replace hZ := hZ175
    replace hown := hown175
    have C175 := C164.trans hC175
    have Z175 : n0 ≤ h175.size := Nat.le_trans Z164 E175.1
    have XO175 : Ext Z.heap h175 := own_ext XO164 E175
    have EX175 : Ext h0 h175 := own_ext EX164 E175
    have pre176 : ∀ t, SS p e below m T175 432 #[iv p1, iv p2, iv p3, iv p4, iv db, iv sl, iv spc, iv tc, iv pfx, iv kq, rv b17, rv b36, iv cc, iv ec, iv sv, iv (1 : Int32), iv tv, iv lcv, .unset] [(.int kq), (.ref a175), (.int lcv)] t → B t := fun t kk => pre174 t (by
      refine st175 _ ?_
      refine XS.iload X175.here hx rfl (hb hby at_430) rfl ?_
      exact kk)
    obtain ⟨cq177, kq177, q177a, q177b, q177c⟩ := isOf hZ e175 Ex175
    obtain ⟨_, _, ⟨T177, L177, k177, n177⟩, -, X177, ⟨Lc177, hQ177, l177, y177, z177⟩, st177⟩ := X175.virtualBack hx (y := (⟨"java/lang/String", "charAt", "(I)C"⟩ : MethodName)) (z := (⟨"java/lang/String", "charAt", "(I)C"⟩ : MethodName)) hown (mvT hZ (hw _ (List.mem_of_getElem? (i := 28) rfl))) (mvT hZ (hw _ (List.mem_of_getElem? (i := 29) rfl))) (notFace_of_selects (args := #[]) (mvT hZ (hw _ (List.mem_of_getElem? (i := 31) rfl)))) (mvT hZ (hw _ (List.mem_of_getElem? (i := 31) rfl))) (mvT hZ (hw _ (List.mem_of_getElem? (i := 30) rfl))) (by decide) (backOf (W := 1) (rm6 l Z a0 hw [] a175 kq cz fm b175 kb175 (6 : Int32) own_vs h175 n0 Z175 (Scs.ext XO175) hcz (Sfm.ext XO175) hfm Ex175 Fc175 Fv175 Va175 hsv.2.2.1 hc173) hZ (hw _ (List.mem_of_getElem? (i := 32) rfl)) (hw _ (List.mem_of_getElem? (i := 21) rfl)) (by decide) (by decide)) q177a q177c (g := (mkF m 432 #[iv p1, iv p2, iv p3, iv p4, iv db, iv sl, iv spc, iv tc, iv pfx, iv kq, rv b17, rv b36, iv cc, iv ec, iv sv, iv (1 : Int32), iv tv, iv lcv, .unset] [(.int kq), (.ref a175), (.int lcv)])) rfl (by rw [hml]; rfl) (Steps.refl _) (argsL := [(.int kq)]) (rest := [(.int lcv)]) (lenOf pd_9 rfl) rfl (by show 2 * 0 + _ ≤ _; exact Nat.le_of_eq rfl) (hb hby at_432) (fun _ _ => ⟨rfl, e175, (by decide : 16 + 0 ≤ _), (by decide : 226 + 0 ≤ _)⟩)
    dsimp only [Pt.U, Pt.locs, Pt.cells, Pt.slots] at X177 l177 y177 z177 st177 hQ177
    subst l177 y177 z177
    obtain ⟨rfl, N177q, e177⟩ := hQ177
    have N177 := Fr.app N164 N177q
    have pre178 : ∀ t, SS p e below m T177 435 #[iv p1, iv p2, iv p3, iv p4, iv db, iv sl, iv spc, iv tc, iv pfx, iv kq, rv b17, rv b36, iv cc, iv ec, iv sv, iv (1 : Int32), iv tv, iv lcv, .unset] [(.int (f6 kq own_vs)), (.int lcv)] t → B t := fun t kk => pre176 t (by
      refine st177.trans ?_
      exact kk)
    by_cases hc179 : lcv = (f6 kq own_vs)
    · have pre180 : ∀ t, SS p e below m T177 446 #[iv p1, iv p2, iv p3, iv p4, iv db, iv sl, iv spc, iv tc, iv pfx, iv kq, rv b17, rv b36, iv cc, iv ec, iv sv, iv (1 : Int32), iv tv, iv lcv, .unset] [(.int (kq + (1 : Int32))), (.int sl), (.int db)] t → B t := fun t kk => pre178 t (by
        refine XS.icmpNo X177.here hx rfl (hb hby at_435) rfl (teq hc179).2 ?_
        refine XS.iload X177.here hx rfl (hb hby at_438) rfl ?_
        refine XS.iload X177.here hx rfl (hb hby at_440) rfl ?_
        refine XS.iload X177.here hx rfl (hb hby at_442) rfl ?_
        show SS p e below m T177 444 #[iv p1, iv p2, iv p3, iv p4, iv db, iv sl, iv spc, iv tc, iv pfx, iv kq, rv b17, rv b36, iv cc, iv ec, iv sv, iv (1 : Int32), iv tv, iv lcv, .unset] [(.int kq), (.int sl), (.int db)] _
        refine XS.iconst X177.here hx rfl (hb hby at_444) ?_
        refine XS.iadd X177.here hx rfl (hb hby at_445) rfl ?_
        exact kk)
      obtain ⟨_, _, ⟨T181, L181, k181, n181⟩, -, X181, ⟨Lc181, hQ181, l181, y181, z181⟩, st181⟩ := Jvm.LawKit.callS X177 hx (y := (⟨"pithline/html/ScriptDataOpenTagLengthPinLaw", "base", "(ZZI)I"⟩ : MethodName)) hown (mvT hZ (hw _ (List.mem_of_getElem? (i := 78) rfl))) (mvT hZ (hw _ (List.mem_of_getElem? (i := 79) rfl))) (mvT hZ (hw _ (List.mem_of_getElem? (i := 12) rfl))) (mvT hZ (hw _ (List.mem_of_getElem? (i := 80) rfl))) (by decide) (backOf (W := 0) (rm17 l Z a0 hw [] db sl (kq + (1 : Int32)) h175 n0 Z175 ) hZ (hw _ (List.mem_of_getElem? (i := 80) rfl)) (hw _ (List.mem_of_getElem? (i := 12) rfl)) (by decide) (by decide)) (g := (mkF m 446 #[iv p1, iv p2, iv p3, iv p4, iv db, iv sl, iv spc, iv tc, iv pfx, iv kq, rv b17, rv b36, iv cc, iv ec, iv sv, iv (1 : Int32), iv tv, iv lcv, .unset] [(.int (kq + (1 : Int32))), (.int sl), (.int db)])) rfl (by rw [hml]; rfl) (argsL := [(.int db), (.int sl), (.int (kq + (1 : Int32)))]) (rest := []) (lenOf pd_12 rfl) rfl (by show 2 * 0 + _ ≤ _; exact Nat.le_of_eq rfl) (hb hby at_446) (fun _ _ => ⟨rfl, e177, (by decide : 16 + 0 ≤ _), (by decide : 226 + 0 ≤ _)⟩)
      dsimp only [Pt.U, Pt.locs, Pt.cells, Pt.slots] at X181 l181 y181 z181 st181 hQ181
      subst l181 y181 z181
      obtain ⟨rfl, N181q, e181⟩ := hQ181
      have N181 := Fr.app N177 N181q
      have pre182 : ∀ t, SS p e below m T181 527 #[iv p1, iv p2, iv p3, iv p4, iv db, iv sl, iv spc, iv tc, iv pfx, iv kq, rv b17, rv b36, iv cc, iv ec, iv sv, iv (1 : Int32), iv tv, iv lcv, iv (f17 db sl (kq + (1 : Int32)))] [(.int tv)] t → B t := fun t kk => pre180 t (by
        refine st181 _ ?_
        refine XS.istore X181.here hx rfl (hb hby at_449) rfl (l' := #[iv p1, iv p2, iv p3, iv p4, iv db, iv sl, iv spc, iv tc, iv pfx, iv kq, rv b17, rv b36, iv cc, iv ec, iv sv, iv (1 : Int32), iv tv, iv lcv, iv (f17 db sl (kq + (1 : Int32)))]) rfl ?_
        refine XS.goto X181.here hx rfl (pc0 := 451) (pc' := 520) rfl (hb hby at_451) (by decide) (by decide) ?_
        refine XS.iload X181.here hx rfl (hb hby at_520) rfl ?_
        show SS p e below m T181 522 #[iv p1, iv p2, iv p3, iv p4, iv db, iv sl, iv spc, iv tc, iv pfx, iv kq, rv b17, rv b36, iv cc, iv ec, iv sv, iv (1 : Int32), iv tv, iv lcv, iv (f17 db sl (kq + (1 : Int32)))] [(.int (1 : Int32))] _
        refine XS.ifNo X181.here hx rfl (hb hby at_522) rfl ((if0 _ _).trans (feq (by decide : ¬ ((1 : Int32) = (0 : Int32)))).1) ?_
        refine XS.iload X181.here hx rfl (hb hby at_525) rfl ?_
        exact kk)
      obtain ⟨_, _, ⟨T183, L183, k183, n183⟩, -, X183, ⟨Lc183, hQ183, l183, y183, z183⟩, st183⟩ := Jvm.LawKit.callS X181 hx (y := (⟨"pithline/html/ScriptData", "openTagLength", "(I)I"⟩ : MethodName)) hown (mvT hZ (hw _ (List.mem_of_getElem? (i := 75) rfl))) (mvT hZ (hw _ (List.mem_of_getElem? (i := 76) rfl))) (mvT hZ (hw _ (List.mem_of_getElem? (i := 5) rfl))) (mvT hZ (hw _ (List.mem_of_getElem? (i := 77) rfl))) (by decide) (backOf (W := 0) (rm16 l Z a0 hw [] tv h175 n0 Z175 ) hZ (hw _ (List.mem_of_getElem? (i := 77) rfl)) (hw _ (List.mem_of_getElem? (i := 5) rfl)) (by decide) (by decide)) (g := (mkF m 527 #[iv p1, iv p2, iv p3, iv p4, iv db, iv sl, iv spc, iv tc, iv pfx, iv kq, rv b17, rv b36, iv cc, iv ec, iv sv, iv (1 : Int32), iv tv, iv lcv, iv (f17 db sl (kq + (1 : Int32)))] [(.int tv)])) rfl (by rw [hml]; rfl) (argsL := [(.int tv)]) (rest := []) (lenOf pd_7 rfl) rfl (by show 2 * 0 + _ ≤ _; exact Nat.le_of_eq rfl) (hb hby at_527) (fun _ _ => ⟨rfl, e181, (by decide : 16 + 0 ≤ _), (by decide : 226 + 0 ≤ _)⟩)
      dsimp only [Pt.U, Pt.locs, Pt.cells, Pt.slots] at X183 l183 y183 z183 st183 hQ183
      subst l183 y183 z183
      obtain ⟨rfl, N183q, e183⟩ := hQ183
      have N183 := Fr.app N181 N183q
      have pre184 : ∀ t, SS p e below m T183 540 #[iv p1, iv p2, iv p3, iv p4, iv db, iv sl, iv spc, iv tc, iv pfx, iv kq, rv b17, rv b36, iv cc, iv ec, iv sv, iv (1 : Int32), iv tv, iv lcv, iv (f17 db sl (kq + (1 : Int32)))] [(.int (1 : Int32))] t → B t := fun t kk => pre182 t (by
        refine st183 _ ?_
        refine XS.iload X183.here hx rfl (hb hby at_530) rfl ?_
        refine XS.icmpNo X183.here hx rfl (hb hby at_532) rfl (teq (by rw [g_tv]; exact (own_final db sl kq cc lcv sv _ hdb hsl hkq hlc hsv0 rfl).trans (by unfold own_E own_R1 own_R2 own_R3; rw [if_pos hc173, if_pos hc179]))).2 ?_
        refine XS.iconst X183.here hx rfl (hb hby at_535) ?_
        show SS p e below m T183 536 #[iv p1, iv p2, iv p3, iv p4, iv db, iv sl, iv spc, iv tc, iv pfx, iv kq, rv b17, rv b36, iv cc, iv ec, iv sv, iv (1 : Int32), iv tv, iv lcv, iv (f17 db sl (kq + (1 : Int32)))] [(.int (1 : Int32))] _
        refine XS.goto X183.here hx rfl (pc0 := 536) (pc' := 540) rfl (hb hby at_536) (by decide) (by decide) ?_
        exact kk)
      have CF := C175.trans (CHv.at X183 hZ hEL C175.1)
      obtain ⟨fs, hr, hrun, hended, hRW⟩ := X183.leaveW (s := s) hS175 (by first | exact hk175 | (rw [e183]; exact hk175)) (v := some (.int (1 : Int32))) (fun h => by rw [Bd.returns] at h; cases h)
      refine ⟨_, _, hB _ (pre184 _ ?_), hrun, hended, _, _, rfl, ?_, ?_, ⟨hRW.1, hRW.2.1, hRW.2.2.1, hRW.2.2.2.mono (by decide) (by decide)⟩⟩
      · exact retN X183 hx (t := .boolean) Bd.returns (by simp) (hb hby at_540) hr
      · exact ⟨rfl, N183⟩
      · rw [hh]; show CHr Z consts_1 s.vm h0 T183.vm T183.heap; rw [e183]; exact CF
    · have pre185 : ∀ t, SS p e below m T177 456 #[iv p1, iv p2, iv p3, iv p4, iv db, iv sl, iv spc, iv tc, iv pfx, iv kq, rv b17, rv b36, iv cc, iv ec, iv sv, iv (1 : Int32), iv tv, iv lcv, .unset] [(.int kq)] t → B t := fun t kk => pre178 t (by
        refine XS.icmpYes X177.here hx rfl (pc0 := 435) (pc' := 454) rfl (hb hby at_435) rfl (feq hc179).2 (by decide) (by decide) ?_
        refine XS.iload X177.here hx rfl (hb hby at_454) rfl ?_
        exact kk)
      by_cases hc186 : kq = (0 : Int32)
      · have pre187 : ∀ t, SS p e below m T177 461 #[iv p1, iv p2, iv p3, iv p4, iv db, iv sl, iv spc, iv tc, iv pfx, iv kq, rv b17, rv b36, iv cc, iv ec, iv sv, iv (1 : Int32), iv tv, iv lcv, .unset] [(.int sl)] t → B t := fun t kk => pre185 t (by
          refine XS.ifNo X177.here hx rfl (hb hby at_456) rfl ((if0 _ _).trans (teq hc186).2) ?_
          refine XS.iload X177.here hx rfl (hb hby at_459) rfl ?_
          exact kk)
        by_cases hc188 : sl = (0 : Int32)
        · have pre189 : ∀ t, SS p e below m T177 468 #[iv p1, iv p2, iv p3, iv p4, iv db, iv sl, iv spc, iv tc, iv pfx, iv kq, rv b17, rv b36, iv cc, iv ec, iv sv, iv (1 : Int32), iv tv, iv lcv, .unset] [(.int (47 : Int32)), (.int cc)] t → B t := fun t kk => pre187 t (by
            refine XS.ifNo X177.here hx rfl (hb hby at_461) rfl ((if0 _ _).trans (teq hc188).2) ?_
            refine XS.iload X177.here hx rfl (hb hby at_464) rfl ?_
            refine XS.bipush X177.here hx rfl (hb hby at_466) ?_
            exact kk)
          by_cases hc190 : cc = (47 : Int32)
          · have pre191 : ∀ t, SS p e below m T177 475 #[iv p1, iv p2, iv p3, iv p4, iv db, iv sl, iv spc, iv tc, iv pfx, iv kq, rv b17, rv b36, iv cc, iv ec, iv sv, iv (1 : Int32), iv tv, iv lcv, .unset] [(.int (0 : Int32)), (.int (1 : Int32)), (.int db)] t → B t := fun t kk => pre189 t (by
              refine XS.icmpNo X177.here hx rfl (hb hby at_468) rfl (teq hc190).2 ?_
              refine XS.iload X177.here hx rfl (hb hby at_471) rfl ?_
              refine XS.iconst X177.here hx rfl (hb hby at_473) ?_
              refine XS.iconst X177.here hx rfl (hb hby at_474) ?_
              show SS p e below m T177 475 #[iv p1, iv p2, iv p3, iv p4, iv db, iv sl, iv spc, iv tc, iv pfx, iv kq, rv b17, rv b36, iv cc, iv ec, iv sv, iv (1 : Int32), iv tv, iv lcv, .unset] [(.int (0 : Int32)), (.int (1 : Int32)), (.int db)] _
              exact kk)
            obtain ⟨_, _, ⟨T192, L192, k192, n192⟩, -, X192, ⟨Lc192, hQ192, l192, y192, z192⟩, st192⟩ := Jvm.LawKit.callS X177 hx (y := (⟨"pithline/html/ScriptDataOpenTagLengthPinLaw", "base", "(ZZI)I"⟩ : MethodName)) hown (mvT hZ (hw _ (List.mem_of_getElem? (i := 78) rfl))) (mvT hZ (hw _ (List.mem_of_getElem? (i := 79) rfl))) (mvT hZ (hw _ (List.mem_of_getElem? (i := 12) rfl))) (mvT hZ (hw _ (List.mem_of_getElem? (i := 80) rfl))) (by decide) (backOf (W := 0) (rm17 l Z a0 hw [] db (1 : Int32) (0 : Int32) h175 n0 Z175 ) hZ (hw _ (List.mem_of_getElem? (i := 80) rfl)) (hw _ (List.mem_of_getElem? (i := 12) rfl)) (by decide) (by decide)) (g := (mkF m 475 #[iv p1, iv p2, iv p3, iv p4, iv db, iv sl, iv spc, iv tc, iv pfx, iv kq, rv b17, rv b36, iv cc, iv ec, iv sv, iv (1 : Int32), iv tv, iv lcv, .unset] [(.int (0 : Int32)), (.int (1 : Int32)), (.int db)])) rfl (by rw [hml]; rfl) (argsL := [(.int db), (.int (1 : Int32)), (.int (0 : Int32))]) (rest := []) (lenOf pd_12 rfl) rfl (by show 2 * 0 + _ ≤ _; exact Nat.le_of_eq rfl) (hb hby at_475) (fun _ _ => ⟨rfl, e177, (by decide : 16 + 0 ≤ _), (by decide : 226 + 0 ≤ _)⟩)
            dsimp only [Pt.U, Pt.locs, Pt.cells, Pt.slots] at X192 l192 y192 z192 st192 hQ192
            subst l192 y192 z192
            obtain ⟨rfl, N192q, e192⟩ := hQ192
            have N192 := Fr.app N177 N192q
            have pre193 : ∀ t, SS p e below m T192 527 #[iv p1, iv p2, iv p3, iv p4, iv db, iv sl, iv spc, iv tc, iv pfx, iv kq, rv b17, rv b36, iv cc, iv ec, iv sv, iv (1 : Int32), iv tv, iv lcv, iv (f17 db (1 : Int32) (0 : Int32))] [(.int tv)] t → B t := fun t kk => pre191 t (by
              refine st192 _ ?_
              refine XS.istore X192.here hx rfl (hb hby at_478) rfl (l' := #[iv p1, iv p2, iv p3, iv p4, iv db, iv sl, iv spc, iv tc, iv pfx, iv kq, rv b17, rv b36, iv cc, iv ec, iv sv, iv (1 : Int32), iv tv, iv lcv, iv (f17 db (1 : Int32) (0 : Int32))]) rfl ?_
              refine XS.goto X192.here hx rfl (pc0 := 480) (pc' := 520) rfl (hb hby at_480) (by decide) (by decide) ?_
              refine XS.iload X192.here hx rfl (hb hby at_520) rfl ?_
              show SS p e below m T192 522 #[iv p1, iv p2, iv p3, iv p4, iv db, iv sl, iv spc, iv tc, iv pfx, iv kq, rv b17, rv b36, iv cc, iv ec, iv sv, iv (1 : Int32), iv tv, iv lcv, iv (f17 db (1 : Int32) (0 : Int32))] [(.int (1 : Int32))] _
              refine XS.ifNo X192.here hx rfl (hb hby at_522) rfl ((if0 _ _).trans (feq (by decide : ¬ ((1 : Int32) = (0 : Int32)))).1) ?_
              refine XS.iload X192.here hx rfl (hb hby at_525) rfl ?_
              exact kk)
            obtain ⟨_, _, ⟨T194, L194, k194, n194⟩, -, X194, ⟨Lc194, hQ194, l194, y194, z194⟩, st194⟩ := Jvm.LawKit.callS X192 hx (y := (⟨"pithline/html/ScriptData", "openTagLength", "(I)I"⟩ : MethodName)) hown (mvT hZ (hw _ (List.mem_of_getElem? (i := 75) rfl))) (mvT hZ (hw _ (List.mem_of_getElem? (i := 76) rfl))) (mvT hZ (hw _ (List.mem_of_getElem? (i := 5) rfl))) (mvT hZ (hw _ (List.mem_of_getElem? (i := 77) rfl))) (by decide) (backOf (W := 0) (rm16 l Z a0 hw [] tv h175 n0 Z175 ) hZ (hw _ (List.mem_of_getElem? (i := 77) rfl)) (hw _ (List.mem_of_getElem? (i := 5) rfl)) (by decide) (by decide)) (g := (mkF m 527 #[iv p1, iv p2, iv p3, iv p4, iv db, iv sl, iv spc, iv tc, iv pfx, iv kq, rv b17, rv b36, iv cc, iv ec, iv sv, iv (1 : Int32), iv tv, iv lcv, iv (f17 db (1 : Int32) (0 : Int32))] [(.int tv)])) rfl (by rw [hml]; rfl) (argsL := [(.int tv)]) (rest := []) (lenOf pd_7 rfl) rfl (by show 2 * 0 + _ ≤ _; exact Nat.le_of_eq rfl) (hb hby at_527) (fun _ _ => ⟨rfl, e192, (by decide : 16 + 0 ≤ _), (by decide : 226 + 0 ≤ _)⟩)
            dsimp only [Pt.U, Pt.locs, Pt.cells, Pt.slots] at X194 l194 y194 z194 st194 hQ194
            subst l194 y194 z194
            obtain ⟨rfl, N194q, e194⟩ := hQ194
            have N194 := Fr.app N192 N194q
            have pre195 : ∀ t, SS p e below m T194 540 #[iv p1, iv p2, iv p3, iv p4, iv db, iv sl, iv spc, iv tc, iv pfx, iv kq, rv b17, rv b36, iv cc, iv ec, iv sv, iv (1 : Int32), iv tv, iv lcv, iv (f17 db (1 : Int32) (0 : Int32))] [(.int (1 : Int32))] t → B t := fun t kk => pre193 t (by
              refine st194 _ ?_
              refine XS.iload X194.here hx rfl (hb hby at_530) rfl ?_
              refine XS.icmpNo X194.here hx rfl (hb hby at_532) rfl (teq (by rw [g_tv]; exact (own_final db sl kq cc lcv sv _ hdb hsl hkq hlc hsv0 rfl).trans (by unfold own_E own_R1 own_R2 own_R3; rw [if_pos hc173, if_neg hc179, if_pos hc186, if_pos hc188, if_pos hc190]))).2 ?_
              refine XS.iconst X194.here hx rfl (hb hby at_535) ?_
              show SS p e below m T194 536 #[iv p1, iv p2, iv p3, iv p4, iv db, iv sl, iv spc, iv tc, iv pfx, iv kq, rv b17, rv b36, iv cc, iv ec, iv sv, iv (1 : Int32), iv tv, iv lcv, iv (f17 db (1 : Int32) (0 : Int32))] [(.int (1 : Int32))] _
              refine XS.goto X194.here hx rfl (pc0 := 536) (pc' := 540) rfl (hb hby at_536) (by decide) (by decide) ?_
              exact kk)
            have CF := C175.trans (CHv.at X194 hZ hEL C175.1)
            obtain ⟨fs, hr, hrun, hended, hRW⟩ := X194.leaveW (s := s) hS175 (by first | exact hk175 | (rw [e194]; exact hk175)) (v := some (.int (1 : Int32))) (fun h => by rw [Bd.returns] at h; cases h)
            refine ⟨_, _, hB _ (pre195 _ ?_), hrun, hended, _, _, rfl, ?_, ?_, ⟨hRW.1, hRW.2.1, hRW.2.2.1, hRW.2.2.2.mono (by decide) (by decide)⟩⟩
            · exact retN X194 hx (t := .boolean) Bd.returns (by simp) (hb hby at_540) hr
            · exact ⟨rfl, N194⟩
            · rw [hh]; show CHr Z consts_1 s.vm h0 T194.vm T194.heap; rw [e194]; exact CF
          · have pre196 : ∀ t, SS p e below m T177 487 #[iv p1, iv p2, iv p3, iv p4, iv db, iv sl, iv spc, iv tc, iv pfx, iv kq, rv b17, rv b36, iv cc, iv ec, iv sv, iv (1 : Int32), iv tv, iv lcv, .unset] [(.int (6 : Int32)), (.int kq)] t → B t := fun t kk => pre189 t (by
              refine XS.icmpYes X177.here hx rfl (pc0 := 468) (pc' := 483) rfl (hb hby at_468) rfl (feq hc190).2 (by decide) (by decide) ?_
              refine XS.iload X177.here hx rfl (hb hby at_483) rfl ?_
              refine XS.bipush X177.here hx rfl (hb hby at_485) ?_
              exact kk)
            by_cases hc197 : kq = (6 : Int32)
            · have pre198 : ∀ t, SS p e below m T177 492 #[iv p1, iv p2, iv p3, iv p4, iv db, iv sl, iv spc, iv tc, iv pfx, iv kq, rv b17, rv b36, iv cc, iv ec, iv sv, iv (1 : Int32), iv tv, iv lcv, .unset] [(.int cc)] t → B t := fun t kk => pre196 t (by
                refine XS.icmpNo X177.here hx rfl (hb hby at_487) rfl (teq hc197).2 ?_
                refine XS.iload X177.here hx rfl (hb hby at_490) rfl ?_
                exact kk)
              obtain ⟨_, _, ⟨T199, L199, k199, n199⟩, -, X199, ⟨Lc199, hQ199, l199, y199, z199⟩, st199⟩ := Jvm.LawKit.callS X177 hx (y := (⟨"pithline/html/ScriptDataOpenTagLengthPinLaw", "isNameEnd", "(I)Z"⟩ : MethodName)) hown (mvT hZ (hw _ (List.mem_of_getElem? (i := 94) rfl))) (mvT hZ (hw _ (List.mem_of_getElem? (i := 95) rfl))) (mvT hZ (hw _ (List.mem_of_getElem? (i := 12) rfl))) (mvT hZ (hw _ (List.mem_of_getElem? (i := 96) rfl))) (by decide) (backOf (W := 0) (rm22 l Z a0 hw [] cc h175 n0 Z175 ) hZ (hw _ (List.mem_of_getElem? (i := 96) rfl)) (hw _ (List.mem_of_getElem? (i := 12) rfl)) (by decide) (by decide)) (g := (mkF m 492 #[iv p1, iv p2, iv p3, iv p4, iv db, iv sl, iv spc, iv tc, iv pfx, iv kq, rv b17, rv b36, iv cc, iv ec, iv sv, iv (1 : Int32), iv tv, iv lcv, .unset] [(.int cc)])) rfl (by rw [hml]; rfl) (argsL := [(.int cc)]) (rest := []) (lenOf pd_5 rfl) rfl (by show 2 * 0 + _ ≤ _; exact Nat.le_of_eq rfl) (hb hby at_492) (fun _ _ => ⟨rfl, e177, (by decide : 16 + 0 ≤ _), (by decide : 226 + 0 ≤ _)⟩)
              dsimp only [Pt.U, Pt.locs, Pt.cells, Pt.slots] at X199 l199 y199 z199 st199 hQ199
              subst l199 y199 z199
              obtain ⟨rfl, N199q, e199⟩ := hQ199
              have N199 := Fr.app N177 N199q
              have pre200 : ∀ t, SS p e below m T199 495 #[iv p1, iv p2, iv p3, iv p4, iv db, iv sl, iv spc, iv tc, iv pfx, iv kq, rv b17, rv b36, iv cc, iv ec, iv sv, iv (1 : Int32), iv tv, iv lcv, .unset] [(.int (f22 cc))] t → B t := fun t kk => pre198 t (by
                refine st199 _ ?_
                exact kk)
              by_cases hc201 : (f22 cc) = (0 : Int32)
              · have pre202 : ∀ t, SS p e below m T199 508 #[iv p1, iv p2, iv p3, iv p4, iv db, iv sl, iv spc, iv tc, iv pfx, iv kq, rv b17, rv b36, iv cc, iv ec, iv sv, iv (1 : Int32), iv tv, iv lcv, .unset] [(.int (60 : Int32)), (.int cc)] t → B t := fun t kk => pre200 t (by
                  refine XS.ifYes X199.here hx rfl (pc0 := 495) (pc' := 504) rfl (hb hby at_495) rfl ((if0 _ _).trans (teq hc201).1) (by decide) (by decide) ?_
                  refine XS.iload X199.here hx rfl (hb hby at_504) rfl ?_
                  refine XS.bipush X199.here hx rfl (hb hby at_506) ?_
                  exact kk)
                by_cases hc203 : cc = (60 : Int32)
                · have pre204 : ∀ t, SS p e below m T199 527 #[iv p1, iv p2, iv p3, iv p4, iv db, iv sl, iv spc, iv tc, iv pfx, iv kq, rv b17, rv b36, iv cc, iv ec, iv sv, iv (1 : Int32), iv tv, iv lcv, iv (1 : Int32)] [(.int tv)] t → B t := fun t kk => pre202 t (by
                    refine XS.icmpNo X199.here hx rfl (hb hby at_508) rfl (teq hc203).2 ?_
                    refine XS.iconst X199.here hx rfl (hb hby at_511) ?_
                    refine XS.istore X199.here hx rfl (hb hby at_512) rfl (l' := #[iv p1, iv p2, iv p3, iv p4, iv db, iv sl, iv spc, iv tc, iv pfx, iv kq, rv b17, rv b36, iv cc, iv ec, iv sv, iv (1 : Int32), iv tv, iv lcv, iv (1 : Int32)]) rfl ?_
                    refine XS.goto X199.here hx rfl (pc0 := 514) (pc' := 520) rfl (hb hby at_514) (by decide) (by decide) ?_
                    show SS p e below m T199 520 #[iv p1, iv p2, iv p3, iv p4, iv db, iv sl, iv spc, iv tc, iv pfx, iv kq, rv b17, rv b36, iv cc, iv ec, iv sv, iv (1 : Int32), iv tv, iv lcv, iv (1 : Int32)] [] _
                    refine XS.iload X199.here hx rfl (hb hby at_520) rfl ?_
                    refine XS.ifNo X199.here hx rfl (hb hby at_522) rfl ((if0 _ _).trans (feq (by decide : ¬ ((1 : Int32) = (0 : Int32)))).1) ?_
                    refine XS.iload X199.here hx rfl (hb hby at_525) rfl ?_
                    exact kk)
                  obtain ⟨_, _, ⟨T205, L205, k205, n205⟩, -, X205, ⟨Lc205, hQ205, l205, y205, z205⟩, st205⟩ := Jvm.LawKit.callS X199 hx (y := (⟨"pithline/html/ScriptData", "openTagLength", "(I)I"⟩ : MethodName)) hown (mvT hZ (hw _ (List.mem_of_getElem? (i := 75) rfl))) (mvT hZ (hw _ (List.mem_of_getElem? (i := 76) rfl))) (mvT hZ (hw _ (List.mem_of_getElem? (i := 5) rfl))) (mvT hZ (hw _ (List.mem_of_getElem? (i := 77) rfl))) (by decide) (backOf (W := 0) (rm16 l Z a0 hw [] tv h175 n0 Z175 ) hZ (hw _ (List.mem_of_getElem? (i := 77) rfl)) (hw _ (List.mem_of_getElem? (i := 5) rfl)) (by decide) (by decide)) (g := (mkF m 527 #[iv p1, iv p2, iv p3, iv p4, iv db, iv sl, iv spc, iv tc, iv pfx, iv kq, rv b17, rv b36, iv cc, iv ec, iv sv, iv (1 : Int32), iv tv, iv lcv, iv (1 : Int32)] [(.int tv)])) rfl (by rw [hml]; rfl) (argsL := [(.int tv)]) (rest := []) (lenOf pd_7 rfl) rfl (by show 2 * 0 + _ ≤ _; exact Nat.le_of_eq rfl) (hb hby at_527) (fun _ _ => ⟨rfl, e199, (by decide : 16 + 0 ≤ _), (by decide : 226 + 0 ≤ _)⟩)
                  dsimp only [Pt.U, Pt.locs, Pt.cells, Pt.slots] at X205 l205 y205 z205 st205 hQ205
                  subst l205 y205 z205
                  obtain ⟨rfl, N205q, e205⟩ := hQ205
                  have N205 := Fr.app N199 N205q
                  have pre206 : ∀ t, SS p e below m T205 540 #[iv p1, iv p2, iv p3, iv p4, iv db, iv sl, iv spc, iv tc, iv pfx, iv kq, rv b17, rv b36, iv cc, iv ec, iv sv, iv (1 : Int32), iv tv, iv lcv, iv (1 : Int32)] [(.int (1 : Int32))] t → B t := fun t kk => pre204 t (by
                    refine st205 _ ?_
                    refine XS.iload X205.here hx rfl (hb hby at_530) rfl ?_
                    refine XS.icmpNo X205.here hx rfl (hb hby at_532) rfl (teq (by rw [g_tv]; exact (own_final db sl kq cc lcv sv _ hdb hsl hkq hlc hsv0 rfl).trans (by unfold own_E own_R1 own_R2 own_R3; rw [if_pos hc173, if_neg hc179, if_pos hc186, if_pos hc188, if_neg hc190, if_pos hc197, if_pos hc201, if_pos hc203]))).2 ?_
                    refine XS.iconst X205.here hx rfl (hb hby at_535) ?_
                    show SS p e below m T205 536 #[iv p1, iv p2, iv p3, iv p4, iv db, iv sl, iv spc, iv tc, iv pfx, iv kq, rv b17, rv b36, iv cc, iv ec, iv sv, iv (1 : Int32), iv tv, iv lcv, iv (1 : Int32)] [(.int (1 : Int32))] _
                    refine XS.goto X205.here hx rfl (pc0 := 536) (pc' := 540) rfl (hb hby at_536) (by decide) (by decide) ?_
                    exact kk)
                  have CF := C175.trans (CHv.at X205 hZ hEL C175.1)
                  obtain ⟨fs, hr, hrun, hended, hRW⟩ := X205.leaveW (s := s) hS175 (by first | exact hk175 | (rw [e205]; exact hk175)) (v := some (.int (1 : Int32))) (fun h => by rw [Bd.returns] at h; cases h)
                  refine ⟨_, _, hB _ (pre206 _ ?_), hrun, hended, _, _, rfl, ?_, ?_, ⟨hRW.1, hRW.2.1, hRW.2.2.1, hRW.2.2.2.mono (by decide) (by decide)⟩⟩
                  · exact retN X205 hx (t := .boolean) Bd.returns (by simp) (hb hby at_540) hr
                  · exact ⟨rfl, N205⟩
                  · rw [hh]; show CHr Z consts_1 s.vm h0 T205.vm T205.heap; rw [e205]; exact CF
                · have pre207 : ∀ t, SS p e below m T199 527 #[iv p1, iv p2, iv p3, iv p4, iv db, iv sl, iv spc, iv tc, iv pfx, iv kq, rv b17, rv b36, iv cc, iv ec, iv sv, iv (1 : Int32), iv tv, iv lcv, iv (0 : Int32)] [(.int tv)] t → B t := fun t kk => pre202 t (by
                    refine XS.icmpYes X199.here hx rfl (pc0 := 508) (pc' := 517) rfl (hb hby at_508) rfl (feq hc203).2 (by decide) (by decide) ?_
                    refine XS.iconst X199.here hx rfl (hb hby at_517) ?_
                    refine XS.istore X199.here hx rfl (hb hby at_518) rfl (l' := #[iv p1, iv p2, iv p3, iv p4, iv db, iv sl, iv spc, iv tc, iv pfx, iv kq, rv b17, rv b36, iv cc, iv ec, iv sv, iv (1 : Int32), iv tv, iv lcv, iv (0 : Int32)]) rfl ?_
                    refine XS.iload X199.here hx rfl (hb hby at_520) rfl ?_
                    show SS p e below m T199 522 #[iv p1, iv p2, iv p3, iv p4, iv db, iv sl, iv spc, iv tc, iv pfx, iv kq, rv b17, rv b36, iv cc, iv ec, iv sv, iv (1 : Int32), iv tv, iv lcv, iv (0 : Int32)] [(.int (1 : Int32))] _
                    refine XS.ifNo X199.here hx rfl (hb hby at_522) rfl ((if0 _ _).trans (feq (by decide : ¬ ((1 : Int32) = (0 : Int32)))).1) ?_
                    refine XS.iload X199.here hx rfl (hb hby at_525) rfl ?_
                    exact kk)
                  obtain ⟨_, _, ⟨T208, L208, k208, n208⟩, -, X208, ⟨Lc208, hQ208, l208, y208, z208⟩, st208⟩ := Jvm.LawKit.callS X199 hx (y := (⟨"pithline/html/ScriptData", "openTagLength", "(I)I"⟩ : MethodName)) hown (mvT hZ (hw _ (List.mem_of_getElem? (i := 75) rfl))) (mvT hZ (hw _ (List.mem_of_getElem? (i := 76) rfl))) (mvT hZ (hw _ (List.mem_of_getElem? (i := 5) rfl))) (mvT hZ (hw _ (List.mem_of_getElem? (i := 77) rfl))) (by decide) (backOf (W := 0) (rm16 l Z a0 hw [] tv h175 n0 Z175 ) hZ (hw _ (List.mem_of_getElem? (i := 77) rfl)) (hw _ (List.mem_of_getElem? (i := 5) rfl)) (by decide) (by decide)) (g := (mkF m 527 #[iv p1, iv p2, iv p3, iv p4, iv db, iv sl, iv spc, iv tc, iv pfx, iv kq, rv b17, rv b36, iv cc, iv ec, iv sv, iv (1 : Int32), iv tv, iv lcv, iv (0 : Int32)] [(.int tv)])) rfl (by rw [hml]; rfl) (argsL := [(.int tv)]) (rest := []) (lenOf pd_7 rfl) rfl (by show 2 * 0 + _ ≤ _; exact Nat.le_of_eq rfl) (hb hby at_527) (fun _ _ => ⟨rfl, e199, (by decide : 16 + 0 ≤ _), (by decide : 226 + 0 ≤ _)⟩)
                  dsimp only [Pt.U, Pt.locs, Pt.cells, Pt.slots] at X208 l208 y208 z208 st208 hQ208
                  subst l208 y208 z208
                  obtain ⟨rfl, N208q, e208⟩ := hQ208
                  have N208 := Fr.app N199 N208q
                  have pre209 : ∀ t, SS p e below m T208 540 #[iv p1, iv p2, iv p3, iv p4, iv db, iv sl, iv spc, iv tc, iv pfx, iv kq, rv b17, rv b36, iv cc, iv ec, iv sv, iv (1 : Int32), iv tv, iv lcv, iv (0 : Int32)] [(.int (1 : Int32))] t → B t := fun t kk => pre207 t (by
                    refine st208 _ ?_
                    refine XS.iload X208.here hx rfl (hb hby at_530) rfl ?_
                    refine XS.icmpNo X208.here hx rfl (hb hby at_532) rfl (teq (by rw [g_tv]; exact (own_final db sl kq cc lcv sv _ hdb hsl hkq hlc hsv0 rfl).trans (by unfold own_E own_R1 own_R2 own_R3; rw [if_pos hc173, if_neg hc179, if_pos hc186, if_pos hc188, if_neg hc190, if_pos hc197, if_pos hc201, if_neg hc203]))).2 ?_
                    refine XS.iconst X208.here hx rfl (hb hby at_535) ?_
                    show SS p e below m T208 536 #[iv p1, iv p2, iv p3, iv p4, iv db, iv sl, iv spc, iv tc, iv pfx, iv kq, rv b17, rv b36, iv cc, iv ec, iv sv, iv (1 : Int32), iv tv, iv lcv, iv (0 : Int32)] [(.int (1 : Int32))] _
                    refine XS.goto X208.here hx rfl (pc0 := 536) (pc' := 540) rfl (hb hby at_536) (by decide) (by decide) ?_
                    exact kk)
                  have CF := C175.trans (CHv.at X208 hZ hEL C175.1)
                  obtain ⟨fs, hr, hrun, hended, hRW⟩ := X208.leaveW (s := s) hS175 (by first | exact hk175 | (rw [e208]; exact hk175)) (v := some (.int (1 : Int32))) (fun h => by rw [Bd.returns] at h; cases h)
                  refine ⟨_, _, hB _ (pre209 _ ?_), hrun, hended, _, _, rfl, ?_, ?_, ⟨hRW.1, hRW.2.1, hRW.2.2.1, hRW.2.2.2.mono (by decide) (by decide)⟩⟩
                  · exact retN X208 hx (t := .boolean) Bd.returns (by simp) (hb hby at_540) hr
                  · exact ⟨rfl, N208⟩
                  · rw [hh]; show CHr Z consts_1 s.vm h0 T208.vm T208.heap; rw [e208]; exact CF
              · have pre210 : ∀ t, SS p e below m T199 527 #[iv p1, iv p2, iv p3, iv p4, iv db, iv sl, iv spc, iv tc, iv pfx, iv kq, rv b17, rv b36, iv cc, iv ec, iv sv, iv (1 : Int32), iv tv, iv lcv, iv (0 : Int32)] [(.int tv)] t → B t := fun t kk => pre200 t (by
                  refine XS.ifNo X199.here hx rfl (hb hby at_495) rfl ((if0 _ _).trans (feq hc201).1) ?_
                  refine XS.iconst X199.here hx rfl (hb hby at_498) ?_
                  refine XS.istore X199.here hx rfl (hb hby at_499) rfl (l' := #[iv p1, iv p2, iv p3, iv p4, iv db, iv sl, iv spc, iv tc, iv pfx, iv kq, rv b17, rv b36, iv cc, iv ec, iv sv, iv (1 : Int32), iv tv, iv lcv, iv (0 : Int32)]) rfl ?_
                  refine XS.goto X199.here hx rfl (pc0 := 501) (pc' := 520) rfl (hb hby at_501) (by decide) (by decide) ?_
                  show SS p e below m T199 520 #[iv p1, iv p2, iv p3, iv p4, iv db, iv sl, iv spc, iv tc, iv pfx, iv kq, rv b17, rv b36, iv cc, iv ec, iv sv, iv (1 : Int32), iv tv, iv lcv, iv (0 : Int32)] [] _
                  refine XS.iload X199.here hx rfl (hb hby at_520) rfl ?_
                  refine XS.ifNo X199.here hx rfl (hb hby at_522) rfl ((if0 _ _).trans (feq (by decide : ¬ ((1 : Int32) = (0 : Int32)))).1) ?_
                  refine XS.iload X199.here hx rfl (hb hby at_525) rfl ?_
                  exact kk)
                obtain ⟨_, _, ⟨T211, L211, k211, n211⟩, -, X211, ⟨Lc211, hQ211, l211, y211, z211⟩, st211⟩ := Jvm.LawKit.callS X199 hx (y := (⟨"pithline/html/ScriptData", "openTagLength", "(I)I"⟩ : MethodName)) hown (mvT hZ (hw _ (List.mem_of_getElem? (i := 75) rfl))) (mvT hZ (hw _ (List.mem_of_getElem? (i := 76) rfl))) (mvT hZ (hw _ (List.mem_of_getElem? (i := 5) rfl))) (mvT hZ (hw _ (List.mem_of_getElem? (i := 77) rfl))) (by decide) (backOf (W := 0) (rm16 l Z a0 hw [] tv h175 n0 Z175 ) hZ (hw _ (List.mem_of_getElem? (i := 77) rfl)) (hw _ (List.mem_of_getElem? (i := 5) rfl)) (by decide) (by decide)) (g := (mkF m 527 #[iv p1, iv p2, iv p3, iv p4, iv db, iv sl, iv spc, iv tc, iv pfx, iv kq, rv b17, rv b36, iv cc, iv ec, iv sv, iv (1 : Int32), iv tv, iv lcv, iv (0 : Int32)] [(.int tv)])) rfl (by rw [hml]; rfl) (argsL := [(.int tv)]) (rest := []) (lenOf pd_7 rfl) rfl (by show 2 * 0 + _ ≤ _; exact Nat.le_of_eq rfl) (hb hby at_527) (fun _ _ => ⟨rfl, e199, (by decide : 16 + 0 ≤ _), (by decide : 226 + 0 ≤ _)⟩)
                dsimp only [Pt.U, Pt.locs, Pt.cells, Pt.slots] at X211 l211 y211 z211 st211 hQ211
                subst l211 y211 z211
                obtain ⟨rfl, N211q, e211⟩ := hQ211
                have N211 := Fr.app N199 N211q
                have pre212 : ∀ t, SS p e below m T211 540 #[iv p1, iv p2, iv p3, iv p4, iv db, iv sl, iv spc, iv tc, iv pfx, iv kq, rv b17, rv b36, iv cc, iv ec, iv sv, iv (1 : Int32), iv tv, iv lcv, iv (0 : Int32)] [(.int (1 : Int32))] t → B t := fun t kk => pre210 t (by
                  refine st211 _ ?_
                  refine XS.iload X211.here hx rfl (hb hby at_530) rfl ?_
                  refine XS.icmpNo X211.here hx rfl (hb hby at_532) rfl (teq (by rw [g_tv]; exact (own_final db sl kq cc lcv sv _ hdb hsl hkq hlc hsv0 rfl).trans (by unfold own_E own_R1 own_R2 own_R3; rw [if_pos hc173, if_neg hc179, if_pos hc186, if_pos hc188, if_neg hc190, if_pos hc197, if_neg hc201]))).2 ?_
                  refine XS.iconst X211.here hx rfl (hb hby at_535) ?_
                  show SS p e below m T211 536 #[iv p1, iv p2, iv p3, iv p4, iv db, iv sl, iv spc, iv tc, iv pfx, iv kq, rv b17, rv b36, iv cc, iv ec, iv sv, iv (1 : Int32), iv tv, iv lcv, iv (0 : Int32)] [(.int (1 : Int32))] _
                  refine XS.goto X211.here hx rfl (pc0 := 536) (pc' := 540) rfl (hb hby at_536) (by decide) (by decide) ?_
                  exact kk)
                have CF := C175.trans (CHv.at X211 hZ hEL C175.1)
                obtain ⟨fs, hr, hrun, hended, hRW⟩ := X211.leaveW (s := s) hS175 (by first | exact hk175 | (rw [e211]; exact hk175)) (v := some (.int (1 : Int32))) (fun h => by rw [Bd.returns] at h; cases h)
                refine ⟨_, _, hB _ (pre212 _ ?_), hrun, hended, _, _, rfl, ?_, ?_, ⟨hRW.1, hRW.2.1, hRW.2.2.1, hRW.2.2.2.mono (by decide) (by decide)⟩⟩
                · exact retN X211 hx (t := .boolean) Bd.returns (by simp) (hb hby at_540) hr
                · exact ⟨rfl, N211⟩
                · rw [hh]; show CHr Z consts_1 s.vm h0 T211.vm T211.heap; rw [e211]; exact CF
            · have pre213 : ∀ t, SS p e below m T177 508 #[iv p1, iv p2, iv p3, iv p4, iv db, iv sl, iv spc, iv tc, iv pfx, iv kq, rv b17, rv b36, iv cc, iv ec, iv sv, iv (1 : Int32), iv tv, iv lcv, .unset] [(.int (60 : Int32)), (.int cc)] t → B t := fun t kk => pre196 t (by
                refine XS.icmpYes X177.here hx rfl (pc0 := 487) (pc' := 504) rfl (hb hby at_487) rfl (feq hc197).2 (by decide) (by decide) ?_
                refine XS.iload X177.here hx rfl (hb hby at_504) rfl ?_
                refine XS.bipush X177.here hx rfl (hb hby at_506) ?_
                exact kk)
              by_cases hc214 : cc = (60 : Int32)
              · have pre215 : ∀ t, SS p e below m T177 527 #[iv p1, iv p2, iv p3, iv p4, iv db, iv sl, iv spc, iv tc, iv pfx, iv kq, rv b17, rv b36, iv cc, iv ec, iv sv, iv (1 : Int32), iv tv, iv lcv, iv (1 : Int32)] [(.int tv)] t → B t := fun t kk => pre213 t (by
                  refine XS.icmpNo X177.here hx rfl (hb hby at_508) rfl (teq hc214).2 ?_
                  refine XS.iconst X177.here hx rfl (hb hby at_511) ?_
                  refine XS.istore X177.here hx rfl (hb hby at_512) rfl (l' := #[iv p1, iv p2, iv p3, iv p4, iv db, iv sl, iv spc, iv tc, iv pfx, iv kq, rv b17, rv b36, iv cc, iv ec, iv sv, iv (1 : Int32), iv tv, iv lcv, iv (1 : Int32)]) rfl ?_
                  refine XS.goto X177.here hx rfl (pc0 := 514) (pc' := 520) rfl (hb hby at_514) (by decide) (by decide) ?_
                  show SS p e below m T177 520 #[iv p1, iv p2, iv p3, iv p4, iv db, iv sl, iv spc, iv tc, iv pfx, iv kq, rv b17, rv b36, iv cc, iv ec, iv sv, iv (1 : Int32), iv tv, iv lcv, iv (1 : Int32)] [] _
                  refine XS.iload X177.here hx rfl (hb hby at_520) rfl ?_
                  refine XS.ifNo X177.here hx rfl (hb hby at_522) rfl ((if0 _ _).trans (feq (by decide : ¬ ((1 : Int32) = (0 : Int32)))).1) ?_
                  refine XS.iload X177.here hx rfl (hb hby at_525) rfl ?_
                  exact kk)
                obtain ⟨_, _, ⟨T216, L216, k216, n216⟩, -, X216, ⟨Lc216, hQ216, l216, y216, z216⟩, st216⟩ := Jvm.LawKit.callS X177 hx (y := (⟨"pithline/html/ScriptData", "openTagLength", "(I)I"⟩ : MethodName)) hown (mvT hZ (hw _ (List.mem_of_getElem? (i := 75) rfl))) (mvT hZ (hw _ (List.mem_of_getElem? (i := 76) rfl))) (mvT hZ (hw _ (List.mem_of_getElem? (i := 5) rfl))) (mvT hZ (hw _ (List.mem_of_getElem? (i := 77) rfl))) (by decide) (backOf (W := 0) (rm16 l Z a0 hw [] tv h175 n0 Z175 ) hZ (hw _ (List.mem_of_getElem? (i := 77) rfl)) (hw _ (List.mem_of_getElem? (i := 5) rfl)) (by decide) (by decide)) (g := (mkF m 527 #[iv p1, iv p2, iv p3, iv p4, iv db, iv sl, iv spc, iv tc, iv pfx, iv kq, rv b17, rv b36, iv cc, iv ec, iv sv, iv (1 : Int32), iv tv, iv lcv, iv (1 : Int32)] [(.int tv)])) rfl (by rw [hml]; rfl) (argsL := [(.int tv)]) (rest := []) (lenOf pd_7 rfl) rfl (by show 2 * 0 + _ ≤ _; exact Nat.le_of_eq rfl) (hb hby at_527) (fun _ _ => ⟨rfl, e177, (by decide : 16 + 0 ≤ _), (by decide : 226 + 0 ≤ _)⟩)
                dsimp only [Pt.U, Pt.locs, Pt.cells, Pt.slots] at X216 l216 y216 z216 st216 hQ216
                subst l216 y216 z216
                obtain ⟨rfl, N216q, e216⟩ := hQ216
                have N216 := Fr.app N177 N216q
                have pre217 : ∀ t, SS p e below m T216 540 #[iv p1, iv p2, iv p3, iv p4, iv db, iv sl, iv spc, iv tc, iv pfx, iv kq, rv b17, rv b36, iv cc, iv ec, iv sv, iv (1 : Int32), iv tv, iv lcv, iv (1 : Int32)] [(.int (1 : Int32))] t → B t := fun t kk => pre215 t (by
                  refine st216 _ ?_
                  refine XS.iload X216.here hx rfl (hb hby at_530) rfl ?_
                  refine XS.icmpNo X216.here hx rfl (hb hby at_532) rfl (teq (by rw [g_tv]; exact (own_final db sl kq cc lcv sv _ hdb hsl hkq hlc hsv0 rfl).trans (by unfold own_E own_R1 own_R2 own_R3; rw [if_pos hc173, if_neg hc179, if_pos hc186, if_pos hc188, if_neg hc190, if_neg hc197, if_pos hc214]))).2 ?_
                  refine XS.iconst X216.here hx rfl (hb hby at_535) ?_
                  show SS p e below m T216 536 #[iv p1, iv p2, iv p3, iv p4, iv db, iv sl, iv spc, iv tc, iv pfx, iv kq, rv b17, rv b36, iv cc, iv ec, iv sv, iv (1 : Int32), iv tv, iv lcv, iv (1 : Int32)] [(.int (1 : Int32))] _
                  refine XS.goto X216.here hx rfl (pc0 := 536) (pc' := 540) rfl (hb hby at_536) (by decide) (by decide) ?_
                  exact kk)
                have CF := C175.trans (CHv.at X216 hZ hEL C175.1)
                obtain ⟨fs, hr, hrun, hended, hRW⟩ := X216.leaveW (s := s) hS175 (by first | exact hk175 | (rw [e216]; exact hk175)) (v := some (.int (1 : Int32))) (fun h => by rw [Bd.returns] at h; cases h)
                refine ⟨_, _, hB _ (pre217 _ ?_), hrun, hended, _, _, rfl, ?_, ?_, ⟨hRW.1, hRW.2.1, hRW.2.2.1, hRW.2.2.2.mono (by decide) (by decide)⟩⟩
                · exact retN X216 hx (t := .boolean) Bd.returns (by simp) (hb hby at_540) hr
                · exact ⟨rfl, N216⟩
                · rw [hh]; show CHr Z consts_1 s.vm h0 T216.vm T216.heap; rw [e216]; exact CF
              · have pre218 : ∀ t, SS p e below m T177 527 #[iv p1, iv p2, iv p3, iv p4, iv db, iv sl, iv spc, iv tc, iv pfx, iv kq, rv b17, rv b36, iv cc, iv ec, iv sv, iv (1 : Int32), iv tv, iv lcv, iv (0 : Int32)] [(.int tv)] t → B t := fun t kk => pre213 t (by
                  refine XS.icmpYes X177.here hx rfl (pc0 := 508) (pc' := 517) rfl (hb hby at_508) rfl (feq hc214).2 (by decide) (by decide) ?_
                  refine XS.iconst X177.here hx rfl (hb hby at_517) ?_
                  refine XS.istore X177.here hx rfl (hb hby at_518) rfl (l' := #[iv p1, iv p2, iv p3, iv p4, iv db, iv sl, iv spc, iv tc, iv pfx, iv kq, rv b17, rv b36, iv cc, iv ec, iv sv, iv (1 : Int32), iv tv, iv lcv, iv (0 : Int32)]) rfl ?_
                  refine XS.iload X177.here hx rfl (hb hby at_520) rfl ?_
                  show SS p e below m T177 522 #[iv p1, iv p2, iv p3, iv p4, iv db, iv sl, iv spc, iv tc, iv pfx, iv kq, rv b17, rv b36, iv cc, iv ec, iv sv, iv (1 : Int32), iv tv, iv lcv, iv (0 : Int32)] [(.int (1 : Int32))] _
                  refine XS.ifNo X177.here hx rfl (hb hby at_522) rfl ((if0 _ _).trans (feq (by decide : ¬ ((1 : Int32) = (0 : Int32)))).1) ?_
                  refine XS.iload X177.here hx rfl (hb hby at_525) rfl ?_
                  exact kk)
                obtain ⟨_, _, ⟨T219, L219, k219, n219⟩, -, X219, ⟨Lc219, hQ219, l219, y219, z219⟩, st219⟩ := Jvm.LawKit.callS X177 hx (y := (⟨"pithline/html/ScriptData", "openTagLength", "(I)I"⟩ : MethodName)) hown (mvT hZ (hw _ (List.mem_of_getElem? (i := 75) rfl))) (mvT hZ (hw _ (List.mem_of_getElem? (i := 76) rfl))) (mvT hZ (hw _ (List.mem_of_getElem? (i := 5) rfl))) (mvT hZ (hw _ (List.mem_of_getElem? (i := 77) rfl))) (by decide) (backOf (W := 0) (rm16 l Z a0 hw [] tv h175 n0 Z175 ) hZ (hw _ (List.mem_of_getElem? (i := 77) rfl)) (hw _ (List.mem_of_getElem? (i := 5) rfl)) (by decide) (by decide)) (g := (mkF m 527 #[iv p1, iv p2, iv p3, iv p4, iv db, iv sl, iv spc, iv tc, iv pfx, iv kq, rv b17, rv b36, iv cc, iv ec, iv sv, iv (1 : Int32), iv tv, iv lcv, iv (0 : Int32)] [(.int tv)])) rfl (by rw [hml]; rfl) (argsL := [(.int tv)]) (rest := []) (lenOf pd_7 rfl) rfl (by show 2 * 0 + _ ≤ _; exact Nat.le_of_eq rfl) (hb hby at_527) (fun _ _ => ⟨rfl, e177, (by decide : 16 + 0 ≤ _), (by decide : 226 + 0 ≤ _)⟩)
                dsimp only [Pt.U, Pt.locs, Pt.cells, Pt.slots] at X219 l219 y219 z219 st219 hQ219
                subst l219 y219 z219
                obtain ⟨rfl, N219q, e219⟩ := hQ219
                have N219 := Fr.app N177 N219q
                have pre220 : ∀ t, SS p e below m T219 540 #[iv p1, iv p2, iv p3, iv p4, iv db, iv sl, iv spc, iv tc, iv pfx, iv kq, rv b17, rv b36, iv cc, iv ec, iv sv, iv (1 : Int32), iv tv, iv lcv, iv (0 : Int32)] [(.int (1 : Int32))] t → B t := fun t kk => pre218 t (by
                  refine st219 _ ?_
                  refine XS.iload X219.here hx rfl (hb hby at_530) rfl ?_
                  refine XS.icmpNo X219.here hx rfl (hb hby at_532) rfl (teq (by rw [g_tv]; exact (own_final db sl kq cc lcv sv _ hdb hsl hkq hlc hsv0 rfl).trans (by unfold own_E own_R1 own_R2 own_R3; rw [if_pos hc173, if_neg hc179, if_pos hc186, if_pos hc188, if_neg hc190, if_neg hc197, if_neg hc214]))).2 ?_
                  refine XS.iconst X219.here hx rfl (hb hby at_535) ?_
                  show SS p e below m T219 536 #[iv p1, iv p2, iv p3, iv p4, iv db, iv sl, iv spc, iv tc, iv pfx, iv kq, rv b17, rv b36, iv cc, iv ec, iv sv, iv (1 : Int32), iv tv, iv lcv, iv (0 : Int32)] [(.int (1 : Int32))] _
                  refine XS.goto X219.here hx rfl (pc0 := 536) (pc' := 540) rfl (hb hby at_536) (by decide) (by decide) ?_
                  exact kk)
                have CF := C175.trans (CHv.at X219 hZ hEL C175.1)
                obtain ⟨fs, hr, hrun, hended, hRW⟩ := X219.leaveW (s := s) hS175 (by first | exact hk175 | (rw [e219]; exact hk175)) (v := some (.int (1 : Int32))) (fun h => by rw [Bd.returns] at h; cases h)
                refine ⟨_, _, hB _ (pre220 _ ?_), hrun, hended, _, _, rfl, ?_, ?_, ⟨hRW.1, hRW.2.1, hRW.2.2.1, hRW.2.2.2.mono (by decide) (by decide)⟩⟩
                · exact retN X219 hx (t := .boolean) Bd.returns (by simp) (hb hby at_540) hr
                · exact ⟨rfl, N219⟩
                · rw [hh]; show CHr Z consts_1 s.vm h0 T219.vm T219.heap; rw [e219]; exact CF
        · have pre221 : ∀ t, SS p e below m T177 487 #[iv p1, iv p2, iv p3, iv p4, iv db, iv sl, iv spc, iv tc, iv pfx, iv kq, rv b17, rv b36, iv cc, iv ec, iv sv, iv (1 : Int32), iv tv, iv lcv, .unset] [(.int (6 : Int32)), (.int kq)] t → B t := fun t kk => pre187 t (by
            refine XS.ifYes X177.here hx rfl (pc0 := 461) (pc' := 483) rfl (hb hby at_461) rfl ((if0 _ _).trans (feq hc188).2) (by decide) (by decide) ?_
            refine XS.iload X177.here hx rfl (hb hby at_483) rfl ?_
            refine XS.bipush X177.here hx rfl (hb hby at_485) ?_
            exact kk)
          by_cases hc222 : kq = (6 : Int32)
          · have pre223 : ∀ t, SS p e below m T177 492 #[iv p1, iv p2, iv p3, iv p4, iv db, iv sl, iv spc, iv tc, iv pfx, iv kq, rv b17, rv b36, iv cc, iv ec, iv sv, iv (1 : Int32), iv tv, iv lcv, .unset] [(.int cc)] t → B t := fun t kk => pre221 t (by
              refine XS.icmpNo X177.here hx rfl (hb hby at_487) rfl (teq hc222).2 ?_
              refine XS.iload X177.here hx rfl (hb hby at_490) rfl ?_
              exact kk)
            obtain ⟨_, _, ⟨T224, L224, k224, n224⟩, -, X224, ⟨Lc224, hQ224, l224, y224, z224⟩, st224⟩ := Jvm.LawKit.callS X177 hx (y := (⟨"pithline/html/ScriptDataOpenTagLengthPinLaw", "isNameEnd", "(I)Z"⟩ : MethodName)) hown (mvT hZ (hw _ (List.mem_of_getElem? (i := 94) rfl))) (mvT hZ (hw _ (List.mem_of_getElem? (i := 95) rfl))) (mvT hZ (hw _ (List.mem_of_getElem? (i := 12) rfl))) (mvT hZ (hw _ (List.mem_of_getElem? (i := 96) rfl))) (by decide) (backOf (W := 0) (rm22 l Z a0 hw [] cc h175 n0 Z175 ) hZ (hw _ (List.mem_of_getElem? (i := 96) rfl)) (hw _ (List.mem_of_getElem? (i := 12) rfl)) (by decide) (by decide)) (g := (mkF m 492 #[iv p1, iv p2, iv p3, iv p4, iv db, iv sl, iv spc, iv tc, iv pfx, iv kq, rv b17, rv b36, iv cc, iv ec, iv sv, iv (1 : Int32), iv tv, iv lcv, .unset] [(.int cc)])) rfl (by rw [hml]; rfl) (argsL := [(.int cc)]) (rest := []) (lenOf pd_5 rfl) rfl (by show 2 * 0 + _ ≤ _; exact Nat.le_of_eq rfl) (hb hby at_492) (fun _ _ => ⟨rfl, e177, (by decide : 16 + 0 ≤ _), (by decide : 226 + 0 ≤ _)⟩)
            dsimp only [Pt.U, Pt.locs, Pt.cells, Pt.slots] at X224 l224 y224 z224 st224 hQ224
            subst l224 y224 z224
            obtain ⟨rfl, N224q, e224⟩ := hQ224
            have N224 := Fr.app N177 N224q
            have pre225 : ∀ t, SS p e below m T224 495 #[iv p1, iv p2, iv p3, iv p4, iv db, iv sl, iv spc, iv tc, iv pfx, iv kq, rv b17, rv b36, iv cc, iv ec, iv sv, iv (1 : Int32), iv tv, iv lcv, .unset] [(.int (f22 cc))] t → B t := fun t kk => pre223 t (by
              refine st224 _ ?_
              exact kk)
            by_cases hc226 : (f22 cc) = (0 : Int32)
            · have pre227 : ∀ t, SS p e below m T224 508 #[iv p1, iv p2, iv p3, iv p4, iv db, iv sl, iv spc, iv tc, iv pfx, iv kq, rv b17, rv b36, iv cc, iv ec, iv sv, iv (1 : Int32), iv tv, iv lcv, .unset] [(.int (60 : Int32)), (.int cc)] t → B t := fun t kk => pre225 t (by
                refine XS.ifYes X224.here hx rfl (pc0 := 495) (pc' := 504) rfl (hb hby at_495) rfl ((if0 _ _).trans (teq hc226).1) (by decide) (by decide) ?_
                refine XS.iload X224.here hx rfl (hb hby at_504) rfl ?_
                refine XS.bipush X224.here hx rfl (hb hby at_506) ?_
                exact kk)
              by_cases hc228 : cc = (60 : Int32)
              · have pre229 : ∀ t, SS p e below m T224 527 #[iv p1, iv p2, iv p3, iv p4, iv db, iv sl, iv spc, iv tc, iv pfx, iv kq, rv b17, rv b36, iv cc, iv ec, iv sv, iv (1 : Int32), iv tv, iv lcv, iv (1 : Int32)] [(.int tv)] t → B t := fun t kk => pre227 t (by
                  refine XS.icmpNo X224.here hx rfl (hb hby at_508) rfl (teq hc228).2 ?_
                  refine XS.iconst X224.here hx rfl (hb hby at_511) ?_
                  refine XS.istore X224.here hx rfl (hb hby at_512) rfl (l' := #[iv p1, iv p2, iv p3, iv p4, iv db, iv sl, iv spc, iv tc, iv pfx, iv kq, rv b17, rv b36, iv cc, iv ec, iv sv, iv (1 : Int32), iv tv, iv lcv, iv (1 : Int32)]) rfl ?_
                  refine XS.goto X224.here hx rfl (pc0 := 514) (pc' := 520) rfl (hb hby at_514) (by decide) (by decide) ?_
                  show SS p e below m T224 520 #[iv p1, iv p2, iv p3, iv p4, iv db, iv sl, iv spc, iv tc, iv pfx, iv kq, rv b17, rv b36, iv cc, iv ec, iv sv, iv (1 : Int32), iv tv, iv lcv, iv (1 : Int32)] [] _
                  refine XS.iload X224.here hx rfl (hb hby at_520) rfl ?_
                  refine XS.ifNo X224.here hx rfl (hb hby at_522) rfl ((if0 _ _).trans (feq (by decide : ¬ ((1 : Int32) = (0 : Int32)))).1) ?_
                  refine XS.iload X224.here hx rfl (hb hby at_525) rfl ?_
                  exact kk)
                obtain ⟨_, _, ⟨T230, L230, k230, n230⟩, -, X230, ⟨Lc230, hQ230, l230, y230, z230⟩, st230⟩ := Jvm.LawKit.callS X224 hx (y := (⟨"pithline/html/ScriptData", "openTagLength", "(I)I"⟩ : MethodName)) hown (mvT hZ (hw _ (List.mem_of_getElem? (i := 75) rfl))) (mvT hZ (hw _ (List.mem_of_getElem? (i := 76) rfl))) (mvT hZ (hw _ (List.mem_of_getElem? (i := 5) rfl))) (mvT hZ (hw _ (List.mem_of_getElem? (i := 77) rfl))) (by decide) (backOf (W := 0) (rm16 l Z a0 hw [] tv h175 n0 Z175 ) hZ (hw _ (List.mem_of_getElem? (i := 77) rfl)) (hw _ (List.mem_of_getElem? (i := 5) rfl)) (by decide) (by decide)) (g := (mkF m 527 #[iv p1, iv p2, iv p3, iv p4, iv db, iv sl, iv spc, iv tc, iv pfx, iv kq, rv b17, rv b36, iv cc, iv ec, iv sv, iv (1 : Int32), iv tv, iv lcv, iv (1 : Int32)] [(.int tv)])) rfl (by rw [hml]; rfl) (argsL := [(.int tv)]) (rest := []) (lenOf pd_7 rfl) rfl (by show 2 * 0 + _ ≤ _; exact Nat.le_of_eq rfl) (hb hby at_527) (fun _ _ => ⟨rfl, e224, (by decide : 16 + 0 ≤ _), (by decide : 226 + 0 ≤ _)⟩)
                dsimp only [Pt.U, Pt.locs, Pt.cells, Pt.slots] at X230 l230 y230 z230 st230 hQ230
                subst l230 y230 z230
                obtain ⟨rfl, N230q, e230⟩ := hQ230
                have N230 := Fr.app N224 N230q
                have pre231 : ∀ t, SS p e below m T230 540 #[iv p1, iv p2, iv p3, iv p4, iv db, iv sl, iv spc, iv tc, iv pfx, iv kq, rv b17, rv b36, iv cc, iv ec, iv sv, iv (1 : Int32), iv tv, iv lcv, iv (1 : Int32)] [(.int (1 : Int32))] t → B t := fun t kk => pre229 t (by
                  refine st230 _ ?_
                  refine XS.iload X230.here hx rfl (hb hby at_530) rfl ?_
                  refine XS.icmpNo X230.here hx rfl (hb hby at_532) rfl (teq (by rw [g_tv]; exact (own_final db sl kq cc lcv sv _ hdb hsl hkq hlc hsv0 rfl).trans (by unfold own_E own_R1 own_R2 own_R3; rw [if_pos hc173, if_neg hc179, if_pos hc186, if_neg hc188, if_pos hc222, if_pos hc226, if_pos hc228]))).2 ?_
                  refine XS.iconst X230.here hx rfl (hb hby at_535) ?_
                  show SS p e below m T230 536 #[iv p1, iv p2, iv p3, iv p4, iv db, iv sl, iv spc, iv tc, iv pfx, iv kq, rv b17, rv b36, iv cc, iv ec, iv sv, iv (1 : Int32), iv tv, iv lcv, iv (1 : Int32)] [(.int (1 : Int32))] _
                  refine XS.goto X230.here hx rfl (pc0 := 536) (pc' := 540) rfl (hb hby at_536) (by decide) (by decide) ?_
                  exact kk)
                have CF := C175.trans (CHv.at X230 hZ hEL C175.1)
                obtain ⟨fs, hr, hrun, hended, hRW⟩ := X230.leaveW (s := s) hS175 (by first | exact hk175 | (rw [e230]; exact hk175)) (v := some (.int (1 : Int32))) (fun h => by rw [Bd.returns] at h; cases h)
                refine ⟨_, _, hB _ (pre231 _ ?_), hrun, hended, _, _, rfl, ?_, ?_, ⟨hRW.1, hRW.2.1, hRW.2.2.1, hRW.2.2.2.mono (by decide) (by decide)⟩⟩
                · exact retN X230 hx (t := .boolean) Bd.returns (by simp) (hb hby at_540) hr
                · exact ⟨rfl, N230⟩
                · rw [hh]; show CHr Z consts_1 s.vm h0 T230.vm T230.heap; rw [e230]; exact CF
              · have pre232 : ∀ t, SS p e below m T224 527 #[iv p1, iv p2, iv p3, iv p4, iv db, iv sl, iv spc, iv tc, iv pfx, iv kq, rv b17, rv b36, iv cc, iv ec, iv sv, iv (1 : Int32), iv tv, iv lcv, iv (0 : Int32)] [(.int tv)] t → B t := fun t kk => pre227 t (by
                  refine XS.icmpYes X224.here hx rfl (pc0 := 508) (pc' := 517) rfl (hb hby at_508) rfl (feq hc228).2 (by decide) (by decide) ?_
                  refine XS.iconst X224.here hx rfl (hb hby at_517) ?_
                  refine XS.istore X224.here hx rfl (hb hby at_518) rfl (l' := #[iv p1, iv p2, iv p3, iv p4, iv db, iv sl, iv spc, iv tc, iv pfx, iv kq, rv b17, rv b36, iv cc, iv ec, iv sv, iv (1 : Int32), iv tv, iv lcv, iv (0 : Int32)]) rfl ?_
                  refine XS.iload X224.here hx rfl (hb hby at_520) rfl ?_
                  show SS p e below m T224 522 #[iv p1, iv p2, iv p3, iv p4, iv db, iv sl, iv spc, iv tc, iv pfx, iv kq, rv b17, rv b36, iv cc, iv ec, iv sv, iv (1 : Int32), iv tv, iv lcv, iv (0 : Int32)] [(.int (1 : Int32))] _
                  refine XS.ifNo X224.here hx rfl (hb hby at_522) rfl ((if0 _ _).trans (feq (by decide : ¬ ((1 : Int32) = (0 : Int32)))).1) ?_
                  refine XS.iload X224.here hx rfl (hb hby at_525) rfl ?_
                  exact kk)
                obtain ⟨_, _, ⟨T233, L233, k233, n233⟩, -, X233, ⟨Lc233, hQ233, l233, y233, z233⟩, st233⟩ := Jvm.LawKit.callS X224 hx (y := (⟨"pithline/html/ScriptData", "openTagLength", "(I)I"⟩ : MethodName)) hown (mvT hZ (hw _ (List.mem_of_getElem? (i := 75) rfl))) (mvT hZ (hw _ (List.mem_of_getElem? (i := 76) rfl))) (mvT hZ (hw _ (List.mem_of_getElem? (i := 5) rfl))) (mvT hZ (hw _ (List.mem_of_getElem? (i := 77) rfl))) (by decide) (backOf (W := 0) (rm16 l Z a0 hw [] tv h175 n0 Z175 ) hZ (hw _ (List.mem_of_getElem? (i := 77) rfl)) (hw _ (List.mem_of_getElem? (i := 5) rfl)) (by decide) (by decide)) (g := (mkF m 527 #[iv p1, iv p2, iv p3, iv p4, iv db, iv sl, iv spc, iv tc, iv pfx, iv kq, rv b17, rv b36, iv cc, iv ec, iv sv, iv (1 : Int32), iv tv, iv lcv, iv (0 : Int32)] [(.int tv)])) rfl (by rw [hml]; rfl) (argsL := [(.int tv)]) (rest := []) (lenOf pd_7 rfl) rfl (by show 2 * 0 + _ ≤ _; exact Nat.le_of_eq rfl) (hb hby at_527) (fun _ _ => ⟨rfl, e224, (by decide : 16 + 0 ≤ _), (by decide : 226 + 0 ≤ _)⟩)
                dsimp only [Pt.U, Pt.locs, Pt.cells, Pt.slots] at X233 l233 y233 z233 st233 hQ233
                subst l233 y233 z233
                obtain ⟨rfl, N233q, e233⟩ := hQ233
                have N233 := Fr.app N224 N233q
                have pre234 : ∀ t, SS p e below m T233 540 #[iv p1, iv p2, iv p3, iv p4, iv db, iv sl, iv spc, iv tc, iv pfx, iv kq, rv b17, rv b36, iv cc, iv ec, iv sv, iv (1 : Int32), iv tv, iv lcv, iv (0 : Int32)] [(.int (1 : Int32))] t → B t := fun t kk => pre232 t (by
                  refine st233 _ ?_
                  refine XS.iload X233.here hx rfl (hb hby at_530) rfl ?_
                  refine XS.icmpNo X233.here hx rfl (hb hby at_532) rfl (teq (by rw [g_tv]; exact (own_final db sl kq cc lcv sv _ hdb hsl hkq hlc hsv0 rfl).trans (by unfold own_E own_R1 own_R2 own_R3; rw [if_pos hc173, if_neg hc179, if_pos hc186, if_neg hc188, if_pos hc222, if_pos hc226, if_neg hc228]))).2 ?_
                  refine XS.iconst X233.here hx rfl (hb hby at_535) ?_
                  show SS p e below m T233 536 #[iv p1, iv p2, iv p3, iv p4, iv db, iv sl, iv spc, iv tc, iv pfx, iv kq, rv b17, rv b36, iv cc, iv ec, iv sv, iv (1 : Int32), iv tv, iv lcv, iv (0 : Int32)] [(.int (1 : Int32))] _
                  refine XS.goto X233.here hx rfl (pc0 := 536) (pc' := 540) rfl (hb hby at_536) (by decide) (by decide) ?_
                  exact kk)
                have CF := C175.trans (CHv.at X233 hZ hEL C175.1)
                obtain ⟨fs, hr, hrun, hended, hRW⟩ := X233.leaveW (s := s) hS175 (by first | exact hk175 | (rw [e233]; exact hk175)) (v := some (.int (1 : Int32))) (fun h => by rw [Bd.returns] at h; cases h)
                refine ⟨_, _, hB _ (pre234 _ ?_), hrun, hended, _, _, rfl, ?_, ?_, ⟨hRW.1, hRW.2.1, hRW.2.2.1, hRW.2.2.2.mono (by decide) (by decide)⟩⟩
                · exact retN X233 hx (t := .boolean) Bd.returns (by simp) (hb hby at_540) hr
                · exact ⟨rfl, N233⟩
                · rw [hh]; show CHr Z consts_1 s.vm h0 T233.vm T233.heap; rw [e233]; exact CF
            · have pre235 : ∀ t, SS p e below m T224 527 #[iv p1, iv p2, iv p3, iv p4, iv db, iv sl, iv spc, iv tc, iv pfx, iv kq, rv b17, rv b36, iv cc, iv ec, iv sv, iv (1 : Int32), iv tv, iv lcv, iv (0 : Int32)] [(.int tv)] t → B t := fun t kk => pre225 t (by
                refine XS.ifNo X224.here hx rfl (hb hby at_495) rfl ((if0 _ _).trans (feq hc226).1) ?_
                refine XS.iconst X224.here hx rfl (hb hby at_498) ?_
                refine XS.istore X224.here hx rfl (hb hby at_499) rfl (l' := #[iv p1, iv p2, iv p3, iv p4, iv db, iv sl, iv spc, iv tc, iv pfx, iv kq, rv b17, rv b36, iv cc, iv ec, iv sv, iv (1 : Int32), iv tv, iv lcv, iv (0 : Int32)]) rfl ?_
                refine XS.goto X224.here hx rfl (pc0 := 501) (pc' := 520) rfl (hb hby at_501) (by decide) (by decide) ?_
                show SS p e below m T224 520 #[iv p1, iv p2, iv p3, iv p4, iv db, iv sl, iv spc, iv tc, iv pfx, iv kq, rv b17, rv b36, iv cc, iv ec, iv sv, iv (1 : Int32), iv tv, iv lcv, iv (0 : Int32)] [] _
                refine XS.iload X224.here hx rfl (hb hby at_520) rfl ?_
                refine XS.ifNo X224.here hx rfl (hb hby at_522) rfl ((if0 _ _).trans (feq (by decide : ¬ ((1 : Int32) = (0 : Int32)))).1) ?_
                refine XS.iload X224.here hx rfl (hb hby at_525) rfl ?_
                exact kk)
              obtain ⟨_, _, ⟨T236, L236, k236, n236⟩, -, X236, ⟨Lc236, hQ236, l236, y236, z236⟩, st236⟩ := Jvm.LawKit.callS X224 hx (y := (⟨"pithline/html/ScriptData", "openTagLength", "(I)I"⟩ : MethodName)) hown (mvT hZ (hw _ (List.mem_of_getElem? (i := 75) rfl))) (mvT hZ (hw _ (List.mem_of_getElem? (i := 76) rfl))) (mvT hZ (hw _ (List.mem_of_getElem? (i := 5) rfl))) (mvT hZ (hw _ (List.mem_of_getElem? (i := 77) rfl))) (by decide) (backOf (W := 0) (rm16 l Z a0 hw [] tv h175 n0 Z175 ) hZ (hw _ (List.mem_of_getElem? (i := 77) rfl)) (hw _ (List.mem_of_getElem? (i := 5) rfl)) (by decide) (by decide)) (g := (mkF m 527 #[iv p1, iv p2, iv p3, iv p4, iv db, iv sl, iv spc, iv tc, iv pfx, iv kq, rv b17, rv b36, iv cc, iv ec, iv sv, iv (1 : Int32), iv tv, iv lcv, iv (0 : Int32)] [(.int tv)])) rfl (by rw [hml]; rfl) (argsL := [(.int tv)]) (rest := []) (lenOf pd_7 rfl) rfl (by show 2 * 0 + _ ≤ _; exact Nat.le_of_eq rfl) (hb hby at_527) (fun _ _ => ⟨rfl, e224, (by decide : 16 + 0 ≤ _), (by decide : 226 + 0 ≤ _)⟩)
              dsimp only [Pt.U, Pt.locs, Pt.cells, Pt.slots] at X236 l236 y236 z236 st236 hQ236
              subst l236 y236 z236
              obtain ⟨rfl, N236q, e236⟩ := hQ236
              have N236 := Fr.app N224 N236q
              have pre237 : ∀ t, SS p e below m T236 540 #[iv p1, iv p2, iv p3, iv p4, iv db, iv sl, iv spc, iv tc, iv pfx, iv kq, rv b17, rv b36, iv cc, iv ec, iv sv, iv (1 : Int32), iv tv, iv lcv, iv (0 : Int32)] [(.int (1 : Int32))] t → B t := fun t kk => pre235 t (by
                refine st236 _ ?_
                refine XS.iload X236.here hx rfl (hb hby at_530) rfl ?_
                refine XS.icmpNo X236.here hx rfl (hb hby at_532) rfl (teq (by rw [g_tv]; exact (own_final db sl kq cc lcv sv _ hdb hsl hkq hlc hsv0 rfl).trans (by unfold own_E own_R1 own_R2 own_R3; rw [if_pos hc173, if_neg hc179, if_pos hc186, if_neg hc188, if_pos hc222, if_neg hc226]))).2 ?_
                refine XS.iconst X236.here hx rfl (hb hby at_535) ?_
                show SS p e below m T236 536 #[iv p1, iv p2, iv p3, iv p4, iv db, iv sl, iv spc, iv tc, iv pfx, iv kq, rv b17, rv b36, iv cc, iv ec, iv sv, iv (1 : Int32), iv tv, iv lcv, iv (0 : Int32)] [(.int (1 : Int32))] _
                refine XS.goto X236.here hx rfl (pc0 := 536) (pc' := 540) rfl (hb hby at_536) (by decide) (by decide) ?_
                exact kk)
              have CF := C175.trans (CHv.at X236 hZ hEL C175.1)
              obtain ⟨fs, hr, hrun, hended, hRW⟩ := X236.leaveW (s := s) hS175 (by first | exact hk175 | (rw [e236]; exact hk175)) (v := some (.int (1 : Int32))) (fun h => by rw [Bd.returns] at h; cases h)
              refine ⟨_, _, hB _ (pre237 _ ?_), hrun, hended, _, _, rfl, ?_, ?_, ⟨hRW.1, hRW.2.1, hRW.2.2.1, hRW.2.2.2.mono (by decide) (by decide)⟩⟩
              · exact retN X236 hx (t := .boolean) Bd.returns (by simp) (hb hby at_540) hr
              · exact ⟨rfl, N236⟩
              · rw [hh]; show CHr Z consts_1 s.vm h0 T236.vm T236.heap; rw [e236]; exact CF
          · have pre238 : ∀ t, SS p e below m T177 508 #[iv p1, iv p2, iv p3, iv p4, iv db, iv sl, iv spc, iv tc, iv pfx, iv kq, rv b17, rv b36, iv cc, iv ec, iv sv, iv (1 : Int32), iv tv, iv lcv, .unset] [(.int (60 : Int32)), (.int cc)] t → B t := fun t kk => pre221 t (by
              refine XS.icmpYes X177.here hx rfl (pc0 := 487) (pc' := 504) rfl (hb hby at_487) rfl (feq hc222).2 (by decide) (by decide) ?_
              refine XS.iload X177.here hx rfl (hb hby at_504) rfl ?_
              refine XS.bipush X177.here hx rfl (hb hby at_506) ?_
              exact kk)
            by_cases hc239 : cc = (60 : Int32)
            · have pre240 : ∀ t, SS p e below m T177 527 #[iv p1, iv p2, iv p3, iv p4, iv db, iv sl, iv spc, iv tc, iv pfx, iv kq, rv b17, rv b36, iv cc, iv ec, iv sv, iv (1 : Int32), iv tv, iv lcv, iv (1 : Int32)] [(.int tv)] t → B t := fun t kk => pre238 t (by
                refine XS.icmpNo X177.here hx rfl (hb hby at_508) rfl (teq hc239).2 ?_
                refine XS.iconst X177.here hx rfl (hb hby at_511) ?_
                refine XS.istore X177.here hx rfl (hb hby at_512) rfl (l' := #[iv p1, iv p2, iv p3, iv p4, iv db, iv sl, iv spc, iv tc, iv pfx, iv kq, rv b17, rv b36, iv cc, iv ec, iv sv, iv (1 : Int32), iv tv, iv lcv, iv (1 : Int32)]) rfl ?_
                refine XS.goto X177.here hx rfl (pc0 := 514) (pc' := 520) rfl (hb hby at_514) (by decide) (by decide) ?_
                show SS p e below m T177 520 #[iv p1, iv p2, iv p3, iv p4, iv db, iv sl, iv spc, iv tc, iv pfx, iv kq, rv b17, rv b36, iv cc, iv ec, iv sv, iv (1 : Int32), iv tv, iv lcv, iv (1 : Int32)] [] _
                refine XS.iload X177.here hx rfl (hb hby at_520) rfl ?_
                refine XS.ifNo X177.here hx rfl (hb hby at_522) rfl ((if0 _ _).trans (feq (by decide : ¬ ((1 : Int32) = (0 : Int32)))).1) ?_
                refine XS.iload X177.here hx rfl (hb hby at_525) rfl ?_
                exact kk)
              obtain ⟨_, _, ⟨T241, L241, k241, n241⟩, -, X241, ⟨Lc241, hQ241, l241, y241, z241⟩, st241⟩ := Jvm.LawKit.callS X177 hx (y := (⟨"pithline/html/ScriptData", "openTagLength", "(I)I"⟩ : MethodName)) hown (mvT hZ (hw _ (List.mem_of_getElem? (i := 75) rfl))) (mvT hZ (hw _ (List.mem_of_getElem? (i := 76) rfl))) (mvT hZ (hw _ (List.mem_of_getElem? (i := 5) rfl))) (mvT hZ (hw _ (List.mem_of_getElem? (i := 77) rfl))) (by decide) (backOf (W := 0) (rm16 l Z a0 hw [] tv h175 n0 Z175 ) hZ (hw _ (List.mem_of_getElem? (i := 77) rfl)) (hw _ (List.mem_of_getElem? (i := 5) rfl)) (by decide) (by decide)) (g := (mkF m 527 #[iv p1, iv p2, iv p3, iv p4, iv db, iv sl, iv spc, iv tc, iv pfx, iv kq, rv b17, rv b36, iv cc, iv ec, iv sv, iv (1 : Int32), iv tv, iv lcv, iv (1 : Int32)] [(.int tv)])) rfl (by rw [hml]; rfl) (argsL := [(.int tv)]) (rest := []) (lenOf pd_7 rfl) rfl (by show 2 * 0 + _ ≤ _; exact Nat.le_of_eq rfl) (hb hby at_527) (fun _ _ => ⟨rfl, e177, (by decide : 16 + 0 ≤ _), (by decide : 226 + 0 ≤ _)⟩)
              dsimp only [Pt.U, Pt.locs, Pt.cells, Pt.slots] at X241 l241 y241 z241 st241 hQ241
              subst l241 y241 z241
              obtain ⟨rfl, N241q, e241⟩ := hQ241
              have N241 := Fr.app N177 N241q
              have pre242 : ∀ t, SS p e below m T241 540 #[iv p1, iv p2, iv p3, iv p4, iv db, iv sl, iv spc, iv tc, iv pfx, iv kq, rv b17, rv b36, iv cc, iv ec, iv sv, iv (1 : Int32), iv tv, iv lcv, iv (1 : Int32)] [(.int (1 : Int32))] t → B t := fun t kk => pre240 t (by
                refine st241 _ ?_
                refine XS.iload X241.here hx rfl (hb hby at_530) rfl ?_
                refine XS.icmpNo X241.here hx rfl (hb hby at_532) rfl (teq (by rw [g_tv]; exact (own_final db sl kq cc lcv sv _ hdb hsl hkq hlc hsv0 rfl).trans (by unfold own_E own_R1 own_R2 own_R3; rw [if_pos hc173, if_neg hc179, if_pos hc186, if_neg hc188, if_neg hc222, if_pos hc239]))).2 ?_
                refine XS.iconst X241.here hx rfl (hb hby at_535) ?_
                show SS p e below m T241 536 #[iv p1, iv p2, iv p3, iv p4, iv db, iv sl, iv spc, iv tc, iv pfx, iv kq, rv b17, rv b36, iv cc, iv ec, iv sv, iv (1 : Int32), iv tv, iv lcv, iv (1 : Int32)] [(.int (1 : Int32))] _
                refine XS.goto X241.here hx rfl (pc0 := 536) (pc' := 540) rfl (hb hby at_536) (by decide) (by decide) ?_
                exact kk)
              have CF := C175.trans (CHv.at X241 hZ hEL C175.1)
              obtain ⟨fs, hr, hrun, hended, hRW⟩ := X241.leaveW (s := s) hS175 (by first | exact hk175 | (rw [e241]; exact hk175)) (v := some (.int (1 : Int32))) (fun h => by rw [Bd.returns] at h; cases h)
              refine ⟨_, _, hB _ (pre242 _ ?_), hrun, hended, _, _, rfl, ?_, ?_, ⟨hRW.1, hRW.2.1, hRW.2.2.1, hRW.2.2.2.mono (by decide) (by decide)⟩⟩
              · exact retN X241 hx (t := .boolean) Bd.returns (by simp) (hb hby at_540) hr
              · exact ⟨rfl, N241⟩
              · rw [hh]; show CHr Z consts_1 s.vm h0 T241.vm T241.heap; rw [e241]; exact CF
            · have pre243 : ∀ t, SS p e below m T177 527 #[iv p1, iv p2, iv p3, iv p4, iv db, iv sl, iv spc, iv tc, iv pfx, iv kq, rv b17, rv b36, iv cc, iv ec, iv sv, iv (1 : Int32), iv tv, iv lcv, iv (0 : Int32)] [(.int tv)] t → B t := fun t kk => pre238 t (by
                refine XS.icmpYes X177.here hx rfl (pc0 := 508) (pc' := 517) rfl (hb hby at_508) rfl (feq hc239).2 (by decide) (by decide) ?_
                refine XS.iconst X177.here hx rfl (hb hby at_517) ?_
                refine XS.istore X177.here hx rfl (hb hby at_518) rfl (l' := #[iv p1, iv p2, iv p3, iv p4, iv db, iv sl, iv spc, iv tc, iv pfx, iv kq, rv b17, rv b36, iv cc, iv ec, iv sv, iv (1 : Int32), iv tv, iv lcv, iv (0 : Int32)]) rfl ?_
                refine XS.iload X177.here hx rfl (hb hby at_520) rfl ?_
                show SS p e below m T177 522 #[iv p1, iv p2, iv p3, iv p4, iv db, iv sl, iv spc, iv tc, iv pfx, iv kq, rv b17, rv b36, iv cc, iv ec, iv sv, iv (1 : Int32), iv tv, iv lcv, iv (0 : Int32)] [(.int (1 : Int32))] _
                refine XS.ifNo X177.here hx rfl (hb hby at_522) rfl ((if0 _ _).trans (feq (by decide : ¬ ((1 : Int32) = (0 : Int32)))).1) ?_
                refine XS.iload X177.here hx rfl (hb hby at_525) rfl ?_
                exact kk)
              obtain ⟨_, _, ⟨T244, L244, k244, n244⟩, -, X244, ⟨Lc244, hQ244, l244, y244, z244⟩, st244⟩ := Jvm.LawKit.callS X177 hx (y := (⟨"pithline/html/ScriptData", "openTagLength", "(I)I"⟩ : MethodName)) hown (mvT hZ (hw _ (List.mem_of_getElem? (i := 75) rfl))) (mvT hZ (hw _ (List.mem_of_getElem? (i := 76) rfl))) (mvT hZ (hw _ (List.mem_of_getElem? (i := 5) rfl))) (mvT hZ (hw _ (List.mem_of_getElem? (i := 77) rfl))) (by decide) (backOf (W := 0) (rm16 l Z a0 hw [] tv h175 n0 Z175 ) hZ (hw _ (List.mem_of_getElem? (i := 77) rfl)) (hw _ (List.mem_of_getElem? (i := 5) rfl)) (by decide) (by decide)) (g := (mkF m 527 #[iv p1, iv p2, iv p3, iv p4, iv db, iv sl, iv spc, iv tc, iv pfx, iv kq, rv b17, rv b36, iv cc, iv ec, iv sv, iv (1 : Int32), iv tv, iv lcv, iv (0 : Int32)] [(.int tv)])) rfl (by rw [hml]; rfl) (argsL := [(.int tv)]) (rest := []) (lenOf pd_7 rfl) rfl (by show 2 * 0 + _ ≤ _; exact Nat.le_of_eq rfl) (hb hby at_527) (fun _ _ => ⟨rfl, e177, (by decide : 16 + 0 ≤ _), (by decide : 226 + 0 ≤ _)⟩)
              dsimp only [Pt.U, Pt.locs, Pt.cells, Pt.slots] at X244 l244 y244 z244 st244 hQ244
              subst l244 y244 z244
              obtain ⟨rfl, N244q, e244⟩ := hQ244
              have N244 := Fr.app N177 N244q
              have pre245 : ∀ t, SS p e below m T244 540 #[iv p1, iv p2, iv p3, iv p4, iv db, iv sl, iv spc, iv tc, iv pfx, iv kq, rv b17, rv b36, iv cc, iv ec, iv sv, iv (1 : Int32), iv tv, iv lcv, iv (0 : Int32)] [(.int (1 : Int32))] t → B t := fun t kk => pre243 t (by
                refine st244 _ ?_
                refine XS.iload X244.here hx rfl (hb hby at_530) rfl ?_
                refine XS.icmpNo X244.here hx rfl (hb hby at_532) rfl (teq (by rw [g_tv]; exact (own_final db sl kq cc lcv sv _ hdb hsl hkq hlc hsv0 rfl).trans (by unfold own_E own_R1 own_R2 own_R3; rw [if_pos hc173, if_neg hc179, if_pos hc186, if_neg hc188, if_neg hc222, if_neg hc239]))).2 ?_
                refine XS.iconst X244.here hx rfl (hb hby at_535) ?_
                show SS p e below m T244 536 #[iv p1, iv p2, iv p3, iv p4, iv db, iv sl, iv spc, iv tc, iv pfx, iv kq, rv b17, rv b36, iv cc, iv ec, iv sv, iv (1 : Int32), iv tv, iv lcv, iv (0 : Int32)] [(.int (1 : Int32))] _
                refine XS.goto X244.here hx rfl (pc0 := 536) (pc' := 540) rfl (hb hby at_536) (by decide) (by decide) ?_
                exact kk)
              have CF := C175.trans (CHv.at X244 hZ hEL C175.1)
              obtain ⟨fs, hr, hrun, hended, hRW⟩ := X244.leaveW (s := s) hS175 (by first | exact hk175 | (rw [e244]; exact hk175)) (v := some (.int (1 : Int32))) (fun h => by rw [Bd.returns] at h; cases h)
              refine ⟨_, _, hB _ (pre245 _ ?_), hrun, hended, _, _, rfl, ?_, ?_, ⟨hRW.1, hRW.2.1, hRW.2.2.1, hRW.2.2.2.mono (by decide) (by decide)⟩⟩
              · exact retN X244 hx (t := .boolean) Bd.returns (by simp) (hb hby at_540) hr
              · exact ⟨rfl, N244⟩
              · rw [hh]; show CHr Z consts_1 s.vm h0 T244.vm T244.heap; rw [e244]; exact CF
      · have pre246 : ∀ t, SS p e below m T177 487 #[iv p1, iv p2, iv p3, iv p4, iv db, iv sl, iv spc, iv tc, iv pfx, iv kq, rv b17, rv b36, iv cc, iv ec, iv sv, iv (1 : Int32), iv tv, iv lcv, .unset] [(.int (6 : Int32)), (.int kq)] t → B t := fun t kk => pre185 t (by
          refine XS.ifYes X177.here hx rfl (pc0 := 456) (pc' := 483) rfl (hb hby at_456) rfl ((if0 _ _).trans (feq hc186).2) (by decide) (by decide) ?_
          refine XS.iload X177.here hx rfl (hb hby at_483) rfl ?_
          refine XS.bipush X177.here hx rfl (hb hby at_485) ?_
          exact kk)
        by_cases hc247 : kq = (6 : Int32)
        · have pre248 : ∀ t, SS p e below m T177 492 #[iv p1, iv p2, iv p3, iv p4, iv db, iv sl, iv spc, iv tc, iv pfx, iv kq, rv b17, rv b36, iv cc, iv ec, iv sv, iv (1 : Int32), iv tv, iv lcv, .unset] [(.int cc)] t → B t := fun t kk => pre246 t (by
            refine XS.icmpNo X177.here hx rfl (hb hby at_487) rfl (teq hc247).2 ?_
            refine XS.iload X177.here hx rfl (hb hby at_490) rfl ?_
            exact kk)
          obtain ⟨_, _, ⟨T249, L249, k249, n249⟩, -, X249, ⟨Lc249, hQ249, l249, y249, z249⟩, st249⟩ := Jvm.LawKit.callS X177 hx (y := (⟨"pithline/html/ScriptDataOpenTagLengthPinLaw", "isNameEnd", "(I)Z"⟩ : MethodName)) hown (mvT hZ (hw _ (List.mem_of_getElem? (i := 94) rfl))) (mvT hZ (hw _ (List.mem_of_getElem? (i := 95) rfl))) (mvT hZ (hw _ (List.mem_of_getElem? (i := 12) rfl))) (mvT hZ (hw _ (List.mem_of_getElem? (i := 96) rfl))) (by decide) (backOf (W := 0) (rm22 l Z a0 hw [] cc h175 n0 Z175 ) hZ (hw _ (List.mem_of_getElem? (i := 96) rfl)) (hw _ (List.mem_of_getElem? (i := 12) rfl)) (by decide) (by decide)) (g := (mkF m 492 #[iv p1, iv p2, iv p3, iv p4, iv db, iv sl, iv spc, iv tc, iv pfx, iv kq, rv b17, rv b36, iv cc, iv ec, iv sv, iv (1 : Int32), iv tv, iv lcv, .unset] [(.int cc)])) rfl (by rw [hml]; rfl) (argsL := [(.int cc)]) (rest := []) (lenOf pd_5 rfl) rfl (by show 2 * 0 + _ ≤ _; exact Nat.le_of_eq rfl) (hb hby at_492) (fun _ _ => ⟨rfl, e177, (by decide : 16 + 0 ≤ _), (by decide : 226 + 0 ≤ _)⟩)
          dsimp only [Pt.U, Pt.locs, Pt.cells, Pt.slots] at X249 l249 y249 z249 st249 hQ249
          subst l249 y249 z249
          obtain ⟨rfl, N249q, e249⟩ := hQ249
          have N249 := Fr.app N177 N249q
          have pre250 : ∀ t, SS p e below m T249 495 #[iv p1, iv p2, iv p3, iv p4, iv db, iv sl, iv spc, iv tc, iv pfx, iv kq, rv b17, rv b36, iv cc, iv ec, iv sv, iv (1 : Int32), iv tv, iv lcv, .unset] [(.int (f22 cc))] t → B t := fun t kk => pre248 t (by
            refine st249 _ ?_
            exact kk)
          by_cases hc251 : (f22 cc) = (0 : Int32)
          · have pre252 : ∀ t, SS p e below m T249 508 #[iv p1, iv p2, iv p3, iv p4, iv db, iv sl, iv spc, iv tc, iv pfx, iv kq, rv b17, rv b36, iv cc, iv ec, iv sv, iv (1 : Int32), iv tv, iv lcv, .unset] [(.int (60 : Int32)), (.int cc)] t → B t := fun t kk => pre250 t (by
              refine XS.ifYes X249.here hx rfl (pc0 := 495) (pc' := 504) rfl (hb hby at_495) rfl ((if0 _ _).trans (teq hc251).1) (by decide) (by decide) ?_
              refine XS.iload X249.here hx rfl (hb hby at_504) rfl ?_
              refine XS.bipush X249.here hx rfl (hb hby at_506) ?_
              exact kk)
            by_cases hc253 : cc = (60 : Int32)
            · have pre254 : ∀ t, SS p e below m T249 527 #[iv p1, iv p2, iv p3, iv p4, iv db, iv sl, iv spc, iv tc, iv pfx, iv kq, rv b17, rv b36, iv cc, iv ec, iv sv, iv (1 : Int32), iv tv, iv lcv, iv (1 : Int32)] [(.int tv)] t → B t := fun t kk => pre252 t (by
                refine XS.icmpNo X249.here hx rfl (hb hby at_508) rfl (teq hc253).2 ?_
                refine XS.iconst X249.here hx rfl (hb hby at_511) ?_
                refine XS.istore X249.here hx rfl (hb hby at_512) rfl (l' := #[iv p1, iv p2, iv p3, iv p4, iv db, iv sl, iv spc, iv tc, iv pfx, iv kq, rv b17, rv b36, iv cc, iv ec, iv sv, iv (1 : Int32), iv tv, iv lcv, iv (1 : Int32)]) rfl ?_
                refine XS.goto X249.here hx rfl (pc0 := 514) (pc' := 520) rfl (hb hby at_514) (by decide) (by decide) ?_
                show SS p e below m T249 520 #[iv p1, iv p2, iv p3, iv p4, iv db, iv sl, iv spc, iv tc, iv pfx, iv kq, rv b17, rv b36, iv cc, iv ec, iv sv, iv (1 : Int32), iv tv, iv lcv, iv (1 : Int32)] [] _
                refine XS.iload X249.here hx rfl (hb hby at_520) rfl ?_
                refine XS.ifNo X249.here hx rfl (hb hby at_522) rfl ((if0 _ _).trans (feq (by decide : ¬ ((1 : Int32) = (0 : Int32)))).1) ?_
                refine XS.iload X249.here hx rfl (hb hby at_525) rfl ?_
                exact kk)
              obtain ⟨_, _, ⟨T255, L255, k255, n255⟩, -, X255, ⟨Lc255, hQ255, l255, y255, z255⟩, st255⟩ := Jvm.LawKit.callS X249 hx (y := (⟨"pithline/html/ScriptData", "openTagLength", "(I)I"⟩ : MethodName)) hown (mvT hZ (hw _ (List.mem_of_getElem? (i := 75) rfl))) (mvT hZ (hw _ (List.mem_of_getElem? (i := 76) rfl))) (mvT hZ (hw _ (List.mem_of_getElem? (i := 5) rfl))) (mvT hZ (hw _ (List.mem_of_getElem? (i := 77) rfl))) (by decide) (backOf (W := 0) (rm16 l Z a0 hw [] tv h175 n0 Z175 ) hZ (hw _ (List.mem_of_getElem? (i := 77) rfl)) (hw _ (List.mem_of_getElem? (i := 5) rfl)) (by decide) (by decide)) (g := (mkF m 527 #[iv p1, iv p2, iv p3, iv p4, iv db, iv sl, iv spc, iv tc, iv pfx, iv kq, rv b17, rv b36, iv cc, iv ec, iv sv, iv (1 : Int32), iv tv, iv lcv, iv (1 : Int32)] [(.int tv)])) rfl (by rw [hml]; rfl) (argsL := [(.int tv)]) (rest := []) (lenOf pd_7 rfl) rfl (by show 2 * 0 + _ ≤ _; exact Nat.le_of_eq rfl) (hb hby at_527) (fun _ _ => ⟨rfl, e249, (by decide : 16 + 0 ≤ _), (by decide : 226 + 0 ≤ _)⟩)
              dsimp only [Pt.U, Pt.locs, Pt.cells, Pt.slots] at X255 l255 y255 z255 st255 hQ255
              subst l255 y255 z255
              obtain ⟨rfl, N255q, e255⟩ := hQ255
              have N255 := Fr.app N249 N255q
              have pre256 : ∀ t, SS p e below m T255 540 #[iv p1, iv p2, iv p3, iv p4, iv db, iv sl, iv spc, iv tc, iv pfx, iv kq, rv b17, rv b36, iv cc, iv ec, iv sv, iv (1 : Int32), iv tv, iv lcv, iv (1 : Int32)] [(.int (1 : Int32))] t → B t := fun t kk => pre254 t (by
                refine st255 _ ?_
                refine XS.iload X255.here hx rfl (hb hby at_530) rfl ?_
                refine XS.icmpNo X255.here hx rfl (hb hby at_532) rfl (teq (by rw [g_tv]; exact (own_final db sl kq cc lcv sv _ hdb hsl hkq hlc hsv0 rfl).trans (by unfold own_E own_R1 own_R2 own_R3; rw [if_pos hc173, if_neg hc179, if_neg hc186, if_pos hc247, if_pos hc251, if_pos hc253]))).2 ?_
                refine XS.iconst X255.here hx rfl (hb hby at_535) ?_
                show SS p e below m T255 536 #[iv p1, iv p2, iv p3, iv p4, iv db, iv sl, iv spc, iv tc, iv pfx, iv kq, rv b17, rv b36, iv cc, iv ec, iv sv, iv (1 : Int32), iv tv, iv lcv, iv (1 : Int32)] [(.int (1 : Int32))] _
                refine XS.goto X255.here hx rfl (pc0 := 536) (pc' := 540) rfl (hb hby at_536) (by decide) (by decide) ?_
                exact kk)
              have CF := C175.trans (CHv.at X255 hZ hEL C175.1)
              obtain ⟨fs, hr, hrun, hended, hRW⟩ := X255.leaveW (s := s) hS175 (by first | exact hk175 | (rw [e255]; exact hk175)) (v := some (.int (1 : Int32))) (fun h => by rw [Bd.returns] at h; cases h)
              refine ⟨_, _, hB _ (pre256 _ ?_), hrun, hended, _, _, rfl, ?_, ?_, ⟨hRW.1, hRW.2.1, hRW.2.2.1, hRW.2.2.2.mono (by decide) (by decide)⟩⟩
              · exact retN X255 hx (t := .boolean) Bd.returns (by simp) (hb hby at_540) hr
              · exact ⟨rfl, N255⟩
              · rw [hh]; show CHr Z consts_1 s.vm h0 T255.vm T255.heap; rw [e255]; exact CF
            · have pre257 : ∀ t, SS p e below m T249 527 #[iv p1, iv p2, iv p3, iv p4, iv db, iv sl, iv spc, iv tc, iv pfx, iv kq, rv b17, rv b36, iv cc, iv ec, iv sv, iv (1 : Int32), iv tv, iv lcv, iv (0 : Int32)] [(.int tv)] t → B t := fun t kk => pre252 t (by
                refine XS.icmpYes X249.here hx rfl (pc0 := 508) (pc' := 517) rfl (hb hby at_508) rfl (feq hc253).2 (by decide) (by decide) ?_
                refine XS.iconst X249.here hx rfl (hb hby at_517) ?_
                refine XS.istore X249.here hx rfl (hb hby at_518) rfl (l' := #[iv p1, iv p2, iv p3, iv p4, iv db, iv sl, iv spc, iv tc, iv pfx, iv kq, rv b17, rv b36, iv cc, iv ec, iv sv, iv (1 : Int32), iv tv, iv lcv, iv (0 : Int32)]) rfl ?_
                refine XS.iload X249.here hx rfl (hb hby at_520) rfl ?_
                show SS p e below m T249 522 #[iv p1, iv p2, iv p3, iv p4, iv db, iv sl, iv spc, iv tc, iv pfx, iv kq, rv b17, rv b36, iv cc, iv ec, iv sv, iv (1 : Int32), iv tv, iv lcv, iv (0 : Int32)] [(.int (1 : Int32))] _
                refine XS.ifNo X249.here hx rfl (hb hby at_522) rfl ((if0 _ _).trans (feq (by decide : ¬ ((1 : Int32) = (0 : Int32)))).1) ?_
                refine XS.iload X249.here hx rfl (hb hby at_525) rfl ?_
                exact kk)
              obtain ⟨_, _, ⟨T258, L258, k258, n258⟩, -, X258, ⟨Lc258, hQ258, l258, y258, z258⟩, st258⟩ := Jvm.LawKit.callS X249 hx (y := (⟨"pithline/html/ScriptData", "openTagLength", "(I)I"⟩ : MethodName)) hown (mvT hZ (hw _ (List.mem_of_getElem? (i := 75) rfl))) (mvT hZ (hw _ (List.mem_of_getElem? (i := 76) rfl))) (mvT hZ (hw _ (List.mem_of_getElem? (i := 5) rfl))) (mvT hZ (hw _ (List.mem_of_getElem? (i := 77) rfl))) (by decide) (backOf (W := 0) (rm16 l Z a0 hw [] tv h175 n0 Z175 ) hZ (hw _ (List.mem_of_getElem? (i := 77) rfl)) (hw _ (List.mem_of_getElem? (i := 5) rfl)) (by decide) (by decide)) (g := (mkF m 527 #[iv p1, iv p2, iv p3, iv p4, iv db, iv sl, iv spc, iv tc, iv pfx, iv kq, rv b17, rv b36, iv cc, iv ec, iv sv, iv (1 : Int32), iv tv, iv lcv, iv (0 : Int32)] [(.int tv)])) rfl (by rw [hml]; rfl) (argsL := [(.int tv)]) (rest := []) (lenOf pd_7 rfl) rfl (by show 2 * 0 + _ ≤ _; exact Nat.le_of_eq rfl) (hb hby at_527) (fun _ _ => ⟨rfl, e249, (by decide : 16 + 0 ≤ _), (by decide : 226 + 0 ≤ _)⟩)
              dsimp only [Pt.U, Pt.locs, Pt.cells, Pt.slots] at X258 l258 y258 z258 st258 hQ258
              subst l258 y258 z258
              obtain ⟨rfl, N258q, e258⟩ := hQ258
              have N258 := Fr.app N249 N258q
              have pre259 : ∀ t, SS p e below m T258 540 #[iv p1, iv p2, iv p3, iv p4, iv db, iv sl, iv spc, iv tc, iv pfx, iv kq, rv b17, rv b36, iv cc, iv ec, iv sv, iv (1 : Int32), iv tv, iv lcv, iv (0 : Int32)] [(.int (1 : Int32))] t → B t := fun t kk => pre257 t (by
                refine st258 _ ?_
                refine XS.iload X258.here hx rfl (hb hby at_530) rfl ?_
                refine XS.icmpNo X258.here hx rfl (hb hby at_532) rfl (teq (by rw [g_tv]; exact (own_final db sl kq cc lcv sv _ hdb hsl hkq hlc hsv0 rfl).trans (by unfold own_E own_R1 own_R2 own_R3; rw [if_pos hc173, if_neg hc179, if_neg hc186, if_pos hc247, if_pos hc251, if_neg hc253]))).2 ?_
                refine XS.iconst X258.here hx rfl (hb hby at_535) ?_
                show SS p e below m T258 536 #[iv p1, iv p2, iv p3, iv p4, iv db, iv sl, iv spc, iv tc, iv pfx, iv kq, rv b17, rv b36, iv cc, iv ec, iv sv, iv (1 : Int32), iv tv, iv lcv, iv (0 : Int32)] [(.int (1 : Int32))] _
                refine XS.goto X258.here hx rfl (pc0 := 536) (pc' := 540) rfl (hb hby at_536) (by decide) (by decide) ?_
                exact kk)
              have CF := C175.trans (CHv.at X258 hZ hEL C175.1)
              obtain ⟨fs, hr, hrun, hended, hRW⟩ := X258.leaveW (s := s) hS175 (by first | exact hk175 | (rw [e258]; exact hk175)) (v := some (.int (1 : Int32))) (fun h => by rw [Bd.returns] at h; cases h)
              refine ⟨_, _, hB _ (pre259 _ ?_), hrun, hended, _, _, rfl, ?_, ?_, ⟨hRW.1, hRW.2.1, hRW.2.2.1, hRW.2.2.2.mono (by decide) (by decide)⟩⟩
              · exact retN X258 hx (t := .boolean) Bd.returns (by simp) (hb hby at_540) hr
              · exact ⟨rfl, N258⟩
              · rw [hh]; show CHr Z consts_1 s.vm h0 T258.vm T258.heap; rw [e258]; exact CF
          · have pre260 : ∀ t, SS p e below m T249 527 #[iv p1, iv p2, iv p3, iv p4, iv db, iv sl, iv spc, iv tc, iv pfx, iv kq, rv b17, rv b36, iv cc, iv ec, iv sv, iv (1 : Int32), iv tv, iv lcv, iv (0 : Int32)] [(.int tv)] t → B t := fun t kk => pre250 t (by
              refine XS.ifNo X249.here hx rfl (hb hby at_495) rfl ((if0 _ _).trans (feq hc251).1) ?_
              refine XS.iconst X249.here hx rfl (hb hby at_498) ?_
              refine XS.istore X249.here hx rfl (hb hby at_499) rfl (l' := #[iv p1, iv p2, iv p3, iv p4, iv db, iv sl, iv spc, iv tc, iv pfx, iv kq, rv b17, rv b36, iv cc, iv ec, iv sv, iv (1 : Int32), iv tv, iv lcv, iv (0 : Int32)]) rfl ?_
              refine XS.goto X249.here hx rfl (pc0 := 501) (pc' := 520) rfl (hb hby at_501) (by decide) (by decide) ?_
              show SS p e below m T249 520 #[iv p1, iv p2, iv p3, iv p4, iv db, iv sl, iv spc, iv tc, iv pfx, iv kq, rv b17, rv b36, iv cc, iv ec, iv sv, iv (1 : Int32), iv tv, iv lcv, iv (0 : Int32)] [] _
              refine XS.iload X249.here hx rfl (hb hby at_520) rfl ?_
              refine XS.ifNo X249.here hx rfl (hb hby at_522) rfl ((if0 _ _).trans (feq (by decide : ¬ ((1 : Int32) = (0 : Int32)))).1) ?_
              refine XS.iload X249.here hx rfl (hb hby at_525) rfl ?_
              exact kk)
            obtain ⟨_, _, ⟨T261, L261, k261, n261⟩, -, X261, ⟨Lc261, hQ261, l261, y261, z261⟩, st261⟩ := Jvm.LawKit.callS X249 hx (y := (⟨"pithline/html/ScriptData", "openTagLength", "(I)I"⟩ : MethodName)) hown (mvT hZ (hw _ (List.mem_of_getElem? (i := 75) rfl))) (mvT hZ (hw _ (List.mem_of_getElem? (i := 76) rfl))) (mvT hZ (hw _ (List.mem_of_getElem? (i := 5) rfl))) (mvT hZ (hw _ (List.mem_of_getElem? (i := 77) rfl))) (by decide) (backOf (W := 0) (rm16 l Z a0 hw [] tv h175 n0 Z175 ) hZ (hw _ (List.mem_of_getElem? (i := 77) rfl)) (hw _ (List.mem_of_getElem? (i := 5) rfl)) (by decide) (by decide)) (g := (mkF m 527 #[iv p1, iv p2, iv p3, iv p4, iv db, iv sl, iv spc, iv tc, iv pfx, iv kq, rv b17, rv b36, iv cc, iv ec, iv sv, iv (1 : Int32), iv tv, iv lcv, iv (0 : Int32)] [(.int tv)])) rfl (by rw [hml]; rfl) (argsL := [(.int tv)]) (rest := []) (lenOf pd_7 rfl) rfl (by show 2 * 0 + _ ≤ _; exact Nat.le_of_eq rfl) (hb hby at_527) (fun _ _ => ⟨rfl, e249, (by decide : 16 + 0 ≤ _), (by decide : 226 + 0 ≤ _)⟩)
            dsimp only [Pt.U, Pt.locs, Pt.cells, Pt.slots] at X261 l261 y261 z261 st261 hQ261
            subst l261 y261 z261
            obtain ⟨rfl, N261q, e261⟩ := hQ261
            have N261 := Fr.app N249 N261q
            have pre262 : ∀ t, SS p e below m T261 540 #[iv p1, iv p2, iv p3, iv p4, iv db, iv sl, iv spc, iv tc, iv pfx, iv kq, rv b17, rv b36, iv cc, iv ec, iv sv, iv (1 : Int32), iv tv, iv lcv, iv (0 : Int32)] [(.int (1 : Int32))] t → B t := fun t kk => pre260 t (by
              refine st261 _ ?_
              refine XS.iload X261.here hx rfl (hb hby at_530) rfl ?_
              refine XS.icmpNo X261.here hx rfl (hb hby at_532) rfl (teq (by rw [g_tv]; exact (own_final db sl kq cc lcv sv _ hdb hsl hkq hlc hsv0 rfl).trans (by unfold own_E own_R1 own_R2 own_R3; rw [if_pos hc173, if_neg hc179, if_neg hc186, if_pos hc247, if_neg hc251]))).2 ?_
              refine XS.iconst X261.here hx rfl (hb hby at_535) ?_
              show SS p e below m T261 536 #[iv p1, iv p2, iv p3, iv p4, iv db, iv sl, iv spc, iv tc, iv pfx, iv kq, rv b17, rv b36, iv cc, iv ec, iv sv, iv (1 : Int32), iv tv, iv lcv, iv (0 : Int32)] [(.int (1 : Int32))] _
              refine XS.goto X261.here hx rfl (pc0 := 536) (pc' := 540) rfl (hb hby at_536) (by decide) (by decide) ?_
              exact kk)
            have CF := C175.trans (CHv.at X261 hZ hEL C175.1)
            obtain ⟨fs, hr, hrun, hended, hRW⟩ := X261.leaveW (s := s) hS175 (by first | exact hk175 | (rw [e261]; exact hk175)) (v := some (.int (1 : Int32))) (fun h => by rw [Bd.returns] at h; cases h)
            refine ⟨_, _, hB _ (pre262 _ ?_), hrun, hended, _, _, rfl, ?_, ?_, ⟨hRW.1, hRW.2.1, hRW.2.2.1, hRW.2.2.2.mono (by decide) (by decide)⟩⟩
            · exact retN X261 hx (t := .boolean) Bd.returns (by simp) (hb hby at_540) hr
            · exact ⟨rfl, N261⟩
            · rw [hh]; show CHr Z consts_1 s.vm h0 T261.vm T261.heap; rw [e261]; exact CF
        · have pre263 : ∀ t, SS p e below m T177 508 #[iv p1, iv p2, iv p3, iv p4, iv db, iv sl, iv spc, iv tc, iv pfx, iv kq, rv b17, rv b36, iv cc, iv ec, iv sv, iv (1 : Int32), iv tv, iv lcv, .unset] [(.int (60 : Int32)), (.int cc)] t → B t := fun t kk => pre246 t (by
            refine XS.icmpYes X177.here hx rfl (pc0 := 487) (pc' := 504) rfl (hb hby at_487) rfl (feq hc247).2 (by decide) (by decide) ?_
            refine XS.iload X177.here hx rfl (hb hby at_504) rfl ?_
            refine XS.bipush X177.here hx rfl (hb hby at_506) ?_
            exact kk)
          by_cases hc264 : cc = (60 : Int32)
          · have pre265 : ∀ t, SS p e below m T177 527 #[iv p1, iv p2, iv p3, iv p4, iv db, iv sl, iv spc, iv tc, iv pfx, iv kq, rv b17, rv b36, iv cc, iv ec, iv sv, iv (1 : Int32), iv tv, iv lcv, iv (1 : Int32)] [(.int tv)] t → B t := fun t kk => pre263 t (by
              refine XS.icmpNo X177.here hx rfl (hb hby at_508) rfl (teq hc264).2 ?_
              refine XS.iconst X177.here hx rfl (hb hby at_511) ?_
              refine XS.istore X177.here hx rfl (hb hby at_512) rfl (l' := #[iv p1, iv p2, iv p3, iv p4, iv db, iv sl, iv spc, iv tc, iv pfx, iv kq, rv b17, rv b36, iv cc, iv ec, iv sv, iv (1 : Int32), iv tv, iv lcv, iv (1 : Int32)]) rfl ?_
              refine XS.goto X177.here hx rfl (pc0 := 514) (pc' := 520) rfl (hb hby at_514) (by decide) (by decide) ?_
              show SS p e below m T177 520 #[iv p1, iv p2, iv p3, iv p4, iv db, iv sl, iv spc, iv tc, iv pfx, iv kq, rv b17, rv b36, iv cc, iv ec, iv sv, iv (1 : Int32), iv tv, iv lcv, iv (1 : Int32)] [] _
              refine XS.iload X177.here hx rfl (hb hby at_520) rfl ?_
              refine XS.ifNo X177.here hx rfl (hb hby at_522) rfl ((if0 _ _).trans (feq (by decide : ¬ ((1 : Int32) = (0 : Int32)))).1) ?_
              refine XS.iload X177.here hx rfl (hb hby at_525) rfl ?_
              exact kk)
            obtain ⟨_, _, ⟨T266, L266, k266, n266⟩, -, X266, ⟨Lc266, hQ266, l266, y266, z266⟩, st266⟩ := Jvm.LawKit.callS X177 hx (y := (⟨"pithline/html/ScriptData", "openTagLength", "(I)I"⟩ : MethodName)) hown (mvT hZ (hw _ (List.mem_of_getElem? (i := 75) rfl))) (mvT hZ (hw _ (List.mem_of_getElem? (i := 76) rfl))) (mvT hZ (hw _ (List.mem_of_getElem? (i := 5) rfl))) (mvT hZ (hw _ (List.mem_of_getElem? (i := 77) rfl))) (by decide) (backOf (W := 0) (rm16 l Z a0 hw [] tv h175 n0 Z175 ) hZ (hw _ (List.mem_of_getElem? (i := 77) rfl)) (hw _ (List.mem_of_getElem? (i := 5) rfl)) (by decide) (by decide)) (g := (mkF m 527 #[iv p1, iv p2, iv p3, iv p4, iv db, iv sl, iv spc, iv tc, iv pfx, iv kq, rv b17, rv b36, iv cc, iv ec, iv sv, iv (1 : Int32), iv tv, iv lcv, iv (1 : Int32)] [(.int tv)])) rfl (by rw [hml]; rfl) (argsL := [(.int tv)]) (rest := []) (lenOf pd_7 rfl) rfl (by show 2 * 0 + _ ≤ _; exact Nat.le_of_eq rfl) (hb hby at_527) (fun _ _ => ⟨rfl, e177, (by decide : 16 + 0 ≤ _), (by decide : 226 + 0 ≤ _)⟩)
            dsimp only [Pt.U, Pt.locs, Pt.cells, Pt.slots] at X266 l266 y266 z266 st266 hQ266
            subst l266 y266 z266
            obtain ⟨rfl, N266q, e266⟩ := hQ266
            have N266 := Fr.app N177 N266q
            have pre267 : ∀ t, SS p e below m T266 540 #[iv p1, iv p2, iv p3, iv p4, iv db, iv sl, iv spc, iv tc, iv pfx, iv kq, rv b17, rv b36, iv cc, iv ec, iv sv, iv (1 : Int32), iv tv, iv lcv, iv (1 : Int32)] [(.int (1 : Int32))] t → B t := fun t kk => pre265 t (by
              refine st266 _ ?_
              refine XS.iload X266.here hx rfl (hb hby at_530) rfl ?_
              refine XS.icmpNo X266.here hx rfl (hb hby at_532) rfl (teq (by rw [g_tv]; exact (own_final db sl kq cc lcv sv _ hdb hsl hkq hlc hsv0 rfl).trans (by unfold own_E own_R1 own_R2 own_R3; rw [if_pos hc173, if_neg hc179, if_neg hc186, if_neg hc247, if_pos hc264]))).2 ?_
              refine XS.iconst X266.here hx rfl (hb hby at_535) ?_
              show SS p e below m T266 536 #[iv p1, iv p2, iv p3, iv p4, iv db, iv sl, iv spc, iv tc, iv pfx, iv kq, rv b17, rv b36, iv cc, iv ec, iv sv, iv (1 : Int32), iv tv, iv lcv, iv (1 : Int32)] [(.int (1 : Int32))] _
              refine XS.goto X266.here hx rfl (pc0 := 536) (pc' := 540) rfl (hb hby at_536) (by decide) (by decide) ?_
              exact kk)
            have CF := C175.trans (CHv.at X266 hZ hEL C175.1)
            obtain ⟨fs, hr, hrun, hended, hRW⟩ := X266.leaveW (s := s) hS175 (by first | exact hk175 | (rw [e266]; exact hk175)) (v := some (.int (1 : Int32))) (fun h => by rw [Bd.returns] at h; cases h)
            refine ⟨_, _, hB _ (pre267 _ ?_), hrun, hended, _, _, rfl, ?_, ?_, ⟨hRW.1, hRW.2.1, hRW.2.2.1, hRW.2.2.2.mono (by decide) (by decide)⟩⟩
            · exact retN X266 hx (t := .boolean) Bd.returns (by simp) (hb hby at_540) hr
            · exact ⟨rfl, N266⟩
            · rw [hh]; show CHr Z consts_1 s.vm h0 T266.vm T266.heap; rw [e266]; exact CF
          · have pre268 : ∀ t, SS p e below m T177 527 #[iv p1, iv p2, iv p3, iv p4, iv db, iv sl, iv spc, iv tc, iv pfx, iv kq, rv b17, rv b36, iv cc, iv ec, iv sv, iv (1 : Int32), iv tv, iv lcv, iv (0 : Int32)] [(.int tv)] t → B t := fun t kk => pre263 t (by
              refine XS.icmpYes X177.here hx rfl (pc0 := 508) (pc' := 517) rfl (hb hby at_508) rfl (feq hc264).2 (by decide) (by decide) ?_
              refine XS.iconst X177.here hx rfl (hb hby at_517) ?_
              refine XS.istore X177.here hx rfl (hb hby at_518) rfl (l' := #[iv p1, iv p2, iv p3, iv p4, iv db, iv sl, iv spc, iv tc, iv pfx, iv kq, rv b17, rv b36, iv cc, iv ec, iv sv, iv (1 : Int32), iv tv, iv lcv, iv (0 : Int32)]) rfl ?_
              refine XS.iload X177.here hx rfl (hb hby at_520) rfl ?_
              show SS p e below m T177 522 #[iv p1, iv p2, iv p3, iv p4, iv db, iv sl, iv spc, iv tc, iv pfx, iv kq, rv b17, rv b36, iv cc, iv ec, iv sv, iv (1 : Int32), iv tv, iv lcv, iv (0 : Int32)] [(.int (1 : Int32))] _
              refine XS.ifNo X177.here hx rfl (hb hby at_522) rfl ((if0 _ _).trans (feq (by decide : ¬ ((1 : Int32) = (0 : Int32)))).1) ?_
              refine XS.iload X177.here hx rfl (hb hby at_525) rfl ?_
              exact kk)
            obtain ⟨_, _, ⟨T269, L269, k269, n269⟩, -, X269, ⟨Lc269, hQ269, l269, y269, z269⟩, st269⟩ := Jvm.LawKit.callS X177 hx (y := (⟨"pithline/html/ScriptData", "openTagLength", "(I)I"⟩ : MethodName)) hown (mvT hZ (hw _ (List.mem_of_getElem? (i := 75) rfl))) (mvT hZ (hw _ (List.mem_of_getElem? (i := 76) rfl))) (mvT hZ (hw _ (List.mem_of_getElem? (i := 5) rfl))) (mvT hZ (hw _ (List.mem_of_getElem? (i := 77) rfl))) (by decide) (backOf (W := 0) (rm16 l Z a0 hw [] tv h175 n0 Z175 ) hZ (hw _ (List.mem_of_getElem? (i := 77) rfl)) (hw _ (List.mem_of_getElem? (i := 5) rfl)) (by decide) (by decide)) (g := (mkF m 527 #[iv p1, iv p2, iv p3, iv p4, iv db, iv sl, iv spc, iv tc, iv pfx, iv kq, rv b17, rv b36, iv cc, iv ec, iv sv, iv (1 : Int32), iv tv, iv lcv, iv (0 : Int32)] [(.int tv)])) rfl (by rw [hml]; rfl) (argsL := [(.int tv)]) (rest := []) (lenOf pd_7 rfl) rfl (by show 2 * 0 + _ ≤ _; exact Nat.le_of_eq rfl) (hb hby at_527) (fun _ _ => ⟨rfl, e177, (by decide : 16 + 0 ≤ _), (by decide : 226 + 0 ≤ _)⟩)
            dsimp only [Pt.U, Pt.locs, Pt.cells, Pt.slots] at X269 l269 y269 z269 st269 hQ269
            subst l269 y269 z269
            obtain ⟨rfl, N269q, e269⟩ := hQ269
            have N269 := Fr.app N177 N269q
            have pre270 : ∀ t, SS p e below m T269 540 #[iv p1, iv p2, iv p3, iv p4, iv db, iv sl, iv spc, iv tc, iv pfx, iv kq, rv b17, rv b36, iv cc, iv ec, iv sv, iv (1 : Int32), iv tv, iv lcv, iv (0 : Int32)] [(.int (1 : Int32))] t → B t := fun t kk => pre268 t (by
              refine st269 _ ?_
              refine XS.iload X269.here hx rfl (hb hby at_530) rfl ?_
              refine XS.icmpNo X269.here hx rfl (hb hby at_532) rfl (teq (by rw [g_tv]; exact (own_final db sl kq cc lcv sv _ hdb hsl hkq hlc hsv0 rfl).trans (by unfold own_E own_R1 own_R2 own_R3; rw [if_pos hc173, if_neg hc179, if_neg hc186, if_neg hc247, if_neg hc264]))).2 ?_
              refine XS.iconst X269.here hx rfl (hb hby at_535) ?_
              show SS p e below m T269 536 #[iv p1, iv p2, iv p3, iv p4, iv db, iv sl, iv spc, iv tc, iv pfx, iv kq, rv b17, rv b36, iv cc, iv ec, iv sv, iv (1 : Int32), iv tv, iv lcv, iv (0 : Int32)] [(.int (1 : Int32))] _
              refine XS.goto X269.here hx rfl (pc0 := 536) (pc' := 540) rfl (hb hby at_536) (by decide) (by decide) ?_
              exact kk)
            have CF := C175.trans (CHv.at X269 hZ hEL C175.1)
            obtain ⟨fs, hr, hrun, hended, hRW⟩ := X269.leaveW (s := s) hS175 (by first | exact hk175 | (rw [e269]; exact hk175)) (v := some (.int (1 : Int32))) (fun h => by rw [Bd.returns] at h; cases h)
            refine ⟨_, _, hB _ (pre270 _ ?_), hrun, hended, _, _, rfl, ?_, ?_, ⟨hRW.1, hRW.2.1, hRW.2.2.1, hRW.2.2.2.mono (by decide) (by decide)⟩⟩
            · exact retN X269 hx (t := .boolean) Bd.returns (by simp) (hb hby at_540) hr
            · exact ⟨rfl, N269⟩
            · rw [hh]; show CHr Z consts_1 s.vm h0 T269.vm T269.heap; rw [e269]; exact CF
  · have pre271 : ∀ t, SS p e below m T164 456 #[iv p1, iv p2, iv p3, iv p4, iv db, iv sl, iv spc, iv tc, iv pfx, iv kq, rv b17, rv b36, iv cc, iv ec, iv sv, iv (1 : Int32), iv tv, iv lcv, .unset] [(.int kq)] t → B t := fun t kk => pre172 t (by
      refine XS.icmpYes X164.here hx rfl (pc0 := 423) (pc' := 454) rfl (hb hby at_423) rfl (flt hc173).2.1 (by decide) (by decide) ?_
      refine XS.iload X164.here hx rfl (hb hby at_454) rfl ?_
      exact kk)
    by_cases hc272 : kq = (0 : Int32)
    · have pre273 : ∀ t, SS p e below m T164 461 #[iv p1, iv p2, iv p3, iv p4, iv db, iv sl, iv spc, iv tc, iv pfx, iv kq, rv b17, rv b36, iv cc, iv ec, iv sv, iv (1 : Int32), iv tv, iv lcv, .unset] [(.int sl)] t → B t := fun t kk => pre271 t (by
        refine XS.ifNo X164.here hx rfl (hb hby at_456) rfl ((if0 _ _).trans (teq hc272).2) ?_
        refine XS.iload X164.here hx rfl (hb hby at_459) rfl ?_
        exact kk)
      by_cases hc274 : sl = (0 : Int32)
      · have pre275 : ∀ t, SS p e below m T164 468 #[iv p1, iv p2, iv p3, iv p4, iv db, iv sl, iv spc, iv tc, iv pfx, iv kq, rv b17, rv b36, iv cc, iv ec, iv sv, iv (1 : Int32), iv tv, iv lcv, .unset] [(.int (47 : Int32)), (.int cc)] t → B t := fun t kk => pre273 t (by
          refine XS.ifNo X164.here hx rfl (hb hby at_461) rfl ((if0 _ _).trans (teq hc274).2) ?_
          refine XS.iload X164.here hx rfl (hb hby at_464) rfl ?_
          refine XS.bipush X164.here hx rfl (hb hby at_466) ?_
          exact kk)
        by_cases hc276 : cc = (47 : Int32)
        · have pre277 : ∀ t, SS p e below m T164 475 #[iv p1, iv p2, iv p3, iv p4, iv db, iv sl, iv spc, iv tc, iv pfx, iv kq, rv b17, rv b36, iv cc, iv ec, iv sv, iv (1 : Int32), iv tv, iv lcv, .unset] [(.int (0 : Int32)), (.int (1 : Int32)), (.int db)] t → B t := fun t kk => pre275 t (by
            refine XS.icmpNo X164.here hx rfl (hb hby at_468) rfl (teq hc276).2 ?_
            refine XS.iload X164.here hx rfl (hb hby at_471) rfl ?_
            refine XS.iconst X164.here hx rfl (hb hby at_473) ?_
            refine XS.iconst X164.here hx rfl (hb hby at_474) ?_
            show SS p e below m T164 475 #[iv p1, iv p2, iv p3, iv p4, iv db, iv sl, iv spc, iv tc, iv pfx, iv kq, rv b17, rv b36, iv cc, iv ec, iv sv, iv (1 : Int32), iv tv, iv lcv, .unset] [(.int (0 : Int32)), (.int (1 : Int32)), (.int db)] _
            exact kk)
          obtain ⟨_, _, ⟨T278, L278, k278, n278⟩, -, X278, ⟨Lc278, hQ278, l278, y278, z278⟩, st278⟩ := Jvm.LawKit.callS X164 hx (y := (⟨"pithline/html/ScriptDataOpenTagLengthPinLaw", "base", "(ZZI)I"⟩ : MethodName)) hown (mvT hZ (hw _ (List.mem_of_getElem? (i := 78) rfl))) (mvT hZ (hw _ (List.mem_of_getElem? (i := 79) rfl))) (mvT hZ (hw _ (List.mem_of_getElem? (i := 12) rfl))) (mvT hZ (hw _ (List.mem_of_getElem? (i := 80) rfl))) (by decide) (backOf (W := 0) (rm17 l Z a0 hw [] db (1 : Int32) (0 : Int32) T164.heap n0 Z164 ) hZ (hw _ (List.mem_of_getElem? (i := 80) rfl)) (hw _ (List.mem_of_getElem? (i := 12) rfl)) (by decide) (by decide)) (g := (mkF m 475 #[iv p1, iv p2, iv p3, iv p4, iv db, iv sl, iv spc, iv tc, iv pfx, iv kq, rv b17, rv b36, iv cc, iv ec, iv sv, iv (1 : Int32), iv tv, iv lcv, .unset] [(.int (0 : Int32)), (.int (1 : Int32)), (.int db)])) rfl (by rw [hml]; rfl) (argsL := [(.int db), (.int (1 : Int32)), (.int (0 : Int32))]) (rest := []) (lenOf pd_12 rfl) rfl (by show 2 * 0 + _ ≤ _; exact Nat.le_of_eq rfl) (hb hby at_475) (fun _ _ => ⟨rfl, rfl, (by decide : 14 + 0 ≤ _), (by decide : 198 + 0 ≤ _)⟩)
          dsimp only [Pt.U, Pt.locs, Pt.cells, Pt.slots] at X278 l278 y278 z278 st278 hQ278
          subst l278 y278 z278
          obtain ⟨rfl, N278q, e278⟩ := hQ278
          have N278 := Fr.app N164 N278q
          have pre279 : ∀ t, SS p e below m T278 527 #[iv p1, iv p2, iv p3, iv p4, iv db, iv sl, iv spc, iv tc, iv pfx, iv kq, rv b17, rv b36, iv cc, iv ec, iv sv, iv (1 : Int32), iv tv, iv lcv, iv (f17 db (1 : Int32) (0 : Int32))] [(.int tv)] t → B t := fun t kk => pre277 t (by
            refine st278 _ ?_
            refine XS.istore X278.here hx rfl (hb hby at_478) rfl (l' := #[iv p1, iv p2, iv p3, iv p4, iv db, iv sl, iv spc, iv tc, iv pfx, iv kq, rv b17, rv b36, iv cc, iv ec, iv sv, iv (1 : Int32), iv tv, iv lcv, iv (f17 db (1 : Int32) (0 : Int32))]) rfl ?_
            refine XS.goto X278.here hx rfl (pc0 := 480) (pc' := 520) rfl (hb hby at_480) (by decide) (by decide) ?_
            refine XS.iload X278.here hx rfl (hb hby at_520) rfl ?_
            show SS p e below m T278 522 #[iv p1, iv p2, iv p3, iv p4, iv db, iv sl, iv spc, iv tc, iv pfx, iv kq, rv b17, rv b36, iv cc, iv ec, iv sv, iv (1 : Int32), iv tv, iv lcv, iv (f17 db (1 : Int32) (0 : Int32))] [(.int (1 : Int32))] _
            refine XS.ifNo X278.here hx rfl (hb hby at_522) rfl ((if0 _ _).trans (feq (by decide : ¬ ((1 : Int32) = (0 : Int32)))).1) ?_
            refine XS.iload X278.here hx rfl (hb hby at_525) rfl ?_
            exact kk)
          obtain ⟨_, _, ⟨T280, L280, k280, n280⟩, -, X280, ⟨Lc280, hQ280, l280, y280, z280⟩, st280⟩ := Jvm.LawKit.callS X278 hx (y := (⟨"pithline/html/ScriptData", "openTagLength", "(I)I"⟩ : MethodName)) hown (mvT hZ (hw _ (List.mem_of_getElem? (i := 75) rfl))) (mvT hZ (hw _ (List.mem_of_getElem? (i := 76) rfl))) (mvT hZ (hw _ (List.mem_of_getElem? (i := 5) rfl))) (mvT hZ (hw _ (List.mem_of_getElem? (i := 77) rfl))) (by decide) (backOf (W := 0) (rm16 l Z a0 hw [] tv T164.heap n0 Z164 ) hZ (hw _ (List.mem_of_getElem? (i := 77) rfl)) (hw _ (List.mem_of_getElem? (i := 5) rfl)) (by decide) (by decide)) (g := (mkF m 527 #[iv p1, iv p2, iv p3, iv p4, iv db, iv sl, iv spc, iv tc, iv pfx, iv kq, rv b17, rv b36, iv cc, iv ec, iv sv, iv (1 : Int32), iv tv, iv lcv, iv (f17 db (1 : Int32) (0 : Int32))] [(.int tv)])) rfl (by rw [hml]; rfl) (argsL := [(.int tv)]) (rest := []) (lenOf pd_7 rfl) rfl (by show 2 * 0 + _ ≤ _; exact Nat.le_of_eq rfl) (hb hby at_527) (fun _ _ => ⟨rfl, e278, (by decide : 14 + 0 ≤ _), (by decide : 198 + 0 ≤ _)⟩)
          dsimp only [Pt.U, Pt.locs, Pt.cells, Pt.slots] at X280 l280 y280 z280 st280 hQ280
          subst l280 y280 z280
          obtain ⟨rfl, N280q, e280⟩ := hQ280
          have N280 := Fr.app N278 N280q
          have pre281 : ∀ t, SS p e below m T280 540 #[iv p1, iv p2, iv p3, iv p4, iv db, iv sl, iv spc, iv tc, iv pfx, iv kq, rv b17, rv b36, iv cc, iv ec, iv sv, iv (1 : Int32), iv tv, iv lcv, iv (f17 db (1 : Int32) (0 : Int32))] [(.int (1 : Int32))] t → B t := fun t kk => pre279 t (by
            refine st280 _ ?_
            refine XS.iload X280.here hx rfl (hb hby at_530) rfl ?_
            refine XS.icmpNo X280.here hx rfl (hb hby at_532) rfl (teq (by rw [g_tv]; exact (own_final db sl kq cc lcv sv _ hdb hsl hkq hlc hsv0 rfl).trans (by unfold own_E own_R1 own_R2 own_R3; rw [if_neg hc173, if_pos hc272, if_pos hc274, if_pos hc276]))).2 ?_
            refine XS.iconst X280.here hx rfl (hb hby at_535) ?_
            show SS p e below m T280 536 #[iv p1, iv p2, iv p3, iv p4, iv db, iv sl, iv spc, iv tc, iv pfx, iv kq, rv b17, rv b36, iv cc, iv ec, iv sv, iv (1 : Int32), iv tv, iv lcv, iv (f17 db (1 : Int32) (0 : Int32))] [(.int (1 : Int32))] _
            refine XS.goto X280.here hx rfl (pc0 := 536) (pc' := 540) rfl (hb hby at_536) (by decide) (by decide) ?_
            exact kk)
          have CF := C164.trans (CHv.at X280 hZ hEL C164.1)
          obtain ⟨fs, hr, hrun, hended, hRW⟩ := X280.leaveW (s := s) hs164 (by first | exact hk164 | (rw [e280]; exact hk164)) (v := some (.int (1 : Int32))) (fun h => by rw [Bd.returns] at h; cases h)
          refine ⟨_, _, hB _ (pre281 _ ?_), hrun, hended, _, _, rfl, ?_, ?_, ⟨hRW.1, hRW.2.1, hRW.2.2.1, hRW.2.2.2.mono (by decide) (by decide)⟩⟩
          · exact retN X280 hx (t := .boolean) Bd.returns (by simp) (hb hby at_540) hr
          · exact ⟨rfl, N280⟩
          · rw [hh]; show CHr Z consts_1 s.vm h0 T280.vm T280.heap; rw [e280]; exact CF
        · have pre282 : ∀ t, SS p e below m T164 487 #[iv p1, iv p2, iv p3, iv p4, iv db, iv sl, iv spc, iv tc, iv pfx, iv kq, rv b17, rv b36, iv cc, iv ec, iv sv, iv (1 : Int32), iv tv, iv lcv, .unset] [(.int (6 : Int32)), (.int kq)] t → B t := fun t kk => pre275 t (by
            refine XS.icmpYes X164.here hx rfl (pc0 := 468) (pc' := 483) rfl (hb hby at_468) rfl (feq hc276).2 (by decide) (by decide) ?_
            refine XS.iload X164.here hx rfl (hb hby at_483) rfl ?_
            refine XS.bipush X164.here hx rfl (hb hby at_485) ?_
            exact kk)
          by_cases hc283 : kq = (6 : Int32)
          · have pre284 : ∀ t, SS p e below m T164 492 #[iv p1, iv p2, iv p3, iv p4, iv db, iv sl, iv spc, iv tc, iv pfx, iv kq, rv b17, rv b36, iv cc, iv ec, iv sv, iv (1 : Int32), iv tv, iv lcv, .unset] [(.int cc)] t → B t := fun t kk => pre282 t (by
              refine XS.icmpNo X164.here hx rfl (hb hby at_487) rfl (teq hc283).2 ?_
              refine XS.iload X164.here hx rfl (hb hby at_490) rfl ?_
              exact kk)
            obtain ⟨_, _, ⟨T285, L285, k285, n285⟩, -, X285, ⟨Lc285, hQ285, l285, y285, z285⟩, st285⟩ := Jvm.LawKit.callS X164 hx (y := (⟨"pithline/html/ScriptDataOpenTagLengthPinLaw", "isNameEnd", "(I)Z"⟩ : MethodName)) hown (mvT hZ (hw _ (List.mem_of_getElem? (i := 94) rfl))) (mvT hZ (hw _ (List.mem_of_getElem? (i := 95) rfl))) (mvT hZ (hw _ (List.mem_of_getElem? (i := 12) rfl))) (mvT hZ (hw _ (List.mem_of_getElem? (i := 96) rfl))) (by decide) (backOf (W := 0) (rm22 l Z a0 hw [] cc T164.heap n0 Z164 ) hZ (hw _ (List.mem_of_getElem? (i := 96) rfl)) (hw _ (List.mem_of_getElem? (i := 12) rfl)) (by decide) (by decide)) (g := (mkF m 492 #[iv p1, iv p2, iv p3, iv p4, iv db, iv sl, iv spc, iv tc, iv pfx, iv kq, rv b17, rv b36, iv cc, iv ec, iv sv, iv (1 : Int32), iv tv, iv lcv, .unset] [(.int cc)])) rfl (by rw [hml]; rfl) (argsL := [(.int cc)]) (rest := []) (lenOf pd_5 rfl) rfl (by show 2 * 0 + _ ≤ _; exact Nat.le_of_eq rfl) (hb hby at_492) (fun _ _ => ⟨rfl, rfl, (by decide : 14 + 0 ≤ _), (by decide : 198 + 0 ≤ _)⟩)
            dsimp only [Pt.U, Pt.locs, Pt.cells, Pt.slots] at X285 l285 y285 z285 st285 hQ285
            subst l285 y285 z285
            obtain ⟨rfl, N285q, e285⟩ := hQ285
            have N285 := Fr.app N164 N285q
            have pre286 : ∀ t, SS p e below m T285 495 #[iv p1, iv p2, iv p3, iv p4, iv db, iv sl, iv spc, iv tc, iv pfx, iv kq, rv b17, rv b36, iv cc, iv ec, iv sv, iv (1 : Int32), iv tv, iv lcv, .unset] [(.int (f22 cc))] t → B t := fun t kk => pre284 t (by
              refine st285 _ ?_
              exact kk)
            by_cases hc287 : (f22 cc) = (0 : Int32)
            · have pre288 : ∀ t, SS p e below m T285 508 #[iv p1, iv p2, iv p3, iv p4, iv db, iv sl, iv spc, iv tc, iv pfx, iv kq, rv b17, rv b36, iv cc, iv ec, iv sv, iv (1 : Int32), iv tv, iv lcv, .unset] [(.int (60 : Int32)), (.int cc)] t → B t := fun t kk => pre286 t (by
                refine XS.ifYes X285.here hx rfl (pc0 := 495) (pc' := 504) rfl (hb hby at_495) rfl ((if0 _ _).trans (teq hc287).1) (by decide) (by decide) ?_
                refine XS.iload X285.here hx rfl (hb hby at_504) rfl ?_
                refine XS.bipush X285.here hx rfl (hb hby at_506) ?_
                exact kk)
              by_cases hc289 : cc = (60 : Int32)
              · have pre290 : ∀ t, SS p e below m T285 527 #[iv p1, iv p2, iv p3, iv p4, iv db, iv sl, iv spc, iv tc, iv pfx, iv kq, rv b17, rv b36, iv cc, iv ec, iv sv, iv (1 : Int32), iv tv, iv lcv, iv (1 : Int32)] [(.int tv)] t → B t := fun t kk => pre288 t (by
                  refine XS.icmpNo X285.here hx rfl (hb hby at_508) rfl (teq hc289).2 ?_
                  refine XS.iconst X285.here hx rfl (hb hby at_511) ?_
                  refine XS.istore X285.here hx rfl (hb hby at_512) rfl (l' := #[iv p1, iv p2, iv p3, iv p4, iv db, iv sl, iv spc, iv tc, iv pfx, iv kq, rv b17, rv b36, iv cc, iv ec, iv sv, iv (1 : Int32), iv tv, iv lcv, iv (1 : Int32)]) rfl ?_
                  refine XS.goto X285.here hx rfl (pc0 := 514) (pc' := 520) rfl (hb hby at_514) (by decide) (by decide) ?_
                  show SS p e below m T285 520 #[iv p1, iv p2, iv p3, iv p4, iv db, iv sl, iv spc, iv tc, iv pfx, iv kq, rv b17, rv b36, iv cc, iv ec, iv sv, iv (1 : Int32), iv tv, iv lcv, iv (1 : Int32)] [] _
                  refine XS.iload X285.here hx rfl (hb hby at_520) rfl ?_
                  refine XS.ifNo X285.here hx rfl (hb hby at_522) rfl ((if0 _ _).trans (feq (by decide : ¬ ((1 : Int32) = (0 : Int32)))).1) ?_
                  refine XS.iload X285.here hx rfl (hb hby at_525) rfl ?_
                  exact kk)
                obtain ⟨_, _, ⟨T291, L291, k291, n291⟩, -, X291, ⟨Lc291, hQ291, l291, y291, z291⟩, st291⟩ := Jvm.LawKit.callS X285 hx (y := (⟨"pithline/html/ScriptData", "openTagLength", "(I)I"⟩ : MethodName)) hown (mvT hZ (hw _ (List.mem_of_getElem? (i := 75) rfl))) (mvT hZ (hw _ (List.mem_of_getElem? (i := 76) rfl))) (mvT hZ (hw _ (List.mem_of_getElem? (i := 5) rfl))) (mvT hZ (hw _ (List.mem_of_getElem? (i := 77) rfl))) (by decide) (backOf (W := 0) (rm16 l Z a0 hw [] tv T164.heap n0 Z164 ) hZ (hw _ (List.mem_of_getElem? (i := 77) rfl)) (hw _ (List.mem_of_getElem? (i := 5) rfl)) (by decide) (by decide)) (g := (mkF m 527 #[iv p1, iv p2, iv p3, iv p4, iv db, iv sl, iv spc, iv tc, iv pfx, iv kq, rv b17, rv b36, iv cc, iv ec, iv sv, iv (1 : Int32), iv tv, iv lcv, iv (1 : Int32)] [(.int tv)])) rfl (by rw [hml]; rfl) (argsL := [(.int tv)]) (rest := []) (lenOf pd_7 rfl) rfl (by show 2 * 0 + _ ≤ _; exact Nat.le_of_eq rfl) (hb hby at_527) (fun _ _ => ⟨rfl, e285, (by decide : 14 + 0 ≤ _), (by decide : 198 + 0 ≤ _)⟩)
                dsimp only [Pt.U, Pt.locs, Pt.cells, Pt.slots] at X291 l291 y291 z291 st291 hQ291
                subst l291 y291 z291
                obtain ⟨rfl, N291q, e291⟩ := hQ291
                have N291 := Fr.app N285 N291q
                have pre292 : ∀ t, SS p e below m T291 540 #[iv p1, iv p2, iv p3, iv p4, iv db, iv sl, iv spc, iv tc, iv pfx, iv kq, rv b17, rv b36, iv cc, iv ec, iv sv, iv (1 : Int32), iv tv, iv lcv, iv (1 : Int32)] [(.int (1 : Int32))] t → B t := fun t kk => pre290 t (by
                  refine st291 _ ?_
                  refine XS.iload X291.here hx rfl (hb hby at_530) rfl ?_
                  refine XS.icmpNo X291.here hx rfl (hb hby at_532) rfl (teq (by rw [g_tv]; exact (own_final db sl kq cc lcv sv _ hdb hsl hkq hlc hsv0 rfl).trans (by unfold own_E own_R1 own_R2 own_R3; rw [if_neg hc173, if_pos hc272, if_pos hc274, if_neg hc276, if_pos hc283, if_pos hc287, if_pos hc289]))).2 ?_
                  refine XS.iconst X291.here hx rfl (hb hby at_535) ?_
                  show SS p e below m T291 536 #[iv p1, iv p2, iv p3, iv p4, iv db, iv sl, iv spc, iv tc, iv pfx, iv kq, rv b17, rv b36, iv cc, iv ec, iv sv, iv (1 : Int32), iv tv, iv lcv, iv (1 : Int32)] [(.int (1 : Int32))] _
                  refine XS.goto X291.here hx rfl (pc0 := 536) (pc' := 540) rfl (hb hby at_536) (by decide) (by decide) ?_
                  exact kk)
                have CF := C164.trans (CHv.at X291 hZ hEL C164.1)
                obtain ⟨fs, hr, hrun, hended, hRW⟩ := X291.leaveW (s := s) hs164 (by first | exact hk164 | (rw [e291]; exact hk164)) (v := some (.int (1 : Int32))) (fun h => by rw [Bd.returns] at h; cases h)
                refine ⟨_, _, hB _ (pre292 _ ?_), hrun, hended, _, _, rfl, ?_, ?_, ⟨hRW.1, hRW.2.1, hRW.2.2.1, hRW.2.2.2.mono (by decide) (by decide)⟩⟩
                · exact retN X291 hx (t := .boolean) Bd.returns (by simp) (hb hby at_540) hr
                · exact ⟨rfl, N291⟩
                · rw [hh]; show CHr Z consts_1 s.vm h0 T291.vm T291.heap; rw [e291]; exact CF
              · have pre293 : ∀ t, SS p e below m T285 527 #[iv p1, iv p2, iv p3, iv p4, iv db, iv sl, iv spc, iv tc, iv pfx, iv kq, rv b17, rv b36, iv cc, iv ec, iv sv, iv (1 : Int32), iv tv, iv lcv, iv (0 : Int32)] [(.int tv)] t → B t := fun t kk => pre288 t (by
                  refine XS.icmpYes X285.here hx rfl (pc0 := 508) (pc' := 517) rfl (hb hby at_508) rfl (feq hc289).2 (by decide) (by decide) ?_
                  refine XS.iconst X285.here hx rfl (hb hby at_517) ?_
                  refine XS.istore X285.here hx rfl (hb hby at_518) rfl (l' := #[iv p1, iv p2, iv p3, iv p4, iv db, iv sl, iv spc, iv tc, iv pfx, iv kq, rv b17, rv b36, iv cc, iv ec, iv sv, iv (1 : Int32), iv tv, iv lcv, iv (0 : Int32)]) rfl ?_
                  refine XS.iload X285.here hx rfl (hb hby at_520) rfl ?_
                  show SS p e below m T285 522 #[iv p1, iv p2, iv p3, iv p4, iv db, iv sl, iv spc, iv tc, iv pfx, iv kq, rv b17, rv b36, iv cc, iv ec, iv sv, iv (1 : Int32), iv tv, iv lcv, iv (0 : Int32)] [(.int (1 : Int32))] _
                  refine XS.ifNo X285.here hx rfl (hb hby at_522) rfl ((if0 _ _).trans (feq (by decide : ¬ ((1 : Int32) = (0 : Int32)))).1) ?_
                  refine XS.iload X285.here hx rfl (hb hby at_525) rfl ?_
                  exact kk)
                obtain ⟨_, _, ⟨T294, L294, k294, n294⟩, -, X294, ⟨Lc294, hQ294, l294, y294, z294⟩, st294⟩ := Jvm.LawKit.callS X285 hx (y := (⟨"pithline/html/ScriptData", "openTagLength", "(I)I"⟩ : MethodName)) hown (mvT hZ (hw _ (List.mem_of_getElem? (i := 75) rfl))) (mvT hZ (hw _ (List.mem_of_getElem? (i := 76) rfl))) (mvT hZ (hw _ (List.mem_of_getElem? (i := 5) rfl))) (mvT hZ (hw _ (List.mem_of_getElem? (i := 77) rfl))) (by decide) (backOf (W := 0) (rm16 l Z a0 hw [] tv T164.heap n0 Z164 ) hZ (hw _ (List.mem_of_getElem? (i := 77) rfl)) (hw _ (List.mem_of_getElem? (i := 5) rfl)) (by decide) (by decide)) (g := (mkF m 527 #[iv p1, iv p2, iv p3, iv p4, iv db, iv sl, iv spc, iv tc, iv pfx, iv kq, rv b17, rv b36, iv cc, iv ec, iv sv, iv (1 : Int32), iv tv, iv lcv, iv (0 : Int32)] [(.int tv)])) rfl (by rw [hml]; rfl) (argsL := [(.int tv)]) (rest := []) (lenOf pd_7 rfl) rfl (by show 2 * 0 + _ ≤ _; exact Nat.le_of_eq rfl) (hb hby at_527) (fun _ _ => ⟨rfl, e285, (by decide : 14 + 0 ≤ _), (by decide : 198 + 0 ≤ _)⟩)
                dsimp only [Pt.U, Pt.locs, Pt.cells, Pt.slots] at X294 l294 y294 z294 st294 hQ294
                subst l294 y294 z294
                obtain ⟨rfl, N294q, e294⟩ := hQ294
                have N294 := Fr.app N285 N294q
                have pre295 : ∀ t, SS p e below m T294 540 #[iv p1, iv p2, iv p3, iv p4, iv db, iv sl, iv spc, iv tc, iv pfx, iv kq, rv b17, rv b36, iv cc, iv ec, iv sv, iv (1 : Int32), iv tv, iv lcv, iv (0 : Int32)] [(.int (1 : Int32))] t → B t := fun t kk => pre293 t (by
                  refine st294 _ ?_
                  refine XS.iload X294.here hx rfl (hb hby at_530) rfl ?_
                  refine XS.icmpNo X294.here hx rfl (hb hby at_532) rfl (teq (by rw [g_tv]; exact (own_final db sl kq cc lcv sv _ hdb hsl hkq hlc hsv0 rfl).trans (by unfold own_E own_R1 own_R2 own_R3; rw [if_neg hc173, if_pos hc272, if_pos hc274, if_neg hc276, if_pos hc283, if_pos hc287, if_neg hc289]))).2 ?_
                  refine XS.iconst X294.here hx rfl (hb hby at_535) ?_
                  show SS p e below m T294 536 #[iv p1, iv p2, iv p3, iv p4, iv db, iv sl, iv spc, iv tc, iv pfx, iv kq, rv b17, rv b36, iv cc, iv ec, iv sv, iv (1 : Int32), iv tv, iv lcv, iv (0 : Int32)] [(.int (1 : Int32))] _
                  refine XS.goto X294.here hx rfl (pc0 := 536) (pc' := 540) rfl (hb hby at_536) (by decide) (by decide) ?_
                  exact kk)
                have CF := C164.trans (CHv.at X294 hZ hEL C164.1)
                obtain ⟨fs, hr, hrun, hended, hRW⟩ := X294.leaveW (s := s) hs164 (by first | exact hk164 | (rw [e294]; exact hk164)) (v := some (.int (1 : Int32))) (fun h => by rw [Bd.returns] at h; cases h)
                refine ⟨_, _, hB _ (pre295 _ ?_), hrun, hended, _, _, rfl, ?_, ?_, ⟨hRW.1, hRW.2.1, hRW.2.2.1, hRW.2.2.2.mono (by decide) (by decide)⟩⟩
                · exact retN X294 hx (t := .boolean) Bd.returns (by simp) (hb hby at_540) hr
                · exact ⟨rfl, N294⟩
                · rw [hh]; show CHr Z consts_1 s.vm h0 T294.vm T294.heap; rw [e294]; exact CF
            · have pre296 : ∀ t, SS p e below m T285 527 #[iv p1, iv p2, iv p3, iv p4, iv db, iv sl, iv spc, iv tc, iv pfx, iv kq, rv b17, rv b36, iv cc, iv ec, iv sv, iv (1 : Int32), iv tv, iv lcv, iv (0 : Int32)] [(.int tv)] t → B t := fun t kk => pre286 t (by
                refine XS.ifNo X285.here hx rfl (hb hby at_495) rfl ((if0 _ _).trans (feq hc287).1) ?_
                refine XS.iconst X285.here hx rfl (hb hby at_498) ?_
                refine XS.istore X285.here hx rfl (hb hby at_499) rfl (l' := #[iv p1, iv p2, iv p3, iv p4, iv db, iv sl, iv spc, iv tc, iv pfx, iv kq, rv b17, rv b36, iv cc, iv ec, iv sv, iv (1 : Int32), iv tv, iv lcv, iv (0 : Int32)]) rfl ?_
                refine XS.goto X285.here hx rfl (pc0 := 501) (pc' := 520) rfl (hb hby at_501) (by decide) (by decide) ?_
                show SS p e below m T285 520 #[iv p1, iv p2, iv p3, iv p4, iv db, iv sl, iv spc, iv tc, iv pfx, iv kq, rv b17, rv b36, iv cc, iv ec, iv sv, iv (1 : Int32), iv tv, iv lcv, iv (0 : Int32)] [] _
                refine XS.iload X285.here hx rfl (hb hby at_520) rfl ?_
                refine XS.ifNo X285.here hx rfl (hb hby at_522) rfl ((if0 _ _).trans (feq (by decide : ¬ ((1 : Int32) = (0 : Int32)))).1) ?_
                refine XS.iload X285.here hx rfl (hb hby at_525) rfl ?_
                exact kk)
              obtain ⟨_, _, ⟨T297, L297, k297, n297⟩, -, X297, ⟨Lc297, hQ297, l297, y297, z297⟩, st297⟩ := Jvm.LawKit.callS X285 hx (y := (⟨"pithline/html/ScriptData", "openTagLength", "(I)I"⟩ : MethodName)) hown (mvT hZ (hw _ (List.mem_of_getElem? (i := 75) rfl))) (mvT hZ (hw _ (List.mem_of_getElem? (i := 76) rfl))) (mvT hZ (hw _ (List.mem_of_getElem? (i := 5) rfl))) (mvT hZ (hw _ (List.mem_of_getElem? (i := 77) rfl))) (by decide) (backOf (W := 0) (rm16 l Z a0 hw [] tv T164.heap n0 Z164 ) hZ (hw _ (List.mem_of_getElem? (i := 77) rfl)) (hw _ (List.mem_of_getElem? (i := 5) rfl)) (by decide) (by decide)) (g := (mkF m 527 #[iv p1, iv p2, iv p3, iv p4, iv db, iv sl, iv spc, iv tc, iv pfx, iv kq, rv b17, rv b36, iv cc, iv ec, iv sv, iv (1 : Int32), iv tv, iv lcv, iv (0 : Int32)] [(.int tv)])) rfl (by rw [hml]; rfl) (argsL := [(.int tv)]) (rest := []) (lenOf pd_7 rfl) rfl (by show 2 * 0 + _ ≤ _; exact Nat.le_of_eq rfl) (hb hby at_527) (fun _ _ => ⟨rfl, e285, (by decide : 14 + 0 ≤ _), (by decide : 198 + 0 ≤ _)⟩)
              dsimp only [Pt.U, Pt.locs, Pt.cells, Pt.slots] at X297 l297 y297 z297 st297 hQ297
              subst l297 y297 z297
              obtain ⟨rfl, N297q, e297⟩ := hQ297
              have N297 := Fr.app N285 N297q
              have pre298 : ∀ t, SS p e below m T297 540 #[iv p1, iv p2, iv p3, iv p4, iv db, iv sl, iv spc, iv tc, iv pfx, iv kq, rv b17, rv b36, iv cc, iv ec, iv sv, iv (1 : Int32), iv tv, iv lcv, iv (0 : Int32)] [(.int (1 : Int32))] t → B t := fun t kk => pre296 t (by
                refine st297 _ ?_
                refine XS.iload X297.here hx rfl (hb hby at_530) rfl ?_
                refine XS.icmpNo X297.here hx rfl (hb hby at_532) rfl (teq (by rw [g_tv]; exact (own_final db sl kq cc lcv sv _ hdb hsl hkq hlc hsv0 rfl).trans (by unfold own_E own_R1 own_R2 own_R3; rw [if_neg hc173, if_pos hc272, if_pos hc274, if_neg hc276, if_pos hc283, if_neg hc287]))).2 ?_
                refine XS.iconst X297.here hx rfl (hb hby at_535) ?_
                show SS p e below m T297 536 #[iv p1, iv p2, iv p3, iv p4, iv db, iv sl, iv spc, iv tc, iv pfx, iv kq, rv b17, rv b36, iv cc, iv ec, iv sv, iv (1 : Int32), iv tv, iv lcv, iv (0 : Int32)] [(.int (1 : Int32))] _
                refine XS.goto X297.here hx rfl (pc0 := 536) (pc' := 540) rfl (hb hby at_536) (by decide) (by decide) ?_
                exact kk)
              have CF := C164.trans (CHv.at X297 hZ hEL C164.1)
              obtain ⟨fs, hr, hrun, hended, hRW⟩ := X297.leaveW (s := s) hs164 (by first | exact hk164 | (rw [e297]; exact hk164)) (v := some (.int (1 : Int32))) (fun h => by rw [Bd.returns] at h; cases h)
              refine ⟨_, _, hB _ (pre298 _ ?_), hrun, hended, _, _, rfl, ?_, ?_, ⟨hRW.1, hRW.2.1, hRW.2.2.1, hRW.2.2.2.mono (by decide) (by decide)⟩⟩
              · exact retN X297 hx (t := .boolean) Bd.returns (by simp) (hb hby at_540) hr
              · exact ⟨rfl, N297⟩
              · rw [hh]; show CHr Z consts_1 s.vm h0 T297.vm T297.heap; rw [e297]; exact CF
          · have pre299 : ∀ t, SS p e below m T164 508 #[iv p1, iv p2, iv p3, iv p4, iv db, iv sl, iv spc, iv tc, iv pfx, iv kq, rv b17, rv b36, iv cc, iv ec, iv sv, iv (1 : Int32), iv tv, iv lcv, .unset] [(.int (60 : Int32)), (.int cc)] t → B t := fun t kk => pre282 t (by
              refine XS.icmpYes X164.here hx rfl (pc0 := 487) (pc' := 504) rfl (hb hby at_487) rfl (feq hc283).2 (by decide) (by decide) ?_
              refine XS.iload X164.here hx rfl (hb hby at_504) rfl ?_
              refine XS.bipush X164.here hx rfl (hb hby at_506) ?_
              exact kk)
            by_cases hc300 : cc = (60 : Int32)
            · have pre301 : ∀ t, SS p e below m T164 527 #[iv p1, iv p2, iv p3, iv p4, iv db, iv sl, iv spc, iv tc, iv pfx, iv kq, rv b17, rv b36, iv cc, iv ec, iv sv, iv (1 : Int32), iv tv, iv lcv, iv (1 : Int32)] [(.int tv)] t → B t := fun t kk => pre299 t (by
                refine XS.icmpNo X164.here hx rfl (hb hby at_508) rfl (teq hc300).2 ?_
                refine XS.iconst X164.here hx rfl (hb hby at_511) ?_
                refine XS.istore X164.here hx rfl (hb hby at_512) rfl (l' := #[iv p1, iv p2, iv p3, iv p4, iv db, iv sl, iv spc, iv tc, iv pfx, iv kq, rv b17, rv b36, iv cc, iv ec, iv sv, iv (1 : Int32), iv tv, iv lcv, iv (1 : Int32)]) rfl ?_
                refine XS.goto X164.here hx rfl (pc0 := 514) (pc' := 520) rfl (hb hby at_514) (by decide) (by decide) ?_
                show SS p e below m T164 520 #[iv p1, iv p2, iv p3, iv p4, iv db, iv sl, iv spc, iv tc, iv pfx, iv kq, rv b17, rv b36, iv cc, iv ec, iv sv, iv (1 : Int32), iv tv, iv lcv, iv (1 : Int32)] [] _
                refine XS.iload X164.here hx rfl (hb hby at_520) rfl ?_
                refine XS.ifNo X164.here hx rfl (hb hby at_522) rfl ((if0 _ _).trans (feq (by decide : ¬ ((1 : Int32) = (0 : Int32)))).1) ?_
                refine XS.iload X164.here hx rfl (hb hby at_525) rfl ?_
                exact kk)
              obtain ⟨_, _, ⟨T302, L302, k302, n302⟩, -, X302, ⟨Lc302, hQ302, l302, y302, z302⟩, st302⟩ := Jvm.LawKit.callS X164 hx (y := (⟨"pithline/html/ScriptData", "openTagLength", "(I)I"⟩ : MethodName)) hown (mvT hZ (hw _ (List.mem_of_getElem? (i := 75) rfl))) (mvT hZ (hw _ (List.mem_of_getElem? (i := 76) rfl))) (mvT hZ (hw _ (List.mem_of_getElem? (i := 5) rfl))) (mvT hZ (hw _ (List.mem_of_getElem? (i := 77) rfl))) (by decide) (backOf (W := 0) (rm16 l Z a0 hw [] tv T164.heap n0 Z164 ) hZ (hw _ (List.mem_of_getElem? (i := 77) rfl)) (hw _ (List.mem_of_getElem? (i := 5) rfl)) (by decide) (by decide)) (g := (mkF m 527 #[iv p1, iv p2, iv p3, iv p4, iv db, iv sl, iv spc, iv tc, iv pfx, iv kq, rv b17, rv b36, iv cc, iv ec, iv sv, iv (1 : Int32), iv tv, iv lcv, iv (1 : Int32)] [(.int tv)])) rfl (by rw [hml]; rfl) (argsL := [(.int tv)]) (rest := []) (lenOf pd_7 rfl) rfl (by show 2 * 0 + _ ≤ _; exact Nat.le_of_eq rfl) (hb hby at_527) (fun _ _ => ⟨rfl, rfl, (by decide : 14 + 0 ≤ _), (by decide : 198 + 0 ≤ _)⟩)
              dsimp only [Pt.U, Pt.locs, Pt.cells, Pt.slots] at X302 l302 y302 z302 st302 hQ302
              subst l302 y302 z302
              obtain ⟨rfl, N302q, e302⟩ := hQ302
              have N302 := Fr.app N164 N302q
              have pre303 : ∀ t, SS p e below m T302 540 #[iv p1, iv p2, iv p3, iv p4, iv db, iv sl, iv spc, iv tc, iv pfx, iv kq, rv b17, rv b36, iv cc, iv ec, iv sv, iv (1 : Int32), iv tv, iv lcv, iv (1 : Int32)] [(.int (1 : Int32))] t → B t := fun t kk => pre301 t (by
                refine st302 _ ?_
                refine XS.iload X302.here hx rfl (hb hby at_530) rfl ?_
                refine XS.icmpNo X302.here hx rfl (hb hby at_532) rfl (teq (by rw [g_tv]; exact (own_final db sl kq cc lcv sv _ hdb hsl hkq hlc hsv0 rfl).trans (by unfold own_E own_R1 own_R2 own_R3; rw [if_neg hc173, if_pos hc272, if_pos hc274, if_neg hc276, if_neg hc283, if_pos hc300]))).2 ?_
                refine XS.iconst X302.here hx rfl (hb hby at_535) ?_
                show SS p e below m T302 536 #[iv p1, iv p2, iv p3, iv p4, iv db, iv sl, iv spc, iv tc, iv pfx, iv kq, rv b17, rv b36, iv cc, iv ec, iv sv, iv (1 : Int32), iv tv, iv lcv, iv (1 : Int32)] [(.int (1 : Int32))] _
                refine XS.goto X302.here hx rfl (pc0 := 536) (pc' := 540) rfl (hb hby at_536) (by decide) (by decide) ?_
                exact kk)
              have CF := C164.trans (CHv.at X302 hZ hEL C164.1)
              obtain ⟨fs, hr, hrun, hended, hRW⟩ := X302.leaveW (s := s) hs164 (by first | exact hk164 | (rw [e302]; exact hk164)) (v := some (.int (1 : Int32))) (fun h => by rw [Bd.returns] at h; cases h)
              refine ⟨_, _, hB _ (pre303 _ ?_), hrun, hended, _, _, rfl, ?_, ?_, ⟨hRW.1, hRW.2.1, hRW.2.2.1, hRW.2.2.2.mono (by decide) (by decide)⟩⟩
              · exact retN X302 hx (t := .boolean) Bd.returns (by simp) (hb hby at_540) hr
              · exact ⟨rfl, N302⟩
              · rw [hh]; show CHr Z consts_1 s.vm h0 T302.vm T302.heap; rw [e302]; exact CF
            · have pre304 : ∀ t, SS p e below m T164 527 #[iv p1, iv p2, iv p3, iv p4, iv db, iv sl, iv spc, iv tc, iv pfx, iv kq, rv b17, rv b36, iv cc, iv ec, iv sv, iv (1 : Int32), iv tv, iv lcv, iv (0 : Int32)] [(.int tv)] t → B t := fun t kk => pre299 t (by
                refine XS.icmpYes X164.here hx rfl (pc0 := 508) (pc' := 517) rfl (hb hby at_508) rfl (feq hc300).2 (by decide) (by decide) ?_
                refine XS.iconst X164.here hx rfl (hb hby at_517) ?_
                refine XS.istore X164.here hx rfl (hb hby at_518) rfl (l' := #[iv p1, iv p2, iv p3, iv p4, iv db, iv sl, iv spc, iv tc, iv pfx, iv kq, rv b17, rv b36, iv cc, iv ec, iv sv, iv (1 : Int32), iv tv, iv lcv, iv (0 : Int32)]) rfl ?_
                refine XS.iload X164.here hx rfl (hb hby at_520) rfl ?_
                show SS p e below m T164 522 #[iv p1, iv p2, iv p3, iv p4, iv db, iv sl, iv spc, iv tc, iv pfx, iv kq, rv b17, rv b36, iv cc, iv ec, iv sv, iv (1 : Int32), iv tv, iv lcv, iv (0 : Int32)] [(.int (1 : Int32))] _
                refine XS.ifNo X164.here hx rfl (hb hby at_522) rfl ((if0 _ _).trans (feq (by decide : ¬ ((1 : Int32) = (0 : Int32)))).1) ?_
                refine XS.iload X164.here hx rfl (hb hby at_525) rfl ?_
                exact kk)
              obtain ⟨_, _, ⟨T305, L305, k305, n305⟩, -, X305, ⟨Lc305, hQ305, l305, y305, z305⟩, st305⟩ := Jvm.LawKit.callS X164 hx (y := (⟨"pithline/html/ScriptData", "openTagLength", "(I)I"⟩ : MethodName)) hown (mvT hZ (hw _ (List.mem_of_getElem? (i := 75) rfl))) (mvT hZ (hw _ (List.mem_of_getElem? (i := 76) rfl))) (mvT hZ (hw _ (List.mem_of_getElem? (i := 5) rfl))) (mvT hZ (hw _ (List.mem_of_getElem? (i := 77) rfl))) (by decide) (backOf (W := 0) (rm16 l Z a0 hw [] tv T164.heap n0 Z164 ) hZ (hw _ (List.mem_of_getElem? (i := 77) rfl)) (hw _ (List.mem_of_getElem? (i := 5) rfl)) (by decide) (by decide)) (g := (mkF m 527 #[iv p1, iv p2, iv p3, iv p4, iv db, iv sl, iv spc, iv tc, iv pfx, iv kq, rv b17, rv b36, iv cc, iv ec, iv sv, iv (1 : Int32), iv tv, iv lcv, iv (0 : Int32)] [(.int tv)])) rfl (by rw [hml]; rfl) (argsL := [(.int tv)]) (rest := []) (lenOf pd_7 rfl) rfl (by show 2 * 0 + _ ≤ _; exact Nat.le_of_eq rfl) (hb hby at_527) (fun _ _ => ⟨rfl, rfl, (by decide : 14 + 0 ≤ _), (by decide : 198 + 0 ≤ _)⟩)
              dsimp only [Pt.U, Pt.locs, Pt.cells, Pt.slots] at X305 l305 y305 z305 st305 hQ305
              subst l305 y305 z305
              obtain ⟨rfl, N305q, e305⟩ := hQ305
              have N305 := Fr.app N164 N305q
              have pre306 : ∀ t, SS p e below m T305 540 #[iv p1, iv p2, iv p3, iv p4, iv db, iv sl, iv spc, iv tc, iv pfx, iv kq, rv b17, rv b36, iv cc, iv ec, iv sv, iv (1 : Int32), iv tv, iv lcv, iv (0 : Int32)] [(.int (1 : Int32))] t → B t := fun t kk => pre304 t (by
                refine st305 _ ?_
                refine XS.iload X305.here hx rfl (hb hby at_530) rfl ?_
                refine XS.icmpNo X305.here hx rfl (hb hby at_532) rfl (teq (by rw [g_tv]; exact (own_final db sl kq cc lcv sv _ hdb hsl hkq hlc hsv0 rfl).trans (by unfold own_E own_R1 own_R2 own_R3; rw [if_neg hc173, if_pos hc272, if_pos hc274, if_neg hc276, if_neg hc283, if_neg hc300]))).2 ?_
                refine XS.iconst X305.here hx rfl (hb hby at_535) ?_
                show SS p e below m T305 536 #[iv p1, iv p2, iv p3, iv p4, iv db, iv sl, iv spc, iv tc, iv pfx, iv kq, rv b17, rv b36, iv cc, iv ec, iv sv, iv (1 : Int32), iv tv, iv lcv, iv (0 : Int32)] [(.int (1 : Int32))] _
                refine XS.goto X305.here hx rfl (pc0 := 536) (pc' := 540) rfl (hb hby at_536) (by decide) (by decide) ?_
                exact kk)
              have CF := C164.trans (CHv.at X305 hZ hEL C164.1)
              obtain ⟨fs, hr, hrun, hended, hRW⟩ := X305.leaveW (s := s) hs164 (by first | exact hk164 | (rw [e305]; exact hk164)) (v := some (.int (1 : Int32))) (fun h => by rw [Bd.returns] at h; cases h)
              refine ⟨_, _, hB _ (pre306 _ ?_), hrun, hended, _, _, rfl, ?_, ?_, ⟨hRW.1, hRW.2.1, hRW.2.2.1, hRW.2.2.2.mono (by decide) (by decide)⟩⟩
              · exact retN X305 hx (t := .boolean) Bd.returns (by simp) (hb hby at_540) hr
              · exact ⟨rfl, N305⟩
              · rw [hh]; show CHr Z consts_1 s.vm h0 T305.vm T305.heap; rw [e305]; exact CF
      · have pre307 : ∀ t, SS p e below m T164 487 #[iv p1, iv p2, iv p3, iv p4, iv db, iv sl, iv spc, iv tc, iv pfx, iv kq, rv b17, rv b36, iv cc, iv ec, iv sv, iv (1 : Int32), iv tv, iv lcv, .unset] [(.int (6 : Int32)), (.int kq)] t → B t := fun t kk => pre273 t (by
          refine XS.ifYes X164.here hx rfl (pc0 := 461) (pc' := 483) rfl (hb hby at_461) rfl ((if0 _ _).trans (feq hc274).2) (by decide) (by decide) ?_
          refine XS.iload X164.here hx rfl (hb hby at_483) rfl ?_
          refine XS.bipush X164.here hx rfl (hb hby at_485) ?_
          exact kk)
        by_cases hc308 : kq = (6 : Int32)
        · have pre309 : ∀ t, SS p e below m T164 492 #[iv p1, iv p2, iv p3, iv p4, iv db, iv sl, iv spc, iv tc, iv pfx, iv kq, rv b17, rv b36, iv cc, iv ec, iv sv, iv (1 : Int32), iv tv, iv lcv, .unset] [(.int cc)] t → B t := fun t kk => pre307 t (by
            refine XS.icmpNo X164.here hx rfl (hb hby at_487) rfl (teq hc308).2 ?_
            refine XS.iload X164.here hx rfl (hb hby at_490) rfl ?_
            exact kk)
          obtain ⟨_, _, ⟨T310, L310, k310, n310⟩, -, X310, ⟨Lc310, hQ310, l310, y310, z310⟩, st310⟩ := Jvm.LawKit.callS X164 hx (y := (⟨"pithline/html/ScriptDataOpenTagLengthPinLaw", "isNameEnd", "(I)Z"⟩ : MethodName)) hown (mvT hZ (hw _ (List.mem_of_getElem? (i := 94) rfl))) (mvT hZ (hw _ (List.mem_of_getElem? (i := 95) rfl))) (mvT hZ (hw _ (List.mem_of_getElem? (i := 12) rfl))) (mvT hZ (hw _ (List.mem_of_getElem? (i := 96) rfl))) (by decide) (backOf (W := 0) (rm22 l Z a0 hw [] cc T164.heap n0 Z164 ) hZ (hw _ (List.mem_of_getElem? (i := 96) rfl)) (hw _ (List.mem_of_getElem? (i := 12) rfl)) (by decide) (by decide)) (g := (mkF m 492 #[iv p1, iv p2, iv p3, iv p4, iv db, iv sl, iv spc, iv tc, iv pfx, iv kq, rv b17, rv b36, iv cc, iv ec, iv sv, iv (1 : Int32), iv tv, iv lcv, .unset] [(.int cc)])) rfl (by rw [hml]; rfl) (argsL := [(.int cc)]) (rest := []) (lenOf pd_5 rfl) rfl (by show 2 * 0 + _ ≤ _; exact Nat.le_of_eq rfl) (hb hby at_492) (fun _ _ => ⟨rfl, rfl, (by decide : 14 + 0 ≤ _), (by decide : 198 + 0 ≤ _)⟩)
          dsimp only [Pt.U, Pt.locs, Pt.cells, Pt.slots] at X310 l310 y310 z310 st310 hQ310
          subst l310 y310 z310
          obtain ⟨rfl, N310q, e310⟩ := hQ310
          have N310 := Fr.app N164 N310q
          have pre311 : ∀ t, SS p e below m T310 495 #[iv p1, iv p2, iv p3, iv p4, iv db, iv sl, iv spc, iv tc, iv pfx, iv kq, rv b17, rv b36, iv cc, iv ec, iv sv, iv (1 : Int32), iv tv, iv lcv, .unset] [(.int (f22 cc))] t → B t := fun t kk => pre309 t (by
            refine st310 _ ?_
            exact kk)
          by_cases hc312 : (f22 cc) = (0 : Int32)
          · have pre313 : ∀ t, SS p e below m T310 508 #[iv p1, iv p2, iv p3, iv p4, iv db, iv sl, iv spc, iv tc, iv pfx, iv kq, rv b17, rv b36, iv cc, iv ec, iv sv, iv (1 : Int32), iv tv, iv lcv, .unset] [(.int (60 : Int32)), (.int cc)] t → B t := fun t kk => pre311 t (by
              refine XS.ifYes X310.here hx rfl (pc0 := 495) (pc' := 504) rfl (hb hby at_495) rfl ((if0 _ _).trans (teq hc312).1) (by decide) (by decide) ?_
              refine XS.iload X310.here hx rfl (hb hby at_504) rfl ?_
              refine XS.bipush X310.here hx rfl (hb hby at_506) ?_
              exact kk)
            by_cases hc314 : cc = (60 : Int32)
            · have pre315 : ∀ t, SS p e below m T310 527 #[iv p1, iv p2, iv p3, iv p4, iv db, iv sl, iv spc, iv tc, iv pfx, iv kq, rv b17, rv b36, iv cc, iv ec, iv sv, iv (1 : Int32), iv tv, iv lcv, iv (1 : Int32)] [(.int tv)] t → B t := fun t kk => pre313 t (by
                refine XS.icmpNo X310.here hx rfl (hb hby at_508) rfl (teq hc314).2 ?_
                refine XS.iconst X310.here hx rfl (hb hby at_511) ?_
                refine XS.istore X310.here hx rfl (hb hby at_512) rfl (l' := #[iv p1, iv p2, iv p3, iv p4, iv db, iv sl, iv spc, iv tc, iv pfx, iv kq, rv b17, rv b36, iv cc, iv ec, iv sv, iv (1 : Int32), iv tv, iv lcv, iv (1 : Int32)]) rfl ?_
                refine XS.goto X310.here hx rfl (pc0 := 514) (pc' := 520) rfl (hb hby at_514) (by decide) (by decide) ?_
                show SS p e below m T310 520 #[iv p1, iv p2, iv p3, iv p4, iv db, iv sl, iv spc, iv tc, iv pfx, iv kq, rv b17, rv b36, iv cc, iv ec, iv sv, iv (1 : Int32), iv tv, iv lcv, iv (1 : Int32)] [] _
                refine XS.iload X310.here hx rfl (hb hby at_520) rfl ?_
                refine XS.ifNo X310.here hx rfl (hb hby at_522) rfl ((if0 _ _).trans (feq (by decide : ¬ ((1 : Int32) = (0 : Int32)))).1) ?_
                refine XS.iload X310.here hx rfl (hb hby at_525) rfl ?_
                exact kk)
              obtain ⟨_, _, ⟨T316, L316, k316, n316⟩, -, X316, ⟨Lc316, hQ316, l316, y316, z316⟩, st316⟩ := Jvm.LawKit.callS X310 hx (y := (⟨"pithline/html/ScriptData", "openTagLength", "(I)I"⟩ : MethodName)) hown (mvT hZ (hw _ (List.mem_of_getElem? (i := 75) rfl))) (mvT hZ (hw _ (List.mem_of_getElem? (i := 76) rfl))) (mvT hZ (hw _ (List.mem_of_getElem? (i := 5) rfl))) (mvT hZ (hw _ (List.mem_of_getElem? (i := 77) rfl))) (by decide) (backOf (W := 0) (rm16 l Z a0 hw [] tv T164.heap n0 Z164 ) hZ (hw _ (List.mem_of_getElem? (i := 77) rfl)) (hw _ (List.mem_of_getElem? (i := 5) rfl)) (by decide) (by decide)) (g := (mkF m 527 #[iv p1, iv p2, iv p3, iv p4, iv db, iv sl, iv spc, iv tc, iv pfx, iv kq, rv b17, rv b36, iv cc, iv ec, iv sv, iv (1 : Int32), iv tv, iv lcv, iv (1 : Int32)] [(.int tv)])) rfl (by rw [hml]; rfl) (argsL := [(.int tv)]) (rest := []) (lenOf pd_7 rfl) rfl (by show 2 * 0 + _ ≤ _; exact Nat.le_of_eq rfl) (hb hby at_527) (fun _ _ => ⟨rfl, e310, (by decide : 14 + 0 ≤ _), (by decide : 198 + 0 ≤ _)⟩)
              dsimp only [Pt.U, Pt.locs, Pt.cells, Pt.slots] at X316 l316 y316 z316 st316 hQ316
              subst l316 y316 z316
              obtain ⟨rfl, N316q, e316⟩ := hQ316
              have N316 := Fr.app N310 N316q
              have pre317 : ∀ t, SS p e below m T316 540 #[iv p1, iv p2, iv p3, iv p4, iv db, iv sl, iv spc, iv tc, iv pfx, iv kq, rv b17, rv b36, iv cc, iv ec, iv sv, iv (1 : Int32), iv tv, iv lcv, iv (1 : Int32)] [(.int (1 : Int32))] t → B t := fun t kk => pre315 t (by
                refine st316 _ ?_
                refine XS.iload X316.here hx rfl (hb hby at_530) rfl ?_
                refine XS.icmpNo X316.here hx rfl (hb hby at_532) rfl (teq (by rw [g_tv]; exact (own_final db sl kq cc lcv sv _ hdb hsl hkq hlc hsv0 rfl).trans (by unfold own_E own_R1 own_R2 own_R3; rw [if_neg hc173, if_pos hc272, if_neg hc274, if_pos hc308, if_pos hc312, if_pos hc314]))).2 ?_
                refine XS.iconst X316.here hx rfl (hb hby at_535) ?_
                show SS p e below m T316 536 #[iv p1, iv p2, iv p3, iv p4, iv db, iv sl, iv spc, iv tc, iv pfx, iv kq, rv b17, rv b36, iv cc, iv ec, iv sv, iv (1 : Int32), iv tv, iv lcv, iv (1 : Int32)] [(.int (1 : Int32))] _
                refine XS.goto X316.here hx rfl (pc0 := 536) (pc' := 540) rfl (hb hby at_536) (by decide) (by decide) ?_
                exact kk)
              have CF := C164.trans (CHv.at X316 hZ hEL C164.1)
              obtain ⟨fs, hr, hrun, hended, hRW⟩ := X316.leaveW (s := s) hs164 (by first | exact hk164 | (rw [e316]; exact hk164)) (v := some (.int (1 : Int32))) (fun h => by rw [Bd.returns] at h; cases h)
              refine ⟨_, _, hB _ (pre317 _ ?_), hrun, hended, _, _, rfl, ?_, ?_, ⟨hRW.1, hRW.2.1, hRW.2.2.1, hRW.2.2.2.mono (by decide) (by decide)⟩⟩
              · exact retN X316 hx (t := .boolean) Bd.returns (by simp) (hb hby at_540) hr
              · exact ⟨rfl, N316⟩
              · rw [hh]; show CHr Z consts_1 s.vm h0 T316.vm T316.heap; rw [e316]; exact CF
            · have pre318 : ∀ t, SS p e below m T310 527 #[iv p1, iv p2, iv p3, iv p4, iv db, iv sl, iv spc, iv tc, iv pfx, iv kq, rv b17, rv b36, iv cc, iv ec, iv sv, iv (1 : Int32), iv tv, iv lcv, iv (0 : Int32)] [(.int tv)] t → B t := fun t kk => pre313 t (by
                refine XS.icmpYes X310.here hx rfl (pc0 := 508) (pc' := 517) rfl (hb hby at_508) rfl (feq hc314).2 (by decide) (by decide) ?_
                refine XS.iconst X310.here hx rfl (hb hby at_517) ?_
                refine XS.istore X310.here hx rfl (hb hby at_518) rfl (l' := #[iv p1, iv p2, iv p3, iv p4, iv db, iv sl, iv spc, iv tc, iv pfx, iv kq, rv b17, rv b36, iv cc, iv ec, iv sv, iv (1 : Int32), iv tv, iv lcv, iv (0 : Int32)]) rfl ?_
                refine XS.iload X310.here hx rfl (hb hby at_520) rfl ?_
                show SS p e below m T310 522 #[iv p1, iv p2, iv p3, iv p4, iv db, iv sl, iv spc, iv tc, iv pfx, iv kq, rv b17, rv b36, iv cc, iv ec, iv sv, iv (1 : Int32), iv tv, iv lcv, iv (0 : Int32)] [(.int (1 : Int32))] _
                refine XS.ifNo X310.here hx rfl (hb hby at_522) rfl ((if0 _ _).trans (feq (by decide : ¬ ((1 : Int32) = (0 : Int32)))).1) ?_
                refine XS.iload X310.here hx rfl (hb hby at_525) rfl ?_
                exact kk)
              obtain ⟨_, _, ⟨T319, L319, k319, n319⟩, -, X319, ⟨Lc319, hQ319, l319, y319, z319⟩, st319⟩ := Jvm.LawKit.callS X310 hx (y := (⟨"pithline/html/ScriptData", "openTagLength", "(I)I"⟩ : MethodName)) hown (mvT hZ (hw _ (List.mem_of_getElem? (i := 75) rfl))) (mvT hZ (hw _ (List.mem_of_getElem? (i := 76) rfl))) (mvT hZ (hw _ (List.mem_of_getElem? (i := 5) rfl))) (mvT hZ (hw _ (List.mem_of_getElem? (i := 77) rfl))) (by decide) (backOf (W := 0) (rm16 l Z a0 hw [] tv T164.heap n0 Z164 ) hZ (hw _ (List.mem_of_getElem? (i := 77) rfl)) (hw _ (List.mem_of_getElem? (i := 5) rfl)) (by decide) (by decide)) (g := (mkF m 527 #[iv p1, iv p2, iv p3, iv p4, iv db, iv sl, iv spc, iv tc, iv pfx, iv kq, rv b17, rv b36, iv cc, iv ec, iv sv, iv (1 : Int32), iv tv, iv lcv, iv (0 : Int32)] [(.int tv)])) rfl (by rw [hml]; rfl) (argsL := [(.int tv)]) (rest := []) (lenOf pd_7 rfl) rfl (by show 2 * 0 + _ ≤ _; exact Nat.le_of_eq rfl) (hb hby at_527) (fun _ _ => ⟨rfl, e310, (by decide : 14 + 0 ≤ _), (by decide : 198 + 0 ≤ _)⟩)
              dsimp only [Pt.U, Pt.locs, Pt.cells, Pt.slots] at X319 l319 y319 z319 st319 hQ319
              subst l319 y319 z319
              obtain ⟨rfl, N319q, e319⟩ := hQ319
              have N319 := Fr.app N310 N319q
              have pre320 : ∀ t, SS p e below m T319 540 #[iv p1, iv p2, iv p3, iv p4, iv db, iv sl, iv spc, iv tc, iv pfx, iv kq, rv b17, rv b36, iv cc, iv ec, iv sv, iv (1 : Int32), iv tv, iv lcv, iv (0 : Int32)] [(.int (1 : Int32))] t → B t := fun t kk => pre318 t (by
                refine st319 _ ?_
                refine XS.iload X319.here hx rfl (hb hby at_530) rfl ?_
                refine XS.icmpNo X319.here hx rfl (hb hby at_532) rfl (teq (by rw [g_tv]; exact (own_final db sl kq cc lcv sv _ hdb hsl hkq hlc hsv0 rfl).trans (by unfold own_E own_R1 own_R2 own_R3; rw [if_neg hc173, if_pos hc272, if_neg hc274, if_pos hc308, if_pos hc312, if_neg hc314]))).2 ?_
                refine XS.iconst X319.here hx rfl (hb hby at_535) ?_
                show SS p e below m T319 536 #[iv p1, iv p2, iv p3, iv p4, iv db, iv sl, iv spc, iv tc, iv pfx, iv kq, rv b17, rv b36, iv cc, iv ec, iv sv, iv (1 : Int32), iv tv, iv lcv, iv (0 : Int32)] [(.int (1 : Int32))] _
                refine XS.goto X319.here hx rfl (pc0 := 536) (pc' := 540) rfl (hb hby at_536) (by decide) (by decide) ?_
                exact kk)
              have CF := C164.trans (CHv.at X319 hZ hEL C164.1)
              obtain ⟨fs, hr, hrun, hended, hRW⟩ := X319.leaveW (s := s) hs164 (by first | exact hk164 | (rw [e319]; exact hk164)) (v := some (.int (1 : Int32))) (fun h => by rw [Bd.returns] at h; cases h)
              refine ⟨_, _, hB _ (pre320 _ ?_), hrun, hended, _, _, rfl, ?_, ?_, ⟨hRW.1, hRW.2.1, hRW.2.2.1, hRW.2.2.2.mono (by decide) (by decide)⟩⟩
              · exact retN X319 hx (t := .boolean) Bd.returns (by simp) (hb hby at_540) hr
              · exact ⟨rfl, N319⟩
              · rw [hh]; show CHr Z consts_1 s.vm h0 T319.vm T319.heap; rw [e319]; exact CF
          · have pre321 : ∀ t, SS p e below m T310 527 #[iv p1, iv p2, iv p3, iv p4, iv db, iv sl, iv spc, iv tc, iv pfx, iv kq, rv b17, rv b36, iv cc, iv ec, iv sv, iv (1 : Int32), iv tv, iv lcv, iv (0 : Int32)] [(.int tv)] t → B t := fun t kk => pre311 t (by
              refine XS.ifNo X310.here hx rfl (hb hby at_495) rfl ((if0 _ _).trans (feq hc312).1) ?_
              refine XS.iconst X310.here hx rfl (hb hby at_498) ?_
              refine XS.istore X310.here hx rfl (hb hby at_499) rfl (l' := #[iv p1, iv p2, iv p3, iv p4, iv db, iv sl, iv spc, iv tc, iv pfx, iv kq, rv b17, rv b36, iv cc, iv ec, iv sv, iv (1 : Int32), iv tv, iv lcv, iv (0 : Int32)]) rfl ?_
              refine XS.goto X310.here hx rfl (pc0 := 501) (pc' := 520) rfl (hb hby at_501) (by decide) (by decide) ?_
              show SS p e below m T310 520 #[iv p1, iv p2, iv p3, iv p4, iv db, iv sl, iv spc, iv tc, iv pfx, iv kq, rv b17, rv b36, iv cc, iv ec, iv sv, iv (1 : Int32), iv tv, iv lcv, iv (0 : Int32)] [] _
              refine XS.iload X310.here hx rfl (hb hby at_520) rfl ?_
              refine XS.ifNo X310.here hx rfl (hb hby at_522) rfl ((if0 _ _).trans (feq (by decide : ¬ ((1 : Int32) = (0 : Int32)))).1) ?_
              refine XS.iload X310.here hx rfl (hb hby at_525) rfl ?_
              exact kk)
            obtain ⟨_, _, ⟨T322, L322, k322, n322⟩, -, X322, ⟨Lc322, hQ322, l322, y322, z322⟩, st322⟩ := Jvm.LawKit.callS X310 hx (y := (⟨"pithline/html/ScriptData", "openTagLength", "(I)I"⟩ : MethodName)) hown (mvT hZ (hw _ (List.mem_of_getElem? (i := 75) rfl))) (mvT hZ (hw _ (List.mem_of_getElem? (i := 76) rfl))) (mvT hZ (hw _ (List.mem_of_getElem? (i := 5) rfl))) (mvT hZ (hw _ (List.mem_of_getElem? (i := 77) rfl))) (by decide) (backOf (W := 0) (rm16 l Z a0 hw [] tv T164.heap n0 Z164 ) hZ (hw _ (List.mem_of_getElem? (i := 77) rfl)) (hw _ (List.mem_of_getElem? (i := 5) rfl)) (by decide) (by decide)) (g := (mkF m 527 #[iv p1, iv p2, iv p3, iv p4, iv db, iv sl, iv spc, iv tc, iv pfx, iv kq, rv b17, rv b36, iv cc, iv ec, iv sv, iv (1 : Int32), iv tv, iv lcv, iv (0 : Int32)] [(.int tv)])) rfl (by rw [hml]; rfl) (argsL := [(.int tv)]) (rest := []) (lenOf pd_7 rfl) rfl (by show 2 * 0 + _ ≤ _; exact Nat.le_of_eq rfl) (hb hby at_527) (fun _ _ => ⟨rfl, e310, (by decide : 14 + 0 ≤ _), (by decide : 198 + 0 ≤ _)⟩)
            dsimp only [Pt.U, Pt.locs, Pt.cells, Pt.slots] at X322 l322 y322 z322 st322 hQ322
            subst l322 y322 z322
            obtain ⟨rfl, N322q, e322⟩ := hQ322
            have N322 := Fr.app N310 N322q
            have pre323 : ∀ t, SS p e below m T322 540 #[iv p1, iv p2, iv p3, iv p4, iv db, iv sl, iv spc, iv tc, iv pfx, iv kq, rv b17, rv b36, iv cc, iv ec, iv sv, iv (1 : Int32), iv tv, iv lcv, iv (0 : Int32)] [(.int (1 : Int32))] t → B t := fun t kk => pre321 t (by
              refine st322 _ ?_
              refine XS.iload X322.here hx rfl (hb hby at_530) rfl ?_
              refine XS.icmpNo X322.here hx rfl (hb hby at_532) rfl (teq (by rw [g_tv]; exact (own_final db sl kq cc lcv sv _ hdb hsl hkq hlc hsv0 rfl).trans (by unfold own_E own_R1 own_R2 own_R3; rw [if_neg hc173, if_pos hc272, if_neg hc274, if_pos hc308, if_neg hc312]))).2 ?_
              refine XS.iconst X322.here hx rfl (hb hby at_535) ?_
              show SS p e below m T322 536 #[iv p1, iv p2, iv p3, iv p4, iv db, iv sl, iv spc, iv tc, iv pfx, iv kq, rv b17, rv b36, iv cc, iv ec, iv sv, iv (1 : Int32), iv tv, iv lcv, iv (0 : Int32)] [(.int (1 : Int32))] _
              refine XS.goto X322.here hx rfl (pc0 := 536) (pc' := 540) rfl (hb hby at_536) (by decide) (by decide) ?_
              exact kk)
            have CF := C164.trans (CHv.at X322 hZ hEL C164.1)
            obtain ⟨fs, hr, hrun, hended, hRW⟩ := X322.leaveW (s := s) hs164 (by first | exact hk164 | (rw [e322]; exact hk164)) (v := some (.int (1 : Int32))) (fun h => by rw [Bd.returns] at h; cases h)
            refine ⟨_, _, hB _ (pre323 _ ?_), hrun, hended, _, _, rfl, ?_, ?_, ⟨hRW.1, hRW.2.1, hRW.2.2.1, hRW.2.2.2.mono (by decide) (by decide)⟩⟩
            · exact retN X322 hx (t := .boolean) Bd.returns (by simp) (hb hby at_540) hr
            · exact ⟨rfl, N322⟩
            · rw [hh]; show CHr Z consts_1 s.vm h0 T322.vm T322.heap; rw [e322]; exact CF
        · have pre324 : ∀ t, SS p e below m T164 508 #[iv p1, iv p2, iv p3, iv p4, iv db, iv sl, iv spc, iv tc, iv pfx, iv kq, rv b17, rv b36, iv cc, iv ec, iv sv, iv (1 : Int32), iv tv, iv lcv, .unset] [(.int (60 : Int32)), (.int cc)] t → B t := fun t kk => pre307 t (by
            refine XS.icmpYes X164.here hx rfl (pc0 := 487) (pc' := 504) rfl (hb hby at_487) rfl (feq hc308).2 (by decide) (by decide) ?_
            refine XS.iload X164.here hx rfl (hb hby at_504) rfl ?_
            refine XS.bipush X164.here hx rfl (hb hby at_506) ?_
            exact kk)
          by_cases hc325 : cc = (60 : Int32)
          · have pre326 : ∀ t, SS p e below m T164 527 #[iv p1, iv p2, iv p3, iv p4, iv db, iv sl, iv spc, iv tc, iv pfx, iv kq, rv b17, rv b36, iv cc, iv ec, iv sv, iv (1 : Int32), iv tv, iv lcv, iv (1 : Int32)] [(.int tv)] t → B t := fun t kk => pre324 t (by
              refine XS.icmpNo X164.here hx rfl (hb hby at_508) rfl (teq hc325).2 ?_
              refine XS.iconst X164.here hx rfl (hb hby at_511) ?_
              refine XS.istore X164.here hx rfl (hb hby at_512) rfl (l' := #[iv p1, iv p2, iv p3, iv p4, iv db, iv sl, iv spc, iv tc, iv pfx, iv kq, rv b17, rv b36, iv cc, iv ec, iv sv, iv (1 : Int32), iv tv, iv lcv, iv (1 : Int32)]) rfl ?_
              refine XS.goto X164.here hx rfl (pc0 := 514) (pc' := 520) rfl (hb hby at_514) (by decide) (by decide) ?_
              show SS p e below m T164 520 #[iv p1, iv p2, iv p3, iv p4, iv db, iv sl, iv spc, iv tc, iv pfx, iv kq, rv b17, rv b36, iv cc, iv ec, iv sv, iv (1 : Int32), iv tv, iv lcv, iv (1 : Int32)] [] _
              refine XS.iload X164.here hx rfl (hb hby at_520) rfl ?_
              refine XS.ifNo X164.here hx rfl (hb hby at_522) rfl ((if0 _ _).trans (feq (by decide : ¬ ((1 : Int32) = (0 : Int32)))).1) ?_
              refine XS.iload X164.here hx rfl (hb hby at_525) rfl ?_
              exact kk)
            obtain ⟨_, _, ⟨T327, L327, k327, n327⟩, -, X327, ⟨Lc327, hQ327, l327, y327, z327⟩, st327⟩ := Jvm.LawKit.callS X164 hx (y := (⟨"pithline/html/ScriptData", "openTagLength", "(I)I"⟩ : MethodName)) hown (mvT hZ (hw _ (List.mem_of_getElem? (i := 75) rfl))) (mvT hZ (hw _ (List.mem_of_getElem? (i := 76) rfl))) (mvT hZ (hw _ (List.mem_of_getElem? (i := 5) rfl))) (mvT hZ (hw _ (List.mem_of_getElem? (i := 77) rfl))) (by decide) (backOf (W := 0) (rm16 l Z a0 hw [] tv T164.heap n0 Z164 ) hZ (hw _ (List.mem_of_getElem? (i := 77) rfl)) (hw _ (List.mem_of_getElem? (i := 5) rfl)) (by decide) (by decide)) (g := (mkF m 527 #[iv p1, iv p2, iv p3, iv p4, iv db, iv sl, iv spc, iv tc, iv pfx, iv kq, rv b17, rv b36, iv cc, iv ec, iv sv, iv (1 : Int32), iv tv, iv lcv, iv (1 : Int32)] [(.int tv)])) rfl (by rw [hml]; rfl) (argsL := [(.int tv)]) (rest := []) (lenOf pd_7 rfl) rfl (by show 2 * 0 + _ ≤ _; exact Nat.le_of_eq rfl) (hb hby at_527) (fun _ _ => ⟨rfl, rfl, (by decide : 14 + 0 ≤ _), (by decide : 198 + 0 ≤ _)⟩)
            dsimp only [Pt.U, Pt.locs, Pt.cells, Pt.slots] at X327 l327 y327 z327 st327 hQ327
            subst l327 y327 z327
            obtain ⟨rfl, N327q, e327⟩ := hQ327
            have N327 := Fr.app N164 N327q
            have pre328 : ∀ t, SS p e below m T327 540 #[iv p1, iv p2, iv p3, iv p4, iv db, iv sl, iv spc, iv tc, iv pfx, iv kq, rv b17, rv b36, iv cc, iv ec, iv sv, iv (1 : Int32), iv tv, iv lcv, iv (1 : Int32)] [(.int (1 : Int32))] t → B t := fun t kk => pre326 t (by
              refine st327 _ ?_
              refine XS.iload X327.here hx rfl (hb hby at_530) rfl ?_
              refine XS.icmpNo X327.here hx rfl (hb hby at_532) rfl (teq (by rw [g_tv]; exact (own_final db sl kq cc lcv sv _ hdb hsl hkq hlc hsv0 rfl).trans (by unfold own_E own_R1 own_R2 own_R3; rw [if_neg hc173, if_pos hc272, if_neg hc274, if_neg hc308, if_pos hc325]))).2 ?_
              refine XS.iconst X327.here hx rfl (hb hby at_535) ?_
              show SS p e below m T327 536 #[iv p1, iv p2, iv p3, iv p4, iv db, iv sl, iv spc, iv tc, iv pfx, iv kq, rv b17, rv b36, iv cc, iv ec, iv sv, iv (1 : Int32), iv tv, iv lcv, iv (1 : Int32)] [(.int (1 : Int32))] _
              refine XS.goto X327.here hx rfl (pc0 := 536) (pc' := 540) rfl (hb hby at_536) (by decide) (by decide) ?_
              exact kk)
            have CF := C164.trans (CHv.at X327 hZ hEL C164.1)
            obtain ⟨fs, hr, hrun, hended, hRW⟩ := X327.leaveW (s := s) hs164 (by first | exact hk164 | (rw [e327]; exact hk164)) (v := some (.int (1 : Int32))) (fun h => by rw [Bd.returns] at h; cases h)
            refine ⟨_, _, hB _ (pre328 _ ?_), hrun, hended, _, _, rfl, ?_, ?_, ⟨hRW.1, hRW.2.1, hRW.2.2.1, hRW.2.2.2.mono (by decide) (by decide)⟩⟩
            · exact retN X327 hx (t := .boolean) Bd.returns (by simp) (hb hby at_540) hr
            · exact ⟨rfl, N327⟩
            · rw [hh]; show CHr Z consts_1 s.vm h0 T327.vm T327.heap; rw [e327]; exact CF
          · have pre329 : ∀ t, SS p e below m T164 527 #[iv p1, iv p2, iv p3, iv p4, iv db, iv sl, iv spc, iv tc, iv pfx, iv kq, rv b17, rv b36, iv cc, iv ec, iv sv, iv (1 : Int32), iv tv, iv lcv, iv (0 : Int32)] [(.int tv)] t → B t := fun t kk => pre324 t (by
              refine XS.icmpYes X164.here hx rfl (pc0 := 508) (pc' := 517) rfl (hb hby at_508) rfl (feq hc325).2 (by decide) (by decide) ?_
              refine XS.iconst X164.here hx rfl (hb hby at_517) ?_
              refine XS.istore X164.here hx rfl (hb hby at_518) rfl (l' := #[iv p1, iv p2, iv p3, iv p4, iv db, iv sl, iv spc, iv tc, iv pfx, iv kq, rv b17, rv b36, iv cc, iv ec, iv sv, iv (1 : Int32), iv tv, iv lcv, iv (0 : Int32)]) rfl ?_
              refine XS.iload X164.here hx rfl (hb hby at_520) rfl ?_
              show SS p e below m T164 522 #[iv p1, iv p2, iv p3, iv p4, iv db, iv sl, iv spc, iv tc, iv pfx, iv kq, rv b17, rv b36, iv cc, iv ec, iv sv, iv (1 : Int32), iv tv, iv lcv, iv (0 : Int32)] [(.int (1 : Int32))] _
              refine XS.ifNo X164.here hx rfl (hb hby at_522) rfl ((if0 _ _).trans (feq (by decide : ¬ ((1 : Int32) = (0 : Int32)))).1) ?_
              refine XS.iload X164.here hx rfl (hb hby at_525) rfl ?_
              exact kk)
            obtain ⟨_, _, ⟨T330, L330, k330, n330⟩, -, X330, ⟨Lc330, hQ330, l330, y330, z330⟩, st330⟩ := Jvm.LawKit.callS X164 hx (y := (⟨"pithline/html/ScriptData", "openTagLength", "(I)I"⟩ : MethodName)) hown (mvT hZ (hw _ (List.mem_of_getElem? (i := 75) rfl))) (mvT hZ (hw _ (List.mem_of_getElem? (i := 76) rfl))) (mvT hZ (hw _ (List.mem_of_getElem? (i := 5) rfl))) (mvT hZ (hw _ (List.mem_of_getElem? (i := 77) rfl))) (by decide) (backOf (W := 0) (rm16 l Z a0 hw [] tv T164.heap n0 Z164 ) hZ (hw _ (List.mem_of_getElem? (i := 77) rfl)) (hw _ (List.mem_of_getElem? (i := 5) rfl)) (by decide) (by decide)) (g := (mkF m 527 #[iv p1, iv p2, iv p3, iv p4, iv db, iv sl, iv spc, iv tc, iv pfx, iv kq, rv b17, rv b36, iv cc, iv ec, iv sv, iv (1 : Int32), iv tv, iv lcv, iv (0 : Int32)] [(.int tv)])) rfl (by rw [hml]; rfl) (argsL := [(.int tv)]) (rest := []) (lenOf pd_7 rfl) rfl (by show 2 * 0 + _ ≤ _; exact Nat.le_of_eq rfl) (hb hby at_527) (fun _ _ => ⟨rfl, rfl, (by decide : 14 + 0 ≤ _), (by decide : 198 + 0 ≤ _)⟩)
            dsimp only [Pt.U, Pt.locs, Pt.cells, Pt.slots] at X330 l330 y330 z330 st330 hQ330
            subst l330 y330 z330
            obtain ⟨rfl, N330q, e330⟩ := hQ330
            have N330 := Fr.app N164 N330q
            have pre331 : ∀ t, SS p e below m T330 540 #[iv p1, iv p2, iv p3, iv p4, iv db, iv sl, iv spc, iv tc, iv pfx, iv kq, rv b17, rv b36, iv cc, iv ec, iv sv, iv (1 : Int32), iv tv, iv lcv, iv (0 : Int32)] [(.int (1 : Int32))] t → B t := fun t kk => pre329 t (by
              refine st330 _ ?_
              refine XS.iload X330.here hx rfl (hb hby at_530) rfl ?_
              refine XS.icmpNo X330.here hx rfl (hb hby at_532) rfl (teq (by rw [g_tv]; exact (own_final db sl kq cc lcv sv _ hdb hsl hkq hlc hsv0 rfl).trans (by unfold own_E own_R1 own_R2 own_R3; rw [if_neg hc173, if_pos hc272, if_neg hc274, if_neg hc308, if_neg hc325]))).2 ?_
              refine XS.iconst X330.here hx rfl (hb hby at_535) ?_
              show SS p e below m T330 536 #[iv p1, iv p2, iv p3, iv p4, iv db, iv sl, iv spc, iv tc, iv pfx, iv kq, rv b17, rv b36, iv cc, iv ec, iv sv, iv (1 : Int32), iv tv, iv lcv, iv (0 : Int32)] [(.int (1 : Int32))] _
              refine XS.goto X330.here hx rfl (pc0 := 536) (pc' := 540) rfl (hb hby at_536) (by decide) (by decide) ?_
              exact kk)
            have CF := C164.trans (CHv.at X330 hZ hEL C164.1)
            obtain ⟨fs, hr, hrun, hended, hRW⟩ := X330.leaveW (s := s) hs164 (by first | exact hk164 | (rw [e330]; exact hk164)) (v := some (.int (1 : Int32))) (fun h => by rw [Bd.returns] at h; cases h)
            refine ⟨_, _, hB _ (pre331 _ ?_), hrun, hended, _, _, rfl, ?_, ?_, ⟨hRW.1, hRW.2.1, hRW.2.2.1, hRW.2.2.2.mono (by decide) (by decide)⟩⟩
            · exact retN X330 hx (t := .boolean) Bd.returns (by simp) (hb hby at_540) hr
            · exact ⟨rfl, N330⟩
            · rw [hh]; show CHr Z consts_1 s.vm h0 T330.vm T330.heap; rw [e330]; exact CF
    · have pre332 : ∀ t, SS p e below m T164 487 #[iv p1, iv p2, iv p3, iv p4, iv db, iv sl, iv spc, iv tc, iv pfx, iv kq, rv b17, rv b36, iv cc, iv ec, iv sv, iv (1 : Int32), iv tv, iv lcv, .unset] [(.int (6 : Int32)), (.int kq)] t → B t := fun t kk => pre271 t (by
        refine XS.ifYes X164.here hx rfl (pc0 := 456) (pc' := 483) rfl (hb hby at_456) rfl ((if0 _ _).trans (feq hc272).2) (by decide) (by decide) ?_
        refine XS.iload X164.here hx rfl (hb hby at_483) rfl ?_
        refine XS.bipush X164.here hx rfl (hb hby at_485) ?_
        exact kk)
      by_cases hc333 : kq = (6 : Int32)
      · have pre334 : ∀ t, SS p e below m T164 492 #[iv p1, iv p2, iv p3, iv p4, iv db, iv sl, iv spc, iv tc, iv pfx, iv kq, rv b17, rv b36, iv cc, iv ec, iv sv, iv (1 : Int32), iv tv, iv lcv, .unset] [(.int cc)] t → B t := fun t kk => pre332 t (by
          refine XS.icmpNo X164.here hx rfl (hb hby at_487) rfl (teq hc333).2 ?_
          refine XS.iload X164.here hx rfl (hb hby at_490) rfl ?_
          exact kk)
        obtain ⟨_, _, ⟨T335, L335, k335, n335⟩, -, X335, ⟨Lc335, hQ335, l335, y335, z335⟩, st335⟩ := Jvm.LawKit.callS X164 hx (y := (⟨"pithline/html/ScriptDataOpenTagLengthPinLaw", "isNameEnd", "(I)Z"⟩ : MethodName)) hown (mvT hZ (hw _ (List.mem_of_getElem? (i := 94) rfl))) (mvT hZ (hw _ (List.mem_of_getElem? (i := 95) rfl))) (mvT hZ (hw _ (List.mem_of_getElem? (i := 12) rfl))) (mvT hZ (hw _ (List.mem_of_getElem? (i := 96) rfl))) (by decide) (backOf (W := 0) (rm22 l Z a0 hw [] cc T164.heap n0 Z164 ) hZ (hw _ (List.mem_of_getElem? (i := 96) rfl)) (hw _ (List.mem_of_getElem? (i := 12) rfl)) (by decide) (by decide)) (g := (mkF m 492 #[iv p1, iv p2, iv p3, iv p4, iv db, iv sl, iv spc, iv tc, iv pfx, iv kq, rv b17, rv b36, iv cc, iv ec, iv sv, iv (1 : Int32), iv tv, iv lcv, .unset] [(.int cc)])) rfl (by rw [hml]; rfl) (argsL := [(.int cc)]) (rest := []) (lenOf pd_5 rfl) rfl (by show 2 * 0 + _ ≤ _; exact Nat.le_of_eq rfl) (hb hby at_492) (fun _ _ => ⟨rfl, rfl, (by decide : 14 + 0 ≤ _), (by decide : 198 + 0 ≤ _)⟩)
        dsimp only [Pt.U, Pt.locs, Pt.cells, Pt.slots] at X335 l335 y335 z335 st335 hQ335
        subst l335 y335 z335
        obtain ⟨rfl, N335q, e335⟩ := hQ335
        have N335 := Fr.app N164 N335q
        have pre336 : ∀ t, SS p e below m T335 495 #[iv p1, iv p2, iv p3, iv p4, iv db, iv sl, iv spc, iv tc, iv pfx, iv kq, rv b17, rv b36, iv cc, iv ec, iv sv, iv (1 : Int32), iv tv, iv lcv, .unset] [(.int (f22 cc))] t → B t := fun t kk => pre334 t (by
          refine st335 _ ?_
          exact kk)
        by_cases hc337 : (f22 cc) = (0 : Int32)
        · have pre338 : ∀ t, SS p e below m T335 508 #[iv p1, iv p2, iv p3, iv p4, iv db, iv sl, iv spc, iv tc, iv pfx, iv kq, rv b17, rv b36, iv cc, iv ec, iv sv, iv (1 : Int32), iv tv, iv lcv, .unset] [(.int (60 : Int32)), (.int cc)] t → B t := fun t kk => pre336 t (by
            refine XS.ifYes X335.here hx rfl (pc0 := 495) (pc' := 504) rfl (hb hby at_495) rfl ((if0 _ _).trans (teq hc337).1) (by decide) (by decide) ?_
            refine XS.iload X335.here hx rfl (hb hby at_504) rfl ?_
            refine XS.bipush X335.here hx rfl (hb hby at_506) ?_
            exact kk)
          by_cases hc339 : cc = (60 : Int32)
          · have pre340 : ∀ t, SS p e below m T335 527 #[iv p1, iv p2, iv p3, iv p4, iv db, iv sl, iv spc, iv tc, iv pfx, iv kq, rv b17, rv b36, iv cc, iv ec, iv sv, iv (1 : Int32), iv tv, iv lcv, iv (1 : Int32)] [(.int tv)] t → B t := fun t kk => pre338 t (by
              refine XS.icmpNo X335.here hx rfl (hb hby at_508) rfl (teq hc339).2 ?_
              refine XS.iconst X335.here hx rfl (hb hby at_511) ?_
              refine XS.istore X335.here hx rfl (hb hby at_512) rfl (l' := #[iv p1, iv p2, iv p3, iv p4, iv db, iv sl, iv spc, iv tc, iv pfx, iv kq, rv b17, rv b36, iv cc, iv ec, iv sv, iv (1 : Int32), iv tv, iv lcv, iv (1 : Int32)]) rfl ?_
              refine XS.goto X335.here hx rfl (pc0 := 514) (pc' := 520) rfl (hb hby at_514) (by decide) (by decide) ?_
              show SS p e below m T335 520 #[iv p1, iv p2, iv p3, iv p4, iv db, iv sl, iv spc, iv tc, iv pfx, iv kq, rv b17, rv b36, iv cc, iv ec, iv sv, iv (1 : Int32), iv tv, iv lcv, iv (1 : Int32)] [] _
              refine XS.iload X335.here hx rfl (hb hby at_520) rfl ?_
              refine XS.ifNo X335.here hx rfl (hb hby at_522) rfl ((if0 _ _).trans (feq (by decide : ¬ ((1 : Int32) = (0 : Int32)))).1) ?_
              refine XS.iload X335.here hx rfl (hb hby at_525) rfl ?_
              exact kk)
            obtain ⟨_, _, ⟨T341, L341, k341, n341⟩, -, X341, ⟨Lc341, hQ341, l341, y341, z341⟩, st341⟩ := Jvm.LawKit.callS X335 hx (y := (⟨"pithline/html/ScriptData", "openTagLength", "(I)I"⟩ : MethodName)) hown (mvT hZ (hw _ (List.mem_of_getElem? (i := 75) rfl))) (mvT hZ (hw _ (List.mem_of_getElem? (i := 76) rfl))) (mvT hZ (hw _ (List.mem_of_getElem? (i := 5) rfl))) (mvT hZ (hw _ (List.mem_of_getElem? (i := 77) rfl))) (by decide) (backOf (W := 0) (rm16 l Z a0 hw [] tv T164.heap n0 Z164 ) hZ (hw _ (List.mem_of_getElem? (i := 77) rfl)) (hw _ (List.mem_of_getElem? (i := 5) rfl)) (by decide) (by decide)) (g := (mkF m 527 #[iv p1, iv p2, iv p3, iv p4, iv db, iv sl, iv spc, iv tc, iv pfx, iv kq, rv b17, rv b36, iv cc, iv ec, iv sv, iv (1 : Int32), iv tv, iv lcv, iv (1 : Int32)] [(.int tv)])) rfl (by rw [hml]; rfl) (argsL := [(.int tv)]) (rest := []) (lenOf pd_7 rfl) rfl (by show 2 * 0 + _ ≤ _; exact Nat.le_of_eq rfl) (hb hby at_527) (fun _ _ => ⟨rfl, e335, (by decide : 14 + 0 ≤ _), (by decide : 198 + 0 ≤ _)⟩)
            dsimp only [Pt.U, Pt.locs, Pt.cells, Pt.slots] at X341 l341 y341 z341 st341 hQ341
            subst l341 y341 z341
            obtain ⟨rfl, N341q, e341⟩ := hQ341
            have N341 := Fr.app N335 N341q
            have pre342 : ∀ t, SS p e below m T341 540 #[iv p1, iv p2, iv p3, iv p4, iv db, iv sl, iv spc, iv tc, iv pfx, iv kq, rv b17, rv b36, iv cc, iv ec, iv sv, iv (1 : Int32), iv tv, iv lcv, iv (1 : Int32)] [(.int (1 : Int32))] t → B t := fun t kk => pre340 t (by
              refine st341 _ ?_
              refine XS.iload X341.here hx rfl (hb hby at_530) rfl ?_
              refine XS.icmpNo X341.here hx rfl (hb hby at_532) rfl (teq (by rw [g_tv]; exact (own_final db sl kq cc lcv sv _ hdb hsl hkq hlc hsv0 rfl).trans (by unfold own_E own_R1 own_R2 own_R3; rw [if_neg hc173, if_neg hc272, if_pos hc333, if_pos hc337, if_pos hc339]))).2 ?_
              refine XS.iconst X341.here hx rfl (hb hby at_535) ?_
              show SS p e below m T341 536 #[iv p1, iv p2, iv p3, iv p4, iv db, iv sl, iv spc, iv tc, iv pfx, iv kq, rv b17, rv b36, iv cc, iv ec, iv sv, iv (1 : Int32), iv tv, iv lcv, iv (1 : Int32)] [(.int (1 : Int32))] _
              refine XS.goto X341.here hx rfl (pc0 := 536) (pc' := 540) rfl (hb hby at_536) (by decide) (by decide) ?_
              exact kk)
            have CF := C164.trans (CHv.at X341 hZ hEL C164.1)
            obtain ⟨fs, hr, hrun, hended, hRW⟩ := X341.leaveW (s := s) hs164 (by first | exact hk164 | (rw [e341]; exact hk164)) (v := some (.int (1 : Int32))) (fun h => by rw [Bd.returns] at h; cases h)
            refine ⟨_, _, hB _ (pre342 _ ?_), hrun, hended, _, _, rfl, ?_, ?_, ⟨hRW.1, hRW.2.1, hRW.2.2.1, hRW.2.2.2.mono (by decide) (by decide)⟩⟩
            · exact retN X341 hx (t := .boolean) Bd.returns (by simp) (hb hby at_540) hr
            · exact ⟨rfl, N341⟩
            · rw [hh]; show CHr Z consts_1 s.vm h0 T341.vm T341.heap; rw [e341]; exact CF
          · have pre343 : ∀ t, SS p e below m T335 527 #[iv p1, iv p2, iv p3, iv p4, iv db, iv sl, iv spc, iv tc, iv pfx, iv kq, rv b17, rv b36, iv cc, iv ec, iv sv, iv (1 : Int32), iv tv, iv lcv, iv (0 : Int32)] [(.int tv)] t → B t := fun t kk => pre338 t (by
              refine XS.icmpYes X335.here hx rfl (pc0 := 508) (pc' := 517) rfl (hb hby at_508) rfl (feq hc339).2 (by decide) (by decide) ?_
              refine XS.iconst X335.here hx rfl (hb hby at_517) ?_
              refine XS.istore X335.here hx rfl (hb hby at_518) rfl (l' := #[iv p1, iv p2, iv p3, iv p4, iv db, iv sl, iv spc, iv tc, iv pfx, iv kq, rv b17, rv b36, iv cc, iv ec, iv sv, iv (1 : Int32), iv tv, iv lcv, iv (0 : Int32)]) rfl ?_
              refine XS.iload X335.here hx rfl (hb hby at_520) rfl ?_
              show SS p e below m T335 522 #[iv p1, iv p2, iv p3, iv p4, iv db, iv sl, iv spc, iv tc, iv pfx, iv kq, rv b17, rv b36, iv cc, iv ec, iv sv, iv (1 : Int32), iv tv, iv lcv, iv (0 : Int32)] [(.int (1 : Int32))] _
              refine XS.ifNo X335.here hx rfl (hb hby at_522) rfl ((if0 _ _).trans (feq (by decide : ¬ ((1 : Int32) = (0 : Int32)))).1) ?_
              refine XS.iload X335.here hx rfl (hb hby at_525) rfl ?_
              exact kk)
            obtain ⟨_, _, ⟨T344, L344, k344, n344⟩, -, X344, ⟨Lc344, hQ344, l344, y344, z344⟩, st344⟩ := Jvm.LawKit.callS X335 hx (y := (⟨"pithline/html/ScriptData", "openTagLength", "(I)I"⟩ : MethodName)) hown (mvT hZ (hw _ (List.mem_of_getElem? (i := 75) rfl))) (mvT hZ (hw _ (List.mem_of_getElem? (i := 76) rfl))) (mvT hZ (hw _ (List.mem_of_getElem? (i := 5) rfl))) (mvT hZ (hw _ (List.mem_of_getElem? (i := 77) rfl))) (by decide) (backOf (W := 0) (rm16 l Z a0 hw [] tv T164.heap n0 Z164 ) hZ (hw _ (List.mem_of_getElem? (i := 77) rfl)) (hw _ (List.mem_of_getElem? (i := 5) rfl)) (by decide) (by decide)) (g := (mkF m 527 #[iv p1, iv p2, iv p3, iv p4, iv db, iv sl, iv spc, iv tc, iv pfx, iv kq, rv b17, rv b36, iv cc, iv ec, iv sv, iv (1 : Int32), iv tv, iv lcv, iv (0 : Int32)] [(.int tv)])) rfl (by rw [hml]; rfl) (argsL := [(.int tv)]) (rest := []) (lenOf pd_7 rfl) rfl (by show 2 * 0 + _ ≤ _; exact Nat.le_of_eq rfl) (hb hby at_527) (fun _ _ => ⟨rfl, e335, (by decide : 14 + 0 ≤ _), (by decide : 198 + 0 ≤ _)⟩)
            dsimp only [Pt.U, Pt.locs, Pt.cells, Pt.slots] at X344 l344 y344 z344 st344 hQ344
            subst l344 y344 z344
            obtain ⟨rfl, N344q, e344⟩ := hQ344
            have N344 := Fr.app N335 N344q
            have pre345 : ∀ t, SS p e below m T344 540 #[iv p1, iv p2, iv p3, iv p4, iv db, iv sl, iv spc, iv tc, iv pfx, iv kq, rv b17, rv b36, iv cc, iv ec, iv sv, iv (1 : Int32), iv tv, iv lcv, iv (0 : Int32)] [(.int (1 : Int32))] t → B t := fun t kk => pre343 t (by
              refine st344 _ ?_
              refine XS.iload X344.here hx rfl (hb hby at_530) rfl ?_
              refine XS.icmpNo X344.here hx rfl (hb hby at_532) rfl (teq (by rw [g_tv]; exact (own_final db sl kq cc lcv sv _ hdb hsl hkq hlc hsv0 rfl).trans (by unfold own_E own_R1 own_R2 own_R3; rw [if_neg hc173, if_neg hc272, if_pos hc333, if_pos hc337, if_neg hc339]))).2 ?_
              refine XS.iconst X344.here hx rfl (hb hby at_535) ?_
              show SS p e below m T344 536 #[iv p1, iv p2, iv p3, iv p4, iv db, iv sl, iv spc, iv tc, iv pfx, iv kq, rv b17, rv b36, iv cc, iv ec, iv sv, iv (1 : Int32), iv tv, iv lcv, iv (0 : Int32)] [(.int (1 : Int32))] _
              refine XS.goto X344.here hx rfl (pc0 := 536) (pc' := 540) rfl (hb hby at_536) (by decide) (by decide) ?_
              exact kk)
            have CF := C164.trans (CHv.at X344 hZ hEL C164.1)
            obtain ⟨fs, hr, hrun, hended, hRW⟩ := X344.leaveW (s := s) hs164 (by first | exact hk164 | (rw [e344]; exact hk164)) (v := some (.int (1 : Int32))) (fun h => by rw [Bd.returns] at h; cases h)
            refine ⟨_, _, hB _ (pre345 _ ?_), hrun, hended, _, _, rfl, ?_, ?_, ⟨hRW.1, hRW.2.1, hRW.2.2.1, hRW.2.2.2.mono (by decide) (by decide)⟩⟩
            · exact retN X344 hx (t := .boolean) Bd.returns (by simp) (hb hby at_540) hr
            · exact ⟨rfl, N344⟩
            · rw [hh]; show CHr Z consts_1 s.vm h0 T344.vm T344.heap; rw [e344]; exact CF
        · have pre346 : ∀ t, SS p e below m T335 527 #[iv p1, iv p2, iv p3, iv p4, iv db, iv sl, iv spc, iv tc, iv pfx, iv kq, rv b17, rv b36, iv cc, iv ec, iv sv, iv (1 : Int32), iv tv, iv lcv, iv (0 : Int32)] [(.int tv)] t → B t := fun t kk => pre336 t (by
            refine XS.ifNo X335.here hx rfl (hb hby at_495) rfl ((if0 _ _).trans (feq hc337).1) ?_
            refine XS.iconst X335.here hx rfl (hb hby at_498) ?_
            refine XS.istore X335.here hx rfl (hb hby at_499) rfl (l' := #[iv p1, iv p2, iv p3, iv p4, iv db, iv sl, iv spc, iv tc, iv pfx, iv kq, rv b17, rv b36, iv cc, iv ec, iv sv, iv (1 : Int32), iv tv, iv lcv, iv (0 : Int32)]) rfl ?_
            refine XS.goto X335.here hx rfl (pc0 := 501) (pc' := 520) rfl (hb hby at_501) (by decide) (by decide) ?_
            show SS p e below m T335 520 #[iv p1, iv p2, iv p3, iv p4, iv db, iv sl, iv spc, iv tc, iv pfx, iv kq, rv b17, rv b36, iv cc, iv ec, iv sv, iv (1 : Int32), iv tv, iv lcv, iv (0 : Int32)] [] _
            refine XS.iload X335.here hx rfl (hb hby at_520) rfl ?_
            refine XS.ifNo X335.here hx rfl (hb hby at_522) rfl ((if0 _ _).trans (feq (by decide : ¬ ((1 : Int32) = (0 : Int32)))).1) ?_
            refine XS.iload X335.here hx rfl (hb hby at_525) rfl ?_
            exact kk)
          obtain ⟨_, _, ⟨T347, L347, k347, n347⟩, -, X347, ⟨Lc347, hQ347, l347, y347, z347⟩, st347⟩ := Jvm.LawKit.callS X335 hx (y := (⟨"pithline/html/ScriptData", "openTagLength", "(I)I"⟩ : MethodName)) hown (mvT hZ (hw _ (List.mem_of_getElem? (i := 75) rfl))) (mvT hZ (hw _ (List.mem_of_getElem? (i := 76) rfl))) (mvT hZ (hw _ (List.mem_of_getElem? (i := 5) rfl))) (mvT hZ (hw _ (List.mem_of_getElem? (i := 77) rfl))) (by decide) (backOf (W := 0) (rm16 l Z a0 hw [] tv T164.heap n0 Z164 ) hZ (hw _ (List.mem_of_getElem? (i := 77) rfl)) (hw _ (List.mem_of_getElem? (i := 5) rfl)) (by decide) (by decide)) (g := (mkF m 527 #[iv p1, iv p2, iv p3, iv p4, iv db, iv sl, iv spc, iv tc, iv pfx, iv kq, rv b17, rv b36, iv cc, iv ec, iv sv, iv (1 : Int32), iv tv, iv lcv, iv (0 : Int32)] [(.int tv)])) rfl (by rw [hml]; rfl) (argsL := [(.int tv)]) (rest := []) (lenOf pd_7 rfl) rfl (by show 2 * 0 + _ ≤ _; exact Nat.le_of_eq rfl) (hb hby at_527) (fun _ _ => ⟨rfl, e335, (by decide : 14 + 0 ≤ _), (by decide : 198 + 0 ≤ _)⟩)
          dsimp only [Pt.U, Pt.locs, Pt.cells, Pt.slots] at X347 l347 y347 z347 st347 hQ347
          subst l347 y347 z347
          obtain ⟨rfl, N347q, e347⟩ := hQ347
          have N347 := Fr.app N335 N347q
          have pre348 : ∀ t, SS p e below m T347 540 #[iv p1, iv p2, iv p3, iv p4, iv db, iv sl, iv spc, iv tc, iv pfx, iv kq, rv b17, rv b36, iv cc, iv ec, iv sv, iv (1 : Int32), iv tv, iv lcv, iv (0 : Int32)] [(.int (1 : Int32))] t → B t := fun t kk => pre346 t (by
            refine st347 _ ?_
            refine XS.iload X347.here hx rfl (hb hby at_530) rfl ?_
            refine XS.icmpNo X347.here hx rfl (hb hby at_532) rfl (teq (by rw [g_tv]; exact (own_final db sl kq cc lcv sv _ hdb hsl hkq hlc hsv0 rfl).trans (by unfold own_E own_R1 own_R2 own_R3; rw [if_neg hc173, if_neg hc272, if_pos hc333, if_neg hc337]))).2 ?_
            refine XS.iconst X347.here hx rfl (hb hby at_535) ?_
            show SS p e below m T347 536 #[iv p1, iv p2, iv p3, iv p4, iv db, iv sl, iv spc, iv tc, iv pfx, iv kq, rv b17, rv b36, iv cc, iv ec, iv sv, iv (1 : Int32), iv tv, iv lcv, iv (0 : Int32)] [(.int (1 : Int32))] _
            refine XS.goto X347.here hx rfl (pc0 := 536) (pc' := 540) rfl (hb hby at_536) (by decide) (by decide) ?_
            exact kk)
          have CF := C164.trans (CHv.at X347 hZ hEL C164.1)
          obtain ⟨fs, hr, hrun, hended, hRW⟩ := X347.leaveW (s := s) hs164 (by first | exact hk164 | (rw [e347]; exact hk164)) (v := some (.int (1 : Int32))) (fun h => by rw [Bd.returns] at h; cases h)
          refine ⟨_, _, hB _ (pre348 _ ?_), hrun, hended, _, _, rfl, ?_, ?_, ⟨hRW.1, hRW.2.1, hRW.2.2.1, hRW.2.2.2.mono (by decide) (by decide)⟩⟩
          · exact retN X347 hx (t := .boolean) Bd.returns (by simp) (hb hby at_540) hr
          · exact ⟨rfl, N347⟩
          · rw [hh]; show CHr Z consts_1 s.vm h0 T347.vm T347.heap; rw [e347]; exact CF
      · have pre349 : ∀ t, SS p e below m T164 508 #[iv p1, iv p2, iv p3, iv p4, iv db, iv sl, iv spc, iv tc, iv pfx, iv kq, rv b17, rv b36, iv cc, iv ec, iv sv, iv (1 : Int32), iv tv, iv lcv, .unset] [(.int (60 : Int32)), (.int cc)] t → B t := fun t kk => pre332 t (by
          refine XS.icmpYes X164.here hx rfl (pc0 := 487) (pc' := 504) rfl (hb hby at_487) rfl (feq hc333).2 (by decide) (by decide) ?_
          refine XS.iload X164.here hx rfl (hb hby at_504) rfl ?_
          refine XS.bipush X164.here hx rfl (hb hby at_506) ?_
          exact kk)
        by_cases hc350 : cc = (60 : Int32)
        · have pre351 : ∀ t, SS p e below m T164 527 #[iv p1, iv p2, iv p3, iv p4, iv db, iv sl, iv spc, iv tc, iv pfx, iv kq, rv b17, rv b36, iv cc, iv ec, iv sv, iv (1 : Int32), iv tv, iv lcv, iv (1 : Int32)] [(.int tv)] t → B t := fun t kk => pre349 t (by
            refine XS.icmpNo X164.here hx rfl (hb hby at_508) rfl (teq hc350).2 ?_
            refine XS.iconst X164.here hx rfl (hb hby at_511) ?_
            refine XS.istore X164.here hx rfl (hb hby at_512) rfl (l' := #[iv p1, iv p2, iv p3, iv p4, iv db, iv sl, iv spc, iv tc, iv pfx, iv kq, rv b17, rv b36, iv cc, iv ec, iv sv, iv (1 : Int32), iv tv, iv lcv, iv (1 : Int32)]) rfl ?_
            refine XS.goto X164.here hx rfl (pc0 := 514) (pc' := 520) rfl (hb hby at_514) (by decide) (by decide) ?_
            show SS p e below m T164 520 #[iv p1, iv p2, iv p3, iv p4, iv db, iv sl, iv spc, iv tc, iv pfx, iv kq, rv b17, rv b36, iv cc, iv ec, iv sv, iv (1 : Int32), iv tv, iv lcv, iv (1 : Int32)] [] _
            refine XS.iload X164.here hx rfl (hb hby at_520) rfl ?_
            refine XS.ifNo X164.here hx rfl (hb hby at_522) rfl ((if0 _ _).trans (feq (by decide : ¬ ((1 : Int32) = (0 : Int32)))).1) ?_
            refine XS.iload X164.here hx rfl (hb hby at_525) rfl ?_
            exact kk)
          obtain ⟨_, _, ⟨T352, L352, k352, n352⟩, -, X352, ⟨Lc352, hQ352, l352, y352, z352⟩, st352⟩ := Jvm.LawKit.callS X164 hx (y := (⟨"pithline/html/ScriptData", "openTagLength", "(I)I"⟩ : MethodName)) hown (mvT hZ (hw _ (List.mem_of_getElem? (i := 75) rfl))) (mvT hZ (hw _ (List.mem_of_getElem? (i := 76) rfl))) (mvT hZ (hw _ (List.mem_of_getElem? (i := 5) rfl))) (mvT hZ (hw _ (List.mem_of_getElem? (i := 77) rfl))) (by decide) (backOf (W := 0) (rm16 l Z a0 hw [] tv T164.heap n0 Z164 ) hZ (hw _ (List.mem_of_getElem? (i := 77) rfl)) (hw _ (List.mem_of_getElem? (i := 5) rfl)) (by decide) (by decide)) (g := (mkF m 527 #[iv p1, iv p2, iv p3, iv p4, iv db, iv sl, iv spc, iv tc, iv pfx, iv kq, rv b17, rv b36, iv cc, iv ec, iv sv, iv (1 : Int32), iv tv, iv lcv, iv (1 : Int32)] [(.int tv)])) rfl (by rw [hml]; rfl) (argsL := [(.int tv)]) (rest := []) (lenOf pd_7 rfl) rfl (by show 2 * 0 + _ ≤ _; exact Nat.le_of_eq rfl) (hb hby at_527) (fun _ _ => ⟨rfl, rfl, (by decide : 14 + 0 ≤ _), (by decide : 198 + 0 ≤ _)⟩)
          dsimp only [Pt.U, Pt.locs, Pt.cells, Pt.slots] at X352 l352 y352 z352 st352 hQ352
          subst l352 y352 z352
          obtain ⟨rfl, N352q, e352⟩ := hQ352
          have N352 := Fr.app N164 N352q
          have pre353 : ∀ t, SS p e below m T352 540 #[iv p1, iv p2, iv p3, iv p4, iv db, iv sl, iv spc, iv tc, iv pfx, iv kq, rv b17, rv b36, iv cc, iv ec, iv sv, iv (1 : Int32), iv tv, iv lcv, iv (1 : Int32)] [(.int (1 : Int32))] t → B t := fun t kk => pre351 t (by
            refine st352 _ ?_
            refine XS.iload X352.here hx rfl (hb hby at_530) rfl ?_
            refine XS.icmpNo X352.here hx rfl (hb hby at_532) rfl (teq (by rw [g_tv]; exact (own_final db sl kq cc lcv sv _ hdb hsl hkq hlc hsv0 rfl).trans (by unfold own_E own_R1 own_R2 own_R3; rw [if_neg hc173, if_neg hc272, if_neg hc333, if_pos hc350]))).2 ?_
            refine XS.iconst X352.here hx rfl (hb hby at_535) ?_
            show SS p e below m T352 536 #[iv p1, iv p2, iv p3, iv p4, iv db, iv sl, iv spc, iv tc, iv pfx, iv kq, rv b17, rv b36, iv cc, iv ec, iv sv, iv (1 : Int32), iv tv, iv lcv, iv (1 : Int32)] [(.int (1 : Int32))] _
            refine XS.goto X352.here hx rfl (pc0 := 536) (pc' := 540) rfl (hb hby at_536) (by decide) (by decide) ?_
            exact kk)
          have CF := C164.trans (CHv.at X352 hZ hEL C164.1)
          obtain ⟨fs, hr, hrun, hended, hRW⟩ := X352.leaveW (s := s) hs164 (by first | exact hk164 | (rw [e352]; exact hk164)) (v := some (.int (1 : Int32))) (fun h => by rw [Bd.returns] at h; cases h)
          refine ⟨_, _, hB _ (pre353 _ ?_), hrun, hended, _, _, rfl, ?_, ?_, ⟨hRW.1, hRW.2.1, hRW.2.2.1, hRW.2.2.2.mono (by decide) (by decide)⟩⟩
          · exact retN X352 hx (t := .boolean) Bd.returns (by simp) (hb hby at_540) hr
          · exact ⟨rfl, N352⟩
          · rw [hh]; show CHr Z consts_1 s.vm h0 T352.vm T352.heap; rw [e352]; exact CF
        · have pre354 : ∀ t, SS p e below m T164 527 #[iv p1, iv p2, iv p3, iv p4, iv db, iv sl, iv spc, iv tc, iv pfx, iv kq, rv b17, rv b36, iv cc, iv ec, iv sv, iv (1 : Int32), iv tv, iv lcv, iv (0 : Int32)] [(.int tv)] t → B t := fun t kk => pre349 t (by
            refine XS.icmpYes X164.here hx rfl (pc0 := 508) (pc' := 517) rfl (hb hby at_508) rfl (feq hc350).2 (by decide) (by decide) ?_
            refine XS.iconst X164.here hx rfl (hb hby at_517) ?_
            refine XS.istore X164.here hx rfl (hb hby at_518) rfl (l' := #[iv p1, iv p2, iv p3, iv p4, iv db, iv sl, iv spc, iv tc, iv pfx, iv kq, rv b17, rv b36, iv cc, iv ec, iv sv, iv (1 : Int32), iv tv, iv lcv, iv (0 : Int32)]) rfl ?_
            refine XS.iload X164.here hx rfl (hb hby at_520) rfl ?_
            show SS p e below m T164 522 #[iv p1, iv p2, iv p3, iv p4, iv db, iv sl, iv spc, iv tc, iv pfx, iv kq, rv b17, rv b36, iv cc, iv ec, iv sv, iv (1 : Int32), iv tv, iv lcv, iv (0 : Int32)] [(.int (1 : Int32))] _
            refine XS.ifNo X164.here hx rfl (hb hby at_522) rfl ((if0 _ _).trans (feq (by decide : ¬ ((1 : Int32) = (0 : Int32)))).1) ?_
            refine XS.iload X164.here hx rfl (hb hby at_525) rfl ?_
            exact kk)
          obtain ⟨_, _, ⟨T355, L355, k355, n355⟩, -, X355, ⟨Lc355, hQ355, l355, y355, z355⟩, st355⟩ := Jvm.LawKit.callS X164 hx (y := (⟨"pithline/html/ScriptData", "openTagLength", "(I)I"⟩ : MethodName)) hown (mvT hZ (hw _ (List.mem_of_getElem? (i := 75) rfl))) (mvT hZ (hw _ (List.mem_of_getElem? (i := 76) rfl))) (mvT hZ (hw _ (List.mem_of_getElem? (i := 5) rfl))) (mvT hZ (hw _ (List.mem_of_getElem? (i := 77) rfl))) (by decide) (backOf (W := 0) (rm16 l Z a0 hw [] tv T164.heap n0 Z164 ) hZ (hw _ (List.mem_of_getElem? (i := 77) rfl)) (hw _ (List.mem_of_getElem? (i := 5) rfl)) (by decide) (by decide)) (g := (mkF m 527 #[iv p1, iv p2, iv p3, iv p4, iv db, iv sl, iv spc, iv tc, iv pfx, iv kq, rv b17, rv b36, iv cc, iv ec, iv sv, iv (1 : Int32), iv tv, iv lcv, iv (0 : Int32)] [(.int tv)])) rfl (by rw [hml]; rfl) (argsL := [(.int tv)]) (rest := []) (lenOf pd_7 rfl) rfl (by show 2 * 0 + _ ≤ _; exact Nat.le_of_eq rfl) (hb hby at_527) (fun _ _ => ⟨rfl, rfl, (by decide : 14 + 0 ≤ _), (by decide : 198 + 0 ≤ _)⟩)
          dsimp only [Pt.U, Pt.locs, Pt.cells, Pt.slots] at X355 l355 y355 z355 st355 hQ355
          subst l355 y355 z355
          obtain ⟨rfl, N355q, e355⟩ := hQ355
          have N355 := Fr.app N164 N355q
          have pre356 : ∀ t, SS p e below m T355 540 #[iv p1, iv p2, iv p3, iv p4, iv db, iv sl, iv spc, iv tc, iv pfx, iv kq, rv b17, rv b36, iv cc, iv ec, iv sv, iv (1 : Int32), iv tv, iv lcv, iv (0 : Int32)] [(.int (1 : Int32))] t → B t := fun t kk => pre354 t (by
            refine st355 _ ?_
            refine XS.iload X355.here hx rfl (hb hby at_530) rfl ?_
            refine XS.icmpNo X355.here hx rfl (hb hby at_532) rfl (teq (by rw [g_tv]; exact (own_final db sl kq cc lcv sv _ hdb hsl hkq hlc hsv0 rfl).trans (by unfold own_E own_R1 own_R2 own_R3; rw [if_neg hc173, if_neg hc272, if_neg hc333, if_neg hc350]))).2 ?_
            refine XS.iconst X355.here hx rfl (hb hby at_535) ?_
            show SS p e below m T355 536 #[iv p1, iv p2, iv p3, iv p4, iv db, iv sl, iv spc, iv tc, iv pfx, iv kq, rv b17, rv b36, iv cc, iv ec, iv sv, iv (1 : Int32), iv tv, iv lcv, iv (0 : Int32)] [(.int (1 : Int32))] _
            refine XS.goto X355.here hx rfl (pc0 := 536) (pc' := 540) rfl (hb hby at_536) (by decide) (by decide) ?_
            exact kk)
          have CF := C164.trans (CHv.at X355 hZ hEL C164.1)
          obtain ⟨fs, hr, hrun, hended, hRW⟩ := X355.leaveW (s := s) hs164 (by first | exact hk164 | (rw [e355]; exact hk164)) (v := some (.int (1 : Int32))) (fun h => by rw [Bd.returns] at h; cases h)
          refine ⟨_, _, hB _ (pre356 _ ?_), hrun, hended, _, _, rfl, ?_, ?_, ⟨hRW.1, hRW.2.1, hRW.2.2.1, hRW.2.2.2.mono (by decide) (by decide)⟩⟩
          · exact retN X355 hx (t := .boolean) Bd.returns (by simp) (hb hby at_540) hr
          · exact ⟨rfl, N355⟩
          · rw [hh]; show CHr Z consts_1 s.vm h0 T355.vm T355.heap; rw [e355]; exact CF
set_option maxRecDepth 65536 in
set_option maxHeartbeats 40000000 in
theorem comes_1 {Post : Tables → Env → Array Value → State → Outcome → State → Prop} (hpost : ∀ tb e args s v u, (limb_1_1.after args s (.returned v) u = true ∧ limb_1_2.after args s (.returned v) u = true ∧ True) → ReturnedEndW s (.returned v) u (Jvm.fieldLocs frame_1_writes args s ++ Jvm.arrayLocs frame_1_arrays args s ++ Jvm.staticLocs frame_1_statics s) 16 2240 → Post tb e args s (.returned v) u) :
    ArmFor flags0 classFile x code maxLocals ret World_1 tables_1 room_1 Calls_1 rest_1 Pre_1 Post := by
  intro l hfl _ _ p e ha hc hk s m args below hf hA hF happ hP
  obtain ⟨hcalls, hrest, hpre⟩ := hP
  obtain ⟨-, -, -, hnamed, -, -, -, hat⟩ := (Spec.applies_iff hf).mp happ
  obtain ⟨hg, hn⟩ := and_e (Cond.before_iff.mp (show (Jvm.Cond.and given_1 narrow_1).before args s = true from hpre))
  obtain ⟨gg1, gg2⟩ := and_e hg
  obtain ⟨gg3, gg4⟩ := and_e gg2
  obtain ⟨gg5, gg6⟩ := and_e gg4
  obtain ⟨gg7, gg8⟩ := and_e gg6
  obtain ⟨w0, w1, w2, w3, rfl⟩ : ∃ w0 w1 w2 w3 : Value, args = #[w0, w1, w2, w3] := by
    have hs : args.size = 4 := by simpa [Cond.value, given_1] using gg1
    obtain ⟨L⟩ := args
    match L, hs with
    | [w0, w1, w2, w3], _ => exact ⟨w0, w1, w2, w3, rfl⟩
  have hw := fun d (hd : d ∈ tables_1) => atoms_spec (ws := Jvm.Cond.code x code maxLocals ret :: tables_1) hat d (List.mem_cons_of_mem _ hd)
  obtain ⟨i0, ei0⟩ := is_v gg3
  obtain rfl : w0 = (.int i0) := Option.some.inj ei0
  obtain ⟨i1, ei1⟩ := is_v gg5
  obtain rfl : w1 = (.int i1) := Option.some.inj ei1
  obtain ⟨i2, ei2⟩ := is_v gg7
  obtain rfl : w2 = (.int i2) := Option.some.inj ei2
  obtain ⟨i3, ei3⟩ := is_v gg8
  obtain rfl : w3 = (.int i3) := Option.some.inj ei3
  obtain ⟨hsets, hown0⟩ := atoms_of _ (rest_1_c_eq ▸ (show rest_1_c.before _ s = true from hrest))
  have hset := fun k d (q : jdkStatics_1[k]? = some d) => hsets d (List.mem_of_getElem? q)
  obtain ⟨cz, ecz⟩ := is_v (Cond.before_iff.mp (hset 1 _ rfl))
  have Scs := Sta.start ecz (Or.inl (hset 0 _ rfl))
  have hcz : ¬ (cz = (0 : Int32)) := fun q => by
    have q2 := not_v (Cond.before_iff.mp (hset 2 _ rfl))
    rw [eq_i ecz (Term.int_eval (0)) (congrArg Value.int q)] at q2
    cases q2
  obtain ⟨fm, efm, hfm⟩ := isR_v (Cond.before_iff.mp (hset 8 _ rfl))
  have Sfm := Sta.start efm (Or.inl (hset 7 _ rfl))
  have hEL : EW s _ consts_1 := (EW.cons (hw _ (List.mem_of_getElem? (i := 59) rfl)) (by decide +kernel) (EW.cons (hw _ (List.mem_of_getElem? (i := 20) rfl)) (by decide +kernel) EW.nil))
  have hCH : CHv s consts_1 s.vm s.heap := CHv.start hEL hcalls.1 (hset 2 _ rfl) (hw _ (List.mem_of_getElem? (i := 23) rfl)) (hw _ (List.mem_of_getElem? (i := 22) rfl))
  have XO0 : Ext s.heap s.heap := ⟨Nat.le_refl _, fun _ _ q => q⟩
  obtain ⟨n, o, h1, h2, h3, _, L, rfl, ⟨rfl, N⟩, -, hq⟩ := rm0 l s _ hw tables_1 i0 i1 i2 i3 cz fm s.heap s.heap.size (Nat.le_refl _) hEL XO0 Scs hcz Sfm hfm p e ha hc hk s m _ below hf ((Spec.applies_iff_loose hf).mp happ).1 ⟨rfl, State.Warmed39.refl s, rfl, hCH⟩ trivial
  refine ⟨n, _, h1, h2, h3, hpost _ _ _ _ _ _ ⟨Cond.after_iff.mpr rfl, Cond.after_iff.mpr (eq_i res_at (Term.int_eval (1)) rfl), trivial⟩ ⟨hq.1, hq.2.1, hq.2.2.1, (hq.2.2.2.sift fun y hy => Or.inr (N y hy)).mono (by decide) (by decide)⟩⟩
theorem main_1_1 : Claimed_1_1 := comes_1 fun _ _ _ _ _ _ h hF => ⟨h.1, hF⟩
theorem main_1_2 : Claimed_1_2 := comes_1 fun _ _ _ _ _ _ h hF => ⟨h.2.1, hF⟩
end Jvm.Pilot.@@N@@
namespace Jvm.Pilot.@@N@@
open Jvm Jvm.ClassFile Sem Op Lib Jvm.Free Jvm.Stand Jvm.Pilot.@@N@@.Jvm.D
/-! MADE BY PROGRAM (witnessworld.py) out of the Statement's table words and the real class files: 20 classes; the members and pool entries that the words name. The judged class is class 1, her method 1. -/
namespace start1
open Jvm.ClassFile
def u (s : String) : CpInfo := .utf8 (stringToUtf16 s)
/-- a pool by its gaps: so many unusable entries, then the entry; so many at the end -/
def gap : Nat → List CpInfo → List CpInfo
  | 0, r => r
  | n + 1, r => .unusable :: gap n r
def poolList (es : List (Nat × CpInfo)) (last : Nat) : List CpInfo := es.foldr (fun e r => gap e.1 (e.2 :: r)) (gap last [])
def pool (es : List (Nat × CpInfo)) (last : Nat) : Array CpInfo := ⟨poolList es last⟩
def fileOf (pool : Array CpInfo) (this : Nat) (attrs : Array Attribute := #[]) (ms : Array MethodInfo := #[]) (fl : Nat := 33) (sup : Nat := 0) (ifs : Array Nat := #[]) (fds : Array FieldInfo := #[]) : ClassFile where
  minorVersion := 0
  majorVersion := 65
  constantPool := pool
  accessFlags := fl
  thisClass := this
  superClass := sup
  interfaces := ifs
  fields := fds
  methods := ms
  attributes := attrs
def plain (name : String) (sup : Option ClassId) : Class where
  name := name
  kind := .ordinary
  loader := none
  accessFlags := 33
  super := sup
  interfaces := #[]
  cf := none
  fields := #[]
  methods := #[]
  instanceTypes := #[]
  staticTypes := #[]
  resolved := #[]
  callSites := []
  init := .initialized
  statics := none
  mirror := none

def pool0 : Array CpInfo := pool [(5, u "<init>"), (0, u "()V"), (1, .class_ 10), (1, u "java/lang/Object")] 113

def k0m0 : Method := { name := "<init>", desc := "()V", sig := { parameters := [], returnType := none }, accessFlags := 1, code := none }
/-- java/lang/Object -/
def k0 : Class := { plain "java/lang/Object" none with
  accessFlags := 33
  interfaces := #[]
  cf := some (fileOf pool0 8 #[] #[{ accessFlags := 1, nameIndex := 5, descriptorIndex := 6, attributes := #[] }] 33 0 #[] #[])
  fields := #[]
  methods := #[k0m0]
  instanceTypes := #[]
  staticTypes := #[]
  resolved := Array.replicate 124 none
  statics := none }

def pool1 : Array CpInfo := pool [(2, .class_ 4), (1, u "java/lang/Object"), (0, u "<init>"), (0, u "()V"), (0, .integer 2147483647), (0, .integer 65535), (0, .class_ 10), (0, u "pithline/html/ScriptData"), (0, .methodref 9 12), (0, .nameAndType 13 14), (0, u "next"), (0, u "(II)I"), (0, .methodref 16 17), (0, .class_ 18), (0, .nameAndType 19 20), (0, u "pithline/html/ScriptDataOpenTagLengthPinLaw"), (0, u "tag"), (0, u "(IZII)I"), (0, .methodref 9 22), (0, .nameAndType 23 24), (0, u "openTagLength"), (0, u "(I)I"), (0, .methodref 16 26), (0, .nameAndType 27 28), (0, u "base"), (0, u "(ZZI)I"), (0, .string 30), (0, u "script"), (0, .methodref 32 33), (0, .class_ 34), (0, .nameAndType 35 36), (0, u "java/lang/String"), (0, u "charAt"), (0, u "(I)C"), (0, .methodref 16 38), (0, .nameAndType 39 40), (0, u "isNameEnd"), (0, u "(I)Z"), (0, .methodref 16 42), (0, .nameAndType 43 14), (0, u "letter"), (2, u "law"), (0, u "(IIII)Z")] 5

def k1m0 : Method := { name := "<init>", desc := "()V", sig := { parameters := [], returnType := none }, accessFlags := 2, code := none }
def k1c1 : Code := { maxStack := 4, maxLocals := 19, code := code, exceptionTable := #[], attributes := #[] }
def k1m1 : Method := { name := "law", desc := "(IIII)Z", sig := { parameters := [.int, .int, .int, .int], returnType := some .boolean }, accessFlags := 9, code := some k1c1 }
def k1c2 : Code := { maxStack := 2, maxLocals := 4, code := method_3_code, exceptionTable := #[], attributes := #[] }
def k1m2 : Method := { name := "base", desc := "(ZZI)I", sig := { parameters := [.boolean, .boolean, .int], returnType := some .int }, accessFlags := 10, code := some k1c2 }
def k1c3 : Code := { maxStack := 2, maxLocals := 1, code := method_4_code, exceptionTable := #[], attributes := #[] }
def k1m3 : Method := { name := "isNameEnd", desc := "(I)Z", sig := { parameters := [.int], returnType := some .boolean }, accessFlags := 10, code := some k1c3 }
def k1c4 : Code := { maxStack := 2, maxLocals := 3, code := method_5_code, exceptionTable := #[], attributes := #[] }
def k1m4 : Method := { name := "letter", desc := "(II)I", sig := { parameters := [.int, .int], returnType := some .int }, accessFlags := 10, code := some k1c4 }
def k1c5 : Code := { maxStack := 3, maxLocals := 5, code := method_6_code, exceptionTable := #[], attributes := #[] }
def k1m5 : Method := { name := "tag", desc := "(IZII)I", sig := { parameters := [.int, .boolean, .int, .int], returnType := some .int }, accessFlags := 10, code := some k1c5 }
/-- pithline/html/ScriptDataOpenTagLengthPinLaw -/
def k1 : Class := { plain "pithline/html/ScriptDataOpenTagLengthPinLaw" (some 0) with
  accessFlags := 49
  interfaces := #[]
  cf := some (fileOf pool1 16 #[] #[{ accessFlags := 2, nameIndex := 5, descriptorIndex := 6, attributes := #[] }, { accessFlags := 9, nameIndex := 46, descriptorIndex := 47, attributes := #[] }, { accessFlags := 10, nameIndex := 27, descriptorIndex := 28, attributes := #[] }, { accessFlags := 10, nameIndex := 39, descriptorIndex := 40, attributes := #[] }, { accessFlags := 10, nameIndex := 43, descriptorIndex := 14, attributes := #[] }, { accessFlags := 10, nameIndex := 19, descriptorIndex := 20, attributes := #[] }] 49 2 #[] #[])
  fields := #[]
  methods := #[k1m0, k1m1, k1m2, k1m3, k1m4, k1m5]
  instanceTypes := #[]
  staticTypes := #[]
  resolved := Array.replicate 53 none
  statics := none }

def pool2 : Array CpInfo := pool [(1, .class_ 2), (0, u "pithline/html/ScriptData"), (1, .class_ 6), (1, u "java/lang/Object"), (0, u "<init>"), (0, u "()V"), (0, .methodref 1 10), (0, .nameAndType 11 12), (0, u "afterLessThan"), (0, u "(I)I"), (0, .methodref 1 14), (0, .nameAndType 15 16), (0, u "nameRead"), (0, u "(IIIII)I"), (0, .methodref 1 18), (0, .nameAndType 19 20), (0, u "next"), (0, u "(II)I"), (0, .methodref 1 22), (0, .nameAndType 23 20), (0, u "escaped"), (0, .methodref 1 25), (0, .nameAndType 26 12), (0, u "afterEscapedLessThan"), (0, .methodref 1 28), (0, .nameAndType 29 20), (0, u "doublyEscaped"), (0, .methodref 1 31), (0, .nameAndType 32 12), (0, u "afterDoublyEscapedLessThan"), (10, .class_ 45), (1, u "java/lang/String"), (5, u "(I)Z"), (0, .methodref 43 53), (0, .nameAndType 54 55), (0, u "length"), (0, u "()I"), (0, .methodref 43 57), (0, .nameAndType 58 59), (0, u "charAt"), (0, u "(I)C"), (2, .string 63), (0, u "script"), (0, .methodref 1 65), (0, .nameAndType 66 51), (0, u "isNameEnd"), (4, .methodref 72 73), (0, .class_ 74), (0, .nameAndType 75 59), (0, u "pithline/util/Ascii"), (0, u "lowerCase"), (0, .methodref 72 77), (0, .nameAndType 78 51), (0, u "isWhiteSpace"), (0, u "DATA"), (0, u "I"), (2, u "KIND"), (1, u "LESS_THAN"), (0, u "END_TAG"), (1, u "ESCAPE_START"), (1, u "ESCAPE_START_DASH"), (1, u "ESCAPED"), (1, u "ESCAPED_DASH"), (1, u "ESCAPED_DASH_DASH"), (1, u "ESCAPED_LESS_THAN"), (1, u "ESCAPED_END_TAG"), (1, u "DOUBLE_ESCAPE_START"), (1, u "DOUBLY_ESCAPED"), (1, u "DOUBLY_ESCAPED_DASH"), (1, u "DOUBLY_ESCAPED_DASH_DASH"), (1, u "DOUBLY_ESCAPED_LESS_THAN"), (1, u "DOUBLE_ESCAPE_END"), (1, u "DOUBLY_ESCAPED_TAG"), (1, u "ENDED"), (1, u "NAME"), (0, u "Ljava/lang/String;"), (6, u "openTagLength")] 3

def k2m0 : Method := { name := "<init>", desc := "()V", sig := { parameters := [], returnType := none }, accessFlags := 2, code := none }
def k2c1 : Code := { maxStack := 5, maxLocals := 5, code := prog_41_method_2_code, exceptionTable := #[], attributes := #[] }
def k2m1 : Method := { name := "next", desc := "(II)I", sig := { parameters := [.int, .int], returnType := some .int }, accessFlags := 8, code := some k2c1 }
def k2c2 : Code := { maxStack := 3, maxLocals := 4, code := prog_41_method_6_code, exceptionTable := #[], attributes := #[] }
def k2m2 : Method := { name := "openTagLength", desc := "(I)I", sig := { parameters := [.int], returnType := some .int }, accessFlags := 8, code := some k2c2 }
def k2c3 : Code := { maxStack := 2, maxLocals := 2, code := prog_41_method_8_code, exceptionTable := #[], attributes := #[] }
def k2m3 : Method := { name := "afterLessThan", desc := "(I)I", sig := { parameters := [.int], returnType := some .int }, accessFlags := 10, code := some k2c3 }
def k2c4 : Code := { maxStack := 2, maxLocals := 3, code := prog_41_method_9_code, exceptionTable := #[], attributes := #[] }
def k2m4 : Method := { name := "escaped", desc := "(II)I", sig := { parameters := [.int, .int], returnType := some .int }, accessFlags := 10, code := some k2c4 }
def k2c5 : Code := { maxStack := 5, maxLocals := 2, code := prog_41_method_10_code, exceptionTable := #[], attributes := #[] }
def k2m5 : Method := { name := "afterEscapedLessThan", desc := "(I)I", sig := { parameters := [.int], returnType := some .int }, accessFlags := 10, code := some k2c5 }
def k2c6 : Code := { maxStack := 2, maxLocals := 3, code := prog_41_method_11_code, exceptionTable := #[], attributes := #[] }
def k2m6 : Method := { name := "doublyEscaped", desc := "(II)I", sig := { parameters := [.int, .int], returnType := some .int }, accessFlags := 10, code := some k2c6 }
def k2c7 : Code := { maxStack := 5, maxLocals := 2, code := prog_41_method_12_code, exceptionTable := #[], attributes := #[] }
def k2m7 : Method := { name := "afterDoublyEscapedLessThan", desc := "(I)I", sig := { parameters := [.int], returnType := some .int }, accessFlags := 10, code := some k2c7 }
def k2c8 : Code := { maxStack := 3, maxLocals := 6, code := prog_41_method_13_code, exceptionTable := #[], attributes := #[] }
def k2m8 : Method := { name := "nameRead", desc := "(IIIII)I", sig := { parameters := [.int, .int, .int, .int, .int], returnType := some .int }, accessFlags := 10, code := some k2c8 }
def k2c9 : Code := { maxStack := 2, maxLocals := 1, code := prog_41_method_14_code, exceptionTable := #[], attributes := #[] }
def k2m9 : Method := { name := "isNameEnd", desc := "(I)Z", sig := { parameters := [.int], returnType := some .boolean }, accessFlags := 10, code := some k2c9 }
/-- pithline/html/ScriptData -/
def k2 : Class := { plain "pithline/html/ScriptData" (some 0) with
  accessFlags := 48
  interfaces := #[]
  cf := some (fileOf pool2 1 #[] #[{ accessFlags := 2, nameIndex := 7, descriptorIndex := 8, attributes := #[] }, { accessFlags := 8, nameIndex := 19, descriptorIndex := 20, attributes := #[] }, { accessFlags := 8, nameIndex := 126, descriptorIndex := 12, attributes := #[] }, { accessFlags := 10, nameIndex := 11, descriptorIndex := 12, attributes := #[] }, { accessFlags := 10, nameIndex := 23, descriptorIndex := 20, attributes := #[] }, { accessFlags := 10, nameIndex := 26, descriptorIndex := 12, attributes := #[] }, { accessFlags := 10, nameIndex := 29, descriptorIndex := 20, attributes := #[] }, { accessFlags := 10, nameIndex := 32, descriptorIndex := 12, attributes := #[] }, { accessFlags := 10, nameIndex := 15, descriptorIndex := 16, attributes := #[] }, { accessFlags := 10, nameIndex := 66, descriptorIndex := 51, attributes := #[] }] 48 4 #[] #[{ accessFlags := 24, nameIndex := 79, descriptorIndex := 80, attributes := #[] }, { accessFlags := 26, nameIndex := 83, descriptorIndex := 80, attributes := #[] }, { accessFlags := 26, nameIndex := 85, descriptorIndex := 80, attributes := #[] }, { accessFlags := 26, nameIndex := 86, descriptorIndex := 80, attributes := #[] }, { accessFlags := 26, nameIndex := 88, descriptorIndex := 80, attributes := #[] }, { accessFlags := 26, nameIndex := 90, descriptorIndex := 80, attributes := #[] }, { accessFlags := 26, nameIndex := 92, descriptorIndex := 80, attributes := #[] }, { accessFlags := 26, nameIndex := 94, descriptorIndex := 80, attributes := #[] }, { accessFlags := 26, nameIndex := 96, descriptorIndex := 80, attributes := #[] }, { accessFlags := 26, nameIndex := 98, descriptorIndex := 80, attributes := #[] }, { accessFlags := 26, nameIndex := 100, descriptorIndex := 80, attributes := #[] }, { accessFlags := 26, nameIndex := 102, descriptorIndex := 80, attributes := #[] }, { accessFlags := 26, nameIndex := 104, descriptorIndex := 80, attributes := #[] }, { accessFlags := 26, nameIndex := 106, descriptorIndex := 80, attributes := #[] }, { accessFlags := 26, nameIndex := 108, descriptorIndex := 80, attributes := #[] }, { accessFlags := 26, nameIndex := 110, descriptorIndex := 80, attributes := #[] }, { accessFlags := 26, nameIndex := 112, descriptorIndex := 80, attributes := #[] }, { accessFlags := 26, nameIndex := 114, descriptorIndex := 80, attributes := #[] }, { accessFlags := 26, nameIndex := 116, descriptorIndex := 80, attributes := #[] }, { accessFlags := 26, nameIndex := 118, descriptorIndex := 119, attributes := #[] }])
  fields := #[{ name := "DATA", type := .int, accessFlags := 24, slot := 0, constantValue := 0 }, { name := "KIND", type := .int, accessFlags := 26, slot := 1, constantValue := 0 }, { name := "LESS_THAN", type := .int, accessFlags := 26, slot := 2, constantValue := 0 }, { name := "END_TAG", type := .int, accessFlags := 26, slot := 3, constantValue := 0 }, { name := "ESCAPE_START", type := .int, accessFlags := 26, slot := 4, constantValue := 0 }, { name := "ESCAPE_START_DASH", type := .int, accessFlags := 26, slot := 5, constantValue := 0 }, { name := "ESCAPED", type := .int, accessFlags := 26, slot := 6, constantValue := 0 }, { name := "ESCAPED_DASH", type := .int, accessFlags := 26, slot := 7, constantValue := 0 }, { name := "ESCAPED_DASH_DASH", type := .int, accessFlags := 26, slot := 8, constantValue := 0 }, { name := "ESCAPED_LESS_THAN", type := .int, accessFlags := 26, slot := 9, constantValue := 0 }, { name := "ESCAPED_END_TAG", type := .int, accessFlags := 26, slot := 10, constantValue := 0 }, { name := "DOUBLE_ESCAPE_START", type := .int, accessFlags := 26, slot := 11, constantValue := 0 }, { name := "DOUBLY_ESCAPED", type := .int, accessFlags := 26, slot := 12, constantValue := 0 }, { name := "DOUBLY_ESCAPED_DASH", type := .int, accessFlags := 26, slot := 13, constantValue := 0 }, { name := "DOUBLY_ESCAPED_DASH_DASH", type := .int, accessFlags := 26, slot := 14, constantValue := 0 }, { name := "DOUBLY_ESCAPED_LESS_THAN", type := .int, accessFlags := 26, slot := 15, constantValue := 0 }, { name := "DOUBLE_ESCAPE_END", type := .int, accessFlags := 26, slot := 16, constantValue := 0 }, { name := "DOUBLY_ESCAPED_TAG", type := .int, accessFlags := 26, slot := 17, constantValue := 0 }, { name := "ENDED", type := .int, accessFlags := 26, slot := 18, constantValue := 0 }, { name := "NAME", type := (.object "java/lang/String"), accessFlags := 26, slot := 19, constantValue := 0 }]
  methods := #[k2m0, k2m1, k2m2, k2m3, k2m4, k2m5, k2m6, k2m7, k2m8, k2m9]
  instanceTypes := #[]
  staticTypes := #[.int, .int, .int, .int, .int, .int, .int, .int, .int, .int, .int, .int, .int, .int, .int, .int, .int, .int, .int, (.object "java/lang/String")]
  resolved := Array.replicate 130 none
  statics := none }

def pool3 : Array CpInfo := pool [(1, .class_ 2), (0, u "java/io/Serializable"), (0, .class_ 4), (0, u "java/lang/Object")] 2

/-- java/io/Serializable -/
def k3 : Class := { plain "java/io/Serializable" (some 0) with
  accessFlags := 1537
  interfaces := #[]
  cf := some (fileOf pool3 1 #[] #[] 1537 3 #[] #[])
  fields := #[]
  methods := #[]
  instanceTypes := #[]
  staticTypes := #[]
  resolved := Array.replicate 7 none
  statics := none }

def pool4 : Array CpInfo := pool [(1, .class_ 2), (0, u "java/lang/Comparable"), (0, .class_ 4), (0, u "java/lang/Object")] 7

/-- java/lang/Comparable -/
def k4 : Class := { plain "java/lang/Comparable" (some 0) with
  accessFlags := 1537
  interfaces := #[]
  cf := some (fileOf pool4 1 #[] #[] 1537 3 #[] #[])
  fields := #[]
  methods := #[]
  instanceTypes := #[]
  staticTypes := #[]
  resolved := Array.replicate 12 none
  statics := none }

def pool5 : Array CpInfo := pool [(2, .class_ 4), (1, u "java/lang/CharSequence"), (42, .class_ 48), (0, u "java/lang/CharSequence$1CodePointIterator"), (10, .class_ 60), (0, u "java/lang/CharSequence$1CharIterator"), (5, .class_ 67), (0, u "java/lang/Object")] 63

/-- java/lang/CharSequence -/
def k5 : Class := { plain "java/lang/CharSequence" (some 0) with
  accessFlags := 1537
  interfaces := #[]
  cf := some (fileOf pool5 2 #[.nestMembers #[47, 59]] #[] 1537 66 #[] #[])
  fields := #[]
  methods := #[]
  instanceTypes := #[]
  staticTypes := #[]
  resolved := Array.replicate 131 none
  statics := none }

def pool6 : Array CpInfo := pool [(1, .class_ 2), (0, u "java/lang/constant/Constable"), (0, .class_ 4), (0, u "java/lang/Object")] 6

/-- java/lang/constant/Constable -/
def k6 : Class := { plain "java/lang/constant/Constable" (some 0) with
  accessFlags := 1537
  interfaces := #[]
  cf := some (fileOf pool6 1 #[] #[] 1537 3 #[] #[])
  fields := #[]
  methods := #[]
  instanceTypes := #[]
  staticTypes := #[]
  resolved := Array.replicate 11 none
  statics := none }

def pool7 : Array CpInfo := pool [(1, .class_ 2), (0, u "java/lang/constant/ConstantDesc"), (0, .class_ 4), (0, u "java/lang/Object")] 32

/-- java/lang/constant/ConstantDesc -/
def k7 : Class := { plain "java/lang/constant/ConstantDesc" (some 0) with
  accessFlags := 1537
  interfaces := #[]
  cf := some (fileOf pool7 1 #[] #[] 1537 3 #[] #[])
  fields := #[]
  methods := #[]
  instanceTypes := #[]
  staticTypes := #[]
  resolved := Array.replicate 37 none
  statics := none }

def pool8 : Array CpInfo := pool [(2, .class_ 4), (1, u "java/lang/Object"), (0, u "<init>"), (0, u "()V"), (2, .fieldref 10 11), (0, .class_ 12), (0, .nameAndType 13 14), (0, u "java/lang/String"), (0, u "value"), (0, u "[B"), (0, .fieldref 10 16), (0, .nameAndType 17 18), (0, u "coder"), (0, u "B"), (2, u "hash"), (0, u "I"), (2, u "hashIsZero"), (0, u "Z"), (11, .fieldref 10 39), (0, .nameAndType 40 26), (0, u "COMPACT_STRINGS"), (66, .class_ 109), (1, u "java/lang/StringLatin1"), (32, u "()Z"), (191, u "()I"), (0, .methodref 10 336), (0, .nameAndType 17 337), (0, u "()B"), (25, u "([BI)C"), (27, u "(II)V"), (35, u "(I)C"), (64, .methodref 10 493), (0, .nameAndType 494 142), (0, u "isLatin1"), (0, .methodref 107 496), (0, .nameAndType 497 363), (0, u "charAt"), (3, u "checkIndex"), (5, u "length"), (67, .class_ 576), (0, u "java/lang/CharSequence"), (22, u "CASE_INSENSITIVE_ORDER"), (0, u "Ljava/util/Comparator;"), (452, .fieldref 1054 1055), (0, .class_ 1056), (0, .nameAndType 1057 1058), (0, u "jdk/internal/util/Preconditions"), (0, u "SIOOBE_FORMATTER"), (0, u "Ljava/util/function/BiFunction;"), (0, .methodref 1054 1060), (0, .nameAndType 501 1061), (0, u "(IILjava/util/function/BiFunction;)I"), (39, u "serialPersistentFields"), (0, u "[Ljava/io/ObjectStreamField;"), (0, .class_ 1104), (0, u "java/lang/String$CaseInsensitiveComparator"), (1, .class_ 1107), (0, u "java/io/Serializable"), (0, .class_ 1109), (0, u "java/lang/Comparable"), (0, .class_ 1111), (0, u "java/lang/constant/Constable"), (0, .class_ 1113), (0, u "java/lang/constant/ConstantDesc"), (2, u "serialVersionUID"), (0, u "J"), (3, u "REPL"), (0, u "C"), (2, u "LATIN1"), (1, u "UTF16")] 323

def k8m0 : Method := { name := "<init>", desc := "()V", sig := { parameters := [], returnType := none }, accessFlags := 1, code := none }
def k8c1 : Code := { maxStack := 2, maxLocals := 1, code := jdk_42_method_54_code, exceptionTable := #[], attributes := #[] }
def k8m1 : Method := { name := "length", desc := "()I", sig := { parameters := [], returnType := some .int }, accessFlags := 1, code := some k8c1 }
def k8c2 : Code := { maxStack := 2, maxLocals := 2, code := jdk_42_method_56_code, exceptionTable := #[], attributes := #[] }
def k8m2 : Method := { name := "charAt", desc := "(I)C", sig := { parameters := [.int], returnType := some .char }, accessFlags := 1, code := some k8c2 }
def k8c3 : Code := { maxStack := 1, maxLocals := 1, code := jdk_42_method_152_code, exceptionTable := #[], attributes := #[] }
def k8m3 : Method := { name := "coder", desc := "()B", sig := { parameters := [], returnType := some .byte }, accessFlags := 0, code := some k8c3 }
def k8c4 : Code := { maxStack := 1, maxLocals := 1, code := jdk_42_method_154_code, exceptionTable := #[], attributes := #[] }
def k8m4 : Method := { name := "isLatin1", desc := "()Z", sig := { parameters := [], returnType := some .boolean }, accessFlags := 0, code := some k8c4 }
def k8c5 : Code := { maxStack := 3, maxLocals := 2, code := jdk_42_method_155_code, exceptionTable := #[], attributes := #[] }
def k8m5 : Method := { name := "checkIndex", desc := "(II)V", sig := { parameters := [.int, .int], returnType := none }, accessFlags := 8, code := some k8c5 }
/-- java/lang/String -/
def k8 : Class := { plain "java/lang/String" (some 0) with
  accessFlags := 49
  interfaces := #[3, 4, 5, 6, 7]
  cf := some (fileOf pool8 10 #[.nestMembers #[1103]] #[{ accessFlags := 1, nameIndex := 5, descriptorIndex := 6, attributes := #[] }, { accessFlags := 1, nameIndex := 507, descriptorIndex := 334, attributes := #[] }, { accessFlags := 1, nameIndex := 497, descriptorIndex := 427, attributes := #[] }, { accessFlags := 0, nameIndex := 17, descriptorIndex := 337, attributes := #[] }, { accessFlags := 0, nameIndex := 494, descriptorIndex := 142, attributes := #[] }, { accessFlags := 8, nameIndex := 501, descriptorIndex := 391, attributes := #[] }] 49 2 #[1106, 1108, 575, 1110, 1112] #[{ accessFlags := 18, nameIndex := 13, descriptorIndex := 14, attributes := #[] }, { accessFlags := 18, nameIndex := 17, descriptorIndex := 18, attributes := #[] }, { accessFlags := 2, nameIndex := 21, descriptorIndex := 22, attributes := #[] }, { accessFlags := 2, nameIndex := 25, descriptorIndex := 26, attributes := #[] }, { accessFlags := 26, nameIndex := 1116, descriptorIndex := 1117, attributes := #[] }, { accessFlags := 24, nameIndex := 40, descriptorIndex := 26, attributes := #[] }, { accessFlags := 26, nameIndex := 1101, descriptorIndex := 1102, attributes := #[] }, { accessFlags := 26, nameIndex := 1121, descriptorIndex := 1122, attributes := #[] }, { accessFlags := 25, nameIndex := 599, descriptorIndex := 600, attributes := #[] }, { accessFlags := 24, nameIndex := 1125, descriptorIndex := 18, attributes := #[] }, { accessFlags := 24, nameIndex := 1127, descriptorIndex := 18, attributes := #[] }])
  fields := #[{ name := "value", type := (.array .byte), accessFlags := 18, slot := 0, constantValue := 0 }, { name := "coder", type := .byte, accessFlags := 18, slot := 1, constantValue := 0 }, { name := "hash", type := .int, accessFlags := 2, slot := 2, constantValue := 0 }, { name := "hashIsZero", type := .boolean, accessFlags := 2, slot := 3, constantValue := 0 }, { name := "serialVersionUID", type := .long, accessFlags := 26, slot := 0, constantValue := 0 }, { name := "COMPACT_STRINGS", type := .boolean, accessFlags := 24, slot := 1, constantValue := 0 }, { name := "serialPersistentFields", type := (.array (.object "java/io/ObjectStreamField")), accessFlags := 26, slot := 2, constantValue := 0 }, { name := "REPL", type := .char, accessFlags := 26, slot := 3, constantValue := 0 }, { name := "CASE_INSENSITIVE_ORDER", type := (.object "java/util/Comparator"), accessFlags := 25, slot := 4, constantValue := 0 }, { name := "LATIN1", type := .byte, accessFlags := 24, slot := 5, constantValue := 0 }, { name := "UTF16", type := .byte, accessFlags := 24, slot := 6, constantValue := 0 }]
  methods := #[k8m0, k8m1, k8m2, k8m3, k8m4, k8m5]
  instanceTypes := #[(.array .byte), .byte, .int, .boolean]
  staticTypes := #[.long, .boolean, (.array (.object "java/io/ObjectStreamField")), .char, (.object "java/util/Comparator"), .byte, .byte]
  resolved := Array.replicate 1451 none
  statics := some 0 }

def pool9 : Array CpInfo := pool [(1, .class_ 2), (0, u "java/lang/String"), (1, .class_ 6), (1, u "java/lang/Object"), (0, u "<init>"), (0, u "()V"), (0, .methodref 1 10), (0, .nameAndType 11 12), (0, u "checkIndex"), (0, u "(II)V"), (1, .class_ 16), (1, u "java/lang/StringLatin1"), (36, u "([BI)C"), (67, u "$assertionsDisabled"), (0, u "Z"), (98, .class_ 223), (1, u "java/lang/StringLatin1$LinesSpliterator"), (28, u "charAt"), (137, .class_ 391), (0, u "java/lang/StringLatin1$CharsSpliterator")] 3

def k9m0 : Method := { name := "<init>", desc := "()V", sig := { parameters := [], returnType := none }, accessFlags := 0, code := none }
def k9c1 : Code := { maxStack := 2, maxLocals := 2, code := jdk_43_method_2_code, exceptionTable := #[], attributes := #[] }
def k9m1 : Method := { name := "charAt", desc := "([BI)C", sig := { parameters := [(.array .byte), .int], returnType := some .char }, accessFlags := 9, code := some k9c1 }
/-- java/lang/StringLatin1 -/
def k9 : Class := { plain "java/lang/StringLatin1" (some 0) with
  accessFlags := 48
  interfaces := #[]
  cf := some (fileOf pool9 14 #[.nestMembers #[390, 221]] #[{ accessFlags := 0, nameIndex := 7, descriptorIndex := 8, attributes := #[] }, { accessFlags := 9, nameIndex := 252, descriptorIndex := 53, attributes := #[] }] 48 4 #[] #[{ accessFlags := 4120, nameIndex := 121, descriptorIndex := 122, attributes := #[] }])
  fields := #[{ name := "$assertionsDisabled", type := .boolean, accessFlags := 4120, slot := 0, constantValue := 0 }]
  methods := #[k9m0, k9m1]
  instanceTypes := #[]
  staticTypes := #[.boolean]
  resolved := Array.replicate 395 none
  statics := none }

def pool10 : Array CpInfo := pool [(2, .class_ 4), (1, u "java/lang/Object"), (0, u "<init>"), (0, u "()V"), (17, .class_ 26), (1, u "jdk/internal/util/Preconditions"), (6, u "checkIndex"), (21, .class_ 56), (0, u "jdk/internal/util/Preconditions$4"), (57, .class_ 115), (0, u "jdk/internal/util/Preconditions$1"), (7, u "SIOOBE_FORMATTER"), (0, u "Ljava/util/function/BiFunction;"), (0, .class_ 126), (0, u "jdk/internal/util/Preconditions$2"), (3, u "AIOOBE_FORMATTER"), (0, .class_ 132), (0, u "jdk/internal/util/Preconditions$3"), (3, u "IOOBE_FORMATTER"), (41, u "(IILjava/util/function/BiFunction;)I")] 15

def k10m0 : Method := { name := "<init>", desc := "()V", sig := { parameters := [], returnType := none }, accessFlags := 1, code := none }
def k10c1 : Code := { maxStack := 3, maxLocals := 3, code := jdk_41_method_11_code, exceptionTable := #[], attributes := #[] }
def k10m1 : Method := { name := "checkIndex", desc := "(IILjava/util/function/BiFunction;)I", sig := { parameters := [.int, .int, (.object "java/util/function/BiFunction")], returnType := some .int }, accessFlags := 9, code := some k10c1 }
/-- jdk/internal/util/Preconditions -/
def k10 : Class := { plain "jdk/internal/util/Preconditions" (some 0) with
  accessFlags := 33
  interfaces := #[]
  cf := some (fileOf pool10 24 #[.nestMembers #[55, 131, 125, 114]] #[{ accessFlags := 1, nameIndex := 5, descriptorIndex := 6, attributes := #[] }, { accessFlags := 9, nameIndex := 33, descriptorIndex := 178, attributes := #[] }] 33 2 #[] #[{ accessFlags := 25, nameIndex := 123, descriptorIndex := 124, attributes := #[] }, { accessFlags := 25, nameIndex := 130, descriptorIndex := 124, attributes := #[] }, { accessFlags := 25, nameIndex := 136, descriptorIndex := 124, attributes := #[] }])
  fields := #[{ name := "SIOOBE_FORMATTER", type := (.object "java/util/function/BiFunction"), accessFlags := 25, slot := 0, constantValue := 0 }, { name := "AIOOBE_FORMATTER", type := (.object "java/util/function/BiFunction"), accessFlags := 25, slot := 1, constantValue := 0 }, { name := "IOOBE_FORMATTER", type := (.object "java/util/function/BiFunction"), accessFlags := 25, slot := 2, constantValue := 0 }]
  methods := #[k10m0, k10m1]
  instanceTypes := #[]
  staticTypes := #[(.object "java/util/function/BiFunction"), (.object "java/util/function/BiFunction"), (.object "java/util/function/BiFunction")]
  resolved := Array.replicate 194 none
  statics := some 1 }

def pool11 : Array CpInfo := pool [(2, .class_ 4), (1, u "java/lang/Object"), (0, u "<init>"), (0, u "()V"), (14, u "(I)C"), (1, .class_ 25), (1, u "pithline/util/Ascii"), (0, u "lowerCase"), (14, u "isWhiteSpace"), (0, u "(I)Z")] 43

def k11m0 : Method := { name := "<init>", desc := "()V", sig := { parameters := [], returnType := none }, accessFlags := 2, code := none }
def k11c1 : Code := { maxStack := 2, maxLocals := 1, code := prog_124_method_2_code, exceptionTable := #[], attributes := #[] }
def k11m1 : Method := { name := "isWhiteSpace", desc := "(I)Z", sig := { parameters := [.int], returnType := some .boolean }, accessFlags := 9, code := some k11c1 }
def k11c2 : Code := { maxStack := 2, maxLocals := 1, code := prog_124_method_4_code, exceptionTable := #[], attributes := #[] }
def k11m2 : Method := { name := "lowerCase", desc := "(I)C", sig := { parameters := [.int], returnType := some .char }, accessFlags := 9, code := some k11c2 }
/-- pithline/util/Ascii -/
def k11 : Class := { plain "pithline/util/Ascii" (some 0) with
  accessFlags := 49
  interfaces := #[]
  cf := some (fileOf pool11 23 #[] #[{ accessFlags := 2, nameIndex := 5, descriptorIndex := 6, attributes := #[] }, { accessFlags := 9, nameIndex := 41, descriptorIndex := 42, attributes := #[] }, { accessFlags := 9, nameIndex := 26, descriptorIndex := 21, attributes := #[] }] 49 2 #[] #[])
  fields := #[]
  methods := #[k11m0, k11m1, k11m2]
  instanceTypes := #[]
  staticTypes := #[]
  resolved := Array.replicate 86 none
  statics := none }

def pool12 : Array CpInfo := pool [(9, u "<init>"), (6, .class_ 18), (1, u "java/lang/Object"), (0, u "()V"), (1, .class_ 23), (1, u "jdk/internal/util/ArraysSupport"), (0, u "LOG2_ARRAY_LONG_INDEX_SCALE"), (0, u "I"), (2, u "U"), (0, u "Ljdk/internal/misc/Unsafe;"), (8, u "BIG_ENDIAN"), (0, u "Z"), (8, u "LOG2_BYTE_BIT_SIZE"), (4, u "LOG2_ARRAY_INT_INDEX_SCALE"), (54, u "JLA"), (0, u "Ljdk/internal/access/JavaLangAccess;"), (11, u "LOG2_ARRAY_BOOLEAN_INDEX_SCALE"), (9, u "LOG2_ARRAY_BYTE_INDEX_SCALE"), (5, u "LOG2_ARRAY_CHAR_INDEX_SCALE"), (5, u "LOG2_ARRAY_SHORT_INDEX_SCALE"), (18, u "LOG2_ARRAY_FLOAT_INDEX_SCALE"), (24, u "LOG2_ARRAY_DOUBLE_INDEX_SCALE"), (89, u "T_BOOLEAN"), (2, u "T_CHAR"), (1, u "T_FLOAT"), (1, u "T_DOUBLE"), (1, u "T_BYTE"), (1, u "T_SHORT"), (1, u "T_INT"), (1, u "T_LONG"), (1, u "SOFT_MAX_ARRAY_LENGTH")] 83

def k12m0 : Method := { name := "<init>", desc := "()V", sig := { parameters := [], returnType := none }, accessFlags := 2, code := none }
/-- jdk/internal/util/ArraysSupport -/
def k12 : Class := { plain "jdk/internal/util/ArraysSupport" (some 0) with
  accessFlags := 33
  interfaces := #[]
  cf := some (fileOf pool12 21 #[] #[{ accessFlags := 2, nameIndex := 9, descriptorIndex := 19, attributes := #[] }] 33 16 #[] #[{ accessFlags := 24, nameIndex := 28, descriptorIndex := 29, attributes := #[] }, { accessFlags := 26, nameIndex := 38, descriptorIndex := 39, attributes := #[] }, { accessFlags := 25, nameIndex := 121, descriptorIndex := 25, attributes := #[] }, { accessFlags := 25, nameIndex := 131, descriptorIndex := 25, attributes := #[] }, { accessFlags := 25, nameIndex := 137, descriptorIndex := 25, attributes := #[] }, { accessFlags := 25, nameIndex := 143, descriptorIndex := 25, attributes := #[] }, { accessFlags := 25, nameIndex := 53, descriptorIndex := 25, attributes := #[] }, { accessFlags := 25, nameIndex := 24, descriptorIndex := 25, attributes := #[] }, { accessFlags := 25, nameIndex := 162, descriptorIndex := 25, attributes := #[] }, { accessFlags := 25, nameIndex := 187, descriptorIndex := 25, attributes := #[] }, { accessFlags := 26, nameIndex := 48, descriptorIndex := 25, attributes := #[] }, { accessFlags := 25, nameIndex := 277, descriptorIndex := 25, attributes := #[] }, { accessFlags := 25, nameIndex := 280, descriptorIndex := 25, attributes := #[] }, { accessFlags := 25, nameIndex := 282, descriptorIndex := 25, attributes := #[] }, { accessFlags := 25, nameIndex := 284, descriptorIndex := 25, attributes := #[] }, { accessFlags := 25, nameIndex := 286, descriptorIndex := 25, attributes := #[] }, { accessFlags := 25, nameIndex := 288, descriptorIndex := 25, attributes := #[] }, { accessFlags := 25, nameIndex := 290, descriptorIndex := 25, attributes := #[] }, { accessFlags := 25, nameIndex := 292, descriptorIndex := 25, attributes := #[] }, { accessFlags := 26, nameIndex := 108, descriptorIndex := 109, attributes := #[] }, { accessFlags := 25, nameIndex := 294, descriptorIndex := 25, attributes := #[] }])
  fields := #[{ name := "U", type := (.object "jdk/internal/misc/Unsafe"), accessFlags := 24, slot := 0, constantValue := 0 }, { name := "BIG_ENDIAN", type := .boolean, accessFlags := 26, slot := 1, constantValue := 0 }, { name := "LOG2_ARRAY_BOOLEAN_INDEX_SCALE", type := .int, accessFlags := 25, slot := 2, constantValue := 0 }, { name := "LOG2_ARRAY_BYTE_INDEX_SCALE", type := .int, accessFlags := 25, slot := 3, constantValue := 0 }, { name := "LOG2_ARRAY_CHAR_INDEX_SCALE", type := .int, accessFlags := 25, slot := 4, constantValue := 0 }, { name := "LOG2_ARRAY_SHORT_INDEX_SCALE", type := .int, accessFlags := 25, slot := 5, constantValue := 0 }, { name := "LOG2_ARRAY_INT_INDEX_SCALE", type := .int, accessFlags := 25, slot := 6, constantValue := 0 }, { name := "LOG2_ARRAY_LONG_INDEX_SCALE", type := .int, accessFlags := 25, slot := 7, constantValue := 0 }, { name := "LOG2_ARRAY_FLOAT_INDEX_SCALE", type := .int, accessFlags := 25, slot := 8, constantValue := 0 }, { name := "LOG2_ARRAY_DOUBLE_INDEX_SCALE", type := .int, accessFlags := 25, slot := 9, constantValue := 0 }, { name := "LOG2_BYTE_BIT_SIZE", type := .int, accessFlags := 26, slot := 10, constantValue := 0 }, { name := "T_BOOLEAN", type := .int, accessFlags := 25, slot := 11, constantValue := 0 }, { name := "T_CHAR", type := .int, accessFlags := 25, slot := 12, constantValue := 0 }, { name := "T_FLOAT", type := .int, accessFlags := 25, slot := 13, constantValue := 0 }, { name := "T_DOUBLE", type := .int, accessFlags := 25, slot := 14, constantValue := 0 }, { name := "T_BYTE", type := .int, accessFlags := 25, slot := 15, constantValue := 0 }, { name := "T_SHORT", type := .int, accessFlags := 25, slot := 16, constantValue := 0 }, { name := "T_INT", type := .int, accessFlags := 25, slot := 17, constantValue := 0 }, { name := "T_LONG", type := .int, accessFlags := 25, slot := 18, constantValue := 0 }, { name := "JLA", type := (.object "jdk/internal/access/JavaLangAccess"), accessFlags := 26, slot := 19, constantValue := 0 }, { name := "SOFT_MAX_ARRAY_LENGTH", type := .int, accessFlags := 25, slot := 20, constantValue := 0 }]
  methods := #[k12m0]
  instanceTypes := #[]
  staticTypes := #[(.object "jdk/internal/misc/Unsafe"), .boolean, .int, .int, .int, .int, .int, .int, .int, .int, .int, .int, .int, .int, .int, .int, .int, .int, .int, (.object "jdk/internal/access/JavaLangAccess"), .int]
  resolved := Array.replicate 378 none
  statics := none }

def pool13 : Array CpInfo := pool [(1, u "java/lang/Cloneable"), (0, .class_ 1), (0, u "java/lang/Object"), (0, .class_ 3)] 3

/-- java/lang/Cloneable -/
def k13 : Class := { plain "java/lang/Cloneable" (some 0) with
  accessFlags := 1537
  interfaces := #[]
  cf := some (fileOf pool13 2 #[] #[] 1537 4 #[] #[])
  fields := #[]
  methods := #[]
  instanceTypes := #[]
  staticTypes := #[]
  resolved := Array.replicate 8 none
  statics := none }

/-- the primitive byte -/
def k14 : Class := { plain "byte" none with kind := .primitive 'B', accessFlags := 0x411 }
/-- [B -/
def k15 : Class := { plain "[B" (some 0) with kind := .array 14 .byte, interfaces := #[13, 3], accessFlags := 1041 }

/-- the primitive char -/
def k16 : Class := { plain "char" none with kind := .primitive 'C', accessFlags := 0x411 }
/-- [C -/
def k17 : Class := { plain "[C" (some 0) with kind := .array 16 .char, interfaces := #[13, 3], accessFlags := 1041 }

/-- the primitive int -/
def k18 : Class := { plain "int" none with kind := .primitive 'I', accessFlags := 0x411 }
/-- [I -/
def k19 : Class := { plain "[I" (some 0) with kind := .array 18 .int, interfaces := #[13, 3], accessFlags := 1041 }

def heap : Heap := #[{ cls := 8, slots := #[.long 0, .int 1, .null, .int 0, .null, .int 0, .int 0], vm := .statics 8 },
  { cls := 10, slots := #[.null, .null, .null], vm := .statics 10 }]
def classes : Array Class := #[k0, k1, k2, k3, k4, k5, k6, k7, k8, k9, k10, k11, k12, k13, k14, k15, k16, k17, k18, k19]
def interned : List (Array UInt16 × Addr) := []
def slotsUsed : Nat := 10
def theMethod : MethodId := ⟨1, 1⟩
def args0 : Array Value := #[.int 5, .int 5, .int 5, .int 5]
def aboutOver (below : List Frame) : State where
  vm := { classes := classes, interned := interned.toArray }
  heap := heap
  slotsUsed := slotsUsed
  threads := #[{ frames := .invoking theMethod args0 :: below }]
def below0 : List Frame := [.native { method := ⟨0, 0⟩, args := #[] }]
def about1 : State := aboutOver below0
def p0 : Program := .bare "" "" ""
def e0 : Env := launch0.env 0 0 0
theorem w_frames : about1.frames = Frame.invoking theMethod args0 :: below0 := rfl
set_option maxRecDepth 65536 in
theorem w_args : argsFit about1.vm theMethod args0 = true := by decide +kernel
set_option maxRecDepth 65536 in
theorem w_heap : heapFits about1 = true := by decide +kernel
set_option maxRecDepth 65536 in
theorem w_runnable : about1.curStatus? = some .runnable := by decide +kernel
set_option maxRecDepth 65536 in
theorem w_alone : about1.alone = true := by decide +kernel
set_option maxRecDepth 65536 in
theorem w_named : about1.methodNamed? x = some theMethod := by decide +kernel
set_option maxRecDepth 65536 in
theorem w_hears : about1.hears theMethod below0 = true := by decide +kernel
set_option maxRecDepth 65536 in
theorem w_ripe : about1.ripe theMethod args0 below0 = true := by decide +kernel
theorem w_running : about1.status = .running := rfl
set_option maxRecDepth 65536 in
theorem w_room : about1.hasRoom e0.platform room_1 = true :=
  launch0.hasRoom_least _ room_1 (by decide +kernel) (by decide +kernel) (by decide +kernel) (by decide +kernel) (by decide +kernel) (by decide +kernel)
theorem allAtoms_all (ts : List Jvm.Cond) (a : Array Jvm.Value) (st : Jvm.State) : (allAtoms ts).before a st = ts.all (fun c => c.before a st) := by
  induction ts with
  | nil => rfl
  | cons c t ih =>
    show (Jvm.Cond.and c (allAtoms t)).before a st = _
    rw [Jvm.Cond.before_and, ih, List.all_cons]
def words1 : List Jvm.Cond := Jvm.Cond.code x code maxLocals ret :: tables_1
/-- a 'code' word, met by the world's own term for the bytes: nothing is compared byte by byte -/
theorem code_word {y : MethodName} {bytes : ByteArray} {mx : Nat} {rt : Option FieldType} {a : Array Value} {s : State} {m : MethodId} {meth : Method} {c : Code} (h1 : s.methodNamed? y = some m) (h2 : s.vm.method? m = some meth) (h3 : meth.code = some c) (h4 : c.code = bytes)
    (h5 : (c.maxLocals == mx && c.exceptionTable.isEmpty && decide (c.maxStack ≤ mostOperands) && decide (meth.sig.returnType = rt) && !meth.locks && decide (parseMethodDescriptor y.desc = some meth.sig)) = true) : (Jvm.Cond.code y bytes mx rt).before a s = true := by
  simp only [Bool.and_eq_true, beq_iff_eq, Bool.not_eq_true', decide_eq_true_eq] at h5
  obtain ⟨⟨⟨⟨⟨g1, g2⟩, g3⟩, g4⟩, g5⟩, g6⟩ := h5
  simp [Cond.before, Cond.holds, Cond.value, h1, h2, h3, h4, g1, g2, g3, g4, g5, g6]
def isCode : Jvm.Cond → Bool
  | .code _ _ _ _ => true
  | _ => false
theorem all_split {L : List Jvm.Cond} {P : Jvm.Cond → Bool} (h1 : L.all (fun c => isCode c || P c) = true) (h2 : ∀ c ∈ L.filter isCode, P c = true) : L.all P = true := by
  refine List.all_eq_true.mpr fun c hc => ?_
  have h := List.all_eq_true.mp h1 c hc
  rcases Bool.eq_false_or_eq_true (isCode c) with hi | hi
  · exact h2 c (List.mem_filter.mpr ⟨hc, hi⟩)
  · simpa [hi] using h
set_option maxRecDepth 65536 in
theorem w_c0 : (Jvm.Cond.code x code maxLocals ret).before args0 about1 = true := code_word (m := ⟨1, 1⟩) (meth := k1m1) (c := k1c1) (by decide +kernel) rfl rfl rfl (by decide +kernel)
set_option maxRecDepth 65536 in
theorem w_c1 : (Jvm.Cond.code ({ cls := "pithline/html/ScriptData", name := "next", desc := "(II)I" } : Jvm.MethodName) prog_41_method_2_code (5 : Nat) (Option.some Jvm.ClassFile.FieldType.int)).before args0 about1 = true := code_word (m := ⟨2, 1⟩) (meth := k2m1) (c := k2c1) (by decide +kernel) rfl rfl rfl (by decide +kernel)
set_option maxRecDepth 65536 in
theorem w_c2 : (Jvm.Cond.code ({ cls := "pithline/html/ScriptData", name := "afterLessThan", desc := "(I)I" } : Jvm.MethodName) prog_41_method_8_code (2 : Nat) (Option.some Jvm.ClassFile.FieldType.int)).before args0 about1 = true := code_word (m := ⟨2, 3⟩) (meth := k2m3) (c := k2c3) (by decide +kernel) rfl rfl rfl (by decide +kernel)
set_option maxRecDepth 65536 in
theorem w_c3 : (Jvm.Cond.code ({ cls := "pithline/html/ScriptDataOpenTagLengthPinLaw", name := "tag", desc := "(IZII)I" } : Jvm.MethodName) method_6_code (5 : Nat) (Option.some Jvm.ClassFile.FieldType.int)).before args0 about1 = true := code_word (m := ⟨1, 5⟩) (meth := k1m5) (c := k1c5) (by decide +kernel) rfl rfl rfl (by decide +kernel)
set_option maxRecDepth 65536 in
theorem w_c4 : (Jvm.Cond.code ({ cls := "pithline/html/ScriptData", name := "escaped", desc := "(II)I" } : Jvm.MethodName) prog_41_method_9_code (3 : Nat) (Option.some Jvm.ClassFile.FieldType.int)).before args0 about1 = true := code_word (m := ⟨2, 4⟩) (meth := k2m4) (c := k2c4) (by decide +kernel) rfl rfl rfl (by decide +kernel)
set_option maxRecDepth 65536 in
theorem w_c5 : (Jvm.Cond.code ({ cls := "pithline/html/ScriptDataOpenTagLengthPinLaw", name := "letter", desc := "(II)I" } : Jvm.MethodName) method_5_code (3 : Nat) (Option.some Jvm.ClassFile.FieldType.int)).before args0 about1 = true := code_word (m := ⟨1, 4⟩) (meth := k1m4) (c := k1c4) (by decide +kernel) rfl rfl rfl (by decide +kernel)
set_option maxRecDepth 65536 in
theorem w_c6 : (Jvm.Cond.code ({ cls := "java/lang/String", name := "charAt", desc := "(I)C" } : Jvm.MethodName) jdk_42_method_56_code (2 : Nat) (Option.some Jvm.ClassFile.FieldType.char)).before args0 about1 = true := code_word (m := ⟨8, 2⟩) (meth := k8m2) (c := k8c2) (by decide +kernel) rfl rfl rfl (by decide +kernel)
set_option maxRecDepth 65536 in
theorem w_c7 : (Jvm.Cond.code ({ cls := "java/lang/String", name := "isLatin1", desc := "()Z" } : Jvm.MethodName) jdk_42_method_154_code (1 : Nat) (Option.some Jvm.ClassFile.FieldType.boolean)).before args0 about1 = true := code_word (m := ⟨8, 4⟩) (meth := k8m4) (c := k8c4) (by decide +kernel) rfl rfl rfl (by decide +kernel)
set_option maxRecDepth 65536 in
theorem w_c8 : (Jvm.Cond.code ({ cls := "java/lang/StringLatin1", name := "charAt", desc := "([BI)C" } : Jvm.MethodName) jdk_43_method_2_code (2 : Nat) (Option.some Jvm.ClassFile.FieldType.char)).before args0 about1 = true := code_word (m := ⟨9, 1⟩) (meth := k9m1) (c := k9c1) (by decide +kernel) rfl rfl rfl (by decide +kernel)
set_option maxRecDepth 65536 in
theorem w_c9 : (Jvm.Cond.code ({ cls := "java/lang/String", name := "checkIndex", desc := "(II)V" } : Jvm.MethodName) jdk_42_method_155_code (2 : Nat) (Option.none : Option Jvm.ClassFile.FieldType)).before args0 about1 = true := code_word (m := ⟨8, 5⟩) (meth := k8m5) (c := k8c5) (by decide +kernel) rfl rfl rfl (by decide +kernel)
set_option maxRecDepth 65536 in
theorem w_c10 : (Jvm.Cond.code ({ cls := "jdk/internal/util/Preconditions", name := "checkIndex", desc := "(IILjava/util/function/BiFunction;)I" } : Jvm.MethodName) jdk_41_method_11_code (3 : Nat) (Option.some Jvm.ClassFile.FieldType.int)).before args0 about1 = true := code_word (m := ⟨10, 1⟩) (meth := k10m1) (c := k10c1) (by decide +kernel) rfl rfl rfl (by decide +kernel)
set_option maxRecDepth 65536 in
theorem w_c11 : (Jvm.Cond.code ({ cls := "pithline/html/ScriptData", name := "afterEscapedLessThan", desc := "(I)I" } : Jvm.MethodName) prog_41_method_10_code (2 : Nat) (Option.some Jvm.ClassFile.FieldType.int)).before args0 about1 = true := code_word (m := ⟨2, 5⟩) (meth := k2m5) (c := k2c5) (by decide +kernel) rfl rfl rfl (by decide +kernel)
set_option maxRecDepth 65536 in
theorem w_c12 : (Jvm.Cond.code ({ cls := "pithline/html/ScriptData", name := "nameRead", desc := "(IIIII)I" } : Jvm.MethodName) prog_41_method_13_code (6 : Nat) (Option.some Jvm.ClassFile.FieldType.int)).before args0 about1 = true := code_word (m := ⟨2, 8⟩) (meth := k2m8) (c := k2c8) (by decide +kernel) rfl rfl rfl (by decide +kernel)
set_option maxRecDepth 65536 in
theorem w_c13 : (Jvm.Cond.code ({ cls := "java/lang/String", name := "length", desc := "()I" } : Jvm.MethodName) jdk_42_method_54_code (1 : Nat) (Option.some Jvm.ClassFile.FieldType.int)).before args0 about1 = true := code_word (m := ⟨8, 1⟩) (meth := k8m1) (c := k8c1) (by decide +kernel) rfl rfl rfl (by decide +kernel)
set_option maxRecDepth 65536 in
theorem w_c14 : (Jvm.Cond.code ({ cls := "java/lang/String", name := "coder", desc := "()B" } : Jvm.MethodName) jdk_42_method_152_code (1 : Nat) (Option.some Jvm.ClassFile.FieldType.byte)).before args0 about1 = true := code_word (m := ⟨8, 3⟩) (meth := k8m3) (c := k8c3) (by decide +kernel) rfl rfl rfl (by decide +kernel)
set_option maxRecDepth 65536 in
theorem w_c15 : (Jvm.Cond.code ({ cls := "pithline/util/Ascii", name := "lowerCase", desc := "(I)C" } : Jvm.MethodName) prog_124_method_4_code (1 : Nat) (Option.some Jvm.ClassFile.FieldType.char)).before args0 about1 = true := code_word (m := ⟨11, 2⟩) (meth := k11m2) (c := k11c2) (by decide +kernel) rfl rfl rfl (by decide +kernel)
set_option maxRecDepth 65536 in
theorem w_c16 : (Jvm.Cond.code ({ cls := "pithline/html/ScriptData", name := "openTagLength", desc := "(I)I" } : Jvm.MethodName) prog_41_method_6_code (4 : Nat) (Option.some Jvm.ClassFile.FieldType.int)).before args0 about1 = true := code_word (m := ⟨2, 2⟩) (meth := k2m2) (c := k2c2) (by decide +kernel) rfl rfl rfl (by decide +kernel)
set_option maxRecDepth 65536 in
theorem w_c17 : (Jvm.Cond.code ({ cls := "pithline/html/ScriptDataOpenTagLengthPinLaw", name := "base", desc := "(ZZI)I" } : Jvm.MethodName) method_3_code (4 : Nat) (Option.some Jvm.ClassFile.FieldType.int)).before args0 about1 = true := code_word (m := ⟨1, 2⟩) (meth := k1m2) (c := k1c2) (by decide +kernel) rfl rfl rfl (by decide +kernel)
set_option maxRecDepth 65536 in
theorem w_c18 : (Jvm.Cond.code ({ cls := "pithline/html/ScriptData", name := "isNameEnd", desc := "(I)Z" } : Jvm.MethodName) prog_41_method_14_code (1 : Nat) (Option.some Jvm.ClassFile.FieldType.boolean)).before args0 about1 = true := code_word (m := ⟨2, 9⟩) (meth := k2m9) (c := k2c9) (by decide +kernel) rfl rfl rfl (by decide +kernel)
set_option maxRecDepth 65536 in
theorem w_c19 : (Jvm.Cond.code ({ cls := "pithline/util/Ascii", name := "isWhiteSpace", desc := "(I)Z" } : Jvm.MethodName) prog_124_method_2_code (1 : Nat) (Option.some Jvm.ClassFile.FieldType.boolean)).before args0 about1 = true := code_word (m := ⟨11, 1⟩) (meth := k11m1) (c := k11c1) (by decide +kernel) rfl rfl rfl (by decide +kernel)
set_option maxRecDepth 65536 in
theorem w_c20 : (Jvm.Cond.code ({ cls := "pithline/html/ScriptData", name := "doublyEscaped", desc := "(II)I" } : Jvm.MethodName) prog_41_method_11_code (3 : Nat) (Option.some Jvm.ClassFile.FieldType.int)).before args0 about1 = true := code_word (m := ⟨2, 6⟩) (meth := k2m6) (c := k2c6) (by decide +kernel) rfl rfl rfl (by decide +kernel)
set_option maxRecDepth 65536 in
theorem w_c21 : (Jvm.Cond.code ({ cls := "pithline/html/ScriptData", name := "afterDoublyEscapedLessThan", desc := "(I)I" } : Jvm.MethodName) prog_41_method_12_code (2 : Nat) (Option.some Jvm.ClassFile.FieldType.int)).before args0 about1 = true := code_word (m := ⟨2, 7⟩) (meth := k2m7) (c := k2c7) (by decide +kernel) rfl rfl rfl (by decide +kernel)
set_option maxRecDepth 65536 in
theorem w_c22 : (Jvm.Cond.code ({ cls := "pithline/html/ScriptDataOpenTagLengthPinLaw", name := "isNameEnd", desc := "(I)Z" } : Jvm.MethodName) method_4_code (1 : Nat) (Option.some Jvm.ClassFile.FieldType.boolean)).before args0 about1 = true := code_word (m := ⟨1, 3⟩) (meth := k1m3) (c := k1c3) (by decide +kernel) rfl rfl rfl (by decide +kernel)
def codes1 : List Jvm.Cond := [Jvm.Cond.code x code maxLocals ret, Jvm.Cond.code ({ cls := "pithline/html/ScriptData", name := "next", desc := "(II)I" } : Jvm.MethodName) prog_41_method_2_code (5 : Nat) (Option.some Jvm.ClassFile.FieldType.int), Jvm.Cond.code ({ cls := "pithline/html/ScriptData", name := "afterLessThan", desc := "(I)I" } : Jvm.MethodName) prog_41_method_8_code (2 : Nat) (Option.some Jvm.ClassFile.FieldType.int), Jvm.Cond.code ({ cls := "pithline/html/ScriptDataOpenTagLengthPinLaw", name := "tag", desc := "(IZII)I" } : Jvm.MethodName) method_6_code (5 : Nat) (Option.some Jvm.ClassFile.FieldType.int), Jvm.Cond.code ({ cls := "pithline/html/ScriptData", name := "escaped", desc := "(II)I" } : Jvm.MethodName) prog_41_method_9_code (3 : Nat) (Option.some Jvm.ClassFile.FieldType.int), Jvm.Cond.code ({ cls := "pithline/html/ScriptDataOpenTagLengthPinLaw", name := "letter", desc := "(II)I" } : Jvm.MethodName) method_5_code (3 : Nat) (Option.some Jvm.ClassFile.FieldType.int), Jvm.Cond.code ({ cls := "java/lang/String", name := "charAt", desc := "(I)C" } : Jvm.MethodName) jdk_42_method_56_code (2 : Nat) (Option.some Jvm.ClassFile.FieldType.char), Jvm.Cond.code ({ cls := "java/lang/String", name := "isLatin1", desc := "()Z" } : Jvm.MethodName) jdk_42_method_154_code (1 : Nat) (Option.some Jvm.ClassFile.FieldType.boolean), Jvm.Cond.code ({ cls := "java/lang/StringLatin1", name := "charAt", desc := "([BI)C" } : Jvm.MethodName) jdk_43_method_2_code (2 : Nat) (Option.some Jvm.ClassFile.FieldType.char), Jvm.Cond.code ({ cls := "java/lang/String", name := "checkIndex", desc := "(II)V" } : Jvm.MethodName) jdk_42_method_155_code (2 : Nat) (Option.none : Option Jvm.ClassFile.FieldType), Jvm.Cond.code ({ cls := "jdk/internal/util/Preconditions", name := "checkIndex", desc := "(IILjava/util/function/BiFunction;)I" } : Jvm.MethodName) jdk_41_method_11_code (3 : Nat) (Option.some Jvm.ClassFile.FieldType.int), Jvm.Cond.code ({ cls := "pithline/html/ScriptData", name := "afterEscapedLessThan", desc := "(I)I" } : Jvm.MethodName) prog_41_method_10_code (2 : Nat) (Option.some Jvm.ClassFile.FieldType.int), Jvm.Cond.code ({ cls := "pithline/html/ScriptData", name := "nameRead", desc := "(IIIII)I" } : Jvm.MethodName) prog_41_method_13_code (6 : Nat) (Option.some Jvm.ClassFile.FieldType.int), Jvm.Cond.code ({ cls := "java/lang/String", name := "length", desc := "()I" } : Jvm.MethodName) jdk_42_method_54_code (1 : Nat) (Option.some Jvm.ClassFile.FieldType.int), Jvm.Cond.code ({ cls := "java/lang/String", name := "coder", desc := "()B" } : Jvm.MethodName) jdk_42_method_152_code (1 : Nat) (Option.some Jvm.ClassFile.FieldType.byte), Jvm.Cond.code ({ cls := "pithline/util/Ascii", name := "lowerCase", desc := "(I)C" } : Jvm.MethodName) prog_124_method_4_code (1 : Nat) (Option.some Jvm.ClassFile.FieldType.char), Jvm.Cond.code ({ cls := "pithline/html/ScriptData", name := "openTagLength", desc := "(I)I" } : Jvm.MethodName) prog_41_method_6_code (4 : Nat) (Option.some Jvm.ClassFile.FieldType.int), Jvm.Cond.code ({ cls := "pithline/html/ScriptDataOpenTagLengthPinLaw", name := "base", desc := "(ZZI)I" } : Jvm.MethodName) method_3_code (4 : Nat) (Option.some Jvm.ClassFile.FieldType.int), Jvm.Cond.code ({ cls := "pithline/html/ScriptData", name := "isNameEnd", desc := "(I)Z" } : Jvm.MethodName) prog_41_method_14_code (1 : Nat) (Option.some Jvm.ClassFile.FieldType.boolean), Jvm.Cond.code ({ cls := "pithline/util/Ascii", name := "isWhiteSpace", desc := "(I)Z" } : Jvm.MethodName) prog_124_method_2_code (1 : Nat) (Option.some Jvm.ClassFile.FieldType.boolean), Jvm.Cond.code ({ cls := "pithline/html/ScriptData", name := "doublyEscaped", desc := "(II)I" } : Jvm.MethodName) prog_41_method_11_code (3 : Nat) (Option.some Jvm.ClassFile.FieldType.int), Jvm.Cond.code ({ cls := "pithline/html/ScriptData", name := "afterDoublyEscapedLessThan", desc := "(I)I" } : Jvm.MethodName) prog_41_method_12_code (2 : Nat) (Option.some Jvm.ClassFile.FieldType.int), Jvm.Cond.code ({ cls := "pithline/html/ScriptDataOpenTagLengthPinLaw", name := "isNameEnd", desc := "(I)Z" } : Jvm.MethodName) method_4_code (1 : Nat) (Option.some Jvm.ClassFile.FieldType.boolean)]
set_option maxRecDepth 65536 in
theorem codes_eq : words1.filter isCode = codes1 := rfl
theorem w_codes : ∀ c ∈ words1.filter isCode, c.before args0 about1 = true := by
  rw [codes_eq]
  intro c hc
  simp only [codes1, List.mem_cons, List.not_mem_nil, or_false] at hc
  rcases hc with rfl | rfl | rfl | rfl | rfl | rfl | rfl | rfl | rfl | rfl | rfl | rfl | rfl | rfl | rfl | rfl | rfl | rfl | rfl | rfl | rfl | rfl | rfl
  · exact w_c0
  · exact w_c1
  · exact w_c2
  · exact w_c3
  · exact w_c4
  · exact w_c5
  · exact w_c6
  · exact w_c7
  · exact w_c8
  · exact w_c9
  · exact w_c10
  · exact w_c11
  · exact w_c12
  · exact w_c13
  · exact w_c14
  · exact w_c15
  · exact w_c16
  · exact w_c17
  · exact w_c18
  · exact w_c19
  · exact w_c20
  · exact w_c21
  · exact w_c22
set_option maxRecDepth 65536 in
theorem w_t1 : (words1.take 24).all (fun c => isCode c || c.before args0 about1) = true := by decide +kernel
set_option maxRecDepth 65536 in
theorem w_t2 : ((words1.drop 24).take 24).all (fun c => isCode c || c.before args0 about1) = true := by decide +kernel
set_option maxRecDepth 65536 in
theorem w_t3 : (((words1.drop 24).drop 24).take 24).all (fun c => isCode c || c.before args0 about1) = true := by decide +kernel
set_option maxRecDepth 65536 in
theorem w_t4 : ((((words1.drop 24).drop 24).drop 24).take 24).all (fun c => isCode c || c.before args0 about1) = true := by decide +kernel
set_option maxRecDepth 65536 in
theorem w_t5 : ((((words1.drop 24).drop 24).drop 24).drop 24).all (fun c => isCode c || c.before args0 about1) = true := by decide +kernel
theorem w_tables : (allAtoms (Jvm.Cond.code x code maxLocals ret :: tables_1)).before args0 about1 = true := by
  rw [allAtoms_all]
  show words1.all (fun c => c.before args0 about1) = true
  refine all_split ?_ w_codes
  rw [← List.take_append_drop 24 words1, List.all_append, w_t1, ← List.take_append_drop 24 (words1.drop 24), List.all_append, w_t2, ← List.take_append_drop 24 ((words1.drop 24).drop 24), List.all_append, w_t3, ← List.take_append_drop 24 (((words1.drop 24).drop 24).drop 24), List.all_append, w_t4, w_t5]
  rfl
set_option maxRecDepth 65536 in
theorem w_rest : rest_1_c.before args0 about1 = true := by decide +kernel
set_option maxRecDepth 65536 in
theorem w_case : (Jvm.Cond.and given_1 narrow_1).before args0 about1 = true := by decide +kernel
set_option maxRecDepth 65536 in
theorem w_consts : constsHeld consts_1 about1 := Jvm.Lit.constsHeldB_iff.mp (by decide +kernel)
theorem w_applies : (headSpec (Jvm.Cond.code x code maxLocals ret :: tables_1) room_1).applies x e0.platform about1 = true :=
  (Spec.applies_iff w_frames).mpr ⟨w_running, w_runnable, w_alone, w_named, w_hears, w_ripe, w_room, w_tables⟩
theorem atStart : AtStart classFile x code maxLocals ret World_1 tables_1 room_1 Calls_1 rest_1 Pre_1 launch0 p0 e0 about1 theMethod args0 below0 :=
  ⟨lists_1, trivial, launch0.admits_env _ _ _, launch0.least_env, fairChoices_fair.cas, fairChoices_fair.clock, w_frames, w_args, w_heap, w_applies, ⟨w_consts, trivial⟩, w_rest, w_case⟩
end start1
theorem witness_1 : WitnessClaimed_1 := ⟨start1.p0, start1.e0, start1.about1, start1.theMethod, start1.args0, start1.below0, start1.atStart⟩
end Jvm.Pilot.@@N@@
