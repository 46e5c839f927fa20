import JvmDerived
import JvmDerived.Pilot.@@N@@Statement
import JvmDerived.Pilot.@@N@@Code
set_option linter.unusedVariables false
set_option linter.unusedSimpArgs false
namespace Jvm.RoadKit
open Sem ClassFile Op Lib Jvm.Stand Jvm.Free Jvm.LawKit
section New
variable {p : Program} {l : Launch} {e : Env} {R : Room} {s : State} {m : MethodId} {args : Array Value} {below : List Frame} {meth : Method} {c : Code} {T : State} {locs : List Loc} {cells slots : Nat}
theorem retI (X : Stand p l e R s m args below meth c T locs cells slots) (hx : p.tables.exec = Jvm.exec) {pc : Nat} {Ls : Array Slot} {z : Int32} {rest : List Value} (hret : meth.sig.returnType = some .int) (hd : decode c.code pc = .ok (.ireturn, 1)) {fs : List Frame}
    (hl : ∀ (f : JFrame) (acts : List Action), f.method = m → f.locked = none → f.entered = [] → (doReturn e (T.setTop f) acts (some (.int z))).1 = T.setFrames fs) : Steps p.tables e below (T.setTop (mkF m pc Ls (.int z :: rest))) (T.setFrames fs) := by
  have hm' : T.vm.method? m = some meth := X.method'
  have hn : narrow .int (.int z) = .int z := rfl
  show Steps p.tables e below (T.setTop { method := m, pc := pc, locals := Ls, stack := _ :: rest, locked := none }) _
  jvm_step X.here [X.here.top, hx, hd, hm', hret, hn]
  first | (intro acts; rw [hl _ acts rfl rfl rfl]) | rw [hl _ _ rfl rfl rfl]
  exact Steps.refl _
end New
end Jvm.RoadKit
namespace Jvm.Pilot.@@N@@
open Jvm Jvm.ClassFile Sem Op Lib Jvm.Free Jvm.Stand Jvm.LawKit Jvm.RoadKit Bundle Jvm.Pilot.@@N@@.Jvm.D
theorem d1_0 : decode jdk_29_method_65_code 0 = .ok (.iload_n 0, 1) := by decide +kernel
theorem d1_1 : decode jdk_29_method_65_code 1 = .ok (.iload_n 1, 1) := by decide +kernel
theorem d1_2 : decode jdk_29_method_65_code 2 = .ok (.if_icmp .lt 7, 3) := by decide +kernel
theorem d1_5 : decode jdk_29_method_65_code 5 = .ok (.iload_n 0, 1) := by decide +kernel
theorem d1_6 : decode jdk_29_method_65_code 6 = .ok (.goto 4, 3) := by decide +kernel
theorem d1_10 : decode jdk_29_method_65_code 10 = .ok (.ireturn, 1) := by decide +kernel
theorem ef_1 (m : MethodId) (x0 : Int32) (x1 : Int32) : entryFrame m #[(.int x0), (.int x1)] 2 = mkF m 0 #[.val (.int x0), .val (.int x1)] [] := by first | (simp [entryFrame, mkF, argsToLocals, Value.category]; done) | rfl
def Q1A (Z : State) (p1 : Int32) (p2 : Int32) (h0 : Heap) (n0 : Nat) (v : Option Value) (h : Heap) (L : List Loc) : Prop := v = some (.int p1) ∧ Fr n0 L ∧ h = h0
set_option maxRecDepth 65536 in
set_option maxHeartbeats 40000000 in
theorem rm1A (l : Launch) (Z : State) (a0 : Array Value) (hw : ∀ d ∈ tables_1, d.before a0 Z = true) (ws : List Jvm.Cond) (p1 : Int32) (p2 : Int32) (h0 : Heap) (n0 : Nat) (Z0 : n0 ≤ h0.size) (hc2 : ¬ (p1 < p2)) :
    MetFree l (⟨"java/lang/Math", "max", "(II)I"⟩ : MethodName) (head1 (Jvm.Cond.code (⟨"java/lang/Math", "max", "(II)I"⟩ : MethodName) jdk_29_method_65_code 2 (some .int) :: ws) ({ frames := 0, cells := 0, slots := 0, locals := 0 } : Room)) (fun a U => a = #[(.int p1), (.int p2)] ∧ Z.Warmed39 U.vm ∧ U.heap = h0) (fun _ _ _ _ _ => True) (fun _ U o U' => ∃ v L, o = .returned v ∧ Q1A Z p1 p2 h0 n0 v U'.heap L ∧ FrameEnd U o U' L ({ frames := 0, cells := 0, slots := 0, locals := 0 } : Room).cells ({ frames := 0, cells := 0, slots := 0, locals := 0 } : Room).slots) := by
  refine MetFree.of_bodySF (Jvm.Free.JP.mathPlain rfl (by decide +kernel)) hisR ?_
  intro p e s m args below meth c s₁ Bd hml0 hP hK
  obtain ⟨rfl, hZ, hh⟩ := hP
  have hx := Bd.exec
  have hby := Bd.bytes
  have hml : c.maxLocals = 2 := hml0
  have hown : s.vm.findClass "java/lang/Math" = some m.cls := findClass_of_methodNamed Bd.named
  have hnm := (name_of_methodNamed Bd.named Bd.method).1
  have X0 : Stand p l e ({ frames := 0, cells := 0, slots := 0, locals := 0 } : Room) s m #[(.int p1), (.int p2)] below meth c s₁ [] 0 0 := Stand.of_body Bd
  have e0 : s₁.heap = h0 := by rw [← hh, Bd.state]; rfl
  have N0 := Fr.nil n0
  have pre0 : ∀ t, Steps p.tables e below (s₁.setTop (mkF m 0 #[.val (.int p1), .val (.int p2)] [])) t → Steps p.tables e below (s₁.setTop (entryFrame m #[(.int p1), (.int p2)] 2)) t := fun t k => castTop (ef_1 m p1 p2) k
  obtain ⟨fs, hr, hrun, hended, hW, hsame⟩ := X0.leave (v := some (.int p1)) (fun h => by rw [Bd.returns] at h; cases h)
  refine ⟨_, _, pre0 _ ?_, hrun, hended, _, _, rfl, ?_, ⟨_, rfl⟩, hW, hsame.mono (by decide) (by decide)⟩
  · show Steps p.tables e below (s₁.setTop (mkF m 0 #[.val (.int p1), .val (.int p2)] [])) _
    refine XS.iloadN X0.here hx rfl (hb hby d1_0) rfl ?_
    show Steps p.tables e below (s₁.setTop (mkF m 1 #[.val (.int p1), .val (.int p2)] [(.int p1)])) _
    refine XS.iloadN X0.here hx rfl (hb hby d1_1) rfl ?_
    show Steps p.tables e below (s₁.setTop (mkF m 2 #[.val (.int p1), .val (.int p2)] [(.int p2), (.int p1)])) _
    refine XS.icmpNo X0.here hx rfl (hb hby d1_2) rfl (flt hc2).1 ?_
    show Steps p.tables e below (s₁.setTop (mkF m 5 #[.val (.int p1), .val (.int p2)] [])) _
    refine XS.iloadN X0.here hx rfl (hb hby d1_5) rfl ?_
    show Steps p.tables e below (s₁.setTop (mkF m 6 #[.val (.int p1), .val (.int p2)] [(.int p1)])) _
    refine XS.goto X0.here hx rfl (pc0 := 6) (pc' := 10) rfl (hb hby d1_6) (by decide) (by decide) ?_
    show Steps p.tables e below (s₁.setTop (mkF m 10 #[.val (.int p1), .val (.int p2)] [(.int p1)])) _
    exact retI X0 hx Bd.returns (hb hby d1_10) hr
  · show Q1A Z p1 p2 h0 n0 _ s₁.heap _
    rw [e0]
    exact ⟨rfl, N0, rfl⟩
theorem d1_9 : decode jdk_29_method_65_code 9 = .ok (.iload_n 1, 1) := by decide +kernel
def Q1B (Z : State) (p1 : Int32) (p2 : Int32) (h0 : Heap) (n0 : Nat) (v : Option Value) (h : Heap) (L : List Loc) : Prop := v = some (.int p2) ∧ Fr n0 L ∧ h = h0
set_option maxRecDepth 65536 in
set_option maxHeartbeats 40000000 in
theorem rm1B (l : Launch) (Z : State) (a0 : Array Value) (hw : ∀ d ∈ tables_1, d.before a0 Z = true) (ws : List Jvm.Cond) (p1 : Int32) (p2 : Int32) (h0 : Heap) (n0 : Nat) (Z0 : n0 ≤ h0.size) (hc2 : p1 < p2) :
    MetFree l (⟨"java/lang/Math", "max", "(II)I"⟩ : MethodName) (head1 (Jvm.Cond.code (⟨"java/lang/Math", "max", "(II)I"⟩ : MethodName) jdk_29_method_65_code 2 (some .int) :: ws) ({ frames := 0, cells := 0, slots := 0, locals := 0 } : Room)) (fun a U => a = #[(.int p1), (.int p2)] ∧ Z.Warmed39 U.vm ∧ U.heap = h0) (fun _ _ _ _ _ => True) (fun _ U o U' => ∃ v L, o = .returned v ∧ Q1B Z p1 p2 h0 n0 v U'.heap L ∧ FrameEnd U o U' L ({ frames := 0, cells := 0, slots := 0, locals := 0 } : Room).cells ({ frames := 0, cells := 0, slots := 0, locals := 0 } : Room).slots) := by
  refine MetFree.of_bodySF (Jvm.Free.JP.mathPlain rfl (by decide +kernel)) hisR ?_
  intro p e s m args below meth c s₁ Bd hml0 hP hK
  obtain ⟨rfl, hZ, hh⟩ := hP
  have hx := Bd.exec
  have hby := Bd.bytes
  have hml : c.maxLocals = 2 := hml0
  have hown : s.vm.findClass "java/lang/Math" = some m.cls := findClass_of_methodNamed Bd.named
  have hnm := (name_of_methodNamed Bd.named Bd.method).1
  have X0 : Stand p l e ({ frames := 0, cells := 0, slots := 0, locals := 0 } : Room) s m #[(.int p1), (.int p2)] below meth c s₁ [] 0 0 := Stand.of_body Bd
  have e0 : s₁.heap = h0 := by rw [← hh, Bd.state]; rfl
  have N0 := Fr.nil n0
  have pre0 : ∀ t, Steps p.tables e below (s₁.setTop (mkF m 0 #[.val (.int p1), .val (.int p2)] [])) t → Steps p.tables e below (s₁.setTop (entryFrame m #[(.int p1), (.int p2)] 2)) t := fun t k => castTop (ef_1 m p1 p2) k
  obtain ⟨fs, hr, hrun, hended, hW, hsame⟩ := X0.leave (v := some (.int p2)) (fun h => by rw [Bd.returns] at h; cases h)
  refine ⟨_, _, pre0 _ ?_, hrun, hended, _, _, rfl, ?_, ⟨_, rfl⟩, hW, hsame.mono (by decide) (by decide)⟩
  · show Steps p.tables e below (s₁.setTop (mkF m 0 #[.val (.int p1), .val (.int p2)] [])) _
    refine XS.iloadN X0.here hx rfl (hb hby d1_0) rfl ?_
    show Steps p.tables e below (s₁.setTop (mkF m 1 #[.val (.int p1), .val (.int p2)] [(.int p1)])) _
    refine XS.iloadN X0.here hx rfl (hb hby d1_1) rfl ?_
    show Steps p.tables e below (s₁.setTop (mkF m 2 #[.val (.int p1), .val (.int p2)] [(.int p2), (.int p1)])) _
    refine XS.icmpYes X0.here hx rfl (pc0 := 2) (pc' := 9) rfl (hb hby d1_2) rfl (tlt hc2).1 (by decide) (by decide) ?_
    show Steps p.tables e below (s₁.setTop (mkF m 9 #[.val (.int p1), .val (.int p2)] [])) _
    refine XS.iloadN X0.here hx rfl (hb hby d1_9) rfl ?_
    show Steps p.tables e below (s₁.setTop (mkF m 10 #[.val (.int p1), .val (.int p2)] [(.int p2)])) _
    exact retI X0 hx Bd.returns (hb hby d1_10) hr
  · show Q1B Z p1 p2 h0 n0 _ s₁.heap _
    rw [e0]
    exact ⟨rfl, N0, rfl⟩
theorem d3_0 : decode jdk_37_method_2_code 0 = .ok (.aload_n 0, 1) := by decide +kernel
theorem d3_1 : decode jdk_37_method_2_code 1 = .ok (.getfield 7, 3) := by decide +kernel
theorem d3_4 : decode jdk_37_method_2_code 4 = .ok (.ireturn, 1) := by decide +kernel
theorem pn_3 : plainName "java/lang/Enum" = true := by first | (simp [plainName, overriddenIn]; done) | decide +kernel
theorem ef_3 (m : MethodId) (x0 : Addr) : entryFrame m #[(.ref x0)] 1 = mkF m 0 #[.val (.ref x0)] [] := by first | (simp [entryFrame, mkF, argsToLocals, Value.category]; done) | rfl
def Q3 (Z : State) (a1 : Addr) (w2 : Int32) (h0 : Heap) (n0 : Nat) (v : Option Value) (h : Heap) (L : List Loc) : Prop := v = some (.int w2) ∧ Fr n0 L ∧ h = h0
set_option maxRecDepth 65536 in
set_option maxHeartbeats 40000000 in
theorem rm3 (l : Launch) (Z : State) (a0 : Array Value) (hw : ∀ d ∈ tables_1, d.before a0 Z = true) (ws : List Jvm.Cond) (a1 : Addr) (w2 : Int32) (h0 : Heap) (n0 : Nat) (Z0 : n0 ≤ h0.size) (F_ordinal_a1 : Fld Z h0 a1 "java/lang/Enum" "ordinal" "I" (.int w2)) :
    MetFree l (⟨"java/lang/Enum", "ordinal", "()I"⟩ : MethodName) (head1 (Jvm.Cond.code (⟨"java/lang/Enum", "ordinal", "()I"⟩ : MethodName) jdk_37_method_2_code 1 (some .int) :: ws) ({ frames := 0, cells := 0, slots := 0, locals := 0 } : Room)) (fun a U => a = #[(.ref a1)] ∧ Z.Warmed39 U.vm ∧ U.heap = h0) (fun _ _ _ _ _ => True) (fun _ U o U' => ∃ v L, o = .returned v ∧ Q3 Z a1 w2 h0 n0 v U'.heap L ∧ FrameEnd U o U' L ({ frames := 0, cells := 0, slots := 0, locals := 0 } : Room).cells ({ frames := 0, cells := 0, slots := 0, locals := 0 } : Room).slots) := by
  refine MetFree.of_bodySF (plainFor_of_name pn_3) hisR ?_
  intro p e s m args below meth c s₁ Bd hml0 hP hK
  obtain ⟨rfl, hZ, hh⟩ := hP
  have hx := Bd.exec
  have hby := Bd.bytes
  have hml : c.maxLocals = 1 := hml0
  have hown : s.vm.findClass "java/lang/Enum" = some m.cls := findClass_of_methodNamed Bd.named
  have hnm := (name_of_methodNamed Bd.named Bd.method).1
  have X0 : Stand p l e ({ frames := 0, cells := 0, slots := 0, locals := 0 } : Room) s m #[(.ref a1)] below meth c s₁ [] 0 0 := Stand.of_body Bd
  have e0 : s₁.heap = h0 := by rw [← hh, Bd.state]; rfl
  have N0 := Fr.nil n0
  have pre0 : ∀ t, Steps p.tables e below (s₁.setTop (mkF m 0 #[.val (.ref a1)] [])) t → Steps p.tables e below (s₁.setTop (entryFrame m #[(.ref a1)] 1)) t := fun t k => castTop (ef_3 m a1) k
  obtain ⟨T3, X3, e3, st3⟩ := getF X0 hx hZ hown (host := "") (Or.inl (hw _ (List.mem_of_getElem? (i := 20) rfl))) Via.refl e0 F_ordinal_a1 (g := (mkF m 1 #[.val (.ref a1)] [(.ref a1)])) rfl rfl (hb hby d3_1)
  obtain ⟨fs, hr, hrun, hended, hW, hsame⟩ := X3.leave (v := some (.int w2)) (fun h => by rw [Bd.returns] at h; cases h)
  refine ⟨_, _, pre0 _ ?_, hrun, hended, _, _, rfl, ?_, ⟨_, rfl⟩, hW, hsame.mono (by decide) (by decide)⟩
  · show Steps p.tables e below (s₁.setTop (mkF m 0 #[.val (.ref a1)] [])) _
    refine XS.aloadN X0.here hx rfl (hb hby d3_0) rfl rfl ?_
    show Steps p.tables e below (s₁.setTop (mkF m 1 #[.val (.ref a1)] [(.ref a1)])) _
    refine st3 _ ?_
    show Steps p.tables e below (T3.setTop (mkF m 4 #[.val (.ref a1)] [(.int w2)])) _
    exact retI X3 hx Bd.returns (hb hby d3_4) hr
  · show Q3 Z a1 w2 h0 n0 _ T3.heap _
    rw [e3]
    exact ⟨rfl, N0, rfl⟩
theorem d2_0 : decode prog_3_method_4_code 0 = .ok (.aload_n 0, 1) := by decide +kernel
theorem d2_1 : decode prog_3_method_4_code 1 = .ok (.invokevirtual 29, 3) := by decide +kernel
theorem d2_4 : decode prog_3_method_4_code 4 = .ok (.lookupswitch 28 #[(0, 38), (1, 46)], 28) := by decide +kernel
theorem d2_42 : decode prog_3_method_4_code 42 = .ok (.iload_n 1, 1) := by decide +kernel
theorem d2_43 : decode prog_3_method_4_code 43 = .ok (.iconst 2, 1) := by decide +kernel
theorem d2_44 : decode prog_3_method_4_code 44 = .ok (.idiv, 1) := by decide +kernel
theorem d2_45 : decode prog_3_method_4_code 45 = .ok (.iconst 1, 1) := by decide +kernel
theorem d2_46 : decode prog_3_method_4_code 46 = .ok (.iadd, 1) := by decide +kernel
theorem d2_47 : decode prog_3_method_4_code 47 = .ok (.goto 4, 3) := by decide +kernel
theorem d2_51 : decode prog_3_method_4_code 51 = .ok (.ireturn, 1) := by decide +kernel
theorem pn_2 : plainName "com/example/uzraktas/uzraktas/Quorum" = true := by first | (simp [plainName, overriddenIn]; done) | decide +kernel
theorem pd_2_2 : parseMethodDescriptor "()I" = some ⟨[], some .int⟩ := by decide +kernel
theorem ef_2 (m : MethodId) (x0 : Addr) (x1 : Int32) : entryFrame m #[(.ref x0), (.int x1)] 2 = mkF m 0 #[.val (.ref x0), .val (.int x1)] [] := by first | (simp [entryFrame, mkF, argsToLocals, Value.category]; done) | rfl
def Q2A (Z : State) (a1 : Addr) (p2 : Int32) (h0 : Heap) (n0 : Nat) (v : Option Value) (h : Heap) (L : List Loc) : Prop := v = some (.int ((p2 / (2 : Int32)) + (1 : Int32))) ∧ Fr n0 L ∧ h = h0
set_option maxRecDepth 65536 in
set_option maxHeartbeats 40000000 in
theorem rm2A (l : Launch) (Z : State) (a0 : Array Value) (hw : ∀ d ∈ tables_1, d.before a0 Z = true) (ws : List Jvm.Cond) (a1 : Addr) (p2 : Int32) (h0 : Heap) (n0 : Nat) (Z0 : n0 ≤ h0.size) (E_a1 : Exa Z h0 a1 "com/example/uzraktas/uzraktas/Quorum") (F_o : Fld Z h0 a1 "java/lang/Enum" "ordinal" "I" (.int (0 : Int32))) :
    MetFree l (⟨"com/example/uzraktas/uzraktas/Quorum", "of", "(I)I"⟩ : MethodName) (head1 (Jvm.Cond.code (⟨"com/example/uzraktas/uzraktas/Quorum", "of", "(I)I"⟩ : MethodName) prog_3_method_4_code 2 (some .int) :: ws) ({ frames := 1, cells := 0, slots := 0, locals := 12 } : Room)) (fun a U => a = #[(.ref a1), (.int p2)] ∧ Z.Warmed39 U.vm ∧ U.heap = h0) (fun _ _ _ _ _ => True) (fun _ U o U' => ∃ v L, o = .returned v ∧ Q2A Z a1 p2 h0 n0 v U'.heap L ∧ FrameEnd U o U' L ({ frames := 1, cells := 0, slots := 0, locals := 12 } : Room).cells ({ frames := 1, cells := 0, slots := 0, locals := 12 } : Room).slots) := by
  refine MetFree.of_bodySF (plainFor_of_name pn_2) hisR ?_
  intro p e s m args below meth c s₁ Bd hml0 hP hK
  obtain ⟨rfl, hZ, hh⟩ := hP
  have hx := Bd.exec
  have hby := Bd.bytes
  have hml : c.maxLocals = 2 := hml0
  have hown : s.vm.findClass "com/example/uzraktas/uzraktas/Quorum" = some m.cls := findClass_of_methodNamed Bd.named
  have hnm := (name_of_methodNamed Bd.named Bd.method).1
  have X0 : Stand p l e ({ frames := 1, cells := 0, slots := 0, locals := 12 } : Room) s m #[(.ref a1), (.int p2)] below meth c s₁ [] 0 0 := Stand.of_body Bd
  have e0 : s₁.heap = h0 := by rw [← hh, Bd.state]; rfl
  have N0 := Fr.nil n0
  have pre0 : ∀ t, Steps p.tables e below (s₁.setTop (mkF m 0 #[.val (.ref a1), .val (.int p2)] [])) t → Steps p.tables e below (s₁.setTop (entryFrame m #[(.ref a1), (.int p2)] 2)) t := fun t k => castTop (ef_2 m a1 p2) k
  obtain ⟨cq3, kq3, q3a, q3b, q3c⟩ := isOf hZ e0 E_a1
  obtain ⟨_, _, ⟨T3, L3, k3, n3⟩, -, X3, ⟨Lc3, hQ3, l3, y3, z3⟩, st3⟩ := X0.virtualBackUp hx (x := (⟨"com/example/uzraktas/uzraktas/Quorum", "ordinal", "()I"⟩ : MethodName)) (y := (⟨"java/lang/Enum", "ordinal", "()I"⟩ : MethodName)) (owner := "java/lang/Enum") hown (mvT hZ (hw _ (List.mem_of_getElem? (i := 13) rfl))) (mvT hZ (hw _ (List.mem_of_getElem? (i := 14) rfl))) (mvT hZ (hw _ (List.mem_of_getElem? (i := 15) rfl))) (by decide) (mvT hZ (hw _ (List.mem_of_getElem? (i := 17) rfl))) (mvT hZ (hw _ (List.mem_of_getElem? (i := 16) rfl))) (backOf (W := 0) (rm3 l Z a0 hw [] a1 (0 : Int32) h0 n0 Z0 F_o) hZ (hw _ (List.mem_of_getElem? (i := 19) rfl)) (hw _ (List.mem_of_getElem? (i := 18) rfl)) (by decide) (by decide)) q3a q3c (g := (mkF m 1 #[.val (.ref a1), .val (.int p2)] [(.ref a1)])) rfl (by rw [hml]; rfl) (Steps.refl _) (argsL := []) (rest := []) (lenOf pd_2_2 rfl) rfl (by show 2 * 0 + _ ≤ _; exact Nat.le_of_eq rfl) (hb hby d2_1) (fun _ _ => ⟨rfl, e0, (by decide : 0 + 0 ≤ _), (by decide : 0 + 0 ≤ _)⟩)
  dsimp only [Pt.U, Pt.locs, Pt.cells, Pt.slots] at X3 l3 y3 z3 st3 hQ3
  subst l3 y3 z3
  obtain ⟨rfl, N3q, e3c⟩ := hQ3
  have N3 := Fr.app N0 N3q
  obtain ⟨fs, hr, hrun, hended, hW, hsame⟩ := X3.leave (v := some (.int ((p2 / (2 : Int32)) + (1 : Int32)))) (fun h => by rw [Bd.returns] at h; cases h)
  refine ⟨_, _, pre0 _ ?_, hrun, hended, _, _, rfl, ?_, ⟨_, rfl⟩, hW, hsame.mono (by decide) (by decide)⟩
  · show Steps p.tables e below (s₁.setTop (mkF m 0 #[.val (.ref a1), .val (.int p2)] [])) _
    refine XS.aloadN X0.here hx rfl (hb hby d2_0) rfl rfl ?_
    show Steps p.tables e below (s₁.setTop (mkF m 1 #[.val (.ref a1), .val (.int p2)] [(.ref a1)])) _
    refine st3.trans ?_
    show Steps p.tables e below (T3.setTop (mkF m 4 #[.val (.ref a1), .val (.int p2)] [(.int (0 : Int32))])) _
    refine X3.lookupswitchHit hx (g := (mkF m 4 #[.val (.ref a1), .val (.int p2)] [(.int (0 : Int32))])) rfl rfl (hb hby d2_4) (by decide) (a := 0) (off := 38) (by decide) (by show (0 : Int) ≤ ((4 : Nat) : Int) + 38; decide) _ ?_
    show Steps p.tables e below (T3.setTop (mkF m 42 #[.val (.ref a1), .val (.int p2)] [])) _
    refine XS.iloadN X3.here hx rfl (hb hby d2_42) rfl ?_
    show Steps p.tables e below (T3.setTop (mkF m 43 #[.val (.ref a1), .val (.int p2)] [(.int p2)])) _
    refine XS.iconst X3.here hx rfl (hb hby d2_43) ?_
    show Steps p.tables e below (T3.setTop (mkF m 44 #[.val (.ref a1), .val (.int p2)] [(.int (2 : Int32)), (.int p2)])) _
    refine XS.idiv X3.here hx rfl (hb hby d2_44) rfl (by decide) ?_
    show Steps p.tables e below (T3.setTop (mkF m 45 #[.val (.ref a1), .val (.int p2)] [(.int (p2 / (2 : Int32)))])) _
    refine XS.iconst X3.here hx rfl (hb hby d2_45) ?_
    show Steps p.tables e below (T3.setTop (mkF m 46 #[.val (.ref a1), .val (.int p2)] [(.int (1 : Int32)), (.int (p2 / (2 : Int32)))])) _
    refine XS.iadd X3.here hx rfl (hb hby d2_46) rfl ?_
    show Steps p.tables e below (T3.setTop (mkF m 47 #[.val (.ref a1), .val (.int p2)] [(.int ((p2 / (2 : Int32)) + (1 : Int32)))])) _
    refine XS.goto X3.here hx rfl (pc0 := 47) (pc' := 51) rfl (hb hby d2_47) (by decide) (by decide) ?_
    show Steps p.tables e below (T3.setTop (mkF m 51 #[.val (.ref a1), .val (.int p2)] [(.int ((p2 / (2 : Int32)) + (1 : Int32)))])) _
    exact retI X3 hx Bd.returns (hb hby d2_51) hr
  · show Q2A Z a1 p2 h0 n0 _ T3.heap _
    rw [e3c]
    exact ⟨rfl, N3, rfl⟩
theorem d2_50 : decode prog_3_method_4_code 50 = .ok (.iload_n 1, 1) := by decide +kernel
def Q2B (Z : State) (a1 : Addr) (p2 : Int32) (h0 : Heap) (n0 : Nat) (v : Option Value) (h : Heap) (L : List Loc) : Prop := v = some (.int p2) ∧ Fr n0 L ∧ h = h0
set_option maxRecDepth 65536 in
set_option maxHeartbeats 40000000 in
theorem rm2B (l : Launch) (Z : State) (a0 : Array Value) (hw : ∀ d ∈ tables_1, d.before a0 Z = true) (ws : List Jvm.Cond) (a1 : Addr) (p2 : Int32) (h0 : Heap) (n0 : Nat) (Z0 : n0 ≤ h0.size) (E_a1 : Exa Z h0 a1 "com/example/uzraktas/uzraktas/Quorum") (F_o : Fld Z h0 a1 "java/lang/Enum" "ordinal" "I" (.int (1 : Int32))) :
    MetFree l (⟨"com/example/uzraktas/uzraktas/Quorum", "of", "(I)I"⟩ : MethodName) (head1 (Jvm.Cond.code (⟨"com/example/uzraktas/uzraktas/Quorum", "of", "(I)I"⟩ : MethodName) prog_3_method_4_code 2 (some .int) :: ws) ({ frames := 1, cells := 0, slots := 0, locals := 12 } : Room)) (fun a U => a = #[(.ref a1), (.int p2)] ∧ Z.Warmed39 U.vm ∧ U.heap = h0) (fun _ _ _ _ _ => True) (fun _ U o U' => ∃ v L, o = .returned v ∧ Q2B Z a1 p2 h0 n0 v U'.heap L ∧ FrameEnd U o U' L ({ frames := 1, cells := 0, slots := 0, locals := 12 } : Room).cells ({ frames := 1, cells := 0, slots := 0, locals := 12 } : Room).slots) := by
  refine MetFree.of_bodySF (plainFor_of_name pn_2) hisR ?_
  intro p e s m args below meth c s₁ Bd hml0 hP hK
  obtain ⟨rfl, hZ, hh⟩ := hP
  have hx := Bd.exec
  have hby := Bd.bytes
  have hml : c.maxLocals = 2 := hml0
  have hown : s.vm.findClass "com/example/uzraktas/uzraktas/Quorum" = some m.cls := findClass_of_methodNamed Bd.named
  have hnm := (name_of_methodNamed Bd.named Bd.method).1
  have X0 : Stand p l e ({ frames := 1, cells := 0, slots := 0, locals := 12 } : Room) s m #[(.ref a1), (.int p2)] below meth c s₁ [] 0 0 := Stand.of_body Bd
  have e0 : s₁.heap = h0 := by rw [← hh, Bd.state]; rfl
  have N0 := Fr.nil n0
  have pre0 : ∀ t, Steps p.tables e below (s₁.setTop (mkF m 0 #[.val (.ref a1), .val (.int p2)] [])) t → Steps p.tables e below (s₁.setTop (entryFrame m #[(.ref a1), (.int p2)] 2)) t := fun t k => castTop (ef_2 m a1 p2) k
  obtain ⟨cq3, kq3, q3a, q3b, q3c⟩ := isOf hZ e0 E_a1
  obtain ⟨_, _, ⟨T3, L3, k3, n3⟩, -, X3, ⟨Lc3, hQ3, l3, y3, z3⟩, st3⟩ := X0.virtualBackUp hx (x := (⟨"com/example/uzraktas/uzraktas/Quorum", "ordinal", "()I"⟩ : MethodName)) (y := (⟨"java/lang/Enum", "ordinal", "()I"⟩ : MethodName)) (owner := "java/lang/Enum") hown (mvT hZ (hw _ (List.mem_of_getElem? (i := 13) rfl))) (mvT hZ (hw _ (List.mem_of_getElem? (i := 14) rfl))) (mvT hZ (hw _ (List.mem_of_getElem? (i := 15) rfl))) (by decide) (mvT hZ (hw _ (List.mem_of_getElem? (i := 17) rfl))) (mvT hZ (hw _ (List.mem_of_getElem? (i := 16) rfl))) (backOf (W := 0) (rm3 l Z a0 hw [] a1 (1 : Int32) h0 n0 Z0 F_o) hZ (hw _ (List.mem_of_getElem? (i := 19) rfl)) (hw _ (List.mem_of_getElem? (i := 18) rfl)) (by decide) (by decide)) q3a q3c (g := (mkF m 1 #[.val (.ref a1), .val (.int p2)] [(.ref a1)])) rfl (by rw [hml]; rfl) (Steps.refl _) (argsL := []) (rest := []) (lenOf pd_2_2 rfl) rfl (by show 2 * 0 + _ ≤ _; exact Nat.le_of_eq rfl) (hb hby d2_1) (fun _ _ => ⟨rfl, e0, (by decide : 0 + 0 ≤ _), (by decide : 0 + 0 ≤ _)⟩)
  dsimp only [Pt.U, Pt.locs, Pt.cells, Pt.slots] at X3 l3 y3 z3 st3 hQ3
  subst l3 y3 z3
  obtain ⟨rfl, N3q, e3c⟩ := hQ3
  have N3 := Fr.app N0 N3q
  obtain ⟨fs, hr, hrun, hended, hW, hsame⟩ := X3.leave (v := some (.int p2)) (fun h => by rw [Bd.returns] at h; cases h)
  refine ⟨_, _, pre0 _ ?_, hrun, hended, _, _, rfl, ?_, ⟨_, rfl⟩, hW, hsame.mono (by decide) (by decide)⟩
  · show Steps p.tables e below (s₁.setTop (mkF m 0 #[.val (.ref a1), .val (.int p2)] [])) _
    refine XS.aloadN X0.here hx rfl (hb hby d2_0) rfl rfl ?_
    show Steps p.tables e below (s₁.setTop (mkF m 1 #[.val (.ref a1), .val (.int p2)] [(.ref a1)])) _
    refine st3.trans ?_
    show Steps p.tables e below (T3.setTop (mkF m 4 #[.val (.ref a1), .val (.int p2)] [(.int (1 : Int32))])) _
    refine X3.lookupswitchHit hx (g := (mkF m 4 #[.val (.ref a1), .val (.int p2)] [(.int (1 : Int32))])) rfl rfl (hb hby d2_4) (by decide) (a := 1) (off := 46) (by decide) (by show (0 : Int) ≤ ((4 : Nat) : Int) + 46; decide) _ ?_
    show Steps p.tables e below (T3.setTop (mkF m 50 #[.val (.ref a1), .val (.int p2)] [])) _
    refine XS.iloadN X3.here hx rfl (hb hby d2_50) rfl ?_
    show Steps p.tables e below (T3.setTop (mkF m 51 #[.val (.ref a1), .val (.int p2)] [(.int p2)])) _
    exact retI X3 hx Bd.returns (hb hby d2_51) hr
  · show Q2B Z a1 p2 h0 n0 _ T3.heap _
    rw [e3c]
    exact ⟨rfl, N3, rfl⟩
theorem pn_0 : plainName "com/example/uzraktas/uzraktas/QuorumOfPinLaw" = true := by first | (simp [plainName, overriddenIn]; done) | decide +kernel
theorem pd_0_0 : parseMethodDescriptor "(II)I" = some ⟨[.int, .int], some .int⟩ := by decide +kernel
theorem pd_0_1 : parseMethodDescriptor "(I)I" = some ⟨[.int], some .int⟩ := by decide +kernel
theorem ef_0 (m : MethodId) (x0 : Int32) : entryFrame m #[(.int x0)] maxLocals = mkF m 0 #[.val (.int x0), .unset, .unset, .unset, .unset, .unset, .unset, .unset, .unset, .unset] [] := by first | (simp [entryFrame, mkF, argsToLocals, Value.category, maxLocals]; done) | rfl
def Q0 (Z : State) (p1 : Int32) (h0 : Heap) (n0 : Nat) (v : Option Value) (h : Heap) (L : List Loc) : Prop := v = some (.int (1 : Int32)) ∧ Fr n0 L
set_option maxRecDepth 65536 in
set_option maxHeartbeats 40000000 in
theorem rm0A (l : Launch) (Z : State) (a0 : Array Value) (hw : ∀ d ∈ tables_1, d.before a0 Z = true) (ws : List Jvm.Cond) (p1 : Int32) (w3 : Addr) (w6 : Addr) (h0 : Heap) (n0 : Nat) (Z0 : n0 ≤ h0.size) (S_MAJORITY : Sta Z h0 "com/example/uzraktas/uzraktas/Quorum" "MAJORITY" "Lcom/example/uzraktas/uzraktas/Quorum;" (.ref w3)) (E_w3 : Exa Z h0 w3 "com/example/uzraktas/uzraktas/Quorum") (S_ALL : Sta Z h0 "com/example/uzraktas/uzraktas/Quorum" "ALL" "Lcom/example/uzraktas/uzraktas/Quorum;" (.ref w6)) (E_w6 : Exa Z h0 w6 "com/example/uzraktas/uzraktas/Quorum") (F3 : Fld Z h0 w3 "java/lang/Enum" "ordinal" "I" (.int (0 : Int32))) (F6 : Fld Z h0 w6 "java/lang/Enum" "ordinal" "I" (.int (1 : Int32))) (hm : ¬ ((1 : Int32) < (p1 &&& (2147483647 : Int32)))) (hc40 : (0 : Int32) < (lcmpW ((2 : Int64) * ((((1 : Int32) / (2 : Int32)) + (1 : Int32)).toInt64)) ((1 : Int32).toInt64))) (hc53 : ¬ ((0 : Int32) < (lcmpW ((2 : Int64) * (((((1 : Int32) / (2 : Int32)) + (1 : Int32)).toInt64) - (1 : Int64))) ((1 : Int32).toInt64)))) (hc59 : ¬ ((lcmpW ((((1 : Int32) / (2 : Int32)) + (1 : Int32)).toInt64) (1 : Int64)) < (0 : Int32))) (hc66 : ¬ ((0 : Int32) < (lcmpW ((((1 : Int32) / (2 : Int32)) + (1 : Int32)).toInt64) ((1 : Int32).toInt64)))) (hc81 : (lcmpW ((1 : Int32).toInt64) ((1 : Int32).toInt64)) = (0 : Int32)) (hc93 : ¬ ((1 : Int32) = (0 : Int32))) (hc98 : ¬ ((1 : Int32) = (0 : Int32))) :
    MetFree l x (head1 (Jvm.Cond.code x code maxLocals ret :: ws) room_1) (fun a U => a = #[(.int p1)] ∧ Z.Warmed39 U.vm ∧ U.heap = h0) (fun _ _ _ _ _ => True) (fun _ U o U' => ∃ v L, o = .returned v ∧ Q0 Z p1 h0 n0 v U'.heap L ∧ FrameEnd U o U' L room_1.cells room_1.slots) := by
  refine MetFree.of_bodySF (plainFor_of_name pn_0) hisR ?_
  intro p e s m args below meth c s₁ Bd hml0 hP hK
  obtain ⟨rfl, hZ, hh⟩ := hP
  have hx := Bd.exec
  have hby := Bd.bytes
  have hml : c.maxLocals = 10 := hml0
  have hown : s.vm.findClass "com/example/uzraktas/uzraktas/QuorumOfPinLaw" = some m.cls := findClass_of_methodNamed Bd.named
  have hnm := (name_of_methodNamed Bd.named Bd.method).1
  have X0 : Stand p l e room_1 s m #[(.int p1)] below meth c s₁ [] 0 0 := Stand.of_body Bd
  have e0 : s₁.heap = h0 := by rw [← hh, Bd.state]; rfl
  have N0 := Fr.nil n0
  have pre0 : ∀ t, Steps p.tables e below (s₁.setTop (mkF m 0 #[.val (.int p1), .unset, .unset, .unset, .unset, .unset, .unset, .unset, .unset, .unset] [])) t → Steps p.tables e below (s₁.setTop (entryFrame m #[(.int p1)] maxLocals)) t := fun t k => castTop (ef_0 m p1) k
  obtain ⟨_, _, ⟨T2, L2, k2, n2⟩, -, X2, ⟨Lc2, hQ2, l2, y2, z2⟩, st2⟩ := Jvm.LawKit.callS X0 hx (y := (⟨"java/lang/Math", "max", "(II)I"⟩ : MethodName)) hown (mvT hZ (hw _ (List.mem_of_getElem? (i := 1) rfl))) (mvT hZ (hw _ (List.mem_of_getElem? (i := 2) rfl))) (mvT hZ (hw _ (List.mem_of_getElem? (i := 3) rfl))) (mvT hZ (hw _ (List.mem_of_getElem? (i := 4) rfl))) (by decide) (backOf (W := 0) (rm1A l Z a0 hw [] (1 : Int32) (p1 &&& (2147483647 : Int32))  h0 n0 Z0 hm) hZ (hw _ (List.mem_of_getElem? (i := 4) rfl)) (hw _ (List.mem_of_getElem? (i := 3) rfl)) (by decide) (by decide)) (g := (mkF m 5 #[.val (.int p1), .unset, .unset, .unset, .unset, .unset, .unset, .unset, .unset, .unset] [(.int (p1 &&& (2147483647 : Int32))), (.int (1 : Int32))])) rfl (by rw [hml]; rfl) (argsL := [(.int (1 : Int32)), (.int (p1 &&& (2147483647 : Int32)))]) (rest := []) (lenOf pd_0_0 rfl) rfl (by show 2 * 0 + _ ≤ _; exact Nat.le_of_eq rfl) (hb hby at_5) (fun _ _ => ⟨rfl, e0, (by decide : 0 + 0 ≤ _), (by decide : 0 + 0 ≤ _)⟩)
  dsimp only [Pt.U, Pt.locs, Pt.cells, Pt.slots] at X2 l2 y2 z2 st2 hQ2
  subst l2 y2 z2
  obtain ⟨rfl, N2q, e2c⟩ := hQ2
  have N2 := Fr.app N0 N2q
  obtain ⟨T4, X4, e4, st4⟩ := getS2 X2 hx hZ hown (host := "") (Or.inl (hw _ (List.mem_of_getElem? (i := 5) rfl))) Via.refl e2c S_MAJORITY (g := (mkF m 9 #[.val (.int p1), .val (.int (1 : Int32)), .unset, .unset, .unset, .unset, .unset, .unset, .unset, .unset] [])) rfl (hb hby at_9)
  obtain ⟨cq5, kq5, q5a, q5b, q5c⟩ := isOf hZ e4 E_w3
  obtain ⟨_, _, ⟨T5, L5, k5, n5⟩, -, X5, ⟨Lc5, hQ5, l5, y5, z5⟩, st5⟩ := X4.virtualBack hx (y := (⟨"com/example/uzraktas/uzraktas/Quorum", "of", "(I)I"⟩ : MethodName)) (z := (⟨"com/example/uzraktas/uzraktas/Quorum", "of", "(I)I"⟩ : MethodName)) hown (mvT hZ (hw _ (List.mem_of_getElem? (i := 8) rfl))) (mvT hZ (hw _ (List.mem_of_getElem? (i := 9) rfl))) (notFace_of_selects (args := #[]) (mvT hZ (hw _ (List.mem_of_getElem? (i := 11) rfl)))) (mvT hZ (hw _ (List.mem_of_getElem? (i := 11) rfl))) (mvT hZ (hw _ (List.mem_of_getElem? (i := 10) rfl))) (by decide) (backOf (W := 0) (rm2A l Z a0 hw [] w3 (1 : Int32)  h0 n0 Z0 E_w3 F3) hZ (hw _ (List.mem_of_getElem? (i := 12) rfl)) (hw _ (List.mem_of_getElem? (i := 6) rfl)) (by decide) (by decide)) q5a q5c (g := (mkF m 13 #[.val (.int p1), .val (.int (1 : Int32)), .unset, .unset, .unset, .unset, .unset, .unset, .unset, .unset] [(.int (1 : Int32)), (.ref w3)])) rfl (by rw [hml]; rfl) (Steps.refl _) (argsL := [(.int (1 : Int32))]) (rest := []) (lenOf pd_0_1 rfl) rfl (by show 2 * 0 + _ ≤ _; exact Nat.le_of_eq rfl) (hb hby at_13) (fun _ _ => ⟨rfl, e4, (by decide : 0 + 0 ≤ _), (by decide : 0 + 0 ≤ _)⟩)
  dsimp only [Pt.U, Pt.locs, Pt.cells, Pt.slots] at X5 l5 y5 z5 st5 hQ5
  subst l5 y5 z5
  obtain ⟨rfl, N5q, e5c⟩ := hQ5
  have N5 := Fr.app N2 N5q
  obtain ⟨T7, X7, e7, st7⟩ := getS2 X5 hx hZ hown (host := "") (Or.inl (hw _ (List.mem_of_getElem? (i := 22) rfl))) Via.refl e5c S_ALL (g := (mkF m 18 #[.val (.int p1), .val (.int (1 : Int32)), .val (.long ((((1 : Int32) / (2 : Int32)) + (1 : Int32)).toInt64)), .second, .unset, .unset, .unset, .unset, .unset, .unset] [])) rfl (hb hby at_18)
  obtain ⟨cq8, kq8, q8a, q8b, q8c⟩ := isOf hZ e7 E_w6
  obtain ⟨_, _, ⟨T8, L8, k8, n8⟩, -, X8, ⟨Lc8, hQ8, l8, y8, z8⟩, st8⟩ := X7.virtualBack hx (y := (⟨"com/example/uzraktas/uzraktas/Quorum", "of", "(I)I"⟩ : MethodName)) (z := (⟨"com/example/uzraktas/uzraktas/Quorum", "of", "(I)I"⟩ : MethodName)) hown (mvT hZ (hw _ (List.mem_of_getElem? (i := 8) rfl))) (mvT hZ (hw _ (List.mem_of_getElem? (i := 9) rfl))) (notFace_of_selects (args := #[]) (mvT hZ (hw _ (List.mem_of_getElem? (i := 11) rfl)))) (mvT hZ (hw _ (List.mem_of_getElem? (i := 11) rfl))) (mvT hZ (hw _ (List.mem_of_getElem? (i := 10) rfl))) (by decide) (backOf (W := 0) (rm2B l Z a0 hw [] w6 (1 : Int32)  h0 n0 Z0 E_w6 F6) hZ (hw _ (List.mem_of_getElem? (i := 12) rfl)) (hw _ (List.mem_of_getElem? (i := 6) rfl)) (by decide) (by decide)) q8a q8c (g := (mkF m 22 #[.val (.int p1), .val (.int (1 : Int32)), .val (.long ((((1 : Int32) / (2 : Int32)) + (1 : Int32)).toInt64)), .second, .unset, .unset, .unset, .unset, .unset, .unset] [(.int (1 : Int32)), (.ref w6)])) rfl (by rw [hml]; rfl) (Steps.refl _) (argsL := [(.int (1 : Int32))]) (rest := []) (lenOf pd_0_1 rfl) rfl (by show 2 * 0 + _ ≤ _; exact Nat.le_of_eq rfl) (hb hby at_22) (fun _ _ => ⟨rfl, e7, (by decide : 0 + 0 ≤ _), (by decide : 0 + 0 ≤ _)⟩)
  dsimp only [Pt.U, Pt.locs, Pt.cells, Pt.slots] at X8 l8 y8 z8 st8 hQ8
  subst l8 y8 z8
  obtain ⟨rfl, N8q, e8c⟩ := hQ8
  have N8 := Fr.app N5 N8q
  obtain ⟨fs, hr, hrun, hended, hW, hsame⟩ := X8.leave (v := some (.int (1 : Int32))) (fun h => by rw [Bd.returns] at h; cases h)
  refine ⟨_, _, pre0 _ ?_, hrun, hended, _, _, rfl, ?_, ⟨_, rfl⟩, hW, hsame.mono (by decide) (by decide)⟩
  · show Steps p.tables e below (s₁.setTop (mkF m 0 #[.val (.int p1), .unset, .unset, .unset, .unset, .unset, .unset, .unset, .unset, .unset] [])) _
    refine XS.iconst X0.here hx rfl (hb hby at_0) ?_
    show Steps p.tables e below (s₁.setTop (mkF m 1 #[.val (.int p1), .unset, .unset, .unset, .unset, .unset, .unset, .unset, .unset, .unset] [(.int (1 : Int32))])) _
    refine XS.iloadN X0.here hx rfl (hb hby at_1) rfl ?_
    show Steps p.tables e below (s₁.setTop (mkF m 2 #[.val (.int p1), .unset, .unset, .unset, .unset, .unset, .unset, .unset, .unset, .unset] [(.int p1), (.int (1 : Int32))])) _
    refine X0.ldcInt hx hown (mvT hZ (hw _ (List.mem_of_getElem? (i := 0) rfl))) (g := (mkF m 2 #[.val (.int p1), .unset, .unset, .unset, .unset, .unset, .unset, .unset, .unset, .unset] [(.int p1), (.int (1 : Int32))])) rfl (hb hby at_2) _ ?_
    show Steps p.tables e below (s₁.setTop (mkF m 4 #[.val (.int p1), .unset, .unset, .unset, .unset, .unset, .unset, .unset, .unset, .unset] [(.int (2147483647 : Int32)), (.int p1), (.int (1 : Int32))])) _
    refine XS.iand X0.here hx rfl (hb hby at_4) rfl ?_
    show Steps p.tables e below (s₁.setTop (mkF m 5 #[.val (.int p1), .unset, .unset, .unset, .unset, .unset, .unset, .unset, .unset, .unset] [(.int (p1 &&& (2147483647 : Int32))), (.int (1 : Int32))])) _
    refine st2 _ ?_
    show Steps p.tables e below (T2.setTop (mkF m 8 #[.val (.int p1), .unset, .unset, .unset, .unset, .unset, .unset, .unset, .unset, .unset] [(.int (1 : Int32))])) _
    refine XS.istoreN X2.here hx rfl (hb hby at_8) rfl (l' := #[.val (.int p1), .val (.int (1 : Int32)), .unset, .unset, .unset, .unset, .unset, .unset, .unset, .unset]) rfl ?_
    show Steps p.tables e below (T2.setTop (mkF m 9 #[.val (.int p1), .val (.int (1 : Int32)), .unset, .unset, .unset, .unset, .unset, .unset, .unset, .unset] [])) _
    refine st4 _ ?_
    show Steps p.tables e below (T4.setTop (mkF m 12 #[.val (.int p1), .val (.int (1 : Int32)), .unset, .unset, .unset, .unset, .unset, .unset, .unset, .unset] [(.ref w3)])) _
    refine XS.iloadN X4.here hx rfl (hb hby at_12) rfl ?_
    show Steps p.tables e below (T4.setTop (mkF m 13 #[.val (.int p1), .val (.int (1 : Int32)), .unset, .unset, .unset, .unset, .unset, .unset, .unset, .unset] [(.int (1 : Int32)), (.ref w3)])) _
    refine st5.trans ?_
    show Steps p.tables e below (T5.setTop (mkF m 16 #[.val (.int p1), .val (.int (1 : Int32)), .unset, .unset, .unset, .unset, .unset, .unset, .unset, .unset] [(.int (((1 : Int32) / (2 : Int32)) + (1 : Int32)))])) _
    refine XS.i2l X5.here hx rfl (hb hby at_16) rfl ?_
    show Steps p.tables e below (T5.setTop (mkF m 17 #[.val (.int p1), .val (.int (1 : Int32)), .unset, .unset, .unset, .unset, .unset, .unset, .unset, .unset] [(.long ((((1 : Int32) / (2 : Int32)) + (1 : Int32)).toInt64))])) _
    refine XS.lstoreN X5.here hx rfl (hb hby at_17) rfl (l' := #[.val (.int p1), .val (.int (1 : Int32)), .val (.long ((((1 : Int32) / (2 : Int32)) + (1 : Int32)).toInt64)), .second, .unset, .unset, .unset, .unset, .unset, .unset]) rfl ?_
    show Steps p.tables e below (T5.setTop (mkF m 18 #[.val (.int p1), .val (.int (1 : Int32)), .val (.long ((((1 : Int32) / (2 : Int32)) + (1 : Int32)).toInt64)), .second, .unset, .unset, .unset, .unset, .unset, .unset] [])) _
    refine st7 _ ?_
    show Steps p.tables e below (T7.setTop (mkF m 21 #[.val (.int p1), .val (.int (1 : Int32)), .val (.long ((((1 : Int32) / (2 : Int32)) + (1 : Int32)).toInt64)), .second, .unset, .unset, .unset, .unset, .unset, .unset] [(.ref w6)])) _
    refine XS.iloadN X7.here hx rfl (hb hby at_21) rfl ?_
    show Steps p.tables e below (T7.setTop (mkF m 22 #[.val (.int p1), .val (.int (1 : Int32)), .val (.long ((((1 : Int32) / (2 : Int32)) + (1 : Int32)).toInt64)), .second, .unset, .unset, .unset, .unset, .unset, .unset] [(.int (1 : Int32)), (.ref w6)])) _
    refine st8.trans ?_
    show Steps p.tables e below (T8.setTop (mkF m 25 #[.val (.int p1), .val (.int (1 : Int32)), .val (.long ((((1 : Int32) / (2 : Int32)) + (1 : Int32)).toInt64)), .second, .unset, .unset, .unset, .unset, .unset, .unset] [(.int (1 : Int32))])) _
    refine XS.i2l X8.here hx rfl (hb hby at_25) rfl ?_
    show Steps p.tables e below (T8.setTop (mkF m 26 #[.val (.int p1), .val (.int (1 : Int32)), .val (.long ((((1 : Int32) / (2 : Int32)) + (1 : Int32)).toInt64)), .second, .unset, .unset, .unset, .unset, .unset, .unset] [(.long ((1 : Int32).toInt64))])) _
    refine XS.lstore X8.here hx rfl (hb hby at_26) rfl (l' := #[.val (.int p1), .val (.int (1 : Int32)), .val (.long ((((1 : Int32) / (2 : Int32)) + (1 : Int32)).toInt64)), .second, .val (.long ((1 : Int32).toInt64)), .second, .unset, .unset, .unset, .unset]) rfl ?_
    show Steps p.tables e below (T8.setTop (mkF m 28 #[.val (.int p1), .val (.int (1 : Int32)), .val (.long ((((1 : Int32) / (2 : Int32)) + (1 : Int32)).toInt64)), .second, .val (.long ((1 : Int32).toInt64)), .second, .unset, .unset, .unset, .unset] [])) _
    refine XS.iloadN X8.here hx rfl (hb hby at_28) rfl ?_
    show Steps p.tables e below (T8.setTop (mkF m 29 #[.val (.int p1), .val (.int (1 : Int32)), .val (.long ((((1 : Int32) / (2 : Int32)) + (1 : Int32)).toInt64)), .second, .val (.long ((1 : Int32).toInt64)), .second, .unset, .unset, .unset, .unset] [(.int (1 : Int32))])) _
    refine XS.i2l X8.here hx rfl (hb hby at_29) rfl ?_
    show Steps p.tables e below (T8.setTop (mkF m 30 #[.val (.int p1), .val (.int (1 : Int32)), .val (.long ((((1 : Int32) / (2 : Int32)) + (1 : Int32)).toInt64)), .second, .val (.long ((1 : Int32).toInt64)), .second, .unset, .unset, .unset, .unset] [(.long ((1 : Int32).toInt64))])) _
    refine XS.lstore X8.here hx rfl (hb hby at_30) rfl (l' := #[.val (.int p1), .val (.int (1 : Int32)), .val (.long ((((1 : Int32) / (2 : Int32)) + (1 : Int32)).toInt64)), .second, .val (.long ((1 : Int32).toInt64)), .second, .val (.long ((1 : Int32).toInt64)), .second, .unset, .unset]) rfl ?_
    show Steps p.tables e below (T8.setTop (mkF m 32 #[.val (.int p1), .val (.int (1 : Int32)), .val (.long ((((1 : Int32) / (2 : Int32)) + (1 : Int32)).toInt64)), .second, .val (.long ((1 : Int32).toInt64)), .second, .val (.long ((1 : Int32).toInt64)), .second, .unset, .unset] [])) _
    refine X8.ldc2Long hx hown (mvT hZ (hw _ (List.mem_of_getElem? (i := 24) rfl))) (g := (mkF m 32 #[.val (.int p1), .val (.int (1 : Int32)), .val (.long ((((1 : Int32) / (2 : Int32)) + (1 : Int32)).toInt64)), .second, .val (.long ((1 : Int32).toInt64)), .second, .val (.long ((1 : Int32).toInt64)), .second, .unset, .unset] [])) rfl (hb hby at_32) _ ?_
    show Steps p.tables e below (T8.setTop (mkF m 35 #[.val (.int p1), .val (.int (1 : Int32)), .val (.long ((((1 : Int32) / (2 : Int32)) + (1 : Int32)).toInt64)), .second, .val (.long ((1 : Int32).toInt64)), .second, .val (.long ((1 : Int32).toInt64)), .second, .unset, .unset] [(.long (2 : Int64))])) _
    refine XS.lloadN X8.here hx rfl (hb hby at_35) rfl ?_
    show Steps p.tables e below (T8.setTop (mkF m 36 #[.val (.int p1), .val (.int (1 : Int32)), .val (.long ((((1 : Int32) / (2 : Int32)) + (1 : Int32)).toInt64)), .second, .val (.long ((1 : Int32).toInt64)), .second, .val (.long ((1 : Int32).toInt64)), .second, .unset, .unset] [(.long ((((1 : Int32) / (2 : Int32)) + (1 : Int32)).toInt64)), (.long (2 : Int64))])) _
    refine XS.lmul X8.here hx rfl (hb hby at_36) rfl ?_
    show Steps p.tables e below (T8.setTop (mkF m 37 #[.val (.int p1), .val (.int (1 : Int32)), .val (.long ((((1 : Int32) / (2 : Int32)) + (1 : Int32)).toInt64)), .second, .val (.long ((1 : Int32).toInt64)), .second, .val (.long ((1 : Int32).toInt64)), .second, .unset, .unset] [(.long ((2 : Int64) * ((((1 : Int32) / (2 : Int32)) + (1 : Int32)).toInt64)))])) _
    refine XS.lload X8.here hx rfl (hb hby at_37) rfl ?_
    show Steps p.tables e below (T8.setTop (mkF m 39 #[.val (.int p1), .val (.int (1 : Int32)), .val (.long ((((1 : Int32) / (2 : Int32)) + (1 : Int32)).toInt64)), .second, .val (.long ((1 : Int32).toInt64)), .second, .val (.long ((1 : Int32).toInt64)), .second, .unset, .unset] [(.long ((1 : Int32).toInt64)), (.long ((2 : Int64) * ((((1 : Int32) / (2 : Int32)) + (1 : Int32)).toInt64)))])) _
    refine XS.lcmp X8.here hx rfl (hb hby at_39) rfl ?_
    show Steps p.tables e below (T8.setTop (mkF m 40 #[.val (.int p1), .val (.int (1 : Int32)), .val (.long ((((1 : Int32) / (2 : Int32)) + (1 : Int32)).toInt64)), .second, .val (.long ((1 : Int32).toInt64)), .second, .val (.long ((1 : Int32).toInt64)), .second, .unset, .unset] [(.int (lcmpW ((2 : Int64) * ((((1 : Int32) / (2 : Int32)) + (1 : Int32)).toInt64)) ((1 : Int32).toInt64)))])) _
    refine XS.ifNo X8.here hx rfl (hb hby at_40) rfl ((if0 _ _).trans (tlt hc40).2.2.2) ?_
    show Steps p.tables e below (T8.setTop (mkF m 43 #[.val (.int p1), .val (.int (1 : Int32)), .val (.long ((((1 : Int32) / (2 : Int32)) + (1 : Int32)).toInt64)), .second, .val (.long ((1 : Int32).toInt64)), .second, .val (.long ((1 : Int32).toInt64)), .second, .unset, .unset] [])) _
    refine X8.ldc2Long hx hown (mvT hZ (hw _ (List.mem_of_getElem? (i := 24) rfl))) (g := (mkF m 43 #[.val (.int p1), .val (.int (1 : Int32)), .val (.long ((((1 : Int32) / (2 : Int32)) + (1 : Int32)).toInt64)), .second, .val (.long ((1 : Int32).toInt64)), .second, .val (.long ((1 : Int32).toInt64)), .second, .unset, .unset] [])) rfl (hb hby at_43) _ ?_
    show Steps p.tables e below (T8.setTop (mkF m 46 #[.val (.int p1), .val (.int (1 : Int32)), .val (.long ((((1 : Int32) / (2 : Int32)) + (1 : Int32)).toInt64)), .second, .val (.long ((1 : Int32).toInt64)), .second, .val (.long ((1 : Int32).toInt64)), .second, .unset, .unset] [(.long (2 : Int64))])) _
    refine XS.lloadN X8.here hx rfl (hb hby at_46) rfl ?_
    show Steps p.tables e below (T8.setTop (mkF m 47 #[.val (.int p1), .val (.int (1 : Int32)), .val (.long ((((1 : Int32) / (2 : Int32)) + (1 : Int32)).toInt64)), .second, .val (.long ((1 : Int32).toInt64)), .second, .val (.long ((1 : Int32).toInt64)), .second, .unset, .unset] [(.long ((((1 : Int32) / (2 : Int32)) + (1 : Int32)).toInt64)), (.long (2 : Int64))])) _
    refine XS.lconst X8.here hx rfl (hb hby at_47) ?_
    show Steps p.tables e below (T8.setTop (mkF m 48 #[.val (.int p1), .val (.int (1 : Int32)), .val (.long ((((1 : Int32) / (2 : Int32)) + (1 : Int32)).toInt64)), .second, .val (.long ((1 : Int32).toInt64)), .second, .val (.long ((1 : Int32).toInt64)), .second, .unset, .unset] [(.long (1 : Int64)), (.long ((((1 : Int32) / (2 : Int32)) + (1 : Int32)).toInt64)), (.long (2 : Int64))])) _
    refine XS.lsub X8.here hx rfl (hb hby at_48) rfl ?_
    show Steps p.tables e below (T8.setTop (mkF m 49 #[.val (.int p1), .val (.int (1 : Int32)), .val (.long ((((1 : Int32) / (2 : Int32)) + (1 : Int32)).toInt64)), .second, .val (.long ((1 : Int32).toInt64)), .second, .val (.long ((1 : Int32).toInt64)), .second, .unset, .unset] [(.long (((((1 : Int32) / (2 : Int32)) + (1 : Int32)).toInt64) - (1 : Int64))), (.long (2 : Int64))])) _
    refine XS.lmul X8.here hx rfl (hb hby at_49) rfl ?_
    show Steps p.tables e below (T8.setTop (mkF m 50 #[.val (.int p1), .val (.int (1 : Int32)), .val (.long ((((1 : Int32) / (2 : Int32)) + (1 : Int32)).toInt64)), .second, .val (.long ((1 : Int32).toInt64)), .second, .val (.long ((1 : Int32).toInt64)), .second, .unset, .unset] [(.long ((2 : Int64) * (((((1 : Int32) / (2 : Int32)) + (1 : Int32)).toInt64) - (1 : Int64))))])) _
    refine XS.lload X8.here hx rfl (hb hby at_50) rfl ?_
    show Steps p.tables e below (T8.setTop (mkF m 52 #[.val (.int p1), .val (.int (1 : Int32)), .val (.long ((((1 : Int32) / (2 : Int32)) + (1 : Int32)).toInt64)), .second, .val (.long ((1 : Int32).toInt64)), .second, .val (.long ((1 : Int32).toInt64)), .second, .unset, .unset] [(.long ((1 : Int32).toInt64)), (.long ((2 : Int64) * (((((1 : Int32) / (2 : Int32)) + (1 : Int32)).toInt64) - (1 : Int64))))])) _
    refine XS.lcmp X8.here hx rfl (hb hby at_52) rfl ?_
    show Steps p.tables e below (T8.setTop (mkF m 53 #[.val (.int p1), .val (.int (1 : Int32)), .val (.long ((((1 : Int32) / (2 : Int32)) + (1 : Int32)).toInt64)), .second, .val (.long ((1 : Int32).toInt64)), .second, .val (.long ((1 : Int32).toInt64)), .second, .unset, .unset] [(.int (lcmpW ((2 : Int64) * (((((1 : Int32) / (2 : Int32)) + (1 : Int32)).toInt64) - (1 : Int64))) ((1 : Int32).toInt64)))])) _
    refine XS.ifNo X8.here hx rfl (hb hby at_53) rfl ((if0 _ _).trans (flt hc53).2.2.1) ?_
    show Steps p.tables e below (T8.setTop (mkF m 56 #[.val (.int p1), .val (.int (1 : Int32)), .val (.long ((((1 : Int32) / (2 : Int32)) + (1 : Int32)).toInt64)), .second, .val (.long ((1 : Int32).toInt64)), .second, .val (.long ((1 : Int32).toInt64)), .second, .unset, .unset] [])) _
    refine XS.lloadN X8.here hx rfl (hb hby at_56) rfl ?_
    show Steps p.tables e below (T8.setTop (mkF m 57 #[.val (.int p1), .val (.int (1 : Int32)), .val (.long ((((1 : Int32) / (2 : Int32)) + (1 : Int32)).toInt64)), .second, .val (.long ((1 : Int32).toInt64)), .second, .val (.long ((1 : Int32).toInt64)), .second, .unset, .unset] [(.long ((((1 : Int32) / (2 : Int32)) + (1 : Int32)).toInt64))])) _
    refine XS.lconst X8.here hx rfl (hb hby at_57) ?_
    show Steps p.tables e below (T8.setTop (mkF m 58 #[.val (.int p1), .val (.int (1 : Int32)), .val (.long ((((1 : Int32) / (2 : Int32)) + (1 : Int32)).toInt64)), .second, .val (.long ((1 : Int32).toInt64)), .second, .val (.long ((1 : Int32).toInt64)), .second, .unset, .unset] [(.long (1 : Int64)), (.long ((((1 : Int32) / (2 : Int32)) + (1 : Int32)).toInt64))])) _
    refine XS.lcmp X8.here hx rfl (hb hby at_58) rfl ?_
    show Steps p.tables e below (T8.setTop (mkF m 59 #[.val (.int p1), .val (.int (1 : Int32)), .val (.long ((((1 : Int32) / (2 : Int32)) + (1 : Int32)).toInt64)), .second, .val (.long ((1 : Int32).toInt64)), .second, .val (.long ((1 : Int32).toInt64)), .second, .unset, .unset] [(.int (lcmpW ((((1 : Int32) / (2 : Int32)) + (1 : Int32)).toInt64) (1 : Int64)))])) _
    refine XS.ifNo X8.here hx rfl (hb hby at_59) rfl ((if0 _ _).trans (flt hc59).1) ?_
    show Steps p.tables e below (T8.setTop (mkF m 62 #[.val (.int p1), .val (.int (1 : Int32)), .val (.long ((((1 : Int32) / (2 : Int32)) + (1 : Int32)).toInt64)), .second, .val (.long ((1 : Int32).toInt64)), .second, .val (.long ((1 : Int32).toInt64)), .second, .unset, .unset] [])) _
    refine XS.lloadN X8.here hx rfl (hb hby at_62) rfl ?_
    show Steps p.tables e below (T8.setTop (mkF m 63 #[.val (.int p1), .val (.int (1 : Int32)), .val (.long ((((1 : Int32) / (2 : Int32)) + (1 : Int32)).toInt64)), .second, .val (.long ((1 : Int32).toInt64)), .second, .val (.long ((1 : Int32).toInt64)), .second, .unset, .unset] [(.long ((((1 : Int32) / (2 : Int32)) + (1 : Int32)).toInt64))])) _
    refine XS.lload X8.here hx rfl (hb hby at_63) rfl ?_
    show Steps p.tables e below (T8.setTop (mkF m 65 #[.val (.int p1), .val (.int (1 : Int32)), .val (.long ((((1 : Int32) / (2 : Int32)) + (1 : Int32)).toInt64)), .second, .val (.long ((1 : Int32).toInt64)), .second, .val (.long ((1 : Int32).toInt64)), .second, .unset, .unset] [(.long ((1 : Int32).toInt64)), (.long ((((1 : Int32) / (2 : Int32)) + (1 : Int32)).toInt64))])) _
    refine XS.lcmp X8.here hx rfl (hb hby at_65) rfl ?_
    show Steps p.tables e below (T8.setTop (mkF m 66 #[.val (.int p1), .val (.int (1 : Int32)), .val (.long ((((1 : Int32) / (2 : Int32)) + (1 : Int32)).toInt64)), .second, .val (.long ((1 : Int32).toInt64)), .second, .val (.long ((1 : Int32).toInt64)), .second, .unset, .unset] [(.int (lcmpW ((((1 : Int32) / (2 : Int32)) + (1 : Int32)).toInt64) ((1 : Int32).toInt64)))])) _
    refine XS.ifNo X8.here hx rfl (hb hby at_66) rfl ((if0 _ _).trans (flt hc66).2.2.1) ?_
    show Steps p.tables e below (T8.setTop (mkF m 69 #[.val (.int p1), .val (.int (1 : Int32)), .val (.long ((((1 : Int32) / (2 : Int32)) + (1 : Int32)).toInt64)), .second, .val (.long ((1 : Int32).toInt64)), .second, .val (.long ((1 : Int32).toInt64)), .second, .unset, .unset] [])) _
    refine XS.iconst X8.here hx rfl (hb hby at_69) ?_
    show Steps p.tables e below (T8.setTop (mkF m 70 #[.val (.int p1), .val (.int (1 : Int32)), .val (.long ((((1 : Int32) / (2 : Int32)) + (1 : Int32)).toInt64)), .second, .val (.long ((1 : Int32).toInt64)), .second, .val (.long ((1 : Int32).toInt64)), .second, .unset, .unset] [(.int (1 : Int32))])) _
    refine XS.goto X8.here hx rfl (pc0 := 70) (pc' := 74) rfl (hb hby at_70) (by decide) (by decide) ?_
    show Steps p.tables e below (T8.setTop (mkF m 74 #[.val (.int p1), .val (.int (1 : Int32)), .val (.long ((((1 : Int32) / (2 : Int32)) + (1 : Int32)).toInt64)), .second, .val (.long ((1 : Int32).toInt64)), .second, .val (.long ((1 : Int32).toInt64)), .second, .unset, .unset] [(.int (1 : Int32))])) _
    refine XS.istore X8.here hx rfl (hb hby at_74) rfl (l' := #[.val (.int p1), .val (.int (1 : Int32)), .val (.long ((((1 : Int32) / (2 : Int32)) + (1 : Int32)).toInt64)), .second, .val (.long ((1 : Int32).toInt64)), .second, .val (.long ((1 : Int32).toInt64)), .second, .val (.int (1 : Int32)), .unset]) rfl ?_
    show Steps p.tables e below (T8.setTop (mkF m 76 #[.val (.int p1), .val (.int (1 : Int32)), .val (.long ((((1 : Int32) / (2 : Int32)) + (1 : Int32)).toInt64)), .second, .val (.long ((1 : Int32).toInt64)), .second, .val (.long ((1 : Int32).toInt64)), .second, .val (.int (1 : Int32)), .unset] [])) _
    refine XS.lload X8.here hx rfl (hb hby at_76) rfl ?_
    show Steps p.tables e below (T8.setTop (mkF m 78 #[.val (.int p1), .val (.int (1 : Int32)), .val (.long ((((1 : Int32) / (2 : Int32)) + (1 : Int32)).toInt64)), .second, .val (.long ((1 : Int32).toInt64)), .second, .val (.long ((1 : Int32).toInt64)), .second, .val (.int (1 : Int32)), .unset] [(.long ((1 : Int32).toInt64))])) _
    refine XS.lload X8.here hx rfl (hb hby at_78) rfl ?_
    show Steps p.tables e below (T8.setTop (mkF m 80 #[.val (.int p1), .val (.int (1 : Int32)), .val (.long ((((1 : Int32) / (2 : Int32)) + (1 : Int32)).toInt64)), .second, .val (.long ((1 : Int32).toInt64)), .second, .val (.long ((1 : Int32).toInt64)), .second, .val (.int (1 : Int32)), .unset] [(.long ((1 : Int32).toInt64)), (.long ((1 : Int32).toInt64))])) _
    refine XS.lcmp X8.here hx rfl (hb hby at_80) rfl ?_
    show Steps p.tables e below (T8.setTop (mkF m 81 #[.val (.int p1), .val (.int (1 : Int32)), .val (.long ((((1 : Int32) / (2 : Int32)) + (1 : Int32)).toInt64)), .second, .val (.long ((1 : Int32).toInt64)), .second, .val (.long ((1 : Int32).toInt64)), .second, .val (.int (1 : Int32)), .unset] [(.int (lcmpW ((1 : Int32).toInt64) ((1 : Int32).toInt64)))])) _
    refine XS.ifNo X8.here hx rfl (hb hby at_81) rfl ((if0 _ _).trans (teq hc81).2) ?_
    show Steps p.tables e below (T8.setTop (mkF m 84 #[.val (.int p1), .val (.int (1 : Int32)), .val (.long ((((1 : Int32) / (2 : Int32)) + (1 : Int32)).toInt64)), .second, .val (.long ((1 : Int32).toInt64)), .second, .val (.long ((1 : Int32).toInt64)), .second, .val (.int (1 : Int32)), .unset] [])) _
    refine XS.iconst X8.here hx rfl (hb hby at_84) ?_
    show Steps p.tables e below (T8.setTop (mkF m 85 #[.val (.int p1), .val (.int (1 : Int32)), .val (.long ((((1 : Int32) / (2 : Int32)) + (1 : Int32)).toInt64)), .second, .val (.long ((1 : Int32).toInt64)), .second, .val (.long ((1 : Int32).toInt64)), .second, .val (.int (1 : Int32)), .unset] [(.int (1 : Int32))])) _
    refine XS.goto X8.here hx rfl (pc0 := 85) (pc' := 89) rfl (hb hby at_85) (by decide) (by decide) ?_
    show Steps p.tables e below (T8.setTop (mkF m 89 #[.val (.int p1), .val (.int (1 : Int32)), .val (.long ((((1 : Int32) / (2 : Int32)) + (1 : Int32)).toInt64)), .second, .val (.long ((1 : Int32).toInt64)), .second, .val (.long ((1 : Int32).toInt64)), .second, .val (.int (1 : Int32)), .unset] [(.int (1 : Int32))])) _
    refine XS.istore X8.here hx rfl (hb hby at_89) rfl (l' := #[.val (.int p1), .val (.int (1 : Int32)), .val (.long ((((1 : Int32) / (2 : Int32)) + (1 : Int32)).toInt64)), .second, .val (.long ((1 : Int32).toInt64)), .second, .val (.long ((1 : Int32).toInt64)), .second, .val (.int (1 : Int32)), .val (.int (1 : Int32))]) rfl ?_
    show Steps p.tables e below (T8.setTop (mkF m 91 #[.val (.int p1), .val (.int (1 : Int32)), .val (.long ((((1 : Int32) / (2 : Int32)) + (1 : Int32)).toInt64)), .second, .val (.long ((1 : Int32).toInt64)), .second, .val (.long ((1 : Int32).toInt64)), .second, .val (.int (1 : Int32)), .val (.int (1 : Int32))] [])) _
    refine XS.iload X8.here hx rfl (hb hby at_91) rfl ?_
    show Steps p.tables e below (T8.setTop (mkF m 93 #[.val (.int p1), .val (.int (1 : Int32)), .val (.long ((((1 : Int32) / (2 : Int32)) + (1 : Int32)).toInt64)), .second, .val (.long ((1 : Int32).toInt64)), .second, .val (.long ((1 : Int32).toInt64)), .second, .val (.int (1 : Int32)), .val (.int (1 : Int32))] [(.int (1 : Int32))])) _
    refine XS.ifNo X8.here hx rfl (hb hby at_93) rfl ((if0 _ _).trans (feq hc93).1) ?_
    show Steps p.tables e below (T8.setTop (mkF m 96 #[.val (.int p1), .val (.int (1 : Int32)), .val (.long ((((1 : Int32) / (2 : Int32)) + (1 : Int32)).toInt64)), .second, .val (.long ((1 : Int32).toInt64)), .second, .val (.long ((1 : Int32).toInt64)), .second, .val (.int (1 : Int32)), .val (.int (1 : Int32))] [])) _
    refine XS.iload X8.here hx rfl (hb hby at_96) rfl ?_
    show Steps p.tables e below (T8.setTop (mkF m 98 #[.val (.int p1), .val (.int (1 : Int32)), .val (.long ((((1 : Int32) / (2 : Int32)) + (1 : Int32)).toInt64)), .second, .val (.long ((1 : Int32).toInt64)), .second, .val (.long ((1 : Int32).toInt64)), .second, .val (.int (1 : Int32)), .val (.int (1 : Int32))] [(.int (1 : Int32))])) _
    refine XS.ifNo X8.here hx rfl (hb hby at_98) rfl ((if0 _ _).trans (feq hc98).1) ?_
    show Steps p.tables e below (T8.setTop (mkF m 101 #[.val (.int p1), .val (.int (1 : Int32)), .val (.long ((((1 : Int32) / (2 : Int32)) + (1 : Int32)).toInt64)), .second, .val (.long ((1 : Int32).toInt64)), .second, .val (.long ((1 : Int32).toInt64)), .second, .val (.int (1 : Int32)), .val (.int (1 : Int32))] [])) _
    refine XS.iconst X8.here hx rfl (hb hby at_101) ?_
    show Steps p.tables e below (T8.setTop (mkF m 102 #[.val (.int p1), .val (.int (1 : Int32)), .val (.long ((((1 : Int32) / (2 : Int32)) + (1 : Int32)).toInt64)), .second, .val (.long ((1 : Int32).toInt64)), .second, .val (.long ((1 : Int32).toInt64)), .second, .val (.int (1 : Int32)), .val (.int (1 : Int32))] [(.int (1 : Int32))])) _
    refine XS.goto X8.here hx rfl (pc0 := 102) (pc' := 106) rfl (hb hby at_102) (by decide) (by decide) ?_
    show Steps p.tables e below (T8.setTop (mkF m 106 #[.val (.int p1), .val (.int (1 : Int32)), .val (.long ((((1 : Int32) / (2 : Int32)) + (1 : Int32)).toInt64)), .second, .val (.long ((1 : Int32).toInt64)), .second, .val (.long ((1 : Int32).toInt64)), .second, .val (.int (1 : Int32)), .val (.int (1 : Int32))] [(.int (1 : Int32))])) _
    exact retN X8 hx (t := .boolean) Bd.returns (by simp) (hb hby at_106) hr
  · show Q0 Z p1 h0 n0 _ T8.heap _
    rw [e8c]
    exact ⟨rfl, N8⟩
set_option maxRecDepth 65536 in
set_option maxHeartbeats 40000000 in
theorem rm0B (l : Launch) (Z : State) (a0 : Array Value) (hw : ∀ d ∈ tables_1, d.before a0 Z = true) (ws : List Jvm.Cond) (p1 : Int32) (w3 : Addr) (w6 : Addr) (h0 : Heap) (n0 : Nat) (Z0 : n0 ≤ h0.size) (S_MAJORITY : Sta Z h0 "com/example/uzraktas/uzraktas/Quorum" "MAJORITY" "Lcom/example/uzraktas/uzraktas/Quorum;" (.ref w3)) (E_w3 : Exa Z h0 w3 "com/example/uzraktas/uzraktas/Quorum") (S_ALL : Sta Z h0 "com/example/uzraktas/uzraktas/Quorum" "ALL" "Lcom/example/uzraktas/uzraktas/Quorum;" (.ref w6)) (E_w6 : Exa Z h0 w6 "com/example/uzraktas/uzraktas/Quorum") (F3 : Fld Z h0 w3 "java/lang/Enum" "ordinal" "I" (.int (0 : Int32))) (F6 : Fld Z h0 w6 "java/lang/Enum" "ordinal" "I" (.int (1 : Int32))) (hm : (1 : Int32) < (p1 &&& (2147483647 : Int32))) (hc40 : (0 : Int32) < (lcmpW ((2 : Int64) * ((((p1 &&& (2147483647 : Int32)) / (2 : Int32)) + (1 : Int32)).toInt64)) ((p1 &&& (2147483647 : Int32)).toInt64))) (hc53 : ¬ ((0 : Int32) < (lcmpW ((2 : Int64) * (((((p1 &&& (2147483647 : Int32)) / (2 : Int32)) + (1 : Int32)).toInt64) - (1 : Int64))) ((p1 &&& (2147483647 : Int32)).toInt64)))) (hc59 : ¬ ((lcmpW ((((p1 &&& (2147483647 : Int32)) / (2 : Int32)) + (1 : Int32)).toInt64) (1 : Int64)) < (0 : Int32))) (hc66 : ¬ ((0 : Int32) < (lcmpW ((((p1 &&& (2147483647 : Int32)) / (2 : Int32)) + (1 : Int32)).toInt64) ((p1 &&& (2147483647 : Int32)).toInt64)))) (hc81 : (lcmpW ((p1 &&& (2147483647 : Int32)).toInt64) ((p1 &&& (2147483647 : Int32)).toInt64)) = (0 : Int32)) (hc93 : ¬ ((1 : Int32) = (0 : Int32))) (hc98 : ¬ ((1 : Int32) = (0 : Int32))) :
    MetFree l x (head1 (Jvm.Cond.code x code maxLocals ret :: ws) room_1) (fun a U => a = #[(.int p1)] ∧ Z.Warmed39 U.vm ∧ U.heap = h0) (fun _ _ _ _ _ => True) (fun _ U o U' => ∃ v L, o = .returned v ∧ Q0 Z p1 h0 n0 v U'.heap L ∧ FrameEnd U o U' L room_1.cells room_1.slots) := by
  refine MetFree.of_bodySF (plainFor_of_name pn_0) hisR ?_
  intro p e s m args below meth c s₁ Bd hml0 hP hK
  obtain ⟨rfl, hZ, hh⟩ := hP
  have hx := Bd.exec
  have hby := Bd.bytes
  have hml : c.maxLocals = 10 := hml0
  have hown : s.vm.findClass "com/example/uzraktas/uzraktas/QuorumOfPinLaw" = some m.cls := findClass_of_methodNamed Bd.named
  have hnm := (name_of_methodNamed Bd.named Bd.method).1
  have X0 : Stand p l e room_1 s m #[(.int p1)] below meth c s₁ [] 0 0 := Stand.of_body Bd
  have e0 : s₁.heap = h0 := by rw [← hh, Bd.state]; rfl
  have N0 := Fr.nil n0
  have pre0 : ∀ t, Steps p.tables e below (s₁.setTop (mkF m 0 #[.val (.int p1), .unset, .unset, .unset, .unset, .unset, .unset, .unset, .unset, .unset] [])) t → Steps p.tables e below (s₁.setTop (entryFrame m #[(.int p1)] maxLocals)) t := fun t k => castTop (ef_0 m p1) k
  obtain ⟨_, _, ⟨T2, L2, k2, n2⟩, -, X2, ⟨Lc2, hQ2, l2, y2, z2⟩, st2⟩ := Jvm.LawKit.callS X0 hx (y := (⟨"java/lang/Math", "max", "(II)I"⟩ : MethodName)) hown (mvT hZ (hw _ (List.mem_of_getElem? (i := 1) rfl))) (mvT hZ (hw _ (List.mem_of_getElem? (i := 2) rfl))) (mvT hZ (hw _ (List.mem_of_getElem? (i := 3) rfl))) (mvT hZ (hw _ (List.mem_of_getElem? (i := 4) rfl))) (by decide) (backOf (W := 0) (rm1B l Z a0 hw [] (1 : Int32) (p1 &&& (2147483647 : Int32))  h0 n0 Z0 hm) hZ (hw _ (List.mem_of_getElem? (i := 4) rfl)) (hw _ (List.mem_of_getElem? (i := 3) rfl)) (by decide) (by decide)) (g := (mkF m 5 #[.val (.int p1), .unset, .unset, .unset, .unset, .unset, .unset, .unset, .unset, .unset] [(.int (p1 &&& (2147483647 : Int32))), (.int (1 : Int32))])) rfl (by rw [hml]; rfl) (argsL := [(.int (1 : Int32)), (.int (p1 &&& (2147483647 : Int32)))]) (rest := []) (lenOf pd_0_0 rfl) rfl (by show 2 * 0 + _ ≤ _; exact Nat.le_of_eq rfl) (hb hby at_5) (fun _ _ => ⟨rfl, e0, (by decide : 0 + 0 ≤ _), (by decide : 0 + 0 ≤ _)⟩)
  dsimp only [Pt.U, Pt.locs, Pt.cells, Pt.slots] at X2 l2 y2 z2 st2 hQ2
  subst l2 y2 z2
  obtain ⟨rfl, N2q, e2c⟩ := hQ2
  have N2 := Fr.app N0 N2q
  obtain ⟨T4, X4, e4, st4⟩ := getS2 X2 hx hZ hown (host := "") (Or.inl (hw _ (List.mem_of_getElem? (i := 5) rfl))) Via.refl e2c S_MAJORITY (g := (mkF m 9 #[.val (.int p1), .val (.int (p1 &&& (2147483647 : Int32))), .unset, .unset, .unset, .unset, .unset, .unset, .unset, .unset] [])) rfl (hb hby at_9)
  obtain ⟨cq5, kq5, q5a, q5b, q5c⟩ := isOf hZ e4 E_w3
  obtain ⟨_, _, ⟨T5, L5, k5, n5⟩, -, X5, ⟨Lc5, hQ5, l5, y5, z5⟩, st5⟩ := X4.virtualBack hx (y := (⟨"com/example/uzraktas/uzraktas/Quorum", "of", "(I)I"⟩ : MethodName)) (z := (⟨"com/example/uzraktas/uzraktas/Quorum", "of", "(I)I"⟩ : MethodName)) hown (mvT hZ (hw _ (List.mem_of_getElem? (i := 8) rfl))) (mvT hZ (hw _ (List.mem_of_getElem? (i := 9) rfl))) (notFace_of_selects (args := #[]) (mvT hZ (hw _ (List.mem_of_getElem? (i := 11) rfl)))) (mvT hZ (hw _ (List.mem_of_getElem? (i := 11) rfl))) (mvT hZ (hw _ (List.mem_of_getElem? (i := 10) rfl))) (by decide) (backOf (W := 0) (rm2A l Z a0 hw [] w3 (p1 &&& (2147483647 : Int32))  h0 n0 Z0 E_w3 F3) hZ (hw _ (List.mem_of_getElem? (i := 12) rfl)) (hw _ (List.mem_of_getElem? (i := 6) rfl)) (by decide) (by decide)) q5a q5c (g := (mkF m 13 #[.val (.int p1), .val (.int (p1 &&& (2147483647 : Int32))), .unset, .unset, .unset, .unset, .unset, .unset, .unset, .unset] [(.int (p1 &&& (2147483647 : Int32))), (.ref w3)])) rfl (by rw [hml]; rfl) (Steps.refl _) (argsL := [(.int (p1 &&& (2147483647 : Int32)))]) (rest := []) (lenOf pd_0_1 rfl) rfl (by show 2 * 0 + _ ≤ _; exact Nat.le_of_eq rfl) (hb hby at_13) (fun _ _ => ⟨rfl, e4, (by decide : 0 + 0 ≤ _), (by decide : 0 + 0 ≤ _)⟩)
  dsimp only [Pt.U, Pt.locs, Pt.cells, Pt.slots] at X5 l5 y5 z5 st5 hQ5
  subst l5 y5 z5
  obtain ⟨rfl, N5q, e5c⟩ := hQ5
  have N5 := Fr.app N2 N5q
  obtain ⟨T7, X7, e7, st7⟩ := getS2 X5 hx hZ hown (host := "") (Or.inl (hw _ (List.mem_of_getElem? (i := 22) rfl))) Via.refl e5c S_ALL (g := (mkF m 18 #[.val (.int p1), .val (.int (p1 &&& (2147483647 : Int32))), .val (.long ((((p1 &&& (2147483647 : Int32)) / (2 : Int32)) + (1 : Int32)).toInt64)), .second, .unset, .unset, .unset, .unset, .unset, .unset] [])) rfl (hb hby at_18)
  obtain ⟨cq8, kq8, q8a, q8b, q8c⟩ := isOf hZ e7 E_w6
  obtain ⟨_, _, ⟨T8, L8, k8, n8⟩, -, X8, ⟨Lc8, hQ8, l8, y8, z8⟩, st8⟩ := X7.virtualBack hx (y := (⟨"com/example/uzraktas/uzraktas/Quorum", "of", "(I)I"⟩ : MethodName)) (z := (⟨"com/example/uzraktas/uzraktas/Quorum", "of", "(I)I"⟩ : MethodName)) hown (mvT hZ (hw _ (List.mem_of_getElem? (i := 8) rfl))) (mvT hZ (hw _ (List.mem_of_getElem? (i := 9) rfl))) (notFace_of_selects (args := #[]) (mvT hZ (hw _ (List.mem_of_getElem? (i := 11) rfl)))) (mvT hZ (hw _ (List.mem_of_getElem? (i := 11) rfl))) (mvT hZ (hw _ (List.mem_of_getElem? (i := 10) rfl))) (by decide) (backOf (W := 0) (rm2B l Z a0 hw [] w6 (p1 &&& (2147483647 : Int32))  h0 n0 Z0 E_w6 F6) hZ (hw _ (List.mem_of_getElem? (i := 12) rfl)) (hw _ (List.mem_of_getElem? (i := 6) rfl)) (by decide) (by decide)) q8a q8c (g := (mkF m 22 #[.val (.int p1), .val (.int (p1 &&& (2147483647 : Int32))), .val (.long ((((p1 &&& (2147483647 : Int32)) / (2 : Int32)) + (1 : Int32)).toInt64)), .second, .unset, .unset, .unset, .unset, .unset, .unset] [(.int (p1 &&& (2147483647 : Int32))), (.ref w6)])) rfl (by rw [hml]; rfl) (Steps.refl _) (argsL := [(.int (p1 &&& (2147483647 : Int32)))]) (rest := []) (lenOf pd_0_1 rfl) rfl (by show 2 * 0 + _ ≤ _; exact Nat.le_of_eq rfl) (hb hby at_22) (fun _ _ => ⟨rfl, e7, (by decide : 0 + 0 ≤ _), (by decide : 0 + 0 ≤ _)⟩)
  dsimp only [Pt.U, Pt.locs, Pt.cells, Pt.slots] at X8 l8 y8 z8 st8 hQ8
  subst l8 y8 z8
  obtain ⟨rfl, N8q, e8c⟩ := hQ8
  have N8 := Fr.app N5 N8q
  obtain ⟨fs, hr, hrun, hended, hW, hsame⟩ := X8.leave (v := some (.int (1 : Int32))) (fun h => by rw [Bd.returns] at h; cases h)
  refine ⟨_, _, pre0 _ ?_, hrun, hended, _, _, rfl, ?_, ⟨_, rfl⟩, hW, hsame.mono (by decide) (by decide)⟩
  · show Steps p.tables e below (s₁.setTop (mkF m 0 #[.val (.int p1), .unset, .unset, .unset, .unset, .unset, .unset, .unset, .unset, .unset] [])) _
    refine XS.iconst X0.here hx rfl (hb hby at_0) ?_
    show Steps p.tables e below (s₁.setTop (mkF m 1 #[.val (.int p1), .unset, .unset, .unset, .unset, .unset, .unset, .unset, .unset, .unset] [(.int (1 : Int32))])) _
    refine XS.iloadN X0.here hx rfl (hb hby at_1) rfl ?_
    show Steps p.tables e below (s₁.setTop (mkF m 2 #[.val (.int p1), .unset, .unset, .unset, .unset, .unset, .unset, .unset, .unset, .unset] [(.int p1), (.int (1 : Int32))])) _
    refine X0.ldcInt hx hown (mvT hZ (hw _ (List.mem_of_getElem? (i := 0) rfl))) (g := (mkF m 2 #[.val (.int p1), .unset, .unset, .unset, .unset, .unset, .unset, .unset, .unset, .unset] [(.int p1), (.int (1 : Int32))])) rfl (hb hby at_2) _ ?_
    show Steps p.tables e below (s₁.setTop (mkF m 4 #[.val (.int p1), .unset, .unset, .unset, .unset, .unset, .unset, .unset, .unset, .unset] [(.int (2147483647 : Int32)), (.int p1), (.int (1 : Int32))])) _
    refine XS.iand X0.here hx rfl (hb hby at_4) rfl ?_
    show Steps p.tables e below (s₁.setTop (mkF m 5 #[.val (.int p1), .unset, .unset, .unset, .unset, .unset, .unset, .unset, .unset, .unset] [(.int (p1 &&& (2147483647 : Int32))), (.int (1 : Int32))])) _
    refine st2 _ ?_
    show Steps p.tables e below (T2.setTop (mkF m 8 #[.val (.int p1), .unset, .unset, .unset, .unset, .unset, .unset, .unset, .unset, .unset] [(.int (p1 &&& (2147483647 : Int32)))])) _
    refine XS.istoreN X2.here hx rfl (hb hby at_8) rfl (l' := #[.val (.int p1), .val (.int (p1 &&& (2147483647 : Int32))), .unset, .unset, .unset, .unset, .unset, .unset, .unset, .unset]) rfl ?_
    show Steps p.tables e below (T2.setTop (mkF m 9 #[.val (.int p1), .val (.int (p1 &&& (2147483647 : Int32))), .unset, .unset, .unset, .unset, .unset, .unset, .unset, .unset] [])) _
    refine st4 _ ?_
    show Steps p.tables e below (T4.setTop (mkF m 12 #[.val (.int p1), .val (.int (p1 &&& (2147483647 : Int32))), .unset, .unset, .unset, .unset, .unset, .unset, .unset, .unset] [(.ref w3)])) _
    refine XS.iloadN X4.here hx rfl (hb hby at_12) rfl ?_
    show Steps p.tables e below (T4.setTop (mkF m 13 #[.val (.int p1), .val (.int (p1 &&& (2147483647 : Int32))), .unset, .unset, .unset, .unset, .unset, .unset, .unset, .unset] [(.int (p1 &&& (2147483647 : Int32))), (.ref w3)])) _
    refine st5.trans ?_
    show Steps p.tables e below (T5.setTop (mkF m 16 #[.val (.int p1), .val (.int (p1 &&& (2147483647 : Int32))), .unset, .unset, .unset, .unset, .unset, .unset, .unset, .unset] [(.int (((p1 &&& (2147483647 : Int32)) / (2 : Int32)) + (1 : Int32)))])) _
    refine XS.i2l X5.here hx rfl (hb hby at_16) rfl ?_
    show Steps p.tables e below (T5.setTop (mkF m 17 #[.val (.int p1), .val (.int (p1 &&& (2147483647 : Int32))), .unset, .unset, .unset, .unset, .unset, .unset, .unset, .unset] [(.long ((((p1 &&& (2147483647 : Int32)) / (2 : Int32)) + (1 : Int32)).toInt64))])) _
    refine XS.lstoreN X5.here hx rfl (hb hby at_17) rfl (l' := #[.val (.int p1), .val (.int (p1 &&& (2147483647 : Int32))), .val (.long ((((p1 &&& (2147483647 : Int32)) / (2 : Int32)) + (1 : Int32)).toInt64)), .second, .unset, .unset, .unset, .unset, .unset, .unset]) rfl ?_
    show Steps p.tables e below (T5.setTop (mkF m 18 #[.val (.int p1), .val (.int (p1 &&& (2147483647 : Int32))), .val (.long ((((p1 &&& (2147483647 : Int32)) / (2 : Int32)) + (1 : Int32)).toInt64)), .second, .unset, .unset, .unset, .unset, .unset, .unset] [])) _
    refine st7 _ ?_
    show Steps p.tables e below (T7.setTop (mkF m 21 #[.val (.int p1), .val (.int (p1 &&& (2147483647 : Int32))), .val (.long ((((p1 &&& (2147483647 : Int32)) / (2 : Int32)) + (1 : Int32)).toInt64)), .second, .unset, .unset, .unset, .unset, .unset, .unset] [(.ref w6)])) _
    refine XS.iloadN X7.here hx rfl (hb hby at_21) rfl ?_
    show Steps p.tables e below (T7.setTop (mkF m 22 #[.val (.int p1), .val (.int (p1 &&& (2147483647 : Int32))), .val (.long ((((p1 &&& (2147483647 : Int32)) / (2 : Int32)) + (1 : Int32)).toInt64)), .second, .unset, .unset, .unset, .unset, .unset, .unset] [(.int (p1 &&& (2147483647 : Int32))), (.ref w6)])) _
    refine st8.trans ?_
    show Steps p.tables e below (T8.setTop (mkF m 25 #[.val (.int p1), .val (.int (p1 &&& (2147483647 : Int32))), .val (.long ((((p1 &&& (2147483647 : Int32)) / (2 : Int32)) + (1 : Int32)).toInt64)), .second, .unset, .unset, .unset, .unset, .unset, .unset] [(.int (p1 &&& (2147483647 : Int32)))])) _
    refine XS.i2l X8.here hx rfl (hb hby at_25) rfl ?_
    show Steps p.tables e below (T8.setTop (mkF m 26 #[.val (.int p1), .val (.int (p1 &&& (2147483647 : Int32))), .val (.long ((((p1 &&& (2147483647 : Int32)) / (2 : Int32)) + (1 : Int32)).toInt64)), .second, .unset, .unset, .unset, .unset, .unset, .unset] [(.long ((p1 &&& (2147483647 : Int32)).toInt64))])) _
    refine XS.lstore X8.here hx rfl (hb hby at_26) rfl (l' := #[.val (.int p1), .val (.int (p1 &&& (2147483647 : Int32))), .val (.long ((((p1 &&& (2147483647 : Int32)) / (2 : Int32)) + (1 : Int32)).toInt64)), .second, .val (.long ((p1 &&& (2147483647 : Int32)).toInt64)), .second, .unset, .unset, .unset, .unset]) rfl ?_
    show Steps p.tables e below (T8.setTop (mkF m 28 #[.val (.int p1), .val (.int (p1 &&& (2147483647 : Int32))), .val (.long ((((p1 &&& (2147483647 : Int32)) / (2 : Int32)) + (1 : Int32)).toInt64)), .second, .val (.long ((p1 &&& (2147483647 : Int32)).toInt64)), .second, .unset, .unset, .unset, .unset] [])) _
    refine XS.iloadN X8.here hx rfl (hb hby at_28) rfl ?_
    show Steps p.tables e below (T8.setTop (mkF m 29 #[.val (.int p1), .val (.int (p1 &&& (2147483647 : Int32))), .val (.long ((((p1 &&& (2147483647 : Int32)) / (2 : Int32)) + (1 : Int32)).toInt64)), .second, .val (.long ((p1 &&& (2147483647 : Int32)).toInt64)), .second, .unset, .unset, .unset, .unset] [(.int (p1 &&& (2147483647 : Int32)))])) _
    refine XS.i2l X8.here hx rfl (hb hby at_29) rfl ?_
    show Steps p.tables e below (T8.setTop (mkF m 30 #[.val (.int p1), .val (.int (p1 &&& (2147483647 : Int32))), .val (.long ((((p1 &&& (2147483647 : Int32)) / (2 : Int32)) + (1 : Int32)).toInt64)), .second, .val (.long ((p1 &&& (2147483647 : Int32)).toInt64)), .second, .unset, .unset, .unset, .unset] [(.long ((p1 &&& (2147483647 : Int32)).toInt64))])) _
    refine XS.lstore X8.here hx rfl (hb hby at_30) rfl (l' := #[.val (.int p1), .val (.int (p1 &&& (2147483647 : Int32))), .val (.long ((((p1 &&& (2147483647 : Int32)) / (2 : Int32)) + (1 : Int32)).toInt64)), .second, .val (.long ((p1 &&& (2147483647 : Int32)).toInt64)), .second, .val (.long ((p1 &&& (2147483647 : Int32)).toInt64)), .second, .unset, .unset]) rfl ?_
    show Steps p.tables e below (T8.setTop (mkF m 32 #[.val (.int p1), .val (.int (p1 &&& (2147483647 : Int32))), .val (.long ((((p1 &&& (2147483647 : Int32)) / (2 : Int32)) + (1 : Int32)).toInt64)), .second, .val (.long ((p1 &&& (2147483647 : Int32)).toInt64)), .second, .val (.long ((p1 &&& (2147483647 : Int32)).toInt64)), .second, .unset, .unset] [])) _
    refine X8.ldc2Long hx hown (mvT hZ (hw _ (List.mem_of_getElem? (i := 24) rfl))) (g := (mkF m 32 #[.val (.int p1), .val (.int (p1 &&& (2147483647 : Int32))), .val (.long ((((p1 &&& (2147483647 : Int32)) / (2 : Int32)) + (1 : Int32)).toInt64)), .second, .val (.long ((p1 &&& (2147483647 : Int32)).toInt64)), .second, .val (.long ((p1 &&& (2147483647 : Int32)).toInt64)), .second, .unset, .unset] [])) rfl (hb hby at_32) _ ?_
    show Steps p.tables e below (T8.setTop (mkF m 35 #[.val (.int p1), .val (.int (p1 &&& (2147483647 : Int32))), .val (.long ((((p1 &&& (2147483647 : Int32)) / (2 : Int32)) + (1 : Int32)).toInt64)), .second, .val (.long ((p1 &&& (2147483647 : Int32)).toInt64)), .second, .val (.long ((p1 &&& (2147483647 : Int32)).toInt64)), .second, .unset, .unset] [(.long (2 : Int64))])) _
    refine XS.lloadN X8.here hx rfl (hb hby at_35) rfl ?_
    show Steps p.tables e below (T8.setTop (mkF m 36 #[.val (.int p1), .val (.int (p1 &&& (2147483647 : Int32))), .val (.long ((((p1 &&& (2147483647 : Int32)) / (2 : Int32)) + (1 : Int32)).toInt64)), .second, .val (.long ((p1 &&& (2147483647 : Int32)).toInt64)), .second, .val (.long ((p1 &&& (2147483647 : Int32)).toInt64)), .second, .unset, .unset] [(.long ((((p1 &&& (2147483647 : Int32)) / (2 : Int32)) + (1 : Int32)).toInt64)), (.long (2 : Int64))])) _
    refine XS.lmul X8.here hx rfl (hb hby at_36) rfl ?_
    show Steps p.tables e below (T8.setTop (mkF m 37 #[.val (.int p1), .val (.int (p1 &&& (2147483647 : Int32))), .val (.long ((((p1 &&& (2147483647 : Int32)) / (2 : Int32)) + (1 : Int32)).toInt64)), .second, .val (.long ((p1 &&& (2147483647 : Int32)).toInt64)), .second, .val (.long ((p1 &&& (2147483647 : Int32)).toInt64)), .second, .unset, .unset] [(.long ((2 : Int64) * ((((p1 &&& (2147483647 : Int32)) / (2 : Int32)) + (1 : Int32)).toInt64)))])) _
    refine XS.lload X8.here hx rfl (hb hby at_37) rfl ?_
    show Steps p.tables e below (T8.setTop (mkF m 39 #[.val (.int p1), .val (.int (p1 &&& (2147483647 : Int32))), .val (.long ((((p1 &&& (2147483647 : Int32)) / (2 : Int32)) + (1 : Int32)).toInt64)), .second, .val (.long ((p1 &&& (2147483647 : Int32)).toInt64)), .second, .val (.long ((p1 &&& (2147483647 : Int32)).toInt64)), .second, .unset, .unset] [(.long ((p1 &&& (2147483647 : Int32)).toInt64)), (.long ((2 : Int64) * ((((p1 &&& (2147483647 : Int32)) / (2 : Int32)) + (1 : Int32)).toInt64)))])) _
    refine XS.lcmp X8.here hx rfl (hb hby at_39) rfl ?_
    show Steps p.tables e below (T8.setTop (mkF m 40 #[.val (.int p1), .val (.int (p1 &&& (2147483647 : Int32))), .val (.long ((((p1 &&& (2147483647 : Int32)) / (2 : Int32)) + (1 : Int32)).toInt64)), .second, .val (.long ((p1 &&& (2147483647 : Int32)).toInt64)), .second, .val (.long ((p1 &&& (2147483647 : Int32)).toInt64)), .second, .unset, .unset] [(.int (lcmpW ((2 : Int64) * ((((p1 &&& (2147483647 : Int32)) / (2 : Int32)) + (1 : Int32)).toInt64)) ((p1 &&& (2147483647 : Int32)).toInt64)))])) _
    refine XS.ifNo X8.here hx rfl (hb hby at_40) rfl ((if0 _ _).trans (tlt hc40).2.2.2) ?_
    show Steps p.tables e below (T8.setTop (mkF m 43 #[.val (.int p1), .val (.int (p1 &&& (2147483647 : Int32))), .val (.long ((((p1 &&& (2147483647 : Int32)) / (2 : Int32)) + (1 : Int32)).toInt64)), .second, .val (.long ((p1 &&& (2147483647 : Int32)).toInt64)), .second, .val (.long ((p1 &&& (2147483647 : Int32)).toInt64)), .second, .unset, .unset] [])) _
    refine X8.ldc2Long hx hown (mvT hZ (hw _ (List.mem_of_getElem? (i := 24) rfl))) (g := (mkF m 43 #[.val (.int p1), .val (.int (p1 &&& (2147483647 : Int32))), .val (.long ((((p1 &&& (2147483647 : Int32)) / (2 : Int32)) + (1 : Int32)).toInt64)), .second, .val (.long ((p1 &&& (2147483647 : Int32)).toInt64)), .second, .val (.long ((p1 &&& (2147483647 : Int32)).toInt64)), .second, .unset, .unset] [])) rfl (hb hby at_43) _ ?_
    show Steps p.tables e below (T8.setTop (mkF m 46 #[.val (.int p1), .val (.int (p1 &&& (2147483647 : Int32))), .val (.long ((((p1 &&& (2147483647 : Int32)) / (2 : Int32)) + (1 : Int32)).toInt64)), .second, .val (.long ((p1 &&& (2147483647 : Int32)).toInt64)), .second, .val (.long ((p1 &&& (2147483647 : Int32)).toInt64)), .second, .unset, .unset] [(.long (2 : Int64))])) _
    refine XS.lloadN X8.here hx rfl (hb hby at_46) rfl ?_
    show Steps p.tables e below (T8.setTop (mkF m 47 #[.val (.int p1), .val (.int (p1 &&& (2147483647 : Int32))), .val (.long ((((p1 &&& (2147483647 : Int32)) / (2 : Int32)) + (1 : Int32)).toInt64)), .second, .val (.long ((p1 &&& (2147483647 : Int32)).toInt64)), .second, .val (.long ((p1 &&& (2147483647 : Int32)).toInt64)), .second, .unset, .unset] [(.long ((((p1 &&& (2147483647 : Int32)) / (2 : Int32)) + (1 : Int32)).toInt64)), (.long (2 : Int64))])) _
    refine XS.lconst X8.here hx rfl (hb hby at_47) ?_
    show Steps p.tables e below (T8.setTop (mkF m 48 #[.val (.int p1), .val (.int (p1 &&& (2147483647 : Int32))), .val (.long ((((p1 &&& (2147483647 : Int32)) / (2 : Int32)) + (1 : Int32)).toInt64)), .second, .val (.long ((p1 &&& (2147483647 : Int32)).toInt64)), .second, .val (.long ((p1 &&& (2147483647 : Int32)).toInt64)), .second, .unset, .unset] [(.long (1 : Int64)), (.long ((((p1 &&& (2147483647 : Int32)) / (2 : Int32)) + (1 : Int32)).toInt64)), (.long (2 : Int64))])) _
    refine XS.lsub X8.here hx rfl (hb hby at_48) rfl ?_
    show Steps p.tables e below (T8.setTop (mkF m 49 #[.val (.int p1), .val (.int (p1 &&& (2147483647 : Int32))), .val (.long ((((p1 &&& (2147483647 : Int32)) / (2 : Int32)) + (1 : Int32)).toInt64)), .second, .val (.long ((p1 &&& (2147483647 : Int32)).toInt64)), .second, .val (.long ((p1 &&& (2147483647 : Int32)).toInt64)), .second, .unset, .unset] [(.long (((((p1 &&& (2147483647 : Int32)) / (2 : Int32)) + (1 : Int32)).toInt64) - (1 : Int64))), (.long (2 : Int64))])) _
    refine XS.lmul X8.here hx rfl (hb hby at_49) rfl ?_
    show Steps p.tables e below (T8.setTop (mkF m 50 #[.val (.int p1), .val (.int (p1 &&& (2147483647 : Int32))), .val (.long ((((p1 &&& (2147483647 : Int32)) / (2 : Int32)) + (1 : Int32)).toInt64)), .second, .val (.long ((p1 &&& (2147483647 : Int32)).toInt64)), .second, .val (.long ((p1 &&& (2147483647 : Int32)).toInt64)), .second, .unset, .unset] [(.long ((2 : Int64) * (((((p1 &&& (2147483647 : Int32)) / (2 : Int32)) + (1 : Int32)).toInt64) - (1 : Int64))))])) _
    refine XS.lload X8.here hx rfl (hb hby at_50) rfl ?_
    show Steps p.tables e below (T8.setTop (mkF m 52 #[.val (.int p1), .val (.int (p1 &&& (2147483647 : Int32))), .val (.long ((((p1 &&& (2147483647 : Int32)) / (2 : Int32)) + (1 : Int32)).toInt64)), .second, .val (.long ((p1 &&& (2147483647 : Int32)).toInt64)), .second, .val (.long ((p1 &&& (2147483647 : Int32)).toInt64)), .second, .unset, .unset] [(.long ((p1 &&& (2147483647 : Int32)).toInt64)), (.long ((2 : Int64) * (((((p1 &&& (2147483647 : Int32)) / (2 : Int32)) + (1 : Int32)).toInt64) - (1 : Int64))))])) _
    refine XS.lcmp X8.here hx rfl (hb hby at_52) rfl ?_
    show Steps p.tables e below (T8.setTop (mkF m 53 #[.val (.int p1), .val (.int (p1 &&& (2147483647 : Int32))), .val (.long ((((p1 &&& (2147483647 : Int32)) / (2 : Int32)) + (1 : Int32)).toInt64)), .second, .val (.long ((p1 &&& (2147483647 : Int32)).toInt64)), .second, .val (.long ((p1 &&& (2147483647 : Int32)).toInt64)), .second, .unset, .unset] [(.int (lcmpW ((2 : Int64) * (((((p1 &&& (2147483647 : Int32)) / (2 : Int32)) + (1 : Int32)).toInt64) - (1 : Int64))) ((p1 &&& (2147483647 : Int32)).toInt64)))])) _
    refine XS.ifNo X8.here hx rfl (hb hby at_53) rfl ((if0 _ _).trans (flt hc53).2.2.1) ?_
    show Steps p.tables e below (T8.setTop (mkF m 56 #[.val (.int p1), .val (.int (p1 &&& (2147483647 : Int32))), .val (.long ((((p1 &&& (2147483647 : Int32)) / (2 : Int32)) + (1 : Int32)).toInt64)), .second, .val (.long ((p1 &&& (2147483647 : Int32)).toInt64)), .second, .val (.long ((p1 &&& (2147483647 : Int32)).toInt64)), .second, .unset, .unset] [])) _
    refine XS.lloadN X8.here hx rfl (hb hby at_56) rfl ?_
    show Steps p.tables e below (T8.setTop (mkF m 57 #[.val (.int p1), .val (.int (p1 &&& (2147483647 : Int32))), .val (.long ((((p1 &&& (2147483647 : Int32)) / (2 : Int32)) + (1 : Int32)).toInt64)), .second, .val (.long ((p1 &&& (2147483647 : Int32)).toInt64)), .second, .val (.long ((p1 &&& (2147483647 : Int32)).toInt64)), .second, .unset, .unset] [(.long ((((p1 &&& (2147483647 : Int32)) / (2 : Int32)) + (1 : Int32)).toInt64))])) _
    refine XS.lconst X8.here hx rfl (hb hby at_57) ?_
    show Steps p.tables e below (T8.setTop (mkF m 58 #[.val (.int p1), .val (.int (p1 &&& (2147483647 : Int32))), .val (.long ((((p1 &&& (2147483647 : Int32)) / (2 : Int32)) + (1 : Int32)).toInt64)), .second, .val (.long ((p1 &&& (2147483647 : Int32)).toInt64)), .second, .val (.long ((p1 &&& (2147483647 : Int32)).toInt64)), .second, .unset, .unset] [(.long (1 : Int64)), (.long ((((p1 &&& (2147483647 : Int32)) / (2 : Int32)) + (1 : Int32)).toInt64))])) _
    refine XS.lcmp X8.here hx rfl (hb hby at_58) rfl ?_
    show Steps p.tables e below (T8.setTop (mkF m 59 #[.val (.int p1), .val (.int (p1 &&& (2147483647 : Int32))), .val (.long ((((p1 &&& (2147483647 : Int32)) / (2 : Int32)) + (1 : Int32)).toInt64)), .second, .val (.long ((p1 &&& (2147483647 : Int32)).toInt64)), .second, .val (.long ((p1 &&& (2147483647 : Int32)).toInt64)), .second, .unset, .unset] [(.int (lcmpW ((((p1 &&& (2147483647 : Int32)) / (2 : Int32)) + (1 : Int32)).toInt64) (1 : Int64)))])) _
    refine XS.ifNo X8.here hx rfl (hb hby at_59) rfl ((if0 _ _).trans (flt hc59).1) ?_
    show Steps p.tables e below (T8.setTop (mkF m 62 #[.val (.int p1), .val (.int (p1 &&& (2147483647 : Int32))), .val (.long ((((p1 &&& (2147483647 : Int32)) / (2 : Int32)) + (1 : Int32)).toInt64)), .second, .val (.long ((p1 &&& (2147483647 : Int32)).toInt64)), .second, .val (.long ((p1 &&& (2147483647 : Int32)).toInt64)), .second, .unset, .unset] [])) _
    refine XS.lloadN X8.here hx rfl (hb hby at_62) rfl ?_
    show Steps p.tables e below (T8.setTop (mkF m 63 #[.val (.int p1), .val (.int (p1 &&& (2147483647 : Int32))), .val (.long ((((p1 &&& (2147483647 : Int32)) / (2 : Int32)) + (1 : Int32)).toInt64)), .second, .val (.long ((p1 &&& (2147483647 : Int32)).toInt64)), .second, .val (.long ((p1 &&& (2147483647 : Int32)).toInt64)), .second, .unset, .unset] [(.long ((((p1 &&& (2147483647 : Int32)) / (2 : Int32)) + (1 : Int32)).toInt64))])) _
    refine XS.lload X8.here hx rfl (hb hby at_63) rfl ?_
    show Steps p.tables e below (T8.setTop (mkF m 65 #[.val (.int p1), .val (.int (p1 &&& (2147483647 : Int32))), .val (.long ((((p1 &&& (2147483647 : Int32)) / (2 : Int32)) + (1 : Int32)).toInt64)), .second, .val (.long ((p1 &&& (2147483647 : Int32)).toInt64)), .second, .val (.long ((p1 &&& (2147483647 : Int32)).toInt64)), .second, .unset, .unset] [(.long ((p1 &&& (2147483647 : Int32)).toInt64)), (.long ((((p1 &&& (2147483647 : Int32)) / (2 : Int32)) + (1 : Int32)).toInt64))])) _
    refine XS.lcmp X8.here hx rfl (hb hby at_65) rfl ?_
    show Steps p.tables e below (T8.setTop (mkF m 66 #[.val (.int p1), .val (.int (p1 &&& (2147483647 : Int32))), .val (.long ((((p1 &&& (2147483647 : Int32)) / (2 : Int32)) + (1 : Int32)).toInt64)), .second, .val (.long ((p1 &&& (2147483647 : Int32)).toInt64)), .second, .val (.long ((p1 &&& (2147483647 : Int32)).toInt64)), .second, .unset, .unset] [(.int (lcmpW ((((p1 &&& (2147483647 : Int32)) / (2 : Int32)) + (1 : Int32)).toInt64) ((p1 &&& (2147483647 : Int32)).toInt64)))])) _
    refine XS.ifNo X8.here hx rfl (hb hby at_66) rfl ((if0 _ _).trans (flt hc66).2.2.1) ?_
    show Steps p.tables e below (T8.setTop (mkF m 69 #[.val (.int p1), .val (.int (p1 &&& (2147483647 : Int32))), .val (.long ((((p1 &&& (2147483647 : Int32)) / (2 : Int32)) + (1 : Int32)).toInt64)), .second, .val (.long ((p1 &&& (2147483647 : Int32)).toInt64)), .second, .val (.long ((p1 &&& (2147483647 : Int32)).toInt64)), .second, .unset, .unset] [])) _
    refine XS.iconst X8.here hx rfl (hb hby at_69) ?_
    show Steps p.tables e below (T8.setTop (mkF m 70 #[.val (.int p1), .val (.int (p1 &&& (2147483647 : Int32))), .val (.long ((((p1 &&& (2147483647 : Int32)) / (2 : Int32)) + (1 : Int32)).toInt64)), .second, .val (.long ((p1 &&& (2147483647 : Int32)).toInt64)), .second, .val (.long ((p1 &&& (2147483647 : Int32)).toInt64)), .second, .unset, .unset] [(.int (1 : Int32))])) _
    refine XS.goto X8.here hx rfl (pc0 := 70) (pc' := 74) rfl (hb hby at_70) (by decide) (by decide) ?_
    show Steps p.tables e below (T8.setTop (mkF m 74 #[.val (.int p1), .val (.int (p1 &&& (2147483647 : Int32))), .val (.long ((((p1 &&& (2147483647 : Int32)) / (2 : Int32)) + (1 : Int32)).toInt64)), .second, .val (.long ((p1 &&& (2147483647 : Int32)).toInt64)), .second, .val (.long ((p1 &&& (2147483647 : Int32)).toInt64)), .second, .unset, .unset] [(.int (1 : Int32))])) _
    refine XS.istore X8.here hx rfl (hb hby at_74) rfl (l' := #[.val (.int p1), .val (.int (p1 &&& (2147483647 : Int32))), .val (.long ((((p1 &&& (2147483647 : Int32)) / (2 : Int32)) + (1 : Int32)).toInt64)), .second, .val (.long ((p1 &&& (2147483647 : Int32)).toInt64)), .second, .val (.long ((p1 &&& (2147483647 : Int32)).toInt64)), .second, .val (.int (1 : Int32)), .unset]) rfl ?_
    show Steps p.tables e below (T8.setTop (mkF m 76 #[.val (.int p1), .val (.int (p1 &&& (2147483647 : Int32))), .val (.long ((((p1 &&& (2147483647 : Int32)) / (2 : Int32)) + (1 : Int32)).toInt64)), .second, .val (.long ((p1 &&& (2147483647 : Int32)).toInt64)), .second, .val (.long ((p1 &&& (2147483647 : Int32)).toInt64)), .second, .val (.int (1 : Int32)), .unset] [])) _
    refine XS.lload X8.here hx rfl (hb hby at_76) rfl ?_
    show Steps p.tables e below (T8.setTop (mkF m 78 #[.val (.int p1), .val (.int (p1 &&& (2147483647 : Int32))), .val (.long ((((p1 &&& (2147483647 : Int32)) / (2 : Int32)) + (1 : Int32)).toInt64)), .second, .val (.long ((p1 &&& (2147483647 : Int32)).toInt64)), .second, .val (.long ((p1 &&& (2147483647 : Int32)).toInt64)), .second, .val (.int (1 : Int32)), .unset] [(.long ((p1 &&& (2147483647 : Int32)).toInt64))])) _
    refine XS.lload X8.here hx rfl (hb hby at_78) rfl ?_
    show Steps p.tables e below (T8.setTop (mkF m 80 #[.val (.int p1), .val (.int (p1 &&& (2147483647 : Int32))), .val (.long ((((p1 &&& (2147483647 : Int32)) / (2 : Int32)) + (1 : Int32)).toInt64)), .second, .val (.long ((p1 &&& (2147483647 : Int32)).toInt64)), .second, .val (.long ((p1 &&& (2147483647 : Int32)).toInt64)), .second, .val (.int (1 : Int32)), .unset] [(.long ((p1 &&& (2147483647 : Int32)).toInt64)), (.long ((p1 &&& (2147483647 : Int32)).toInt64))])) _
    refine XS.lcmp X8.here hx rfl (hb hby at_80) rfl ?_
    show Steps p.tables e below (T8.setTop (mkF m 81 #[.val (.int p1), .val (.int (p1 &&& (2147483647 : Int32))), .val (.long ((((p1 &&& (2147483647 : Int32)) / (2 : Int32)) + (1 : Int32)).toInt64)), .second, .val (.long ((p1 &&& (2147483647 : Int32)).toInt64)), .second, .val (.long ((p1 &&& (2147483647 : Int32)).toInt64)), .second, .val (.int (1 : Int32)), .unset] [(.int (lcmpW ((p1 &&& (2147483647 : Int32)).toInt64) ((p1 &&& (2147483647 : Int32)).toInt64)))])) _
    refine XS.ifNo X8.here hx rfl (hb hby at_81) rfl ((if0 _ _).trans (teq hc81).2) ?_
    show Steps p.tables e below (T8.setTop (mkF m 84 #[.val (.int p1), .val (.int (p1 &&& (2147483647 : Int32))), .val (.long ((((p1 &&& (2147483647 : Int32)) / (2 : Int32)) + (1 : Int32)).toInt64)), .second, .val (.long ((p1 &&& (2147483647 : Int32)).toInt64)), .second, .val (.long ((p1 &&& (2147483647 : Int32)).toInt64)), .second, .val (.int (1 : Int32)), .unset] [])) _
    refine XS.iconst X8.here hx rfl (hb hby at_84) ?_
    show Steps p.tables e below (T8.setTop (mkF m 85 #[.val (.int p1), .val (.int (p1 &&& (2147483647 : Int32))), .val (.long ((((p1 &&& (2147483647 : Int32)) / (2 : Int32)) + (1 : Int32)).toInt64)), .second, .val (.long ((p1 &&& (2147483647 : Int32)).toInt64)), .second, .val (.long ((p1 &&& (2147483647 : Int32)).toInt64)), .second, .val (.int (1 : Int32)), .unset] [(.int (1 : Int32))])) _
    refine XS.goto X8.here hx rfl (pc0 := 85) (pc' := 89) rfl (hb hby at_85) (by decide) (by decide) ?_
    show Steps p.tables e below (T8.setTop (mkF m 89 #[.val (.int p1), .val (.int (p1 &&& (2147483647 : Int32))), .val (.long ((((p1 &&& (2147483647 : Int32)) / (2 : Int32)) + (1 : Int32)).toInt64)), .second, .val (.long ((p1 &&& (2147483647 : Int32)).toInt64)), .second, .val (.long ((p1 &&& (2147483647 : Int32)).toInt64)), .second, .val (.int (1 : Int32)), .unset] [(.int (1 : Int32))])) _
    refine XS.istore X8.here hx rfl (hb hby at_89) rfl (l' := #[.val (.int p1), .val (.int (p1 &&& (2147483647 : Int32))), .val (.long ((((p1 &&& (2147483647 : Int32)) / (2 : Int32)) + (1 : Int32)).toInt64)), .second, .val (.long ((p1 &&& (2147483647 : Int32)).toInt64)), .second, .val (.long ((p1 &&& (2147483647 : Int32)).toInt64)), .second, .val (.int (1 : Int32)), .val (.int (1 : Int32))]) rfl ?_
    show Steps p.tables e below (T8.setTop (mkF m 91 #[.val (.int p1), .val (.int (p1 &&& (2147483647 : Int32))), .val (.long ((((p1 &&& (2147483647 : Int32)) / (2 : Int32)) + (1 : Int32)).toInt64)), .second, .val (.long ((p1 &&& (2147483647 : Int32)).toInt64)), .second, .val (.long ((p1 &&& (2147483647 : Int32)).toInt64)), .second, .val (.int (1 : Int32)), .val (.int (1 : Int32))] [])) _
    refine XS.iload X8.here hx rfl (hb hby at_91) rfl ?_
    show Steps p.tables e below (T8.setTop (mkF m 93 #[.val (.int p1), .val (.int (p1 &&& (2147483647 : Int32))), .val (.long ((((p1 &&& (2147483647 : Int32)) / (2 : Int32)) + (1 : Int32)).toInt64)), .second, .val (.long ((p1 &&& (2147483647 : Int32)).toInt64)), .second, .val (.long ((p1 &&& (2147483647 : Int32)).toInt64)), .second, .val (.int (1 : Int32)), .val (.int (1 : Int32))] [(.int (1 : Int32))])) _
    refine XS.ifNo X8.here hx rfl (hb hby at_93) rfl ((if0 _ _).trans (feq hc93).1) ?_
    show Steps p.tables e below (T8.setTop (mkF m 96 #[.val (.int p1), .val (.int (p1 &&& (2147483647 : Int32))), .val (.long ((((p1 &&& (2147483647 : Int32)) / (2 : Int32)) + (1 : Int32)).toInt64)), .second, .val (.long ((p1 &&& (2147483647 : Int32)).toInt64)), .second, .val (.long ((p1 &&& (2147483647 : Int32)).toInt64)), .second, .val (.int (1 : Int32)), .val (.int (1 : Int32))] [])) _
    refine XS.iload X8.here hx rfl (hb hby at_96) rfl ?_
    show Steps p.tables e below (T8.setTop (mkF m 98 #[.val (.int p1), .val (.int (p1 &&& (2147483647 : Int32))), .val (.long ((((p1 &&& (2147483647 : Int32)) / (2 : Int32)) + (1 : Int32)).toInt64)), .second, .val (.long ((p1 &&& (2147483647 : Int32)).toInt64)), .second, .val (.long ((p1 &&& (2147483647 : Int32)).toInt64)), .second, .val (.int (1 : Int32)), .val (.int (1 : Int32))] [(.int (1 : Int32))])) _
    refine XS.ifNo X8.here hx rfl (hb hby at_98) rfl ((if0 _ _).trans (feq hc98).1) ?_
    show Steps p.tables e below (T8.setTop (mkF m 101 #[.val (.int p1), .val (.int (p1 &&& (2147483647 : Int32))), .val (.long ((((p1 &&& (2147483647 : Int32)) / (2 : Int32)) + (1 : Int32)).toInt64)), .second, .val (.long ((p1 &&& (2147483647 : Int32)).toInt64)), .second, .val (.long ((p1 &&& (2147483647 : Int32)).toInt64)), .second, .val (.int (1 : Int32)), .val (.int (1 : Int32))] [])) _
    refine XS.iconst X8.here hx rfl (hb hby at_101) ?_
    show Steps p.tables e below (T8.setTop (mkF m 102 #[.val (.int p1), .val (.int (p1 &&& (2147483647 : Int32))), .val (.long ((((p1 &&& (2147483647 : Int32)) / (2 : Int32)) + (1 : Int32)).toInt64)), .second, .val (.long ((p1 &&& (2147483647 : Int32)).toInt64)), .second, .val (.long ((p1 &&& (2147483647 : Int32)).toInt64)), .second, .val (.int (1 : Int32)), .val (.int (1 : Int32))] [(.int (1 : Int32))])) _
    refine XS.goto X8.here hx rfl (pc0 := 102) (pc' := 106) rfl (hb hby at_102) (by decide) (by decide) ?_
    show Steps p.tables e below (T8.setTop (mkF m 106 #[.val (.int p1), .val (.int (p1 &&& (2147483647 : Int32))), .val (.long ((((p1 &&& (2147483647 : Int32)) / (2 : Int32)) + (1 : Int32)).toInt64)), .second, .val (.long ((p1 &&& (2147483647 : Int32)).toInt64)), .second, .val (.long ((p1 &&& (2147483647 : Int32)).toInt64)), .second, .val (.int (1 : Int32)), .val (.int (1 : Int32))] [(.int (1 : Int32))])) _
    exact retN X8 hx (t := .boolean) Bd.returns (by simp) (hb hby at_106) hr
  · show Q0 Z p1 h0 n0 _ T8.heap _
    rw [e8c]
    exact ⟨rfl, N8⟩
theorem own_maj (S : Int32) (h : 1 ≤ S.toInt) :
    (0 : Int32) < (lcmpW ((2 : Int64) * (((S / (2 : Int32)) + (1 : Int32)).toInt64)) (S.toInt64)) ∧ ¬ ((0 : Int32) < (lcmpW ((2 : Int64) * ((((S / (2 : Int32)) + (1 : Int32)).toInt64) - (1 : Int64))) (S.toInt64))) ∧
    ¬ ((lcmpW (((S / (2 : Int32)) + (1 : Int32)).toInt64) (1 : Int64)) < (0 : Int32)) ∧ ¬ ((0 : Int32) < (lcmpW (((S / (2 : Int32)) + (1 : Int32)).toInt64) (S.toInt64))) ∧ (lcmpW (S.toInt64) (S.toInt64)) = (0 : Int32) := by
  have z2 : (2 : Int32).toInt = 2 := by decide
  have z1 : (1 : Int32).toInt = 1 := by decide
  have y2 : (2 : Int64).toInt = 2 := by decide
  have y1 : (1 : Int64).toInt = 1 := by decide
  have d := (c_idiv S (2 : Int32) 2 z2 (by decide)).1 (by omega)
  have rS := rng32 S
  generalize hD : S / (2 : Int32) = D at *
  have a := c_iadd D (1 : Int32)
  have rM := rng32 (D + (1 : Int32))
  generalize hM : D + (1 : Int32) = M at *
  have m1 : M.toInt = S.toInt / 2 + 1 := by omega
  have eS := c_i2l S
  have eM := c_i2l M
  generalize S.toInt64 = S' at *
  generalize M.toInt64 = M' at *
  have p := c_lmul (2 : Int64) M'
  have rp := rng64 ((2 : Int64) * M')
  have q := c_lsub M' (1 : Int64)
  have rq := rng64 (M' - (1 : Int64))
  have r := c_lmul (2 : Int64) (M' - (1 : Int64))
  have rr := rng64 ((2 : Int64) * (M' - (1 : Int64)))
  rw [y2] at p r
  rw [lw_gt, lw_gt, lw_lt, lw_gt, lw_eq]
  rw [Int64.lt_iff_toInt_lt, Int64.lt_iff_toInt_lt, Int64.lt_iff_toInt_lt, Int64.lt_iff_toInt_lt]
  refine ⟨?_, ?_, ?_, ?_, rfl⟩ <;> omega
set_option maxRecDepth 65536 in
set_option maxHeartbeats 40000000 in
theorem comes_1 {Post : Tables → Env → Array Value → State → Outcome → State → Prop} (hpost : ∀ tb e args s v u, (limb_1_1.after args s (.returned v) u = true ∧ limb_1_2.after args s (.returned v) u = true ∧ True) → FrameEnd s (.returned v) u (Jvm.fieldLocs frame_1_writes args s ++ Jvm.arrayLocs frame_1_arrays args s ++ Jvm.staticLocs frame_1_statics s) 0 0 → Post tb e args s (.returned v) u) :
    ArmFor flags0 classFile x code maxLocals ret World_1 tables_1 room_1 Calls_1 rest_1 Pre_1 Post := by
  intro l hfl _ _ p e ha hc hk s m args below hf hA hF happ hP
  obtain ⟨hcalls, hrest, hpre⟩ := hP
  obtain ⟨-, -, -, hnamed, -, -, -, hat⟩ := (Spec.applies_iff hf).mp happ
  obtain ⟨hg, hn⟩ := and_e (Cond.before_iff.mp (show (Jvm.Cond.and given_1 narrow_1).before args s = true from hpre))
  obtain ⟨g1, g2⟩ := and_e hg
  obtain ⟨w0, rfl⟩ : ∃ w0 : Value, args = #[w0] := by
    have hs : args.size = 1 := by simpa [Cond.value, given_1] using g1
    obtain ⟨L⟩ := args
    match L, hs with
    | [w0], _ => exact ⟨w0, rfl⟩
  have hw := fun d (hd : d ∈ tables_1) => atoms_spec (ws := Jvm.Cond.code x code maxLocals ret :: tables_1) hat d (List.mem_cons_of_mem _ hd)
  have hfit : Fit s := fun {y c} hc i hi => by
    obtain ⟨ha, rfl⟩ := Array.getElem?_eq_some_iff.mp hc
    have q := List.all_eq_true.mp ((Array.all_eq_true_iff_forall_mem.mp hF) _ (Array.getElem_mem ha)) i (List.mem_range.mpr hi)
    simpa [Array.getElem?_eq_getElem hi] using q
  obtain ⟨i0, ei0⟩ := is_v g2
  obtain rfl : w0 = (.int i0) := Option.some.inj ei0
  suffices M : MetFree l x (head1 (Jvm.Cond.code x code maxLocals ret :: tables_1) room_1) (fun a U => a = #[(.int i0)] ∧ s.Warmed39 U.vm ∧ U.heap = s.heap) (fun _ _ _ _ _ => True) (fun _ U o U' => ∃ v L, o = .returned v ∧ Q0 s i0 s.heap s.heap.size v U'.heap L ∧ FrameEnd U o U' L room_1.cells room_1.slots) by
    obtain ⟨n, o, h1, h2, h3, _, L, rfl, ⟨rfl, N⟩, hq⟩ := M p e ha hc hk s m _ below hf ((Spec.applies_iff_loose hf).mp happ).1 ⟨rfl, State.Warmed39.refl s, rfl⟩ trivial
    exact ⟨n, _, h1, h2, h3, hpost _ _ _ _ _ _ ⟨Cond.after_iff.mpr rfl, Cond.after_iff.mpr (eq_i res_at (Term.int_eval (1)) rfl), trivial⟩ ⟨hq.1, hq.2.1, (hq.2.2.sift fun y hy => Or.inr (N y hy)).mono (by decide) (by decide)⟩⟩
  obtain ⟨a0, b0⟩ := and_e hn
  obtain ⟨a1, b1⟩ := and_e b0
  obtain ⟨a2, a3⟩ := and_e b1
  obtain ⟨r, er⟩ := exa_v a0
  obtain ⟨u, eu⟩ := exa_v a2
  have Er := Exa.start er a0
  have Eu := Exa.start eu a2
  have F_r := Fld.start ((fld_at er).symm.trans (eqv_i (Term.int_eval _) a1))
  have F_u := Fld.start ((fld_at eu).symm.trans (eqv_i (Term.int_eval _) a3))
  have Sr := Sta.start er (Or.inr ⟨(hw _ (List.mem_of_getElem? (i := 6) rfl)), (hw _ (List.mem_of_getElem? (i := 7) rfl))⟩)
  have Su := Sta.start eu (Or.inr ⟨(hw _ (List.mem_of_getElem? (i := 6) rfl)), (hw _ (List.mem_of_getElem? (i := 23) rfl))⟩)
  have z1 : (1 : Int32).toInt = 1 := by decide
  by_cases hz : (1 : Int32) < (i0 &&& (2147483647 : Int32))
  · obtain ⟨k1, k2, k3, k4, k5⟩ := own_maj (i0 &&& (2147483647 : Int32)) (by have := Int32.lt_iff_toInt_lt.mp hz; omega)
    exact rm0B l s _ hw tables_1 i0 r u s.heap s.heap.size (Nat.le_refl _) Sr Er Su Eu F_r F_u hz k1 k2 k3 k4 k5 (by decide) (by decide)
  · obtain ⟨k1, k2, k3, k4, k5⟩ := own_maj (1 : Int32) (by omega)
    exact rm0A l s _ hw tables_1 i0 r u s.heap s.heap.size (Nat.le_refl _) Sr Er Su Eu F_r F_u hz k1 k2 k3 k4 k5 (by decide) (by decide)
theorem main_1_1 : Claimed_1_1 := comes_1 fun _ _ _ _ _ _ h hF => ⟨h.1, hF⟩
theorem main_1_2 : Claimed_1_2 := comes_1 fun _ _ _ _ _ _ h hF => ⟨h.2.1, hF⟩
end Jvm.Pilot.@@N@@
namespace Jvm.Pilot.@@N@@
open Jvm Jvm.ClassFile Sem Op Lib Jvm.Free Jvm.Stand Jvm.Pilot.@@N@@.Jvm.D
/-! MADE BY PROGRAM (witnessworld.py) out of the Statement's table words and the real class files: 13 classes; the members and pool entries that the words name. The judged class is class 1, her method 1. -/
namespace start1
open Jvm.ClassFile
def u (s : String) : CpInfo := .utf8 (stringToUtf16 s)
/-- a pool by its gaps: so many unusable entries, then the entry; so many at the end -/
def gap : Nat → List CpInfo → List CpInfo
  | 0, r => r
  | n + 1, r => .unusable :: gap n r
def poolList (es : List (Nat × CpInfo)) (last : Nat) : List CpInfo := es.foldr (fun e r => gap e.1 (e.2 :: r)) (gap last [])
def pool (es : List (Nat × CpInfo)) (last : Nat) : Array CpInfo := ⟨poolList es last⟩
def fileOf (pool : Array CpInfo) (this : Nat) (attrs : Array Attribute := #[]) (ms : Array MethodInfo := #[]) (fl : Nat := 33) (sup : Nat := 0) (ifs : Array Nat := #[]) (fds : Array FieldInfo := #[]) : ClassFile where
  minorVersion := 0
  majorVersion := 65
  constantPool := pool
  accessFlags := fl
  thisClass := this
  superClass := sup
  interfaces := ifs
  fields := fds
  methods := ms
  attributes := attrs
def plain (name : String) (sup : Option ClassId) : Class where
  name := name
  kind := .ordinary
  loader := none
  accessFlags := 33
  super := sup
  interfaces := #[]
  cf := none
  fields := #[]
  methods := #[]
  instanceTypes := #[]
  staticTypes := #[]
  resolved := #[]
  callSites := []
  init := .initialized
  statics := none
  mirror := none

def pool0 : Array CpInfo := pool [(5, u "<init>"), (0, u "()V"), (1, .class_ 10), (1, u "java/lang/Object")] 113

def k0m0 : Method := { name := "<init>", desc := "()V", sig := { parameters := [], returnType := none }, accessFlags := 1, code := none }
/-- java/lang/Object -/
def k0 : Class := { plain "java/lang/Object" none with
  accessFlags := 33
  interfaces := #[]
  cf := some (fileOf pool0 8 #[] #[{ accessFlags := 1, nameIndex := 5, descriptorIndex := 6, attributes := #[] }] 33 0 #[] #[])
  fields := #[]
  methods := #[k0m0]
  instanceTypes := #[]
  staticTypes := #[]
  resolved := Array.replicate 124 none
  statics := none }

def pool1 : Array CpInfo := pool [(2, .class_ 4), (1, u "java/lang/Object"), (0, u "<init>"), (0, u "()V"), (0, .integer 2147483647), (0, .methodref 9 10), (0, .class_ 11), (0, .nameAndType 12 13), (0, u "java/lang/Math"), (0, u "max"), (0, u "(II)I"), (0, .fieldref 15 16), (0, .class_ 17), (0, .nameAndType 18 19), (0, u "com/example/uzraktas/uzraktas/Quorum"), (0, u "MAJORITY"), (0, u "Lcom/example/uzraktas/uzraktas/Quorum;"), (0, .methodref 15 21), (0, .nameAndType 22 23), (0, u "of"), (0, u "(I)I"), (0, .fieldref 15 25), (0, .nameAndType 26 19), (0, u "ALL"), (0, .long 2), (1, .class_ 30), (0, u "com/example/uzraktas/uzraktas/QuorumOfPinLaw"), (2, u "law"), (0, u "(I)Z")] 3

def k1m0 : Method := { name := "<init>", desc := "()V", sig := { parameters := [], returnType := none }, accessFlags := 1, code := none }
def k1c1 : Code := { maxStack := 6, maxLocals := 10, code := code, exceptionTable := #[], attributes := #[] }
def k1m1 : Method := { name := "law", desc := "(I)Z", sig := { parameters := [.int], returnType := some .boolean }, accessFlags := 9, code := some k1c1 }
/-- com/example/uzraktas/uzraktas/QuorumOfPinLaw -/
def k1 : Class := { plain "com/example/uzraktas/uzraktas/QuorumOfPinLaw" (some 0) with
  accessFlags := 49
  interfaces := #[]
  cf := some (fileOf pool1 29 #[] #[{ accessFlags := 1, nameIndex := 5, descriptorIndex := 6, attributes := #[] }, { accessFlags := 9, nameIndex := 33, descriptorIndex := 34, attributes := #[] }] 49 2 #[] #[])
  fields := #[]
  methods := #[k1m0, k1m1]
  instanceTypes := #[]
  staticTypes := #[]
  resolved := Array.replicate 38 none
  statics := none }

def pool2 : Array CpInfo := pool [(1, .class_ 2), (0, u "java/lang/Math"), (1, .class_ 6), (1, u "java/lang/Object"), (0, u "<init>"), (0, u "()V"), (89, .class_ 100), (1, u "java/lang/Math$RandomNumberGeneratorHolder"), (71, u "negativeZeroFloatBits"), (0, u "J"), (2, u "negativeZeroDoubleBits"), (21, u "max"), (46, u "$assertionsDisabled"), (0, u "Z"), (88, u "(II)I"), (2, u "twoToTheDoubleScaleDown"), (0, u "D"), (4, u "twoToTheDoubleScaleUp"), (9, u "E"), (3, u "PI"), (2, u "TAU"), (2, u "DEGREES_TO_RADIANS"), (0, u "RADIANS_TO_DEGREES")] 94

def k2m0 : Method := { name := "<init>", desc := "()V", sig := { parameters := [], returnType := none }, accessFlags := 2, code := none }
def k2c1 : Code := { maxStack := 2, maxLocals := 2, code := jdk_29_method_65_code, exceptionTable := #[], attributes := #[] }
def k2m1 : Method := { name := "max", desc := "(II)I", sig := { parameters := [.int, .int], returnType := some .int }, accessFlags := 9, code := some k2c1 }
/-- java/lang/Math -/
def k2 : Class := { plain "java/lang/Math" (some 0) with
  accessFlags := 49
  interfaces := #[]
  cf := some (fileOf pool2 1 #[.nestMembers #[98]] #[{ accessFlags := 2, nameIndex := 7, descriptorIndex := 8, attributes := #[] }, { accessFlags := 9, nameIndex := 198, descriptorIndex := 335, attributes := #[] }] 49 4 #[] #[{ accessFlags := 25, nameIndex := 354, descriptorIndex := 339, attributes := #[] }, { accessFlags := 25, nameIndex := 358, descriptorIndex := 339, attributes := #[] }, { accessFlags := 25, nameIndex := 361, descriptorIndex := 339, attributes := #[] }, { accessFlags := 26, nameIndex := 364, descriptorIndex := 339, attributes := #[] }, { accessFlags := 26, nameIndex := 365, descriptorIndex := 339, attributes := #[] }, { accessFlags := 26, nameIndex := 172, descriptorIndex := 173, attributes := #[] }, { accessFlags := 26, nameIndex := 176, descriptorIndex := 173, attributes := #[] }, { accessFlags := 8, nameIndex := 344, descriptorIndex := 339, attributes := #[] }, { accessFlags := 8, nameIndex := 338, descriptorIndex := 339, attributes := #[] }, { accessFlags := 4120, nameIndex := 245, descriptorIndex := 246, attributes := #[] }])
  fields := #[{ name := "E", type := .double, accessFlags := 25, slot := 0, constantValue := 0 }, { name := "PI", type := .double, accessFlags := 25, slot := 1, constantValue := 0 }, { name := "TAU", type := .double, accessFlags := 25, slot := 2, constantValue := 0 }, { name := "DEGREES_TO_RADIANS", type := .double, accessFlags := 26, slot := 3, constantValue := 0 }, { name := "RADIANS_TO_DEGREES", type := .double, accessFlags := 26, slot := 4, constantValue := 0 }, { name := "negativeZeroFloatBits", type := .long, accessFlags := 26, slot := 5, constantValue := 0 }, { name := "negativeZeroDoubleBits", type := .long, accessFlags := 26, slot := 6, constantValue := 0 }, { name := "twoToTheDoubleScaleUp", type := .double, accessFlags := 8, slot := 7, constantValue := 0 }, { name := "twoToTheDoubleScaleDown", type := .double, accessFlags := 8, slot := 8, constantValue := 0 }, { name := "$assertionsDisabled", type := .boolean, accessFlags := 4120, slot := 9, constantValue := 0 }]
  methods := #[k2m0, k2m1]
  instanceTypes := #[]
  staticTypes := #[.double, .double, .double, .double, .double, .long, .long, .double, .double, .boolean]
  resolved := Array.replicate 460 none
  statics := none }

def pool3 : Array CpInfo := pool [(1, .class_ 2), (0, u "java/lang/constant/Constable"), (0, .class_ 4), (0, u "java/lang/Object")] 6

/-- java/lang/constant/Constable -/
def k3 : Class := { plain "java/lang/constant/Constable" (some 0) with
  accessFlags := 1537
  interfaces := #[]
  cf := some (fileOf pool3 1 #[] #[] 1537 3 #[] #[])
  fields := #[]
  methods := #[]
  instanceTypes := #[]
  staticTypes := #[]
  resolved := Array.replicate 11 none
  statics := none }

def pool4 : Array CpInfo := pool [(1, .class_ 2), (0, u "java/lang/Comparable"), (0, .class_ 4), (0, u "java/lang/Object")] 7

/-- java/lang/Comparable -/
def k4 : Class := { plain "java/lang/Comparable" (some 0) with
  accessFlags := 1537
  interfaces := #[]
  cf := some (fileOf pool4 1 #[] #[] 1537 3 #[] #[])
  fields := #[]
  methods := #[]
  instanceTypes := #[]
  staticTypes := #[]
  resolved := Array.replicate 12 none
  statics := none }

def pool5 : Array CpInfo := pool [(1, .class_ 2), (0, u "java/io/Serializable"), (0, .class_ 4), (0, u "java/lang/Object")] 2

/-- java/io/Serializable -/
def k5 : Class := { plain "java/io/Serializable" (some 0) with
  accessFlags := 1537
  interfaces := #[]
  cf := some (fileOf pool5 1 #[] #[] 1537 3 #[] #[])
  fields := #[]
  methods := #[]
  instanceTypes := #[]
  staticTypes := #[]
  resolved := Array.replicate 7 none
  statics := none }

def pool6 : Array CpInfo := pool [(2, .class_ 4), (1, u "java/lang/Enum"), (0, u "name"), (0, u "Ljava/lang/String;"), (0, .fieldref 2 8), (0, .nameAndType 9 10), (0, u "ordinal"), (0, u "I"), (1, .class_ 14), (1, u "java/lang/Object"), (4, u "hash"), (86, .class_ 108), (1, u "java/lang/Enum$EnumDesc"), (2, .class_ 112), (0, u "java/lang/constant/Constable"), (0, .class_ 114), (0, u "java/lang/Comparable"), (0, .class_ 116), (0, u "java/io/Serializable"), (9, u "()I")] 77

def k6c0 : Code := { maxStack := 1, maxLocals := 1, code := jdk_37_method_2_code, exceptionTable := #[], attributes := #[] }
def k6m0 : Method := { name := "ordinal", desc := "()I", sig := { parameters := [], returnType := some .int }, accessFlags := 17, code := some k6c0 }
/-- java/lang/Enum -/
def k6 : Class := { plain "java/lang/Enum" (some 0) with
  accessFlags := 1057
  interfaces := #[3, 4, 5]
  cf := some (fileOf pool6 2 #[.nestMembers #[106]] #[{ accessFlags := 17, nameIndex := 9, descriptorIndex := 126, attributes := #[] }] 1057 12 #[111, 113, 115] #[{ accessFlags := 18, nameIndex := 5, descriptorIndex := 6, attributes := #[] }, { accessFlags := 18, nameIndex := 9, descriptorIndex := 10, attributes := #[] }, { accessFlags := 2, nameIndex := 19, descriptorIndex := 10, attributes := #[] }])
  fields := #[{ name := "name", type := (.object "java/lang/String"), accessFlags := 18, slot := 0, constantValue := 0 }, { name := "ordinal", type := .int, accessFlags := 18, slot := 1, constantValue := 0 }, { name := "hash", type := .int, accessFlags := 2, slot := 2, constantValue := 0 }]
  methods := #[k6m0]
  instanceTypes := #[(.object "java/lang/String"), .int, .int]
  staticTypes := #[]
  resolved := Array.replicate 204 none
  statics := none }

def pool7 : Array CpInfo := pool [(1, .class_ 2), (0, u "com/example/uzraktas/uzraktas/Quorum"), (2, u "MAJORITY"), (0, u "Lcom/example/uzraktas/uzraktas/Quorum;"), (2, u "ALL"), (2, u "$VALUES"), (0, u "[Lcom/example/uzraktas/uzraktas/Quorum;"), (6, .class_ 22), (1, u "java/lang/Enum"), (6, .methodref 1 30), (0, .nameAndType 31 32), (0, u "ordinal"), (0, u "()I"), (19, u "of"), (0, u "(I)I")] 5

def k7c0 : Code := { maxStack := 4, maxLocals := 2, code := prog_3_method_4_code, exceptionTable := #[], attributes := #[] }
def k7m0 : Method := { name := "of", desc := "(I)I", sig := { parameters := [.int], returnType := some .int }, accessFlags := 0, code := some k7c0 }
/-- com/example/uzraktas/uzraktas/Quorum -/
def k7 : Class := { plain "com/example/uzraktas/uzraktas/Quorum" (some 6) with
  accessFlags := 16433
  interfaces := #[]
  cf := some (fileOf pool7 1 #[] #[{ accessFlags := 0, nameIndex := 52, descriptorIndex := 53, attributes := #[] }] 16433 20 #[] #[{ accessFlags := 16409, nameIndex := 5, descriptorIndex := 6, attributes := #[] }, { accessFlags := 16409, nameIndex := 9, descriptorIndex := 6, attributes := #[] }, { accessFlags := 4122, nameIndex := 12, descriptorIndex := 13, attributes := #[] }])
  fields := #[{ name := "MAJORITY", type := (.object "com/example/uzraktas/uzraktas/Quorum"), accessFlags := 16409, slot := 0, constantValue := 0 }, { name := "ALL", type := (.object "com/example/uzraktas/uzraktas/Quorum"), accessFlags := 16409, slot := 1, constantValue := 0 }, { name := "$VALUES", type := (.array (.object "com/example/uzraktas/uzraktas/Quorum")), accessFlags := 4122, slot := 2, constantValue := 0 }]
  methods := #[k7m0]
  instanceTypes := #[(.object "java/lang/String"), .int, .int]
  staticTypes := #[(.object "com/example/uzraktas/uzraktas/Quorum"), (.object "com/example/uzraktas/uzraktas/Quorum"), (.array (.object "com/example/uzraktas/uzraktas/Quorum"))]
  resolved := Array.replicate 59 none
  statics := some 0 }

def pool8 : Array CpInfo := pool [(1, u "java/lang/Cloneable"), (0, .class_ 1), (0, u "java/lang/Object"), (0, .class_ 3)] 3

/-- java/lang/Cloneable -/
def k8 : Class := { plain "java/lang/Cloneable" (some 0) with
  accessFlags := 1537
  interfaces := #[]
  cf := some (fileOf pool8 2 #[] #[] 1537 4 #[] #[])
  fields := #[]
  methods := #[]
  instanceTypes := #[]
  staticTypes := #[]
  resolved := Array.replicate 8 none
  statics := none }

/-- the primitive byte -/
def k9 : Class := { plain "byte" none with kind := .primitive 'B', accessFlags := 0x411 }
/-- [B -/
def k10 : Class := { plain "[B" (some 0) with kind := .array 9 .byte, interfaces := #[8, 5], accessFlags := 1041 }

/-- the primitive int -/
def k11 : Class := { plain "int" none with kind := .primitive 'I', accessFlags := 0x411 }
/-- [I -/
def k12 : Class := { plain "[I" (some 0) with kind := .array 11 .int, interfaces := #[8, 5], accessFlags := 1041 }

def heap : Heap := #[{ cls := 7, slots := #[.ref 1, .ref 2, .null], vm := .statics 7 },
  { cls := 7, slots := #[.null, .int 0, .int 0], vm := .none },
  { cls := 7, slots := #[.null, .int 1, .int 0], vm := .none }]
def classes : Array Class := #[k0, k1, k2, k3, k4, k5, k6, k7, k8, k9, k10, k11, k12]
def interned : List (Array UInt16 × Addr) := []
def slotsUsed : Nat := 9
def theMethod : MethodId := ⟨1, 1⟩
def args0 : Array Value := #[.int 5]
def aboutOver (below : List Frame) : State where
  vm := { classes := classes, interned := interned.toArray }
  heap := heap
  slotsUsed := slotsUsed
  threads := #[{ frames := .invoking theMethod args0 :: below }]
def below0 : List Frame := [.native { method := ⟨0, 0⟩, args := #[] }]
def about1 : State := aboutOver below0
def p0 : Program := .bare "" "" ""
def e0 : Env := launch0.env 0 0 0
theorem w_frames : about1.frames = Frame.invoking theMethod args0 :: below0 := rfl
set_option maxRecDepth 65536 in
theorem w_args : argsFit about1.vm theMethod args0 = true := by decide +kernel
set_option maxRecDepth 65536 in
theorem w_heap : heapFits about1 = true := by decide +kernel
set_option maxRecDepth 65536 in
theorem w_runnable : about1.curStatus? = some .runnable := by decide +kernel
set_option maxRecDepth 65536 in
theorem w_alone : about1.alone = true := by decide +kernel
set_option maxRecDepth 65536 in
theorem w_named : about1.methodNamed? x = some theMethod := by decide +kernel
set_option maxRecDepth 65536 in
theorem w_hears : about1.hears theMethod below0 = true := by decide +kernel
set_option maxRecDepth 65536 in
theorem w_ripe : about1.ripe theMethod args0 below0 = true := by decide +kernel
theorem w_running : about1.status = .running := rfl
set_option maxRecDepth 65536 in
theorem w_room : about1.hasRoom e0.platform room_1 = true :=
  launch0.hasRoom_least _ room_1 (by decide +kernel) (by decide +kernel) (by decide +kernel) (by decide +kernel) (by decide +kernel) (by decide +kernel)
theorem allAtoms_all (ts : List Jvm.Cond) (a : Array Jvm.Value) (st : Jvm.State) : (allAtoms ts).before a st = ts.all (fun c => c.before a st) := by
  induction ts with
  | nil => rfl
  | cons c t ih =>
    show (Jvm.Cond.and c (allAtoms t)).before a st = _
    rw [Jvm.Cond.before_and, ih, List.all_cons]
def words1 : List Jvm.Cond := Jvm.Cond.code x code maxLocals ret :: tables_1
/-- a 'code' word, met by the world's own term for the bytes: nothing is compared byte by byte -/
theorem code_word {y : MethodName} {bytes : ByteArray} {mx : Nat} {rt : Option FieldType} {a : Array Value} {s : State} {m : MethodId} {meth : Method} {c : Code} (h1 : s.methodNamed? y = some m) (h2 : s.vm.method? m = some meth) (h3 : meth.code = some c) (h4 : c.code = bytes)
    (h5 : (c.maxLocals == mx && c.exceptionTable.isEmpty && decide (c.maxStack ≤ mostOperands) && decide (meth.sig.returnType = rt) && !meth.locks && decide (parseMethodDescriptor y.desc = some meth.sig)) = true) : (Jvm.Cond.code y bytes mx rt).before a s = true := by
  simp only [Bool.and_eq_true, beq_iff_eq, Bool.not_eq_true', decide_eq_true_eq] at h5
  obtain ⟨⟨⟨⟨⟨g1, g2⟩, g3⟩, g4⟩, g5⟩, g6⟩ := h5
  simp [Cond.before, Cond.holds, Cond.value, h1, h2, h3, h4, g1, g2, g3, g4, g5, g6]
def isCode : Jvm.Cond → Bool
  | .code _ _ _ _ => true
  | _ => false
theorem all_split {L : List Jvm.Cond} {P : Jvm.Cond → Bool} (h1 : L.all (fun c => isCode c || P c) = true) (h2 : ∀ c ∈ L.filter isCode, P c = true) : L.all P = true := by
  refine List.all_eq_true.mpr fun c hc => ?_
  have h := List.all_eq_true.mp h1 c hc
  rcases Bool.eq_false_or_eq_true (isCode c) with hi | hi
  · exact h2 c (List.mem_filter.mpr ⟨hc, hi⟩)
  · simpa [hi] using h
set_option maxRecDepth 65536 in
theorem w_c0 : (Jvm.Cond.code x code maxLocals ret).before args0 about1 = true := code_word (m := ⟨1, 1⟩) (meth := k1m1) (c := k1c1) (by decide +kernel) rfl rfl rfl (by decide +kernel)
set_option maxRecDepth 65536 in
theorem w_c1 : (Jvm.Cond.code ({ cls := "java/lang/Math", name := "max", desc := "(II)I" } : Jvm.MethodName) jdk_29_method_65_code (2 : Nat) (Option.some Jvm.ClassFile.FieldType.int)).before args0 about1 = true := code_word (m := ⟨2, 1⟩) (meth := k2m1) (c := k2c1) (by decide +kernel) rfl rfl rfl (by decide +kernel)
set_option maxRecDepth 65536 in
theorem w_c2 : (Jvm.Cond.code ({ cls := "com/example/uzraktas/uzraktas/Quorum", name := "of", desc := "(I)I" } : Jvm.MethodName) prog_3_method_4_code (2 : Nat) (Option.some Jvm.ClassFile.FieldType.int)).before args0 about1 = true := code_word (m := ⟨7, 0⟩) (meth := k7m0) (c := k7c0) (by decide +kernel) rfl rfl rfl (by decide +kernel)
set_option maxRecDepth 65536 in
theorem w_c3 : (Jvm.Cond.code ({ cls := "java/lang/Enum", name := "ordinal", desc := "()I" } : Jvm.MethodName) jdk_37_method_2_code (1 : Nat) (Option.some Jvm.ClassFile.FieldType.int)).before args0 about1 = true := code_word (m := ⟨6, 0⟩) (meth := k6m0) (c := k6c0) (by decide +kernel) rfl rfl rfl (by decide +kernel)
def codes1 : List Jvm.Cond := [Jvm.Cond.code x code maxLocals ret, Jvm.Cond.code ({ cls := "java/lang/Math", name := "max", desc := "(II)I" } : Jvm.MethodName) jdk_29_method_65_code (2 : Nat) (Option.some Jvm.ClassFile.FieldType.int), Jvm.Cond.code ({ cls := "com/example/uzraktas/uzraktas/Quorum", name := "of", desc := "(I)I" } : Jvm.MethodName) prog_3_method_4_code (2 : Nat) (Option.some Jvm.ClassFile.FieldType.int), Jvm.Cond.code ({ cls := "java/lang/Enum", name := "ordinal", desc := "()I" } : Jvm.MethodName) jdk_37_method_2_code (1 : Nat) (Option.some Jvm.ClassFile.FieldType.int)]
set_option maxRecDepth 65536 in
theorem codes_eq : words1.filter isCode = codes1 := rfl
theorem w_codes : ∀ c ∈ words1.filter isCode, c.before args0 about1 = true := by
  rw [codes_eq]
  intro c hc
  simp only [codes1, List.mem_cons, List.not_mem_nil, or_false] at hc
  rcases hc with rfl | rfl | rfl | rfl
  · exact w_c0
  · exact w_c1
  · exact w_c2
  · exact w_c3
set_option maxRecDepth 65536 in
theorem w_t1 : (words1.take 24).all (fun c => isCode c || c.before args0 about1) = true := by decide +kernel
set_option maxRecDepth 65536 in
theorem w_t2 : (words1.drop 24).all (fun c => isCode c || c.before args0 about1) = true := by decide +kernel
theorem w_tables : (allAtoms (Jvm.Cond.code x code maxLocals ret :: tables_1)).before args0 about1 = true := by
  rw [allAtoms_all]
  show words1.all (fun c => c.before args0 about1) = true
  refine all_split ?_ w_codes
  rw [← List.take_append_drop 24 words1, List.all_append, w_t1, w_t2]
  rfl
set_option maxRecDepth 65536 in
theorem w_case : (Jvm.Cond.and given_1 narrow_1).before args0 about1 = true := by decide +kernel
theorem w_applies : (headSpec (Jvm.Cond.code x code maxLocals ret :: tables_1) room_1).applies x e0.platform about1 = true :=
  (Spec.applies_iff w_frames).mpr ⟨w_running, w_runnable, w_alone, w_named, w_hears, w_ripe, w_room, w_tables⟩
theorem atStart : AtStart classFile x code maxLocals ret World_1 tables_1 room_1 Calls_1 rest_1 Pre_1 launch0 p0 e0 about1 theMethod args0 below0 :=
  ⟨lists_1, trivial, launch0.admits_env _ _ _, launch0.least_env, fairChoices_fair.cas, fairChoices_fair.clock, w_frames, w_args, w_heap, w_applies, trivial, trivial, w_case⟩
end start1
theorem witness_1 : WitnessClaimed_1 := ⟨start1.p0, start1.e0, start1.about1, start1.theMethod, start1.args0, start1.below0, start1.atStart⟩
end Jvm.Pilot.@@N@@
