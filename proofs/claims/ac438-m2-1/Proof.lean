import JvmDerived
import JvmDerived.Pilot.@@N@@Statement
import JvmDerived.Pilot.@@N@@Code
set_option linter.unusedVariables false
set_option linter.unusedSimpArgs false
namespace Jvm.RoadKit
open Sem ClassFile Op Lib Jvm.Stand Jvm.Free Jvm.LawKit
section New
variable {p : Program} {l : Launch} {e : Env} {R : Room} {s : State} {m : MethodId} {args : Array Value} {below : List Frame} {meth : Method} {c : Code} {T : State} {locs : List Loc} {cells slots : Nat}
theorem retI (X : Stand p l e R s m args below meth c T locs cells slots) (hx : p.tables.exec = Jvm.exec) {pc : Nat} {Ls : Array Slot} {z : Int32} {rest : List Value} (hret : meth.sig.returnType = some .int) (hd : decode c.code pc = .ok (.ireturn, 1)) {fs : List Frame}
    (hl : ∀ (f : JFrame) (acts : List Action), f.method = m → f.locked = none → f.entered = [] → (doReturn e (T.setTop f) acts (some (.int z))).1 = T.setFrames fs) : Steps p.tables e below (T.setTop (mkF m pc Ls (.int z :: rest))) (T.setFrames fs) := by
  have hm' : T.vm.method? m = some meth := X.method'
  have hn : narrow .int (.int z) = .int z := rfl
  show Steps p.tables e below (T.setTop { method := m, pc := pc, locals := Ls, stack := _ :: rest, locked := none }) _
  jvm_step X.here [X.here.top, hx, hd, hm', hret, hn]
  first | (intro acts; rw [hl _ acts rfl rfl rfl]) | rw [hl _ _ rfl rfl rfl]
  exact Steps.refl _
end New
end Jvm.RoadKit
namespace Jvm.Pilot.@@N@@
open Jvm Jvm.ClassFile Sem Op Lib Jvm.Free Jvm.Stand Jvm.LawKit Jvm.RoadKit Bundle Jvm.Pilot.@@N@@.Jvm.D
def EL : List (String × Nat) := [("com/example/stomme/stomme/diagnostic/DiagnosticsHasErrorsPinLaw", 28)]
theorem own_since (s : State) (n : Nat) : s.Since s.vm n := ⟨State.Warmed39.refl s, fun j p hj hp => absurd (Array.getElem?_eq_some_iff.mp hp).1 (Nat.not_lt.mpr hj)⟩
theorem own_osz {Z : State} {n0 : Nat} {h : Heap} (O : Old Z n0 h) : n0 ≤ h.size := O.1 ▸ O.2.1
theorem own_strs {Z : State} {a0 : Array Value} (hw : ∀ d ∈ tables_1, d.before a0 Z = true) : ∀ a ∈ Bundle.stringAtoms, a.before a0 Z = true := by
  intro d hd
  simp only [Bundle.stringAtoms, List.mem_cons, List.not_mem_nil, or_false] at hd
  rcases hd with rfl | rfl | rfl | rfl | rfl | rfl | rfl
  · exact hw _ (List.mem_of_getElem? (i := 39) rfl)
  · exact hw _ (List.mem_of_getElem? (i := 40) rfl)
  · exact hw _ (List.mem_of_getElem? (i := 41) rfl)
  · exact hw _ (List.mem_of_getElem? (i := 42) rfl)
  · exact hw _ (List.mem_of_getElem? (i := 43) rfl)
  · exact hw _ (List.mem_of_getElem? (i := 44) rfl)
  · exact hw _ (List.mem_of_getElem? (i := 45) rfl)
def own_pos (e : Int32) : Int32 := if (0 : Int32) < e then 1 else 0
theorem d5_0 : decode jdk_22_method_1_code 0 = .ok (.aload_n 0, 1) := by decide +kernel
theorem d5_1 : decode jdk_22_method_1_code 1 = .ok (.invokespecial 1, 3) := by decide +kernel
theorem d5_4 : decode jdk_22_method_1_code 4 = .ok (.return_, 1) := by decide +kernel
theorem pn_5 : plainName "java/util/AbstractCollection" = true := by first | (simp [plainName, overriddenIn]; done) | decide +kernel
theorem ef_5 (m : MethodId) (x0 : Addr) : entryFrame m #[(.ref x0)] 1 = mkF m 0 #[.val (.ref x0)] [] := by first | (simp [entryFrame, mkF, argsToLocals, Value.category]; done) | rfl
def Q5 (Z : State) (a1 : Addr) (h0 : Heap) (n0 : Nat) (v : Option Value) (h : Heap) (L : List Loc) : Prop := v = none ∧ Fr n0 L ∧ h = h0
set_option maxRecDepth 65536 in
set_option maxHeartbeats 40000000 in
theorem rm5 (l : Launch) (Z : State) (a0 : Array Value) (hw : ∀ d ∈ tables_1, d.before a0 Z = true) (ws : List Jvm.Cond) (a1 : Addr) (h0 : Heap) (n0 : Nat) (Z0 : n0 ≤ h0.size) :
    MetFree l (⟨"java/util/AbstractCollection", "<init>", "()V"⟩ : MethodName) (head1 (Jvm.Cond.code (⟨"java/util/AbstractCollection", "<init>", "()V"⟩ : MethodName) jdk_22_method_1_code 1 none :: ws) ({ frames := 1, cells := 0, slots := 0, locals := 12 } : Room)) (fun a U => a = #[(.ref a1)] ∧ Z.Warmed39 U.vm ∧ U.heap = h0) (fun _ _ _ _ _ => True) (fun _ U o U' => ∃ v L, o = .returned v ∧ Q5 Z a1 h0 n0 v U'.heap L ∧ FrameEnd U o U' L ({ frames := 1, cells := 0, slots := 0, locals := 12 } : Room).cells ({ frames := 1, cells := 0, slots := 0, locals := 12 } : Room).slots) := by
  refine MetFree.of_bodySF (plainFor_of_name pn_5) hisR ?_
  intro p e s m args below meth c s₁ Bd hml0 hP hK
  obtain ⟨rfl, hZ, hh⟩ := hP
  have hx := Bd.exec
  have hby := Bd.bytes
  have hml : c.maxLocals = 1 := hml0
  have hown : s.vm.findClass "java/util/AbstractCollection" = some m.cls := findClass_of_methodNamed Bd.named
  have hnm := (name_of_methodNamed Bd.named Bd.method).1
  have X0 : Stand p l e ({ frames := 1, cells := 0, slots := 0, locals := 12 } : Room) s m #[(.ref a1)] below meth c s₁ [] 0 0 := Stand.of_body Bd
  have e0 : s₁.heap = h0 := by rw [← hh, Bd.state]; rfl
  have N0 := Fr.nil n0
  have pre0 : ∀ t, Steps p.tables e below (s₁.setTop (mkF m 0 #[.val (.ref a1)] [])) t → Steps p.tables e below (s₁.setTop (entryFrame m #[(.ref a1)] 1)) t := fun t k => castTop (ef_5 m a1) k
  obtain ⟨T2, X2, e2, st2⟩ := initO X0 hx hZ hown (hw _ (List.mem_of_getElem? (i := 27) rfl)) (hw _ (List.mem_of_getElem? (i := 7) rfl)) (hw _ (List.mem_of_getElem? (i := 8) rfl)) e0 (g := (mkF m 1 #[.val (.ref a1)] [(.ref a1)])) rfl (by rw [hml]; rfl) rfl (hb hby d5_1) (by decide) (W := 0) (by show 2 * 0 + _ ≤ _; exact Nat.le_of_eq rfl) (by decide)
  obtain ⟨fs, hr, hrun, hended, hW, hsame⟩ := X2.leave (v := none) (fun _ => rfl)
  refine ⟨_, _, pre0 _ ?_, hrun, hended, _, _, rfl, ?_, ⟨_, rfl⟩, hW, hsame.mono (by decide) (by decide)⟩
  · show Steps p.tables e below (s₁.setTop (mkF m 0 #[.val (.ref a1)] [])) _
    refine XS.aloadN X0.here hx rfl (hb hby d5_0) rfl rfl ?_
    show Steps p.tables e below (s₁.setTop (mkF m 1 #[.val (.ref a1)] [(.ref a1)])) _
    refine st2 _ ?_
    show Steps p.tables e below (T2.setTop (mkF m 4 #[.val (.ref a1)] [])) _
    exact X2.returnOut hx Bd.returns (hb hby d5_4) hr
  · show Q5 Z a1 h0 n0 _ T2.heap _
    rw [e2]
    exact ⟨rfl, N0, rfl⟩
theorem d4_0 : decode jdk_39_method_1_code 0 = .ok (.aload_n 0, 1) := by decide +kernel
theorem d4_1 : decode jdk_39_method_1_code 1 = .ok (.invokespecial 1, 3) := by decide +kernel
theorem d4_4 : decode jdk_39_method_1_code 4 = .ok (.aload_n 0, 1) := by decide +kernel
theorem d4_5 : decode jdk_39_method_1_code 5 = .ok (.iconst 0, 1) := by decide +kernel
theorem d4_6 : decode jdk_39_method_1_code 6 = .ok (.putfield 7, 3) := by decide +kernel
theorem d4_9 : decode jdk_39_method_1_code 9 = .ok (.return_, 1) := by decide +kernel
theorem pn_4 : plainName "java/util/AbstractList" = true := by first | (simp [plainName, overriddenIn]; done) | decide +kernel
theorem pd_4_0 : parseMethodDescriptor "()V" = some ⟨[], none⟩ := by decide +kernel
theorem ef_4 (m : MethodId) (x0 : Addr) : entryFrame m #[(.ref x0)] 1 = mkF m 0 #[.val (.ref x0)] [] := by first | (simp [entryFrame, mkF, argsToLocals, Value.category]; done) | rfl
def Q4 (Z : State) (a1 : Addr) (u_modCount_a1 : Value) (ue : Value) (us : Value) (h0 : Heap) (n0 : Nat) (v : Option Value) (h : Heap) (L : List Loc) : Prop := v = none ∧ Fr n0 L ∧ Keep h0 h [a1] ∧ Fld Z h a1 "java/util/AbstractList" "modCount" "I" (.int (0 : Int32)) ∧ Fld Z h a1 "java/util/ArrayList" "elementData" "[Ljava/lang/Object;" ue ∧ Fld Z h a1 "java/util/ArrayList" "size" "I" us
set_option maxRecDepth 65536 in
set_option maxHeartbeats 40000000 in
theorem rm4 (l : Launch) (Z : State) (a0 : Array Value) (hw : ∀ d ∈ tables_1, d.before a0 Z = true) (ws : List Jvm.Cond) (a1 : Addr) (u_modCount_a1 : Value) (ue : Value) (us : Value) (h0 : Heap) (n0 : Nat) (Z0 : n0 ≤ h0.size) (E_a1 : Exa Z h0 a1 "java/util/ArrayList") (F_elementData_a1 : Fld Z h0 a1 "java/util/ArrayList" "elementData" "[Ljava/lang/Object;" ue) (F_size_a1 : Fld Z h0 a1 "java/util/ArrayList" "size" "I" us) (F_modCount_a1 : Fld Z h0 a1 "java/util/AbstractList" "modCount" "I" u_modCount_a1) (g_a1 : n0 ≤ a1) :
    MetFree l (⟨"java/util/AbstractList", "<init>", "()V"⟩ : MethodName) (head1 (Jvm.Cond.code (⟨"java/util/AbstractList", "<init>", "()V"⟩ : MethodName) jdk_39_method_1_code 1 none :: ws) ({ frames := 2, cells := 0, slots := 0, locals := 24 } : Room)) (fun a U => a = #[(.ref a1)] ∧ Z.Warmed39 U.vm ∧ U.heap = h0) (fun _ _ _ _ _ => True) (fun _ U o U' => ∃ v L, o = .returned v ∧ Q4 Z a1 u_modCount_a1 ue us h0 n0 v U'.heap L ∧ FrameEnd U o U' L ({ frames := 2, cells := 0, slots := 0, locals := 24 } : Room).cells ({ frames := 2, cells := 0, slots := 0, locals := 24 } : Room).slots) := by
  refine MetFree.of_bodySF (plainFor_of_name pn_4) hisR ?_
  intro p e s m args below meth c s₁ Bd hml0 hP hK
  obtain ⟨rfl, hZ, hh⟩ := hP
  have hx := Bd.exec
  have hby := Bd.bytes
  have hml : c.maxLocals = 1 := hml0
  have hown : s.vm.findClass "java/util/AbstractList" = some m.cls := findClass_of_methodNamed Bd.named
  have hnm := (name_of_methodNamed Bd.named Bd.method).1
  have X0 : Stand p l e ({ frames := 2, cells := 0, slots := 0, locals := 24 } : Room) s m #[(.ref a1)] below meth c s₁ [] 0 0 := Stand.of_body Bd
  have e0 : s₁.heap = h0 := by rw [← hh, Bd.state]; rfl
  have N0 := Fr.nil n0
  have pre0 : ∀ t, Steps p.tables e below (s₁.setTop (mkF m 0 #[.val (.ref a1)] [])) t → Steps p.tables e below (s₁.setTop (entryFrame m #[(.ref a1)] 1)) t := fun t k => castTop (ef_4 m a1) k
  obtain ⟨_, _, ⟨T2, L2, k2, n2⟩, -, X2, ⟨Lc2, hQ2, l2, y2, z2⟩, st2⟩ := X0.specialBack hx (y := (⟨"java/util/AbstractCollection", "<init>", "()V"⟩ : MethodName)) rfl hown (mvT hZ (hw _ (List.mem_of_getElem? (i := 21) rfl))) (mvT hZ (hw _ (List.mem_of_getElem? (i := 22) rfl))) (mvT hZ (hw _ (List.mem_of_getElem? (i := 26) rfl))) (by decide) (backOf (W := 0) (rm5 l Z a0 hw [] a1  h0 n0 Z0) hZ (hw _ (List.mem_of_getElem? (i := 26) rfl)) (hw _ (List.mem_of_getElem? (i := 25) rfl)) (by decide) (by decide)) (g := (mkF m 1 #[.val (.ref a1)] [(.ref a1)])) rfl (by rw [hml]; rfl) (Steps.refl _) (a := a1) (argsL := []) (rest := []) (lenOf pd_4_0 rfl) rfl (by show 2 * 0 + _ ≤ _; exact Nat.le_of_eq rfl) (hb hby d4_1) (fun _ _ => ⟨rfl, e0, (by decide : 0 + 0 ≤ _), (by decide : 0 + 0 ≤ _)⟩)
  dsimp only [Pt.U, Pt.locs, Pt.cells, Pt.slots] at X2 l2 y2 z2 st2 hQ2
  subst l2 y2 z2
  obtain ⟨rfl, N2q, e2c⟩ := hQ2
  have N2 := Fr.app N0 N2q
  obtain ⟨T3, h3, X3, e3, W3, st3⟩ := putF X2 hx hZ hown (host := "") (Or.inl (hw _ (List.mem_of_getElem? (i := 28) rfl))) Via.refl e2c F_modCount_a1 E_a1 (Or.inl (hw _ (List.mem_of_getElem? (i := 29) rfl))) (hw _ (List.mem_of_getElem? (i := 10) rfl)) (ty := .int) (by decide) rfl rfl (g := (mkF m 6 #[.val (.ref a1)] [(.int (0 : Int32)), (.ref a1)])) rfl rfl (hb hby d4_6)
  have Fw3 := F_modCount_a1.same W3
  have K3 : Keep h0 h3 [a1] := (Keep.refl h0 [a1]).wr W3 (Or.inl (List.mem_of_getElem? (i := 0) rfl))
  have N3 := Fr.snoc X3 N2 g_a1
  obtain ⟨fs, hr, hrun, hended, hW, hsame⟩ := X3.leave (v := none) (fun _ => rfl)
  refine ⟨_, _, pre0 _ ?_, hrun, hended, _, _, rfl, ?_, ⟨_, rfl⟩, hW, hsame.mono (by decide) (by decide)⟩
  · show Steps p.tables e below (s₁.setTop (mkF m 0 #[.val (.ref a1)] [])) _
    refine XS.aloadN X0.here hx rfl (hb hby d4_0) rfl rfl ?_
    show Steps p.tables e below (s₁.setTop (mkF m 1 #[.val (.ref a1)] [(.ref a1)])) _
    refine st2.trans ?_
    show Steps p.tables e below (T2.setTop (mkF m 4 #[.val (.ref a1)] [])) _
    refine XS.aloadN X2.here hx rfl (hb hby d4_4) rfl rfl ?_
    show Steps p.tables e below (T2.setTop (mkF m 5 #[.val (.ref a1)] [(.ref a1)])) _
    refine XS.iconst X2.here hx rfl (hb hby d4_5) ?_
    show Steps p.tables e below (T2.setTop (mkF m 6 #[.val (.ref a1)] [(.int (0 : Int32)), (.ref a1)])) _
    refine st3 _ ?_
    show Steps p.tables e below (T3.setTop (mkF m 9 #[.val (.ref a1)] [])) _
    exact X3.returnOut hx Bd.returns (hb hby d4_9) hr
  · show Q4 Z a1 u_modCount_a1 ue us h0 n0 _ T3.heap _
    rw [e3]
    exact ⟨rfl, N3, K3, Fw3, (F_elementData_a1.other W3 (Or.inr (slot_ne (Or.inl (hw _ (List.mem_of_getElem? (i := 32) rfl))) (Or.inl (hw _ (List.mem_of_getElem? (i := 29) rfl))) (by decide) (t := (.array (.object "java/lang/Object"))) (t' := .int) (by decide) (by decide)))), (F_size_a1.other W3 (Or.inr (slot_ne (Or.inl (hw _ (List.mem_of_getElem? (i := 164) rfl))) (Or.inl (hw _ (List.mem_of_getElem? (i := 29) rfl))) (by decide) (t := .int) (t' := .int) (by decide) (by decide))))⟩
theorem d3_0 : decode jdk_38_method_2_code 0 = .ok (.aload_n 0, 1) := by decide +kernel
theorem d3_1 : decode jdk_38_method_2_code 1 = .ok (.invokespecial 1, 3) := by decide +kernel
theorem d3_4 : decode jdk_38_method_2_code 4 = .ok (.aload_n 0, 1) := by decide +kernel
theorem d3_5 : decode jdk_38_method_2_code 5 = .ok (.getstatic 39, 3) := by decide +kernel
theorem d3_8 : decode jdk_38_method_2_code 8 = .ok (.putfield 9, 3) := by decide +kernel
theorem d3_11 : decode jdk_38_method_2_code 11 = .ok (.return_, 1) := by decide +kernel
theorem pn_3 : plainName "java/util/ArrayList" = true := by first | (simp [plainName, overriddenIn]; done) | decide +kernel
theorem pd_3_0 : parseMethodDescriptor "()V" = some ⟨[], none⟩ := by decide +kernel
theorem ef_3 (m : MethodId) (x0 : Addr) : entryFrame m #[(.ref x0)] 1 = mkF m 0 #[.val (.ref x0)] [] := by first | (simp [entryFrame, mkF, argsToLocals, Value.category]; done) | rfl
def Q3 (Z : State) (a1 : Addr) (w3 : Addr) (um : Value) (ue : Value) (us : Value) (h0 : Heap) (n0 : Nat) (v : Option Value) (h : Heap) (L : List Loc) : Prop := v = none ∧ Fr n0 L ∧ Keep h0 h [a1] ∧ Exa Z h a1 "java/util/ArrayList" ∧ Fld Z h a1 "java/util/AbstractList" "modCount" "I" (.int (0 : Int32)) ∧ Fld Z h a1 "java/util/ArrayList" "elementData" "[Ljava/lang/Object;" (.ref w3) ∧ Fld Z h a1 "java/util/ArrayList" "size" "I" us
set_option maxRecDepth 65536 in
set_option maxHeartbeats 40000000 in
theorem rm3 (l : Launch) (Z : State) (a0 : Array Value) (hw : ∀ d ∈ tables_1, d.before a0 Z = true) (ws : List Jvm.Cond) (a1 : Addr) (w3 : Addr) (um : Value) (ue : Value) (us : Value) (h0 : Heap) (n0 : Nat) (Z0 : n0 ≤ h0.size) (E_a1 : Exa Z h0 a1 "java/util/ArrayList") (F_modCount_a1 : Fld Z h0 a1 "java/util/AbstractList" "modCount" "I" um) (F_elementData_a1 : Fld Z h0 a1 "java/util/ArrayList" "elementData" "[Ljava/lang/Object;" ue) (F_size_a1 : Fld Z h0 a1 "java/util/ArrayList" "size" "I" us) (g_a1 : n0 ≤ a1) (O0 : Old Z n0 h0) (S_DEFAULTCAPACITY_EMPTY_ELEMENTDATA : Sta Z Z.heap "java/util/ArrayList" "DEFAULTCAPACITY_EMPTY_ELEMENTDATA" "[Ljava/lang/Object;" (.ref w3)) :
    MetFree l (⟨"java/util/ArrayList", "<init>", "()V"⟩ : MethodName) (head1 (Jvm.Cond.code (⟨"java/util/ArrayList", "<init>", "()V"⟩ : MethodName) jdk_38_method_2_code 1 none :: ws) ({ frames := 3, cells := 0, slots := 0, locals := 36 } : Room)) (fun a U => a = #[(.ref a1)] ∧ Z.Warmed39 U.vm ∧ U.heap = h0) (fun _ _ _ _ _ => True) (fun _ U o U' => ∃ v L, o = .returned v ∧ Q3 Z a1 w3 um ue us h0 n0 v U'.heap L ∧ FrameEnd U o U' L ({ frames := 3, cells := 0, slots := 0, locals := 36 } : Room).cells ({ frames := 3, cells := 0, slots := 0, locals := 36 } : Room).slots) := by
  refine MetFree.of_bodySF (plainFor_of_name pn_3) hisR ?_
  intro p e s m args below meth c s₁ Bd hml0 hP hK
  obtain ⟨rfl, hZ, hh⟩ := hP
  have hx := Bd.exec
  have hby := Bd.bytes
  have hml : c.maxLocals = 1 := hml0
  have hown : s.vm.findClass "java/util/ArrayList" = some m.cls := findClass_of_methodNamed Bd.named
  have hnm := (name_of_methodNamed Bd.named Bd.method).1
  have X0 : Stand p l e ({ frames := 3, cells := 0, slots := 0, locals := 36 } : Room) s m #[(.ref a1)] below meth c s₁ [] 0 0 := Stand.of_body Bd
  have e0 : s₁.heap = h0 := by rw [← hh, Bd.state]; rfl
  have N0 := Fr.nil n0
  have pre0 : ∀ t, Steps p.tables e below (s₁.setTop (mkF m 0 #[.val (.ref a1)] [])) t → Steps p.tables e below (s₁.setTop (entryFrame m #[(.ref a1)] 1)) t := fun t k => castTop (ef_3 m a1) k
  obtain ⟨_, _, ⟨T2, L2, k2, n2⟩, -, X2, ⟨Lc2, hQ2, l2, y2, z2⟩, st2⟩ := X0.specialBack hx (y := (⟨"java/util/AbstractList", "<init>", "()V"⟩ : MethodName)) rfl hown (mvT hZ (hw _ (List.mem_of_getElem? (i := 15) rfl))) (mvT hZ (hw _ (List.mem_of_getElem? (i := 16) rfl))) (mvT hZ (hw _ (List.mem_of_getElem? (i := 20) rfl))) (by decide) (backOf (W := 0) (rm4 l Z a0 hw [] a1 um ue us h0 n0 Z0 E_a1 F_elementData_a1 F_size_a1 F_modCount_a1 g_a1) hZ (hw _ (List.mem_of_getElem? (i := 20) rfl)) (hw _ (List.mem_of_getElem? (i := 19) rfl)) (by decide) (by decide)) (g := (mkF m 1 #[.val (.ref a1)] [(.ref a1)])) rfl (by rw [hml]; rfl) (Steps.refl _) (a := a1) (argsL := []) (rest := []) (lenOf pd_3_0 rfl) rfl (by show 2 * 0 + _ ≤ _; exact Nat.le_of_eq rfl) (hb hby d3_1) (fun _ _ => ⟨rfl, e0, (by decide : 0 + 0 ≤ _), (by decide : 0 + 0 ≤ _)⟩)
  dsimp only [Pt.U, Pt.locs, Pt.cells, Pt.slots] at X2 l2 y2 z2 st2 hQ2
  subst l2 y2 z2
  obtain ⟨rfl, N2q, K2c, Fm2, Fe2, Fs2⟩ := hQ2
  have N2 := Fr.app N0 N2q
  have K2 : Keep h0 T2.heap [a1] := (Keep.refl h0 [a1]).trans K2c (allS (Or.inl (List.mem_of_getElem? (i := 0) rfl)) all0)
  obtain ⟨T4, X4, e4, st4⟩ := getS2 X2 hx hZ hown (host := "") (Or.inl (hw _ (List.mem_of_getElem? (i := 30) rfl))) Via.refl rfl (S_DEFAULTCAPACITY_EMPTY_ELEMENTDATA.ext (O0.keep K2c (allS g_a1 all0)).2) (g := (mkF m 5 #[.val (.ref a1)] [(.ref a1)])) rfl (hb hby d3_5)
  obtain ⟨T5, h5, X5, e5, W5, st5⟩ := putF X4 hx hZ hown (host := "") (Or.inl (hw _ (List.mem_of_getElem? (i := 31) rfl))) Via.refl e4 Fe2 (E_a1.keep K2c) (Or.inl (hw _ (List.mem_of_getElem? (i := 32) rfl))) (hw _ (List.mem_of_getElem? (i := 10) rfl)) (ty := (.array (.object "java/lang/Object"))) (by decide) rfl rfl (g := (mkF m 8 #[.val (.ref a1)] [(.ref w3), (.ref a1)])) rfl rfl (hb hby d3_8)
  have Fw5 := Fe2.same W5
  have K5 : Keep h0 h5 [a1] := K2.wr W5 (Or.inl (List.mem_of_getElem? (i := 0) rfl))
  have N5 := Fr.snoc X5 N2 g_a1
  obtain ⟨fs, hr, hrun, hended, hW, hsame⟩ := X5.leave (v := none) (fun _ => rfl)
  refine ⟨_, _, pre0 _ ?_, hrun, hended, _, _, rfl, ?_, ⟨_, rfl⟩, hW, hsame.mono (by decide) (by decide)⟩
  · show Steps p.tables e below (s₁.setTop (mkF m 0 #[.val (.ref a1)] [])) _
    refine XS.aloadN X0.here hx rfl (hb hby d3_0) rfl rfl ?_
    show Steps p.tables e below (s₁.setTop (mkF m 1 #[.val (.ref a1)] [(.ref a1)])) _
    refine st2.trans ?_
    show Steps p.tables e below (T2.setTop (mkF m 4 #[.val (.ref a1)] [])) _
    refine XS.aloadN X2.here hx rfl (hb hby d3_4) rfl rfl ?_
    show Steps p.tables e below (T2.setTop (mkF m 5 #[.val (.ref a1)] [(.ref a1)])) _
    refine st4 _ ?_
    show Steps p.tables e below (T4.setTop (mkF m 8 #[.val (.ref a1)] [(.ref w3), (.ref a1)])) _
    refine st5 _ ?_
    show Steps p.tables e below (T5.setTop (mkF m 11 #[.val (.ref a1)] [])) _
    exact X5.returnOut hx Bd.returns (hb hby d3_11) hr
  · show Q3 Z a1 w3 um ue us h0 n0 _ T5.heap _
    rw [e5]
    exact ⟨rfl, N5, K5, ((E_a1.keep K2c).wr W5), (Fm2.other W5 (Or.inr (slot_ne (Or.inl (hw _ (List.mem_of_getElem? (i := 29) rfl))) (Or.inl (hw _ (List.mem_of_getElem? (i := 32) rfl))) (by decide) (t := .int) (t' := (.array (.object "java/lang/Object"))) (by decide) (by decide)))), Fw5, (Fs2.other W5 (Or.inr (slot_ne (Or.inl (hw _ (List.mem_of_getElem? (i := 164) rfl))) (Or.inl (hw _ (List.mem_of_getElem? (i := 32) rfl))) (by decide) (t := .int) (t' := (.array (.object "java/lang/Object"))) (by decide) (by decide))))⟩
theorem d1_0 : decode prog_9_method_1_code 0 = .ok (.aload_n 0, 1) := by decide +kernel
theorem d1_1 : decode prog_9_method_1_code 1 = .ok (.invokespecial 1, 3) := by decide +kernel
theorem d1_4 : decode prog_9_method_1_code 4 = .ok (.aload_n 0, 1) := by decide +kernel
theorem d1_5 : decode prog_9_method_1_code 5 = .ok (.new 7, 3) := by decide +kernel
theorem d1_8 : decode prog_9_method_1_code 8 = .ok (.dup, 1) := by decide +kernel
theorem d1_9 : decode prog_9_method_1_code 9 = .ok (.invokespecial 9, 3) := by decide +kernel
theorem d1_12 : decode prog_9_method_1_code 12 = .ok (.putfield 10, 3) := by decide +kernel
theorem d1_15 : decode prog_9_method_1_code 15 = .ok (.return_, 1) := by decide +kernel
theorem pn_1 : plainName "com/example/stomme/stomme/diagnostic/Diagnostics" = true := by first | (simp [plainName, overriddenIn]; done) | decide +kernel
theorem pd_1_0 : parseMethodDescriptor "()V" = some ⟨[], none⟩ := by decide +kernel
theorem ef_1 (m : MethodId) (x0 : Addr) : entryFrame m #[(.ref x0)] 1 = mkF m 0 #[.val (.ref x0)] [] := by first | (simp [entryFrame, mkF, argsToLocals, Value.category]; done) | rfl
def Q1 (Z : State) (a1 : Addr) (u_reported_a1 : Value) (wD : Addr) (h0 : Heap) (n0 : Nat) (v : Option Value) (h : Heap) (L : List Loc) : Prop := v = none ∧ Fr n0 L ∧ Keep h0 h [a1] ∧ Exa Z h a1 "com/example/stomme/stomme/diagnostic/Diagnostics" ∧ Fld Z h a1 "com/example/stomme/stomme/diagnostic/Diagnostics" "errors" "I" (.int (0 : Int32)) ∧ ∃ b : Addr, n0 ≤ b ∧ Fld Z h a1 "com/example/stomme/stomme/diagnostic/Diagnostics" "reported" "Ljava/util/List;" (.ref b) ∧ Exa Z h b "java/util/ArrayList" ∧ Fld Z h b "java/util/AbstractList" "modCount" "I" (.int (0 : Int32)) ∧ Fld Z h b "java/util/ArrayList" "elementData" "[Ljava/lang/Object;" (.ref wD) ∧ Fld Z h b "java/util/ArrayList" "size" "I" (.int (0 : Int32))
set_option maxRecDepth 65536 in
set_option maxHeartbeats 40000000 in
theorem rm1 (l : Launch) (Z : State) (a0 : Array Value) (hw : ∀ d ∈ tables_1, d.before a0 Z = true) (ws : List Jvm.Cond) (a1 : Addr) (u_reported_a1 : Value) (wD : Addr) (h0 : Heap) (n0 : Nat) (Z0 : n0 ≤ h0.size) (E_a1 : Exa Z h0 a1 "com/example/stomme/stomme/diagnostic/Diagnostics") (F_errors_a1 : Fld Z h0 a1 "com/example/stomme/stomme/diagnostic/Diagnostics" "errors" "I" (.int (0 : Int32))) (F_reported_a1 : Fld Z h0 a1 "com/example/stomme/stomme/diagnostic/Diagnostics" "reported" "Ljava/util/List;" u_reported_a1) (g_a1 : n0 ≤ a1) (O0 : Old Z n0 h0) (S_D : Sta Z Z.heap "java/util/ArrayList" "DEFAULTCAPACITY_EMPTY_ELEMENTDATA" "[Ljava/lang/Object;" (.ref wD)) :
    MetFree l (⟨"com/example/stomme/stomme/diagnostic/Diagnostics", "<init>", "()V"⟩ : MethodName) (head1 (Jvm.Cond.code (⟨"com/example/stomme/stomme/diagnostic/Diagnostics", "<init>", "()V"⟩ : MethodName) prog_9_method_1_code 1 none :: ws) ({ frames := 4, cells := 1, slots := 3, locals := 50 } : Room)) (fun a U => a = #[(.ref a1)] ∧ Z.Warmed39 U.vm ∧ U.heap = h0) (fun _ _ _ _ _ => True) (fun _ U o U' => ∃ v L, o = .returned v ∧ Q1 Z a1 u_reported_a1 wD h0 n0 v U'.heap L ∧ FrameEnd U o U' L ({ frames := 4, cells := 1, slots := 3, locals := 50 } : Room).cells ({ frames := 4, cells := 1, slots := 3, locals := 50 } : Room).slots) := by
  refine MetFree.of_bodySF (plainFor_of_name pn_1) hisR ?_
  intro p e s m args below meth c s₁ Bd hml0 hP hK
  obtain ⟨rfl, hZ, hh⟩ := hP
  have hx := Bd.exec
  have hby := Bd.bytes
  have hml : c.maxLocals = 1 := hml0
  have hown : s.vm.findClass "com/example/stomme/stomme/diagnostic/Diagnostics" = some m.cls := findClass_of_methodNamed Bd.named
  have hnm := (name_of_methodNamed Bd.named Bd.method).1
  have X0 : Stand p l e ({ frames := 4, cells := 1, slots := 3, locals := 50 } : Room) s m #[(.ref a1)] below meth c s₁ [] 0 0 := Stand.of_body Bd
  have e0 : s₁.heap = h0 := by rw [← hh, Bd.state]; rfl
  have N0 := Fr.nil n0
  have pre0 : ∀ t, Steps p.tables e below (s₁.setTop (mkF m 0 #[.val (.ref a1)] [])) t → Steps p.tables e below (s₁.setTop (entryFrame m #[(.ref a1)] 1)) t := fun t k => castTop (ef_1 m a1) k
  obtain ⟨T2, X2, e2, st2⟩ := initO X0 hx hZ hown (hw _ (List.mem_of_getElem? (i := 6) rfl)) (hw _ (List.mem_of_getElem? (i := 7) rfl)) (hw _ (List.mem_of_getElem? (i := 8) rfl)) e0 (g := (mkF m 1 #[.val (.ref a1)] [(.ref a1)])) rfl (by rw [hml]; rfl) rfl (hb hby d1_1) (by decide) (W := 0) (by show 2 * 0 + _ ≤ _; exact Nat.le_of_eq rfl) (by decide)
  obtain ⟨T3, h3, X3, e3, E3, A3, D3, -, st3⟩ := newO X2 hx hZ hown (hw _ (List.mem_of_getElem? (i := 9) rfl)) (hw _ (List.mem_of_getElem? (i := 10) rfl)) (hw _ (List.mem_of_getElem? (i := 11) rfl)) e2 (g := (mkF m 5 #[.val (.ref a1)] [(.ref a1)])) rfl (hb hby d1_5) (by decide) (by decide)
  obtain ⟨b3, g3⟩ : ∃ z, z = h0.size := ⟨_, rfl⟩
  rw [← g3] at A3 D3 st3
  have F_modCount_b3 : Fld Z h3 b3 "java/util/AbstractList" "modCount" "I" (.int (0 : Int32)) := D3 (Or.inl (hw _ (List.mem_of_getElem? (i := 29) rfl))) (ty := .int) (by decide)
  have F_elementData_b3 : Fld Z h3 b3 "java/util/ArrayList" "elementData" "[Ljava/lang/Object;" .null := D3 (Or.inl (hw _ (List.mem_of_getElem? (i := 32) rfl))) (ty := (.array (.object "java/lang/Object"))) (by decide)
  have F_size_b3 : Fld Z h3 b3 "java/util/ArrayList" "size" "I" (.int (0 : Int32)) := D3 (Or.inl (hw _ (List.mem_of_getElem? (i := 164) rfl))) (ty := .int) (by decide)
  have E_b3 := A3
  have g_b3 : n0 ≤ b3 := Nat.le_trans Z0 (Nat.le_of_eq g3.symm)
  have sz_b3 : h0.size ≤ b3 := (Nat.le_trans (Keep.refl h0 [a1]).1 (Nat.le_of_eq g3.symm))
  have K3 : Keep h0 h3 [a1] := (Keep.refl h0 [a1]).ext E3
  obtain ⟨_, _, ⟨T4, L4, k4, n4⟩, -, X4, ⟨Lc4, hQ4, l4, y4, z4⟩, st4⟩ := X3.specialBack hx (y := (⟨"java/util/ArrayList", "<init>", "()V"⟩ : MethodName)) rfl hown (mvT hZ (hw _ (List.mem_of_getElem? (i := 12) rfl))) (mvT hZ (hw _ (List.mem_of_getElem? (i := 13) rfl))) (mvT hZ (hw _ (List.mem_of_getElem? (i := 14) rfl))) (by decide) (backOf (W := 2) (rm3 l Z a0 hw [] b3 wD _ _ _ h3 n0 (Nat.le_trans Z0 E3.1) E_b3 F_modCount_b3 F_elementData_b3 F_size_b3 g_b3 (O0.ext E3) S_D) hZ (hw _ (List.mem_of_getElem? (i := 14) rfl)) (hw _ (List.mem_of_getElem? (i := 11) rfl)) (by decide) (by decide)) (g := (mkF m 9 #[.val (.ref a1)] [(.ref b3), (.ref b3), (.ref a1)])) rfl (by rw [hml]; rfl) (Steps.refl _) (a := b3) (argsL := []) (rest := [(.ref b3), (.ref a1)]) (lenOf pd_1_0 rfl) rfl (by show 2 * 0 + _ ≤ _; exact Nat.le_of_eq rfl) (hb hby d1_9) (fun _ _ => ⟨rfl, e3, (by decide : 1 + 0 ≤ _), (by decide : 3 + 0 ≤ _)⟩)
  dsimp only [Pt.U, Pt.locs, Pt.cells, Pt.slots] at X4 l4 y4 z4 st4 hQ4
  subst l4 y4 z4
  obtain ⟨rfl, N4q, K4c, E4c, Fm4, Fe4, Fs4⟩ := hQ4
  have N4 := Fr.app N0 N4q
  have K4 : Keep h0 T4.heap [a1] := K3.trans K4c (allS (Or.inr sz_b3) all0)
  obtain ⟨T5, h5, X5, e5, W5, st5⟩ := putF X4 hx hZ hown (host := "") (Or.inl (hw _ (List.mem_of_getElem? (i := 33) rfl))) Via.refl rfl ((F_reported_a1.ext E3).keep K4c (ninS (Nat.ne_of_lt (Nat.lt_of_lt_of_le E_a1.lt (Nat.le_of_eq g3.symm))) nin0)) ((E_a1.ext E3).keep K4c) (Or.inr ⟨(hw _ (List.mem_of_getElem? (i := 34) rfl)), rfl, hnm⟩) (hw _ (List.mem_of_getElem? (i := 1) rfl)) (ty := (.object "java/util/List")) (by decide) rfl rfl (g := (mkF m 12 #[.val (.ref a1)] [(.ref b3), (.ref a1)])) rfl rfl (hb hby d1_12)
  have Fw5 := ((F_reported_a1.ext E3).keep K4c (ninS (Nat.ne_of_lt (Nat.lt_of_lt_of_le E_a1.lt (Nat.le_of_eq g3.symm))) nin0)).same W5
  have K5 : Keep h0 h5 [a1] := K4.wr W5 (Or.inl (List.mem_of_getElem? (i := 0) rfl))
  have N5 := Fr.snoc X5 N4 g_a1
  obtain ⟨fs, hr, hrun, hended, hW, hsame⟩ := X5.leave (v := none) (fun _ => rfl)
  refine ⟨_, _, pre0 _ ?_, hrun, hended, _, _, rfl, ?_, ⟨_, rfl⟩, hW, hsame.mono (by decide) (by decide)⟩
  · show Steps p.tables e below (s₁.setTop (mkF m 0 #[.val (.ref a1)] [])) _
    refine XS.aloadN X0.here hx rfl (hb hby d1_0) rfl rfl ?_
    show Steps p.tables e below (s₁.setTop (mkF m 1 #[.val (.ref a1)] [(.ref a1)])) _
    refine st2 _ ?_
    show Steps p.tables e below (T2.setTop (mkF m 4 #[.val (.ref a1)] [])) _
    refine XS.aloadN X2.here hx rfl (hb hby d1_4) rfl rfl ?_
    show Steps p.tables e below (T2.setTop (mkF m 5 #[.val (.ref a1)] [(.ref a1)])) _
    refine st3 _ ?_
    show Steps p.tables e below (T3.setTop (mkF m 8 #[.val (.ref a1)] [(.ref b3), (.ref a1)])) _
    refine XS.dup X3.here hx rfl (hb hby d1_8) rfl rfl ?_
    show Steps p.tables e below (T3.setTop (mkF m 9 #[.val (.ref a1)] [(.ref b3), (.ref b3), (.ref a1)])) _
    refine st4.trans ?_
    show Steps p.tables e below (T4.setTop (mkF m 12 #[.val (.ref a1)] [(.ref b3), (.ref a1)])) _
    refine st5 _ ?_
    show Steps p.tables e below (T5.setTop (mkF m 15 #[.val (.ref a1)] [])) _
    exact X5.returnOut hx Bd.returns (hb hby d1_15) hr
  · show Q1 Z a1 u_reported_a1 wD h0 n0 _ T5.heap _
    rw [e5]
    exact ⟨rfl, N5, K5, (((E_a1.ext E3).keep K4c).wr W5), (((F_errors_a1.ext E3).keep K4c (ninS (Nat.ne_of_lt (Nat.lt_of_lt_of_le E_a1.lt (Nat.le_of_eq g3.symm))) nin0)).other W5 (Or.inr (slot_ne (Or.inl (hw _ (List.mem_of_getElem? (i := 73) rfl))) (Or.inr (hw _ (List.mem_of_getElem? (i := 34) rfl))) (by decide) (t := .int) (t' := (.object "java/util/List")) (by decide) (by decide)))), b3, g_b3, Fw5, (E4c.wr W5), (Fm4.other W5 (Or.inl (Ne.symm (Nat.ne_of_lt (Nat.lt_of_lt_of_le E_a1.lt (Nat.le_of_eq g3.symm)))))), (Fe4.other W5 (Or.inl (Ne.symm (Nat.ne_of_lt (Nat.lt_of_lt_of_le E_a1.lt (Nat.le_of_eq g3.symm)))))), (Fs4.other W5 (Or.inl (Ne.symm (Nat.ne_of_lt (Nat.lt_of_lt_of_le E_a1.lt (Nat.le_of_eq g3.symm))))))⟩
theorem d7_0 : decode jdk_30_method_1_code 0 = .ok (.aload_n 0, 1) := by decide +kernel
theorem d7_1 : decode jdk_30_method_1_code 1 = .ok (.invokespecial 1, 3) := by decide +kernel
theorem d7_4 : decode jdk_30_method_1_code 4 = .ok (.return_, 1) := by decide +kernel
theorem pn_7 : plainName "java/lang/Record" = true := by first | (simp [plainName, overriddenIn]; done) | decide +kernel
theorem ef_7 (m : MethodId) (x0 : Addr) : entryFrame m #[(.ref x0)] 1 = mkF m 0 #[.val (.ref x0)] [] := by first | (simp [entryFrame, mkF, argsToLocals, Value.category]; done) | rfl
def Q7 (Z : State) (a1 : Addr) (h0 : Heap) (n0 : Nat) (v : Option Value) (h : Heap) (L : List Loc) : Prop := v = none ∧ Fr n0 L ∧ h = h0
set_option maxRecDepth 65536 in
set_option maxHeartbeats 40000000 in
theorem rm7 (l : Launch) (Z : State) (a0 : Array Value) (hw : ∀ d ∈ tables_1, d.before a0 Z = true) (ws : List Jvm.Cond) (a1 : Addr) (h0 : Heap) (n0 : Nat) (Z0 : n0 ≤ h0.size) :
    MetFree l (⟨"java/lang/Record", "<init>", "()V"⟩ : MethodName) (head1 (Jvm.Cond.code (⟨"java/lang/Record", "<init>", "()V"⟩ : MethodName) jdk_30_method_1_code 1 none :: ws) ({ frames := 1, cells := 0, slots := 0, locals := 12 } : Room)) (fun a U => a = #[(.ref a1)] ∧ Z.Warmed39 U.vm ∧ U.heap = h0) (fun _ _ _ _ _ => True) (fun _ U o U' => ∃ v L, o = .returned v ∧ Q7 Z a1 h0 n0 v U'.heap L ∧ FrameEnd U o U' L ({ frames := 1, cells := 0, slots := 0, locals := 12 } : Room).cells ({ frames := 1, cells := 0, slots := 0, locals := 12 } : Room).slots) := by
  refine MetFree.of_bodySF (plainFor_of_name pn_7) hisR ?_
  intro p e s m args below meth c s₁ Bd hml0 hP hK
  obtain ⟨rfl, hZ, hh⟩ := hP
  have hx := Bd.exec
  have hby := Bd.bytes
  have hml : c.maxLocals = 1 := hml0
  have hown : s.vm.findClass "java/lang/Record" = some m.cls := findClass_of_methodNamed Bd.named
  have hnm := (name_of_methodNamed Bd.named Bd.method).1
  have X0 : Stand p l e ({ frames := 1, cells := 0, slots := 0, locals := 12 } : Room) s m #[(.ref a1)] below meth c s₁ [] 0 0 := Stand.of_body Bd
  have e0 : s₁.heap = h0 := by rw [← hh, Bd.state]; rfl
  have N0 := Fr.nil n0
  have pre0 : ∀ t, Steps p.tables e below (s₁.setTop (mkF m 0 #[.val (.ref a1)] [])) t → Steps p.tables e below (s₁.setTop (entryFrame m #[(.ref a1)] 1)) t := fun t k => castTop (ef_7 m a1) k
  obtain ⟨T2, X2, e2, st2⟩ := initO X0 hx hZ hown (hw _ (List.mem_of_getElem? (i := 55) rfl)) (hw _ (List.mem_of_getElem? (i := 7) rfl)) (hw _ (List.mem_of_getElem? (i := 8) rfl)) e0 (g := (mkF m 1 #[.val (.ref a1)] [(.ref a1)])) rfl (by rw [hml]; rfl) rfl (hb hby d7_1) (by decide) (W := 0) (by show 2 * 0 + _ ≤ _; exact Nat.le_of_eq rfl) (by decide)
  obtain ⟨fs, hr, hrun, hended, hW, hsame⟩ := X2.leave (v := none) (fun _ => rfl)
  refine ⟨_, _, pre0 _ ?_, hrun, hended, _, _, rfl, ?_, ⟨_, rfl⟩, hW, hsame.mono (by decide) (by decide)⟩
  · show Steps p.tables e below (s₁.setTop (mkF m 0 #[.val (.ref a1)] [])) _
    refine XS.aloadN X0.here hx rfl (hb hby d7_0) rfl rfl ?_
    show Steps p.tables e below (s₁.setTop (mkF m 1 #[.val (.ref a1)] [(.ref a1)])) _
    refine st2 _ ?_
    show Steps p.tables e below (T2.setTop (mkF m 4 #[.val (.ref a1)] [])) _
    exact X2.returnOut hx Bd.returns (hb hby d7_4) hr
  · show Q7 Z a1 h0 n0 _ T2.heap _
    rw [e2]
    exact ⟨rfl, N0, rfl⟩
theorem d8_0 : decode jdk_31_method_11_code 0 = .ok (.aload_n 0, 1) := by decide +kernel
theorem d8_1 : decode jdk_31_method_11_code 1 = .ok (.ifnonnull 12, 3) := by decide +kernel
theorem d8_13 : decode jdk_31_method_11_code 13 = .ok (.aload_n 0, 1) := by decide +kernel
theorem d8_14 : decode jdk_31_method_11_code 14 = .ok (.areturn, 1) := by decide +kernel
theorem pn_8 : plainName "java/util/Objects" = true := by first | (simp [plainName, overriddenIn]; done) | decide +kernel
theorem ef_8 (m : MethodId) (x0 : Addr) (x1 : Addr) : entryFrame m #[(.ref x0), (.ref x1)] 2 = mkF m 0 #[.val (.ref x0), .val (.ref x1)] [] := by first | (simp [entryFrame, mkF, argsToLocals, Value.category]; done) | rfl
def Q8 (Z : State) (a1 : Addr) (a2 : Addr) (h0 : Heap) (n0 : Nat) (v : Option Value) (h : Heap) (L : List Loc) : Prop := v = some (.ref a1) ∧ Fr n0 L ∧ h = h0
set_option maxRecDepth 65536 in
set_option maxHeartbeats 40000000 in
theorem rm8 (l : Launch) (Z : State) (a0 : Array Value) (hw : ∀ d ∈ tables_1, d.before a0 Z = true) (ws : List Jvm.Cond) (a1 : Addr) (a2 : Addr) (h0 : Heap) (n0 : Nat) (Z0 : n0 ≤ h0.size) :
    MetFree l (⟨"java/util/Objects", "requireNonNull", "(Ljava/lang/Object;Ljava/lang/String;)Ljava/lang/Object;"⟩ : MethodName) (head1 (Jvm.Cond.code (⟨"java/util/Objects", "requireNonNull", "(Ljava/lang/Object;Ljava/lang/String;)Ljava/lang/Object;"⟩ : MethodName) jdk_31_method_11_code 2 (some (.object "java/lang/Object")) :: ws) ({ frames := 0, cells := 0, slots := 0, locals := 0 } : Room)) (fun a U => a = #[(.ref a1), (.ref a2)] ∧ Z.Warmed39 U.vm ∧ U.heap = h0) (fun _ _ _ _ _ => True) (fun _ U o U' => ∃ v L, o = .returned v ∧ Q8 Z a1 a2 h0 n0 v U'.heap L ∧ FrameEnd U o U' L ({ frames := 0, cells := 0, slots := 0, locals := 0 } : Room).cells ({ frames := 0, cells := 0, slots := 0, locals := 0 } : Room).slots) := by
  refine MetFree.of_bodySF (plainFor_of_name pn_8) hisR ?_
  intro p e s m args below meth c s₁ Bd hml0 hP hK
  obtain ⟨rfl, hZ, hh⟩ := hP
  have hx := Bd.exec
  have hby := Bd.bytes
  have hml : c.maxLocals = 2 := hml0
  have hown : s.vm.findClass "java/util/Objects" = some m.cls := findClass_of_methodNamed Bd.named
  have hnm := (name_of_methodNamed Bd.named Bd.method).1
  have X0 : Stand p l e ({ frames := 0, cells := 0, slots := 0, locals := 0 } : Room) s m #[(.ref a1), (.ref a2)] below meth c s₁ [] 0 0 := Stand.of_body Bd
  have e0 : s₁.heap = h0 := by rw [← hh, Bd.state]; rfl
  have N0 := Fr.nil n0
  have pre0 : ∀ t, Steps p.tables e below (s₁.setTop (mkF m 0 #[.val (.ref a1), .val (.ref a2)] [])) t → Steps p.tables e below (s₁.setTop (entryFrame m #[(.ref a1), (.ref a2)] 2)) t := fun t k => castTop (ef_8 m a1 a2) k
  obtain ⟨fs, hr, hrun, hended, hW, hsame⟩ := X0.leave (v := some (.ref a1)) (fun h => by rw [Bd.returns] at h; cases h)
  refine ⟨_, _, pre0 _ ?_, hrun, hended, _, _, rfl, ?_, ⟨_, rfl⟩, hW, hsame.mono (by decide) (by decide)⟩
  · show Steps p.tables e below (s₁.setTop (mkF m 0 #[.val (.ref a1), .val (.ref a2)] [])) _
    refine XS.aloadN X0.here hx rfl (hb hby d8_0) rfl rfl ?_
    show Steps p.tables e below (s₁.setTop (mkF m 1 #[.val (.ref a1), .val (.ref a2)] [(.ref a1)])) _
    refine XS.ifnonnullYes X0.here hx rfl (pc0 := 1) (pc' := 13) rfl (hb hby d8_1) rfl (by decide) (by decide) ?_
    show Steps p.tables e below (s₁.setTop (mkF m 13 #[.val (.ref a1), .val (.ref a2)] [])) _
    refine XS.aloadN X0.here hx rfl (hb hby d8_13) rfl rfl ?_
    show Steps p.tables e below (s₁.setTop (mkF m 14 #[.val (.ref a1), .val (.ref a2)] [(.ref a1)])) _
    jvm_step X0.here [X0.here.top, hx, (hb hby d8_14), X0.method', Bd.returns, Value.isRef, FieldType.isReference]
    first | (intro acts; rw [hr _ acts rfl rfl rfl]) | rw [hr _ _ rfl rfl rfl]
    exact Steps.refl _
  · show Q8 Z a1 a2 h0 n0 _ s₁.heap _
    rw [e0]
    exact ⟨rfl, N0, rfl⟩
theorem d9_0 : decode prog_9_method_4_code 0 = .ok (.aload_n 0, 1) := by decide +kernel
theorem d9_1 : decode prog_9_method_4_code 1 = .ok (.getfield 33, 3) := by decide +kernel
theorem d9_4 : decode prog_9_method_4_code 4 = .ok (.ifCond .le 7, 3) := by decide +kernel
theorem d9_7 : decode prog_9_method_4_code 7 = .ok (.iconst 1, 1) := by decide +kernel
theorem d9_8 : decode prog_9_method_4_code 8 = .ok (.goto 4, 3) := by decide +kernel
theorem d9_12 : decode prog_9_method_4_code 12 = .ok (.ireturn, 1) := by decide +kernel
theorem pn_9 : plainName "com/example/stomme/stomme/diagnostic/Diagnostics" = true := by first | (simp [plainName, overriddenIn]; done) | decide +kernel
theorem ef_9 (m : MethodId) (x0 : Addr) : entryFrame m #[(.ref x0)] 1 = mkF m 0 #[.val (.ref x0)] [] := by first | (simp [entryFrame, mkF, argsToLocals, Value.category]; done) | rfl
def Q9 (Z : State) (w2 : Int32) (h0 : Heap) (n0 : Nat) (v : Option Value) (h : Heap) (L : List Loc) : Prop := v = some (.int (own_pos w2)) ∧ Fr n0 L ∧ h = h0
set_option maxRecDepth 65536 in
set_option maxHeartbeats 40000000 in
theorem rm9A (l : Launch) (Z : State) (a0 : Array Value) (hw : ∀ d ∈ tables_1, d.before a0 Z = true) (ws : List Jvm.Cond) (a1 : Addr) (w2 : Int32) (h0 : Heap) (n0 : Nat) (Z0 : n0 ≤ h0.size) (F_errors_a1 : Fld Z h0 a1 "com/example/stomme/stomme/diagnostic/Diagnostics" "errors" "I" (.int w2)) (hc4 : (0 : Int32) < w2) :
    MetFree l (⟨"com/example/stomme/stomme/diagnostic/Diagnostics", "hasErrors", "()Z"⟩ : MethodName) (head1 (Jvm.Cond.code (⟨"com/example/stomme/stomme/diagnostic/Diagnostics", "hasErrors", "()Z"⟩ : MethodName) prog_9_method_4_code 1 (some .boolean) :: ws) ({ frames := 0, cells := 0, slots := 0, locals := 0 } : Room)) (fun a U => a = #[(.ref a1)] ∧ Z.Warmed39 U.vm ∧ U.heap = h0) (fun _ _ _ _ _ => True) (fun _ U o U' => ∃ v L, o = .returned v ∧ Q9 Z w2 h0 n0 v U'.heap L ∧ FrameEnd U o U' L ({ frames := 0, cells := 0, slots := 0, locals := 0 } : Room).cells ({ frames := 0, cells := 0, slots := 0, locals := 0 } : Room).slots) := by
  refine MetFree.of_bodySF (plainFor_of_name pn_9) hisR ?_
  intro p e s m args below meth c s₁ Bd hml0 hP hK
  obtain ⟨rfl, hZ, hh⟩ := hP
  have hx := Bd.exec
  have hby := Bd.bytes
  have hml : c.maxLocals = 1 := hml0
  have hown : s.vm.findClass "com/example/stomme/stomme/diagnostic/Diagnostics" = some m.cls := findClass_of_methodNamed Bd.named
  have hnm := (name_of_methodNamed Bd.named Bd.method).1
  have X0 : Stand p l e ({ frames := 0, cells := 0, slots := 0, locals := 0 } : Room) s m #[(.ref a1)] below meth c s₁ [] 0 0 := Stand.of_body Bd
  have e0 : s₁.heap = h0 := by rw [← hh, Bd.state]; rfl
  have N0 := Fr.nil n0
  have pre0 : ∀ t, Steps p.tables e below (s₁.setTop (mkF m 0 #[.val (.ref a1)] [])) t → Steps p.tables e below (s₁.setTop (entryFrame m #[(.ref a1)] 1)) t := fun t k => castTop (ef_9 m a1) k
  obtain ⟨T3, X3, e3, st3⟩ := getF X0 hx hZ hown (host := "") (Or.inl (hw _ (List.mem_of_getElem? (i := 72) rfl))) Via.refl e0 F_errors_a1 (g := (mkF m 1 #[.val (.ref a1)] [(.ref a1)])) rfl rfl (hb hby d9_1)
  obtain ⟨fs, hr, hrun, hended, hW, hsame⟩ := X3.leave (v := some (.int (1 : Int32))) (fun h => by rw [Bd.returns] at h; cases h)
  refine ⟨_, _, pre0 _ ?_, hrun, hended, _, _, rfl, ?_, ⟨_, rfl⟩, hW, hsame.mono (by decide) (by decide)⟩
  · show Steps p.tables e below (s₁.setTop (mkF m 0 #[.val (.ref a1)] [])) _
    refine XS.aloadN X0.here hx rfl (hb hby d9_0) rfl rfl ?_
    show Steps p.tables e below (s₁.setTop (mkF m 1 #[.val (.ref a1)] [(.ref a1)])) _
    refine st3 _ ?_
    show Steps p.tables e below (T3.setTop (mkF m 4 #[.val (.ref a1)] [(.int w2)])) _
    refine XS.ifNo X3.here hx rfl (hb hby d9_4) rfl ((if0 _ _).trans (tlt hc4).2.2.2) ?_
    show Steps p.tables e below (T3.setTop (mkF m 7 #[.val (.ref a1)] [])) _
    refine XS.iconst X3.here hx rfl (hb hby d9_7) ?_
    show Steps p.tables e below (T3.setTop (mkF m 8 #[.val (.ref a1)] [(.int (1 : Int32))])) _
    refine XS.goto X3.here hx rfl (pc0 := 8) (pc' := 12) rfl (hb hby d9_8) (by decide) (by decide) ?_
    show Steps p.tables e below (T3.setTop (mkF m 12 #[.val (.ref a1)] [(.int (1 : Int32))])) _
    exact retN X3 hx (t := .boolean) Bd.returns (by simp) (hb hby d9_12) hr
  · show Q9 Z w2 h0 n0 _ T3.heap _
    rw [e3]
    exact ⟨by rw [own_pos, if_pos hc4], N0, rfl⟩
theorem d9_11 : decode prog_9_method_4_code 11 = .ok (.iconst 0, 1) := by decide +kernel
set_option maxRecDepth 65536 in
set_option maxHeartbeats 40000000 in
theorem rm9B (l : Launch) (Z : State) (a0 : Array Value) (hw : ∀ d ∈ tables_1, d.before a0 Z = true) (ws : List Jvm.Cond) (a1 : Addr) (w2 : Int32) (h0 : Heap) (n0 : Nat) (Z0 : n0 ≤ h0.size) (F_errors_a1 : Fld Z h0 a1 "com/example/stomme/stomme/diagnostic/Diagnostics" "errors" "I" (.int w2)) (hc4 : ¬ ((0 : Int32) < w2)) :
    MetFree l (⟨"com/example/stomme/stomme/diagnostic/Diagnostics", "hasErrors", "()Z"⟩ : MethodName) (head1 (Jvm.Cond.code (⟨"com/example/stomme/stomme/diagnostic/Diagnostics", "hasErrors", "()Z"⟩ : MethodName) prog_9_method_4_code 1 (some .boolean) :: ws) ({ frames := 0, cells := 0, slots := 0, locals := 0 } : Room)) (fun a U => a = #[(.ref a1)] ∧ Z.Warmed39 U.vm ∧ U.heap = h0) (fun _ _ _ _ _ => True) (fun _ U o U' => ∃ v L, o = .returned v ∧ Q9 Z w2 h0 n0 v U'.heap L ∧ FrameEnd U o U' L ({ frames := 0, cells := 0, slots := 0, locals := 0 } : Room).cells ({ frames := 0, cells := 0, slots := 0, locals := 0 } : Room).slots) := by
  refine MetFree.of_bodySF (plainFor_of_name pn_9) hisR ?_
  intro p e s m args below meth c s₁ Bd hml0 hP hK
  obtain ⟨rfl, hZ, hh⟩ := hP
  have hx := Bd.exec
  have hby := Bd.bytes
  have hml : c.maxLocals = 1 := hml0
  have hown : s.vm.findClass "com/example/stomme/stomme/diagnostic/Diagnostics" = some m.cls := findClass_of_methodNamed Bd.named
  have hnm := (name_of_methodNamed Bd.named Bd.method).1
  have X0 : Stand p l e ({ frames := 0, cells := 0, slots := 0, locals := 0 } : Room) s m #[(.ref a1)] below meth c s₁ [] 0 0 := Stand.of_body Bd
  have e0 : s₁.heap = h0 := by rw [← hh, Bd.state]; rfl
  have N0 := Fr.nil n0
  have pre0 : ∀ t, Steps p.tables e below (s₁.setTop (mkF m 0 #[.val (.ref a1)] [])) t → Steps p.tables e below (s₁.setTop (entryFrame m #[(.ref a1)] 1)) t := fun t k => castTop (ef_9 m a1) k
  obtain ⟨T3, X3, e3, st3⟩ := getF X0 hx hZ hown (host := "") (Or.inl (hw _ (List.mem_of_getElem? (i := 72) rfl))) Via.refl e0 F_errors_a1 (g := (mkF m 1 #[.val (.ref a1)] [(.ref a1)])) rfl rfl (hb hby d9_1)
  obtain ⟨fs, hr, hrun, hended, hW, hsame⟩ := X3.leave (v := some (.int (0 : Int32))) (fun h => by rw [Bd.returns] at h; cases h)
  refine ⟨_, _, pre0 _ ?_, hrun, hended, _, _, rfl, ?_, ⟨_, rfl⟩, hW, hsame.mono (by decide) (by decide)⟩
  · show Steps p.tables e below (s₁.setTop (mkF m 0 #[.val (.ref a1)] [])) _
    refine XS.aloadN X0.here hx rfl (hb hby d9_0) rfl rfl ?_
    show Steps p.tables e below (s₁.setTop (mkF m 1 #[.val (.ref a1)] [(.ref a1)])) _
    refine st3 _ ?_
    show Steps p.tables e below (T3.setTop (mkF m 4 #[.val (.ref a1)] [(.int w2)])) _
    refine XS.ifYes X3.here hx rfl (pc0 := 4) (pc' := 11) rfl (hb hby d9_4) rfl ((if0 _ _).trans (flt hc4).2.2.2) (by decide) (by decide) ?_
    show Steps p.tables e below (T3.setTop (mkF m 11 #[.val (.ref a1)] [])) _
    refine XS.iconst X3.here hx rfl (hb hby d9_11) ?_
    show Steps p.tables e below (T3.setTop (mkF m 12 #[.val (.ref a1)] [(.int (0 : Int32))])) _
    exact retN X3 hx (t := .boolean) Bd.returns (by simp) (hb hby d9_12) hr
  · show Q9 Z w2 h0 n0 _ T3.heap _
    rw [e3]
    exact ⟨by rw [own_pos, if_neg hc4], N0, rfl⟩
theorem rm9 (l : Launch) (Z : State) (a0 : Array Value) (hw : ∀ d ∈ tables_1, d.before a0 Z = true) (ws : List Jvm.Cond) (a1 : Addr) (w2 : Int32) (h0 : Heap) (n0 : Nat) (Z0 : n0 ≤ h0.size) (F : Fld Z h0 a1 "com/example/stomme/stomme/diagnostic/Diagnostics" "errors" "I" (.int w2)) :
    MetFree l (⟨"com/example/stomme/stomme/diagnostic/Diagnostics", "hasErrors", "()Z"⟩ : MethodName) (head1 (Jvm.Cond.code (⟨"com/example/stomme/stomme/diagnostic/Diagnostics", "hasErrors", "()Z"⟩ : MethodName) prog_9_method_4_code 1 (some .boolean) :: ws) ({ frames := 0, cells := 0, slots := 0, locals := 0 } : Room)) (fun a U => a = #[(.ref a1)] ∧ Z.Warmed39 U.vm ∧ U.heap = h0) (fun _ _ _ _ _ => True) (fun _ U o U' => ∃ v L, o = .returned v ∧ Q9 Z w2 h0 n0 v U'.heap L ∧ FrameEnd U o U' L ({ frames := 0, cells := 0, slots := 0, locals := 0 } : Room).cells ({ frames := 0, cells := 0, slots := 0, locals := 0 } : Room).slots) :=
  (Classical.em ((0 : Int32) < w2)).elim (rm9A l Z a0 hw ws a1 w2 h0 n0 Z0 F) (rm9B l Z a0 hw ws a1 w2 h0 n0 Z0 F)
theorem d19_0 : decode jdk_116_method_1_code 0 = .ok (.iload_n 1, 1) := by decide +kernel
theorem d19_1 : decode jdk_116_method_1_code 1 = .ok (.i2c, 1) := by decide +kernel
theorem d19_2 : decode jdk_116_method_1_code 2 = .ok (.istore_n 2, 1) := by decide +kernel
theorem d19_3 : decode jdk_116_method_1_code 3 = .ok (.getstatic 1, 3) := by decide +kernel
theorem d19_6 : decode jdk_116_method_1_code 6 = .ok (.iload_n 2, 1) := by decide +kernel
theorem d19_7 : decode jdk_116_method_1_code 7 = .ok (.iaload, 1) := by decide +kernel
theorem d19_8 : decode jdk_116_method_1_code 8 = .ok (.istore_n 3, 1) := by decide +kernel
theorem d19_9 : decode jdk_116_method_1_code 9 = .ok (.iload_n 3, 1) := by decide +kernel
theorem d19_10 : decode jdk_116_method_1_code 10 = .ok (.ireturn, 1) := by decide +kernel
theorem pn_19 : plainName "java/lang/CharacterDataLatin1" = true := by first | (simp [plainName, overriddenIn]; done) | decide +kernel
theorem ef_19 (m : MethodId) (x0 : Addr) (x1 : Int32) : entryFrame m #[(.ref x0), (.int x1)] 4 = mkF m 0 #[.val (.ref x0), .val (.int x1), .unset, .unset] [] := by first | (simp [entryFrame, mkF, argsToLocals, Value.category]; done) | rfl
def Q19 (Z : State) (w5 : Int32) (h0 : Heap) (n0 : Nat) (v : Option Value) (h : Heap) (L : List Loc) : Prop := v = some (.int w5) ∧ Fr n0 L ∧ h = h0
set_option maxRecDepth 65536 in
set_option maxHeartbeats 40000000 in
theorem rm19 (l : Launch) (Z : State) (a0 : Array Value) (hw : ∀ d ∈ tables_1, d.before a0 Z = true) (ws : List Jvm.Cond) (a1 : Addr) (p2 : Int32) (w3 : Addr) (w5 : Int32) (cl_w3 : Cell) (h0 : Heap) (n0 : Nat) (Z0 : n0 ≤ h0.size) (O0 : Old Z n0 h0) (S_A : Sta Z Z.heap "java/lang/CharacterDataLatin1" "A" "[I" (.ref w3)) (Ar_w3 : Arr Z Z.heap w3 cl_w3 .int) (hin7 : ¬ ((p2.toUInt32.toUInt16.toUInt32.toInt32) < 0 ∨ cl_w3.slots.size ≤ ((p2.toUInt32.toUInt16.toUInt32.toInt32)).toNatClampNeg)) (hat7 : cl_w3.slots[((p2.toUInt32.toUInt16.toUInt32.toInt32)).toNatClampNeg]? = some (.int w5)) :
    MetFree l (⟨"java/lang/CharacterDataLatin1", "getProperties", "(I)I"⟩ : MethodName) (head1 (Jvm.Cond.code (⟨"java/lang/CharacterDataLatin1", "getProperties", "(I)I"⟩ : MethodName) jdk_116_method_1_code 4 (some .int) :: ws) ({ frames := 0, cells := 0, slots := 0, locals := 0 } : Room)) (fun a U => a = #[(.ref a1), (.int p2)] ∧ Z.Warmed39 U.vm ∧ U.heap = h0) (fun _ _ _ _ _ => True) (fun _ U o U' => ∃ v L, o = .returned v ∧ Q19 Z w5 h0 n0 v U'.heap L ∧ FrameEnd U o U' L ({ frames := 0, cells := 0, slots := 0, locals := 0 } : Room).cells ({ frames := 0, cells := 0, slots := 0, locals := 0 } : Room).slots) := by
  refine MetFree.of_bodySF (plainFor_of_name pn_19) hisR ?_
  intro p e s m args below meth c s₁ Bd hml0 hP hK
  obtain ⟨rfl, hZ, hh⟩ := hP
  have hx := Bd.exec
  have hby := Bd.bytes
  have hml : c.maxLocals = 4 := hml0
  have hown : s.vm.findClass "java/lang/CharacterDataLatin1" = some m.cls := findClass_of_methodNamed Bd.named
  have hnm := (name_of_methodNamed Bd.named Bd.method).1
  have X0 : Stand p l e ({ frames := 0, cells := 0, slots := 0, locals := 0 } : Room) s m #[(.ref a1), (.int p2)] below meth c s₁ [] 0 0 := Stand.of_body Bd
  have e0 : s₁.heap = h0 := by rw [← hh, Bd.state]; rfl
  have N0 := Fr.nil n0
  have pre0 : ∀ t, Steps p.tables e below (s₁.setTop (mkF m 0 #[.val (.ref a1), .val (.int p2), .unset, .unset] [])) t → Steps p.tables e below (s₁.setTop (entryFrame m #[(.ref a1), (.int p2)] 4)) t := fun t k => castTop (ef_19 m a1 p2) k
  obtain ⟨T4, X4, e4, st4⟩ := getS2 X0 hx hZ hown (host := "") (Or.inl (hw _ (List.mem_of_getElem? (i := 135) rfl))) Via.refl e0 (S_A.ext O0.2) (g := (mkF m 3 #[.val (.ref a1), .val (.int p2), .val (.int (p2.toUInt32.toUInt16.toUInt32.toInt32)), .unset] [])) rfl (hb hby d19_3)
  obtain ⟨fs, hr, hrun, hended, hW, hsame⟩ := X4.leave (v := some (.int w5)) (fun h => by rw [Bd.returns] at h; cases h)
  refine ⟨_, _, pre0 _ ?_, hrun, hended, _, _, rfl, ?_, ⟨_, rfl⟩, hW, hsame.mono (by decide) (by decide)⟩
  · show Steps p.tables e below (s₁.setTop (mkF m 0 #[.val (.ref a1), .val (.int p2), .unset, .unset] [])) _
    refine XS.iloadN X0.here hx rfl (hb hby d19_0) rfl ?_
    show Steps p.tables e below (s₁.setTop (mkF m 1 #[.val (.ref a1), .val (.int p2), .unset, .unset] [(.int p2)])) _
    refine XS.i2c X0.here hx rfl (hb hby d19_1) rfl ?_
    show Steps p.tables e below (s₁.setTop (mkF m 2 #[.val (.ref a1), .val (.int p2), .unset, .unset] [(.int (p2.toUInt32.toUInt16.toUInt32.toInt32))])) _
    refine XS.istoreN X0.here hx rfl (hb hby d19_2) rfl (l' := #[.val (.ref a1), .val (.int p2), .val (.int (p2.toUInt32.toUInt16.toUInt32.toInt32)), .unset]) rfl ?_
    show Steps p.tables e below (s₁.setTop (mkF m 3 #[.val (.ref a1), .val (.int p2), .val (.int (p2.toUInt32.toUInt16.toUInt32.toInt32)), .unset] [])) _
    refine st4 _ ?_
    show Steps p.tables e below (T4.setTop (mkF m 6 #[.val (.ref a1), .val (.int p2), .val (.int (p2.toUInt32.toUInt16.toUInt32.toInt32)), .unset] [(.ref w3)])) _
    refine XS.iloadN X4.here hx rfl (hb hby d19_6) rfl ?_
    show Steps p.tables e below (T4.setTop (mkF m 7 #[.val (.ref a1), .val (.int p2), .val (.int (p2.toUInt32.toUInt16.toUInt32.toInt32)), .unset] [(.int (p2.toUInt32.toUInt16.toUInt32.toInt32)), (.ref w3)])) _
    refine X4.iaload hx (j := (p2.toUInt32.toUInt16.toUInt32.toInt32)) (v := (.int w5)) (by rw [e4]; exact (Ar_w3.ext O0.2).1) (State.isArrayOf_alike hZ.alike Ar_w3.2.1) Ar_w3.2.2 hin7 hat7 (g := (mkF m 7 #[.val (.ref a1), .val (.int p2), .val (.int (p2.toUInt32.toUInt16.toUInt32.toInt32)), .unset] [(.int (p2.toUInt32.toUInt16.toUInt32.toInt32)), (.ref w3)])) rfl rfl (hb hby d19_7) _ ?_
    show Steps p.tables e below (T4.setTop (mkF m 8 #[.val (.ref a1), .val (.int p2), .val (.int (p2.toUInt32.toUInt16.toUInt32.toInt32)), .unset] [(.int w5)])) _
    refine XS.istoreN X4.here hx rfl (hb hby d19_8) rfl (l' := #[.val (.ref a1), .val (.int p2), .val (.int (p2.toUInt32.toUInt16.toUInt32.toInt32)), .val (.int w5)]) rfl ?_
    show Steps p.tables e below (T4.setTop (mkF m 9 #[.val (.ref a1), .val (.int p2), .val (.int (p2.toUInt32.toUInt16.toUInt32.toInt32)), .val (.int w5)] [])) _
    refine XS.iloadN X4.here hx rfl (hb hby d19_9) rfl ?_
    show Steps p.tables e below (T4.setTop (mkF m 10 #[.val (.ref a1), .val (.int p2), .val (.int (p2.toUInt32.toUInt16.toUInt32.toInt32)), .val (.int w5)] [(.int w5)])) _
    exact retI X4 hx Bd.returns (hb hby d19_10) hr
  · show Q19 Z w5 h0 n0 _ T4.heap _
    rw [e4]
    exact ⟨rfl, N0, rfl⟩
theorem d18_0 : decode jdk_116_method_26_code 0 = .ok (.aload_n 0, 1) := by decide +kernel
theorem d18_1 : decode jdk_116_method_26_code 1 = .ok (.iload_n 1, 1) := by decide +kernel
theorem d18_2 : decode jdk_116_method_26_code 2 = .ok (.invokevirtual 15, 3) := by decide +kernel
theorem d18_5 : decode jdk_116_method_26_code 5 = .ok (.istore_n 2, 1) := by decide +kernel
theorem d18_6 : decode jdk_116_method_26_code 6 = .ok (.iload_n 2, 1) := by decide +kernel
theorem d18_7 : decode jdk_116_method_26_code 7 = .ok (.sipush 28672, 3) := by decide +kernel
theorem d18_10 : decode jdk_116_method_26_code 10 = .ok (.iand, 1) := by decide +kernel
theorem d18_11 : decode jdk_116_method_26_code 11 = .ok (.sipush 16384, 3) := by decide +kernel
theorem d18_14 : decode jdk_116_method_26_code 14 = .ok (.if_icmp .ne 7, 3) := by decide +kernel
theorem d18_21 : decode jdk_116_method_26_code 21 = .ok (.iconst 0, 1) := by decide +kernel
theorem d18_22 : decode jdk_116_method_26_code 22 = .ok (.ireturn, 1) := by decide +kernel
theorem pn_18 : plainName "java/lang/CharacterDataLatin1" = true := by first | (simp [plainName, overriddenIn]; done) | decide +kernel
theorem pd_18_11 : parseMethodDescriptor "(I)I" = some ⟨[.int], some .int⟩ := by decide +kernel
theorem ef_18 (m : MethodId) (x0 : Addr) (x1 : Int32) : entryFrame m #[(.ref x0), (.int x1)] 3 = mkF m 0 #[.val (.ref x0), .val (.int x1), .unset] [] := by first | (simp [entryFrame, mkF, argsToLocals, Value.category]; done) | rfl
def Q18 (Z : State)  (h0 : Heap) (n0 : Nat) (v : Option Value) (h : Heap) (L : List Loc) : Prop := v = some (.int (0 : Int32)) ∧ Fr n0 L ∧ h = h0
set_option maxRecDepth 65536 in
set_option maxHeartbeats 40000000 in
theorem rm18 (l : Launch) (Z : State) (a0 : Array Value) (hw : ∀ d ∈ tables_1, d.before a0 Z = true) (ws : List Jvm.Cond) (a1 : Addr) (p2 : Int32) (wA : Addr) (pv : Int32) (clA : Cell) (h0 : Heap) (n0 : Nat) (Z0 : n0 ≤ h0.size) (E_a1 : Exa Z h0 a1 "java/lang/CharacterDataLatin1") (O0 : Old Z n0 h0) (S_A : Sta Z Z.heap "java/lang/CharacterDataLatin1" "A" "[I" (.ref wA)) (Ar_A : Arr Z Z.heap wA clA .int) (hinA : ¬ ((p2.toUInt32.toUInt16.toUInt32.toInt32) < 0 ∨ clA.slots.size ≤ (p2.toUInt32.toUInt16.toUInt32.toInt32).toNatClampNeg)) (hatA : clA.slots[(p2.toUInt32.toUInt16.toUInt32.toInt32).toNatClampNeg]? = some (.int pv)) (hc14 : ¬ ((pv &&& (28672 : Int32)) = (16384 : Int32))) :
    MetFree l (⟨"java/lang/CharacterDataLatin1", "isWhitespace", "(I)Z"⟩ : MethodName) (head1 (Jvm.Cond.code (⟨"java/lang/CharacterDataLatin1", "isWhitespace", "(I)Z"⟩ : MethodName) jdk_116_method_26_code 3 (some .boolean) :: ws) ({ frames := 1, cells := 0, slots := 0, locals := 15 } : Room)) (fun a U => a = #[(.ref a1), (.int p2)] ∧ Z.Warmed39 U.vm ∧ U.heap = h0) (fun _ _ _ _ _ => True) (fun _ U o U' => ∃ v L, o = .returned v ∧ Q18 Z  h0 n0 v U'.heap L ∧ FrameEnd U o U' L ({ frames := 1, cells := 0, slots := 0, locals := 15 } : Room).cells ({ frames := 1, cells := 0, slots := 0, locals := 15 } : Room).slots) := by
  refine MetFree.of_bodySF (plainFor_of_name pn_18) hisR ?_
  intro p e s m args below meth c s₁ Bd hml0 hP hK
  obtain ⟨rfl, hZ, hh⟩ := hP
  have hx := Bd.exec
  have hby := Bd.bytes
  have hml : c.maxLocals = 3 := hml0
  have hown : s.vm.findClass "java/lang/CharacterDataLatin1" = some m.cls := findClass_of_methodNamed Bd.named
  have hnm := (name_of_methodNamed Bd.named Bd.method).1
  have X0 : Stand p l e ({ frames := 1, cells := 0, slots := 0, locals := 15 } : Room) s m #[(.ref a1), (.int p2)] below meth c s₁ [] 0 0 := Stand.of_body Bd
  have e0 : s₁.heap = h0 := by rw [← hh, Bd.state]; rfl
  have N0 := Fr.nil n0
  have pre0 : ∀ t, Steps p.tables e below (s₁.setTop (mkF m 0 #[.val (.ref a1), .val (.int p2), .unset] [])) t → Steps p.tables e below (s₁.setTop (entryFrame m #[(.ref a1), (.int p2)] 3)) t := fun t k => castTop (ef_18 m a1 p2) k
  obtain ⟨cq3, kq3, q3a, q3b, q3c⟩ := isOf hZ e0 E_a1
  obtain ⟨_, _, ⟨T3, L3, k3, n3⟩, -, X3, ⟨Lc3, hQ3, l3, y3, z3⟩, st3⟩ := X0.virtualBack hx (y := (⟨"java/lang/CharacterDataLatin1", "getProperties", "(I)I"⟩ : MethodName)) (z := (⟨"java/lang/CharacterDataLatin1", "getProperties", "(I)I"⟩ : MethodName)) hown (mvT hZ (hw _ (List.mem_of_getElem? (i := 130) rfl))) (mvT hZ (hw _ (List.mem_of_getElem? (i := 131) rfl))) (notFace_of_selects (args := #[]) (mvT hZ (hw _ (List.mem_of_getElem? (i := 133) rfl)))) (mvT hZ (hw _ (List.mem_of_getElem? (i := 133) rfl))) (mvT hZ (hw _ (List.mem_of_getElem? (i := 132) rfl))) (by decide) (backOf (W := 0) (rm19 l Z a0 hw [] a1 p2 wA pv clA h0 n0 Z0 O0 S_A Ar_A hinA hatA) hZ (hw _ (List.mem_of_getElem? (i := 134) rfl)) (hw _ (List.mem_of_getElem? (i := 124) rfl)) (by decide) (by decide)) q3a q3c (g := (mkF m 2 #[.val (.ref a1), .val (.int p2), .unset] [(.int p2), (.ref a1)])) rfl (by rw [hml]; rfl) (Steps.refl _) (argsL := [(.int p2)]) (rest := []) (lenOf pd_18_11 rfl) rfl (by show 2 * 0 + _ ≤ _; exact Nat.le_of_eq rfl) (hb hby d18_2) (fun _ _ => ⟨rfl, e0, (by decide : 0 + 0 ≤ _), (by decide : 0 + 0 ≤ _)⟩)
  dsimp only [Pt.U, Pt.locs, Pt.cells, Pt.slots] at X3 l3 y3 z3 st3 hQ3
  subst l3 y3 z3
  obtain ⟨rfl, N3q, e3c⟩ := hQ3
  have N3 := Fr.app N0 N3q
  obtain ⟨fs, hr, hrun, hended, hW, hsame⟩ := X3.leave (v := some (.int (0 : Int32))) (fun h => by rw [Bd.returns] at h; cases h)
  refine ⟨_, _, pre0 _ ?_, hrun, hended, _, _, rfl, ?_, ⟨_, rfl⟩, hW, hsame.mono (by decide) (by decide)⟩
  · show Steps p.tables e below (s₁.setTop (mkF m 0 #[.val (.ref a1), .val (.int p2), .unset] [])) _
    refine XS.aloadN X0.here hx rfl (hb hby d18_0) rfl rfl ?_
    show Steps p.tables e below (s₁.setTop (mkF m 1 #[.val (.ref a1), .val (.int p2), .unset] [(.ref a1)])) _
    refine XS.iloadN X0.here hx rfl (hb hby d18_1) rfl ?_
    show Steps p.tables e below (s₁.setTop (mkF m 2 #[.val (.ref a1), .val (.int p2), .unset] [(.int p2), (.ref a1)])) _
    refine st3.trans ?_
    show Steps p.tables e below (T3.setTop (mkF m 5 #[.val (.ref a1), .val (.int p2), .unset] [(.int pv)])) _
    refine XS.istoreN X3.here hx rfl (hb hby d18_5) rfl (l' := #[.val (.ref a1), .val (.int p2), .val (.int pv)]) rfl ?_
    show Steps p.tables e below (T3.setTop (mkF m 6 #[.val (.ref a1), .val (.int p2), .val (.int pv)] [])) _
    refine XS.iloadN X3.here hx rfl (hb hby d18_6) rfl ?_
    show Steps p.tables e below (T3.setTop (mkF m 7 #[.val (.ref a1), .val (.int p2), .val (.int pv)] [(.int pv)])) _
    refine XS.sipush X3.here hx rfl (hb hby d18_7) ?_
    show Steps p.tables e below (T3.setTop (mkF m 10 #[.val (.ref a1), .val (.int p2), .val (.int pv)] [(.int (28672 : Int32)), (.int pv)])) _
    refine XS.iand X3.here hx rfl (hb hby d18_10) rfl ?_
    show Steps p.tables e below (T3.setTop (mkF m 11 #[.val (.ref a1), .val (.int p2), .val (.int pv)] [(.int (pv &&& (28672 : Int32)))])) _
    refine XS.sipush X3.here hx rfl (hb hby d18_11) ?_
    show Steps p.tables e below (T3.setTop (mkF m 14 #[.val (.ref a1), .val (.int p2), .val (.int pv)] [(.int (16384 : Int32)), (.int (pv &&& (28672 : Int32)))])) _
    refine XS.icmpYes X3.here hx rfl (pc0 := 14) (pc' := 21) rfl (hb hby d18_14) rfl (feq hc14).2 (by decide) (by decide) ?_
    show Steps p.tables e below (T3.setTop (mkF m 21 #[.val (.ref a1), .val (.int p2), .val (.int pv)] [])) _
    refine XS.iconst X3.here hx rfl (hb hby d18_21) ?_
    show Steps p.tables e below (T3.setTop (mkF m 22 #[.val (.ref a1), .val (.int p2), .val (.int pv)] [(.int (0 : Int32))])) _
    exact retN X3 hx (t := .boolean) Bd.returns (by simp) (hb hby d18_22) hr
  · show Q18 Z  h0 n0 _ T3.heap _
    rw [e3c]
    exact ⟨rfl, N3, rfl⟩
theorem d17_0 : decode jdk_43_method_44_code 0 = .ok (.aload_n 0, 1) := by decide +kernel
theorem d17_1 : decode jdk_43_method_44_code 1 = .ok (.iload_n 1, 1) := by decide +kernel
theorem d17_2 : decode jdk_43_method_44_code 2 = .ok (.baload, 1) := by decide +kernel
theorem d17_3 : decode jdk_43_method_44_code 3 = .ok (.sipush 255, 3) := by decide +kernel
theorem d17_6 : decode jdk_43_method_44_code 6 = .ok (.iand, 1) := by decide +kernel
theorem d17_7 : decode jdk_43_method_44_code 7 = .ok (.i2c, 1) := by decide +kernel
theorem d17_8 : decode jdk_43_method_44_code 8 = .ok (.ireturn, 1) := by decide +kernel
theorem pn_17 : plainName "java/lang/StringLatin1" = true := by first | (simp [plainName, overriddenIn]; done) | decide +kernel
theorem ef_17 (m : MethodId) (x0 : Addr) (x1 : Int32) : entryFrame m #[(.ref x0), (.int x1)] 2 = mkF m 0 #[.val (.ref x0), .val (.int x1)] [] := by first | (simp [entryFrame, mkF, argsToLocals, Value.category]; done) | rfl
def Q17 (Z : State)  (h0 : Heap) (n0 : Nat) (v : Option Value) (h : Heap) (L : List Loc) : Prop := v = some (.int (109 : Int32)) ∧ Fr n0 L ∧ h = h0
set_option maxRecDepth 65536 in
set_option maxHeartbeats 40000000 in
theorem rm17 (l : Launch) (Z : State) (a0 : Array Value) (hw : ∀ d ∈ tables_1, d.before a0 Z = true) (ws : List Jvm.Cond) (a1 : Addr) (p2 : Int32) (cl_a1 : Cell) (h0 : Heap) (n0 : Nat) (Z0 : n0 ≤ h0.size) (Ar_a1 : Arr Z h0 a1 cl_a1 .byte) (hin2 : ¬ (p2 < 0 ∨ cl_a1.slots.size ≤ (p2).toNatClampNeg)) (hat2 : cl_a1.slots[(p2).toNatClampNeg]? = some (.int (109 : Int32))) :
    MetFree l (⟨"java/lang/StringLatin1", "getChar", "([BI)C"⟩ : MethodName) (head1 (Jvm.Cond.code (⟨"java/lang/StringLatin1", "getChar", "([BI)C"⟩ : MethodName) jdk_43_method_44_code 2 (some .char) :: ws) ({ frames := 0, cells := 0, slots := 0, locals := 0 } : Room)) (fun a U => a = #[(.ref a1), (.int p2)] ∧ Z.Warmed39 U.vm ∧ U.heap = h0) (fun _ _ _ _ _ => True) (fun _ U o U' => ∃ v L, o = .returned v ∧ Q17 Z  h0 n0 v U'.heap L ∧ FrameEnd U o U' L ({ frames := 0, cells := 0, slots := 0, locals := 0 } : Room).cells ({ frames := 0, cells := 0, slots := 0, locals := 0 } : Room).slots) := by
  refine MetFree.of_bodySF (plainFor_of_name pn_17) hisR ?_
  intro p e s m args below meth c s₁ Bd hml0 hP hK
  obtain ⟨rfl, hZ, hh⟩ := hP
  have hx := Bd.exec
  have hby := Bd.bytes
  have hml : c.maxLocals = 2 := hml0
  have hown : s.vm.findClass "java/lang/StringLatin1" = some m.cls := findClass_of_methodNamed Bd.named
  have hnm := (name_of_methodNamed Bd.named Bd.method).1
  have X0 : Stand p l e ({ frames := 0, cells := 0, slots := 0, locals := 0 } : Room) s m #[(.ref a1), (.int p2)] below meth c s₁ [] 0 0 := Stand.of_body Bd
  have e0 : s₁.heap = h0 := by rw [← hh, Bd.state]; rfl
  have N0 := Fr.nil n0
  have pre0 : ∀ t, Steps p.tables e below (s₁.setTop (mkF m 0 #[.val (.ref a1), .val (.int p2)] [])) t → Steps p.tables e below (s₁.setTop (entryFrame m #[(.ref a1), (.int p2)] 2)) t := fun t k => castTop (ef_17 m a1 p2) k
  obtain ⟨fs, hr, hrun, hended, hW, hsame⟩ := X0.leave (v := some (.int (109 : Int32))) (fun h => by rw [Bd.returns] at h; cases h)
  refine ⟨_, _, pre0 _ ?_, hrun, hended, _, _, rfl, ?_, ⟨_, rfl⟩, hW, hsame.mono (by decide) (by decide)⟩
  · show Steps p.tables e below (s₁.setTop (mkF m 0 #[.val (.ref a1), .val (.int p2)] [])) _
    refine XS.aloadN X0.here hx rfl (hb hby d17_0) rfl rfl ?_
    show Steps p.tables e below (s₁.setTop (mkF m 1 #[.val (.ref a1), .val (.int p2)] [(.ref a1)])) _
    refine XS.iloadN X0.here hx rfl (hb hby d17_1) rfl ?_
    show Steps p.tables e below (s₁.setTop (mkF m 2 #[.val (.ref a1), .val (.int p2)] [(.int p2), (.ref a1)])) _
    refine X0.baloadBytes hx (j := p2) (v := (.int (109 : Int32))) (by rw [e0]; exact Ar_a1.1) (State.isArrayOf_alike hZ.alike Ar_a1.2.1) Ar_a1.2.2 hin2 hat2 (g := (mkF m 2 #[.val (.ref a1), .val (.int p2)] [(.int p2), (.ref a1)])) rfl rfl (hb hby d17_2) _ ?_
    show Steps p.tables e below (s₁.setTop (mkF m 3 #[.val (.ref a1), .val (.int p2)] [(.int (109 : Int32))])) _
    refine XS.sipush X0.here hx rfl (hb hby d17_3) ?_
    show Steps p.tables e below (s₁.setTop (mkF m 6 #[.val (.ref a1), .val (.int p2)] [(.int (255 : Int32)), (.int (109 : Int32))])) _
    refine XS.iand X0.here hx rfl (hb hby d17_6) rfl ?_
    show Steps p.tables e below (s₁.setTop (mkF m 7 #[.val (.ref a1), .val (.int p2)] [(.int ((109 : Int32) &&& (255 : Int32)))])) _
    refine XS.i2c X0.here hx rfl (hb hby d17_7) rfl ?_
    show Steps p.tables e below (s₁.setTop (mkF m 8 #[.val (.ref a1), .val (.int p2)] [(.int (((109 : Int32) &&& (255 : Int32)).toUInt32.toUInt16.toUInt32.toInt32))])) _
    exact retN X0 hx (t := .char) Bd.returns (by simp) (hb hby d17_8) hr
  · show Q17 Z  h0 n0 _ s₁.heap _
    rw [e0]
    exact ⟨rfl, N0, rfl⟩
theorem d16_0 : decode jdk_43_method_37_code 0 = .ok (.aload_n 0, 1) := by decide +kernel
theorem d16_1 : decode jdk_43_method_37_code 1 = .ok (.arraylength, 1) := by decide +kernel
theorem d16_2 : decode jdk_43_method_37_code 2 = .ok (.istore_n 1, 1) := by decide +kernel
theorem d16_3 : decode jdk_43_method_37_code 3 = .ok (.iconst 0, 1) := by decide +kernel
theorem d16_4 : decode jdk_43_method_37_code 4 = .ok (.istore_n 2, 1) := by decide +kernel
theorem d16_5 : decode jdk_43_method_37_code 5 = .ok (.iload_n 2, 1) := by decide +kernel
theorem d16_6 : decode jdk_43_method_37_code 6 = .ok (.iload_n 1, 1) := by decide +kernel
theorem d16_7 : decode jdk_43_method_37_code 7 = .ok (.if_icmp .ge 40, 3) := by decide +kernel
theorem d16_10 : decode jdk_43_method_37_code 10 = .ok (.aload_n 0, 1) := by decide +kernel
theorem d16_11 : decode jdk_43_method_37_code 11 = .ok (.iload_n 2, 1) := by decide +kernel
theorem d16_12 : decode jdk_43_method_37_code 12 = .ok (.invokestatic 50, 3) := by decide +kernel
theorem d16_15 : decode jdk_43_method_37_code 15 = .ok (.istore_n 3, 1) := by decide +kernel
theorem d16_16 : decode jdk_43_method_37_code 16 = .ok (.iload_n 3, 1) := by decide +kernel
theorem d16_17 : decode jdk_43_method_37_code 17 = .ok (.bipush 32, 2) := by decide +kernel
theorem d16_19 : decode jdk_43_method_37_code 19 = .ok (.if_icmp .eq 22, 3) := by decide +kernel
theorem d16_22 : decode jdk_43_method_37_code 22 = .ok (.iload_n 3, 1) := by decide +kernel
theorem d16_23 : decode jdk_43_method_37_code 23 = .ok (.bipush 9, 2) := by decide +kernel
theorem d16_25 : decode jdk_43_method_37_code 25 = .ok (.if_icmp .eq 16, 3) := by decide +kernel
theorem d16_28 : decode jdk_43_method_37_code 28 = .ok (.getstatic 66, 3) := by decide +kernel
theorem d16_31 : decode jdk_43_method_37_code 31 = .ok (.iload_n 3, 1) := by decide +kernel
theorem d16_32 : decode jdk_43_method_37_code 32 = .ok (.invokevirtual 211, 3) := by decide +kernel
theorem d16_35 : decode jdk_43_method_37_code 35 = .ok (.ifCond .ne 6, 3) := by decide +kernel
theorem d16_38 : decode jdk_43_method_37_code 38 = .ok (.goto 9, 3) := by decide +kernel
theorem d16_47 : decode jdk_43_method_37_code 47 = .ok (.iload_n 2, 1) := by decide +kernel
theorem d16_48 : decode jdk_43_method_37_code 48 = .ok (.ireturn, 1) := by decide +kernel
theorem pn_16 : plainName "java/lang/StringLatin1" = true := by first | (simp [plainName, overriddenIn]; done) | decide +kernel
theorem pd_16_9 : parseMethodDescriptor "([BI)C" = some ⟨[(.array .byte), .int], some .char⟩ := by decide +kernel
theorem pd_16_10 : parseMethodDescriptor "(I)Z" = some ⟨[.int], some .boolean⟩ := by decide +kernel
theorem ef_16 (m : MethodId) (x0 : Addr) : entryFrame m #[(.ref x0)] 4 = mkF m 0 #[.val (.ref x0), .unset, .unset, .unset] [] := by first | (simp [entryFrame, mkF, argsToLocals, Value.category]; done) | rfl
def Q16 (Z : State)  (h0 : Heap) (n0 : Nat) (v : Option Value) (h : Heap) (L : List Loc) : Prop := v = some (.int (0 : Int32)) ∧ Fr n0 L ∧ h = h0
set_option maxRecDepth 65536 in
set_option maxHeartbeats 40000000 in
theorem rm16 (l : Launch) (Z : State) (a0 : Array Value) (hw : ∀ d ∈ tables_1, d.before a0 Z = true) (ws : List Jvm.Cond) (a1 : Addr) (cl_a1 : Cell) (w3 : Addr) (wA : Addr) (pv : Int32) (clA : Cell) (h0 : Heap) (n0 : Nat) (Z0 : n0 ≤ h0.size) (Ar_a1 : Arr Z h0 a1 cl_a1 .byte) (S_a1 : cl_a1.slots.size = (1 : Int32).toNatClampNeg) (N_a1 : ¬ (1 : Int32) < 0) (O0 : Old Z n0 h0) (S_instance : Sta Z Z.heap "java/lang/CharacterDataLatin1" "instance" "Ljava/lang/CharacterDataLatin1;" (.ref w3)) (E_w3 : Exa Z h0 w3 "java/lang/CharacterDataLatin1") (S_A : Sta Z Z.heap "java/lang/CharacterDataLatin1" "A" "[I" (.ref wA)) (Ar_A : Arr Z Z.heap wA clA .int) (hinA : ¬ (((109 : Int32).toUInt32.toUInt16.toUInt32.toInt32) < 0 ∨ clA.slots.size ≤ ((109 : Int32).toUInt32.toUInt16.toUInt32.toInt32).toNatClampNeg)) (hatA : clA.slots[((109 : Int32).toUInt32.toUInt16.toUInt32.toInt32).toNatClampNeg]? = some (.int pv)) (hin0 : ¬ ((0 : Int32) < 0 ∨ cl_a1.slots.size ≤ (0 : Int32).toNatClampNeg)) (hat0 : cl_a1.slots[(0 : Int32).toNatClampNeg]? = some (.int (109 : Int32))) (hpv : ¬ ((pv &&& (28672 : Int32)) = (16384 : Int32))) (hc7 : (0 : Int32) < (1 : Int32)) (hc19 : ¬ ((109 : Int32) = (32 : Int32))) (hc25 : ¬ ((109 : Int32) = (9 : Int32))) :
    MetFree l (⟨"java/lang/StringLatin1", "indexOfNonWhitespace", "([B)I"⟩ : MethodName) (head1 (Jvm.Cond.code (⟨"java/lang/StringLatin1", "indexOfNonWhitespace", "([B)I"⟩ : MethodName) jdk_43_method_37_code 4 (some .int) :: ws) ({ frames := 2, cells := 0, slots := 0, locals := 29 } : Room)) (fun a U => a = #[(.ref a1)] ∧ Z.Warmed39 U.vm ∧ U.heap = h0) (fun _ _ _ _ _ => True) (fun _ U o U' => ∃ v L, o = .returned v ∧ Q16 Z  h0 n0 v U'.heap L ∧ FrameEnd U o U' L ({ frames := 2, cells := 0, slots := 0, locals := 29 } : Room).cells ({ frames := 2, cells := 0, slots := 0, locals := 29 } : Room).slots) := by
  refine MetFree.of_bodySF (plainFor_of_name pn_16) hisR ?_
  intro p e s m args below meth c s₁ Bd hml0 hP hK
  obtain ⟨rfl, hZ, hh⟩ := hP
  have hx := Bd.exec
  have hby := Bd.bytes
  have hml : c.maxLocals = 4 := hml0
  have hown : s.vm.findClass "java/lang/StringLatin1" = some m.cls := findClass_of_methodNamed Bd.named
  have hnm := (name_of_methodNamed Bd.named Bd.method).1
  have X0 : Stand p l e ({ frames := 2, cells := 0, slots := 0, locals := 29 } : Room) s m #[(.ref a1)] below meth c s₁ [] 0 0 := Stand.of_body Bd
  have e0 : s₁.heap = h0 := by rw [← hh, Bd.state]; rfl
  have N0 := Fr.nil n0
  have pre0 : ∀ t, Steps p.tables e below (s₁.setTop (mkF m 0 #[.val (.ref a1), .unset, .unset, .unset] [])) t → Steps p.tables e below (s₁.setTop (entryFrame m #[(.ref a1)] 4)) t := fun t k => castTop (ef_16 m a1) k
  obtain ⟨_, _, ⟨T2, L2, k2, n2⟩, -, X2, ⟨Lc2, hQ2, l2, y2, z2⟩, st2⟩ := Jvm.LawKit.callS X0 hx (y := (⟨"java/lang/StringLatin1", "getChar", "([BI)C"⟩ : MethodName)) hown (mvT hZ (hw _ (List.mem_of_getElem? (i := 120) rfl))) (mvT hZ (hw _ (List.mem_of_getElem? (i := 121) rfl))) (mvT hZ (hw _ (List.mem_of_getElem? (i := 118) rfl))) (mvT hZ (hw _ (List.mem_of_getElem? (i := 122) rfl))) (by decide) (backOf (W := 0) (rm17 l Z a0 hw [] a1 (0 : Int32) cl_a1 h0 n0 Z0 Ar_a1 hin0 hat0) hZ (hw _ (List.mem_of_getElem? (i := 122) rfl)) (hw _ (List.mem_of_getElem? (i := 118) rfl)) (by decide) (by decide)) (g := (mkF m 12 #[.val (.ref a1), .val (.int (1 : Int32)), .val (.int (0 : Int32)), .unset] [(.int (0 : Int32)), (.ref a1)])) rfl (by rw [hml]; rfl) (argsL := [(.ref a1), (.int (0 : Int32))]) (rest := []) (lenOf pd_16_9 rfl) rfl (by show 2 * 0 + _ ≤ _; exact Nat.le_of_eq rfl) (hb hby d16_12) (fun _ _ => ⟨rfl, e0, (by decide : 0 + 0 ≤ _), (by decide : 0 + 0 ≤ _)⟩)
  dsimp only [Pt.U, Pt.locs, Pt.cells, Pt.slots] at X2 l2 y2 z2 st2 hQ2
  subst l2 y2 z2
  obtain ⟨rfl, N2q, e2c⟩ := hQ2
  have N2 := Fr.app N0 N2q
  obtain ⟨T4, X4, e4, st4⟩ := getS2 X2 hx hZ hown (host := "") (Or.inl (hw _ (List.mem_of_getElem? (i := 123) rfl))) Via.refl e2c (S_instance.ext O0.2) (g := (mkF m 28 #[.val (.ref a1), .val (.int (1 : Int32)), .val (.int (0 : Int32)), .val (.int (109 : Int32))] [])) rfl (hb hby d16_28)
  obtain ⟨cq5, kq5, q5a, q5b, q5c⟩ := isOf hZ e4 E_w3
  obtain ⟨_, _, ⟨T5, L5, k5, n5⟩, -, X5, ⟨Lc5, hQ5, l5, y5, z5⟩, st5⟩ := X4.virtualBack hx (y := (⟨"java/lang/CharacterDataLatin1", "isWhitespace", "(I)Z"⟩ : MethodName)) (z := (⟨"java/lang/CharacterDataLatin1", "isWhitespace", "(I)Z"⟩ : MethodName)) hown (mvT hZ (hw _ (List.mem_of_getElem? (i := 125) rfl))) (mvT hZ (hw _ (List.mem_of_getElem? (i := 126) rfl))) (notFace_of_selects (args := #[]) (mvT hZ (hw _ (List.mem_of_getElem? (i := 128) rfl)))) (mvT hZ (hw _ (List.mem_of_getElem? (i := 128) rfl))) (mvT hZ (hw _ (List.mem_of_getElem? (i := 127) rfl))) (by decide) (backOf (W := 0) (rm18 l Z a0 hw [] w3 (109 : Int32) wA pv clA h0 n0 Z0 E_w3 O0 S_A Ar_A hinA hatA hpv) hZ (hw _ (List.mem_of_getElem? (i := 129) rfl)) (hw _ (List.mem_of_getElem? (i := 124) rfl)) (by decide) (by decide)) q5a q5c (g := (mkF m 32 #[.val (.ref a1), .val (.int (1 : Int32)), .val (.int (0 : Int32)), .val (.int (109 : Int32))] [(.int (109 : Int32)), (.ref w3)])) rfl (by rw [hml]; rfl) (Steps.refl _) (argsL := [(.int (109 : Int32))]) (rest := []) (lenOf pd_16_10 rfl) rfl (by show 2 * 0 + _ ≤ _; exact Nat.le_of_eq rfl) (hb hby d16_32) (fun _ _ => ⟨rfl, e4, (by decide : 0 + 0 ≤ _), (by decide : 0 + 0 ≤ _)⟩)
  dsimp only [Pt.U, Pt.locs, Pt.cells, Pt.slots] at X5 l5 y5 z5 st5 hQ5
  subst l5 y5 z5
  obtain ⟨rfl, N5q, e5c⟩ := hQ5
  have N5 := Fr.app N2 N5q
  obtain ⟨fs, hr, hrun, hended, hW, hsame⟩ := X5.leave (v := some (.int (0 : Int32))) (fun h => by rw [Bd.returns] at h; cases h)
  refine ⟨_, _, pre0 _ ?_, hrun, hended, _, _, rfl, ?_, ⟨_, rfl⟩, hW, hsame.mono (by decide) (by decide)⟩
  · show Steps p.tables e below (s₁.setTop (mkF m 0 #[.val (.ref a1), .unset, .unset, .unset] [])) _
    refine XS.aloadN X0.here hx rfl (hb hby d16_0) rfl rfl ?_
    show Steps p.tables e below (s₁.setTop (mkF m 1 #[.val (.ref a1), .unset, .unset, .unset] [(.ref a1)])) _
    refine X0.arraylength hx (by rw [e0]; exact Ar_a1.1) (State.isArrayOf_alike hZ.alike Ar_a1.2.1) (g := (mkF m 1 #[.val (.ref a1), .unset, .unset, .unset] [(.ref a1)])) rfl rfl (hb hby d16_1) _ ?_
    rw [len_of S_a1 N_a1]
    show Steps p.tables e below (s₁.setTop (mkF m 2 #[.val (.ref a1), .unset, .unset, .unset] [(.int (1 : Int32))])) _
    refine XS.istoreN X0.here hx rfl (hb hby d16_2) rfl (l' := #[.val (.ref a1), .val (.int (1 : Int32)), .unset, .unset]) rfl ?_
    show Steps p.tables e below (s₁.setTop (mkF m 3 #[.val (.ref a1), .val (.int (1 : Int32)), .unset, .unset] [])) _
    refine XS.iconst X0.here hx rfl (hb hby d16_3) ?_
    show Steps p.tables e below (s₁.setTop (mkF m 4 #[.val (.ref a1), .val (.int (1 : Int32)), .unset, .unset] [(.int (0 : Int32))])) _
    refine XS.istoreN X0.here hx rfl (hb hby d16_4) rfl (l' := #[.val (.ref a1), .val (.int (1 : Int32)), .val (.int (0 : Int32)), .unset]) rfl ?_
    show Steps p.tables e below (s₁.setTop (mkF m 5 #[.val (.ref a1), .val (.int (1 : Int32)), .val (.int (0 : Int32)), .unset] [])) _
    refine XS.iloadN X0.here hx rfl (hb hby d16_5) rfl ?_
    show Steps p.tables e below (s₁.setTop (mkF m 6 #[.val (.ref a1), .val (.int (1 : Int32)), .val (.int (0 : Int32)), .unset] [(.int (0 : Int32))])) _
    refine XS.iloadN X0.here hx rfl (hb hby d16_6) rfl ?_
    show Steps p.tables e below (s₁.setTop (mkF m 7 #[.val (.ref a1), .val (.int (1 : Int32)), .val (.int (0 : Int32)), .unset] [(.int (1 : Int32)), (.int (0 : Int32))])) _
    refine XS.icmpNo X0.here hx rfl (hb hby d16_7) rfl (tlt hc7).2.1 ?_
    show Steps p.tables e below (s₁.setTop (mkF m 10 #[.val (.ref a1), .val (.int (1 : Int32)), .val (.int (0 : Int32)), .unset] [])) _
    refine XS.aloadN X0.here hx rfl (hb hby d16_10) rfl rfl ?_
    show Steps p.tables e below (s₁.setTop (mkF m 11 #[.val (.ref a1), .val (.int (1 : Int32)), .val (.int (0 : Int32)), .unset] [(.ref a1)])) _
    refine XS.iloadN X0.here hx rfl (hb hby d16_11) rfl ?_
    show Steps p.tables e below (s₁.setTop (mkF m 12 #[.val (.ref a1), .val (.int (1 : Int32)), .val (.int (0 : Int32)), .unset] [(.int (0 : Int32)), (.ref a1)])) _
    refine st2 _ ?_
    show Steps p.tables e below (T2.setTop (mkF m 15 #[.val (.ref a1), .val (.int (1 : Int32)), .val (.int (0 : Int32)), .unset] [(.int (109 : Int32))])) _
    refine XS.istoreN X2.here hx rfl (hb hby d16_15) rfl (l' := #[.val (.ref a1), .val (.int (1 : Int32)), .val (.int (0 : Int32)), .val (.int (109 : Int32))]) rfl ?_
    show Steps p.tables e below (T2.setTop (mkF m 16 #[.val (.ref a1), .val (.int (1 : Int32)), .val (.int (0 : Int32)), .val (.int (109 : Int32))] [])) _
    refine XS.iloadN X2.here hx rfl (hb hby d16_16) rfl ?_
    show Steps p.tables e below (T2.setTop (mkF m 17 #[.val (.ref a1), .val (.int (1 : Int32)), .val (.int (0 : Int32)), .val (.int (109 : Int32))] [(.int (109 : Int32))])) _
    refine XS.bipush X2.here hx rfl (hb hby d16_17) ?_
    show Steps p.tables e below (T2.setTop (mkF m 19 #[.val (.ref a1), .val (.int (1 : Int32)), .val (.int (0 : Int32)), .val (.int (109 : Int32))] [(.int (32 : Int32)), (.int (109 : Int32))])) _
    refine XS.icmpNo X2.here hx rfl (hb hby d16_19) rfl (feq hc19).1 ?_
    show Steps p.tables e below (T2.setTop (mkF m 22 #[.val (.ref a1), .val (.int (1 : Int32)), .val (.int (0 : Int32)), .val (.int (109 : Int32))] [])) _
    refine XS.iloadN X2.here hx rfl (hb hby d16_22) rfl ?_
    show Steps p.tables e below (T2.setTop (mkF m 23 #[.val (.ref a1), .val (.int (1 : Int32)), .val (.int (0 : Int32)), .val (.int (109 : Int32))] [(.int (109 : Int32))])) _
    refine XS.bipush X2.here hx rfl (hb hby d16_23) ?_
    show Steps p.tables e below (T2.setTop (mkF m 25 #[.val (.ref a1), .val (.int (1 : Int32)), .val (.int (0 : Int32)), .val (.int (109 : Int32))] [(.int (9 : Int32)), (.int (109 : Int32))])) _
    refine XS.icmpNo X2.here hx rfl (hb hby d16_25) rfl (feq hc25).1 ?_
    show Steps p.tables e below (T2.setTop (mkF m 28 #[.val (.ref a1), .val (.int (1 : Int32)), .val (.int (0 : Int32)), .val (.int (109 : Int32))] [])) _
    refine st4 _ ?_
    show Steps p.tables e below (T4.setTop (mkF m 31 #[.val (.ref a1), .val (.int (1 : Int32)), .val (.int (0 : Int32)), .val (.int (109 : Int32))] [(.ref w3)])) _
    refine XS.iloadN X4.here hx rfl (hb hby d16_31) rfl ?_
    show Steps p.tables e below (T4.setTop (mkF m 32 #[.val (.ref a1), .val (.int (1 : Int32)), .val (.int (0 : Int32)), .val (.int (109 : Int32))] [(.int (109 : Int32)), (.ref w3)])) _
    refine st5.trans ?_
    show Steps p.tables e below (T5.setTop (mkF m 35 #[.val (.ref a1), .val (.int (1 : Int32)), .val (.int (0 : Int32)), .val (.int (109 : Int32))] [(.int (0 : Int32))])) _
    refine XS.ifNo X5.here hx rfl (hb hby d16_35) rfl ((if0 _ _).trans (teq (rfl : (0 : Int32) = (0 : Int32))).2) ?_
    show Steps p.tables e below (T5.setTop (mkF m 38 #[.val (.ref a1), .val (.int (1 : Int32)), .val (.int (0 : Int32)), .val (.int (109 : Int32))] [])) _
    refine XS.goto X5.here hx rfl (pc0 := 38) (pc' := 47) rfl (hb hby d16_38) (by decide) (by decide) ?_
    show Steps p.tables e below (T5.setTop (mkF m 47 #[.val (.ref a1), .val (.int (1 : Int32)), .val (.int (0 : Int32)), .val (.int (109 : Int32))] [])) _
    refine XS.iloadN X5.here hx rfl (hb hby d16_47) rfl ?_
    show Steps p.tables e below (T5.setTop (mkF m 48 #[.val (.ref a1), .val (.int (1 : Int32)), .val (.int (0 : Int32)), .val (.int (109 : Int32))] [(.int (0 : Int32))])) _
    exact retI X5 hx Bd.returns (hb hby d16_48) hr
  · show Q16 Z  h0 n0 _ T5.heap _
    rw [e5c]
    exact ⟨rfl, N5, rfl⟩
theorem d15_0 : decode jdk_42_method_154_code 0 = .ok (.getstatic 38, 3) := by decide +kernel
theorem d15_3 : decode jdk_42_method_154_code 3 = .ok (.ifCond .eq 14, 3) := by decide +kernel
theorem d15_6 : decode jdk_42_method_154_code 6 = .ok (.aload_n 0, 1) := by decide +kernel
theorem d15_7 : decode jdk_42_method_154_code 7 = .ok (.getfield 15, 3) := by decide +kernel
theorem d15_10 : decode jdk_42_method_154_code 10 = .ok (.ifCond .ne 7, 3) := by decide +kernel
theorem d15_13 : decode jdk_42_method_154_code 13 = .ok (.iconst 1, 1) := by decide +kernel
theorem d15_14 : decode jdk_42_method_154_code 14 = .ok (.goto 4, 3) := by decide +kernel
theorem d15_18 : decode jdk_42_method_154_code 18 = .ok (.ireturn, 1) := by decide +kernel
theorem pn_15 : plainName "java/lang/String" = true := by first | (simp [plainName, overriddenIn]; done) | decide +kernel
theorem ef_15 (m : MethodId) (x0 : Addr) : entryFrame m #[(.ref x0)] 1 = mkF m 0 #[.val (.ref x0)] [] := by first | (simp [entryFrame, mkF, argsToLocals, Value.category]; done) | rfl
def Q15 (Z : State)  (h0 : Heap) (n0 : Nat) (v : Option Value) (h : Heap) (L : List Loc) : Prop := v = some (.int (1 : Int32)) ∧ Fr n0 L ∧ h = h0
set_option maxRecDepth 65536 in
set_option maxHeartbeats 40000000 in
theorem rm15 (l : Launch) (Z : State) (a0 : Array Value) (hw : ∀ d ∈ tables_1, d.before a0 Z = true) (ws : List Jvm.Cond) (a1 : Addr) (w2 : Int32) (h0 : Heap) (n0 : Nat) (Z0 : n0 ≤ h0.size) (O0 : Old Z n0 h0) (S_COMPACT_STRINGS : Sta Z Z.heap "java/lang/String" "COMPACT_STRINGS" "Z" (.int w2)) (F_coder_a1 : Fld Z h0 a1 "java/lang/String" "coder" "B" (.int (0 : Int32))) (hc3 : ¬ (w2 = (0 : Int32))) (hc10 : (0 : Int32) = (0 : Int32)) :
    MetFree l (⟨"java/lang/String", "isLatin1", "()Z"⟩ : MethodName) (head1 (Jvm.Cond.code (⟨"java/lang/String", "isLatin1", "()Z"⟩ : MethodName) jdk_42_method_154_code 1 (some .boolean) :: ws) ({ frames := 0, cells := 0, slots := 0, locals := 0 } : Room)) (fun a U => a = #[(.ref a1)] ∧ Z.Warmed39 U.vm ∧ U.heap = h0) (fun _ _ _ _ _ => True) (fun _ U o U' => ∃ v L, o = .returned v ∧ Q15 Z  h0 n0 v U'.heap L ∧ FrameEnd U o U' L ({ frames := 0, cells := 0, slots := 0, locals := 0 } : Room).cells ({ frames := 0, cells := 0, slots := 0, locals := 0 } : Room).slots) := by
  refine MetFree.of_bodySF (plainFor_of_name pn_15) hisR ?_
  intro p e s m args below meth c s₁ Bd hml0 hP hK
  obtain ⟨rfl, hZ, hh⟩ := hP
  have hx := Bd.exec
  have hby := Bd.bytes
  have hml : c.maxLocals = 1 := hml0
  have hown : s.vm.findClass "java/lang/String" = some m.cls := findClass_of_methodNamed Bd.named
  have hnm := (name_of_methodNamed Bd.named Bd.method).1
  have X0 : Stand p l e ({ frames := 0, cells := 0, slots := 0, locals := 0 } : Room) s m #[(.ref a1)] below meth c s₁ [] 0 0 := Stand.of_body Bd
  have e0 : s₁.heap = h0 := by rw [← hh, Bd.state]; rfl
  have N0 := Fr.nil n0
  have pre0 : ∀ t, Steps p.tables e below (s₁.setTop (mkF m 0 #[.val (.ref a1)] [])) t → Steps p.tables e below (s₁.setTop (entryFrame m #[(.ref a1)] 1)) t := fun t k => castTop (ef_15 m a1) k
  obtain ⟨T3, X3, e3, st3⟩ := getS2 X0 hx hZ hown (host := "") (Or.inl (hw _ (List.mem_of_getElem? (i := 113) rfl))) Via.refl e0 (S_COMPACT_STRINGS.ext O0.2) (g := (mkF m 0 #[.val (.ref a1)] [])) rfl (hb hby d15_0)
  obtain ⟨T5, X5, e5, st5⟩ := getF X3 hx hZ hown (host := "") (Or.inl (hw _ (List.mem_of_getElem? (i := 114) rfl))) Via.refl e3 F_coder_a1 (g := (mkF m 7 #[.val (.ref a1)] [(.ref a1)])) rfl rfl (hb hby d15_7)
  obtain ⟨fs, hr, hrun, hended, hW, hsame⟩ := X5.leave (v := some (.int (1 : Int32))) (fun h => by rw [Bd.returns] at h; cases h)
  refine ⟨_, _, pre0 _ ?_, hrun, hended, _, _, rfl, ?_, ⟨_, rfl⟩, hW, hsame.mono (by decide) (by decide)⟩
  · show Steps p.tables e below (s₁.setTop (mkF m 0 #[.val (.ref a1)] [])) _
    refine st3 _ ?_
    show Steps p.tables e below (T3.setTop (mkF m 3 #[.val (.ref a1)] [(.int w2)])) _
    refine XS.ifNo X3.here hx rfl (hb hby d15_3) rfl ((if0 _ _).trans (feq hc3).1) ?_
    show Steps p.tables e below (T3.setTop (mkF m 6 #[.val (.ref a1)] [])) _
    refine XS.aloadN X3.here hx rfl (hb hby d15_6) rfl rfl ?_
    show Steps p.tables e below (T3.setTop (mkF m 7 #[.val (.ref a1)] [(.ref a1)])) _
    refine st5 _ ?_
    show Steps p.tables e below (T5.setTop (mkF m 10 #[.val (.ref a1)] [(.int (0 : Int32))])) _
    refine XS.ifNo X5.here hx rfl (hb hby d15_10) rfl ((if0 _ _).trans (teq hc10).2) ?_
    show Steps p.tables e below (T5.setTop (mkF m 13 #[.val (.ref a1)] [])) _
    refine XS.iconst X5.here hx rfl (hb hby d15_13) ?_
    show Steps p.tables e below (T5.setTop (mkF m 14 #[.val (.ref a1)] [(.int (1 : Int32))])) _
    refine XS.goto X5.here hx rfl (pc0 := 14) (pc' := 18) rfl (hb hby d15_14) (by decide) (by decide) ?_
    show Steps p.tables e below (T5.setTop (mkF m 18 #[.val (.ref a1)] [(.int (1 : Int32))])) _
    exact retN X5 hx (t := .boolean) Bd.returns (by simp) (hb hby d15_18) hr
  · show Q15 Z  h0 n0 _ T5.heap _
    rw [e5]
    exact ⟨rfl, N0, rfl⟩
theorem d14_0 : decode jdk_42_method_120_code 0 = .ok (.aload_n 0, 1) := by decide +kernel
theorem d14_1 : decode jdk_42_method_120_code 1 = .ok (.invokevirtual 492, 3) := by decide +kernel
theorem d14_4 : decode jdk_42_method_120_code 4 = .ok (.ifCond .eq 13, 3) := by decide +kernel
theorem d14_7 : decode jdk_42_method_120_code 7 = .ok (.aload_n 0, 1) := by decide +kernel
theorem d14_8 : decode jdk_42_method_120_code 8 = .ok (.getfield 9, 3) := by decide +kernel
theorem d14_11 : decode jdk_42_method_120_code 11 = .ok (.invokestatic 924, 3) := by decide +kernel
theorem d14_14 : decode jdk_42_method_120_code 14 = .ok (.goto 10, 3) := by decide +kernel
theorem d14_24 : decode jdk_42_method_120_code 24 = .ok (.ireturn, 1) := by decide +kernel
theorem pn_14 : plainName "java/lang/String" = true := by first | (simp [plainName, overriddenIn]; done) | decide +kernel
theorem pd_14_3 : parseMethodDescriptor "()Z" = some ⟨[], some .boolean⟩ := by decide +kernel
theorem pd_14_8 : parseMethodDescriptor "([B)I" = some ⟨[(.array .byte)], some .int⟩ := by decide +kernel
theorem ef_14 (m : MethodId) (x0 : Addr) : entryFrame m #[(.ref x0)] 1 = mkF m 0 #[.val (.ref x0)] [] := by first | (simp [entryFrame, mkF, argsToLocals, Value.category]; done) | rfl
def Q14 (Z : State)  (h0 : Heap) (n0 : Nat) (v : Option Value) (h : Heap) (L : List Loc) : Prop := v = some (.int (0 : Int32)) ∧ Fr n0 L ∧ h = h0
set_option maxRecDepth 65536 in
set_option maxHeartbeats 40000000 in
theorem rm14 (l : Launch) (Z : State) (a0 : Array Value) (hw : ∀ d ∈ tables_1, d.before a0 Z = true) (ws : List Jvm.Cond) (a1 : Addr) (wA : Addr) (pv : Int32) (clA : Cell) (wC : Int32) (wI : Addr) (bb : Addr) (cl : Cell) (h0 : Heap) (n0 : Nat) (Z0 : n0 ≤ h0.size) (F_value_a1 : Fld Z h0 a1 "java/lang/String" "value" "[B" (.ref bb)) (E_a1 : Exa Z h0 a1 "java/lang/String") (O0 : Old Z n0 h0) (S_A : Sta Z Z.heap "java/lang/CharacterDataLatin1" "A" "[I" (.ref wA)) (Ar_A : Arr Z Z.heap wA clA .int) (hinA : ¬ (((109 : Int32).toUInt32.toUInt16.toUInt32.toInt32) < 0 ∨ clA.slots.size ≤ ((109 : Int32).toUInt32.toUInt16.toUInt32.toInt32).toNatClampNeg)) (hatA : clA.slots[((109 : Int32).toUInt32.toUInt16.toUInt32.toInt32).toNatClampNeg]? = some (.int pv)) (S_C : Sta Z Z.heap "java/lang/String" "COMPACT_STRINGS" "Z" (.int wC)) (hC : ¬ (wC = (0 : Int32))) (S_I : Sta Z Z.heap "java/lang/CharacterDataLatin1" "instance" "Ljava/lang/CharacterDataLatin1;" (.ref wI)) (E_I : Exa Z Z.heap wI "java/lang/CharacterDataLatin1") (hpv : ¬ ((pv &&& (28672 : Int32)) = (16384 : Int32))) (F_cod : Fld Z h0 a1 "java/lang/String" "coder" "B" (.int (0 : Int32))) (F_val : Fld Z h0 a1 "java/lang/String" "value" "[B" (.ref bb)) (Ar_b : Arr Z h0 bb cl .byte) (Sz_b : cl.slots.size = (1 : Int32).toNatClampNeg) (hat0 : cl.slots[(0 : Int32).toNatClampNeg]? = some (.int (109 : Int32))) (hc4 : ¬ ((1 : Int32) = (0 : Int32))) :
    MetFree l (⟨"java/lang/String", "indexOfNonWhitespace", "()I"⟩ : MethodName) (head1 (Jvm.Cond.code (⟨"java/lang/String", "indexOfNonWhitespace", "()I"⟩ : MethodName) jdk_42_method_120_code 1 (some .int) :: ws) ({ frames := 3, cells := 0, slots := 0, locals := 44 } : Room)) (fun a U => a = #[(.ref a1)] ∧ Z.Warmed39 U.vm ∧ U.heap = h0) (fun _ _ _ _ _ => True) (fun _ U o U' => ∃ v L, o = .returned v ∧ Q14 Z  h0 n0 v U'.heap L ∧ FrameEnd U o U' L ({ frames := 3, cells := 0, slots := 0, locals := 44 } : Room).cells ({ frames := 3, cells := 0, slots := 0, locals := 44 } : Room).slots) := by
  refine MetFree.of_bodySF (plainFor_of_name pn_14) hisR ?_
  intro p e s m args below meth c s₁ Bd hml0 hP hK
  obtain ⟨rfl, hZ, hh⟩ := hP
  have hx := Bd.exec
  have hby := Bd.bytes
  have hml : c.maxLocals = 1 := hml0
  have hown : s.vm.findClass "java/lang/String" = some m.cls := findClass_of_methodNamed Bd.named
  have hnm := (name_of_methodNamed Bd.named Bd.method).1
  have X0 : Stand p l e ({ frames := 3, cells := 0, slots := 0, locals := 44 } : Room) s m #[(.ref a1)] below meth c s₁ [] 0 0 := Stand.of_body Bd
  have e0 : s₁.heap = h0 := by rw [← hh, Bd.state]; rfl
  have N0 := Fr.nil n0
  have pre0 : ∀ t, Steps p.tables e below (s₁.setTop (mkF m 0 #[.val (.ref a1)] [])) t → Steps p.tables e below (s₁.setTop (entryFrame m #[(.ref a1)] 1)) t := fun t k => castTop (ef_14 m a1) k
  obtain ⟨cq2, kq2, q2a, q2b, q2c⟩ := isOf hZ e0 E_a1
  obtain ⟨_, _, ⟨T2, L2, k2, n2⟩, -, X2, ⟨Lc2, hQ2, l2, y2, z2⟩, st2⟩ := X0.virtualBack hx (y := (⟨"java/lang/String", "isLatin1", "()Z"⟩ : MethodName)) (z := (⟨"java/lang/String", "isLatin1", "()Z"⟩ : MethodName)) hown (mvT hZ (hw _ (List.mem_of_getElem? (i := 108) rfl))) (mvT hZ (hw _ (List.mem_of_getElem? (i := 109) rfl))) (notFace_of_selects (args := #[]) (mvT hZ (hw _ (List.mem_of_getElem? (i := 111) rfl)))) (mvT hZ (hw _ (List.mem_of_getElem? (i := 111) rfl))) (mvT hZ (hw _ (List.mem_of_getElem? (i := 110) rfl))) (by decide) (backOf (W := 0) (rm15 l Z a0 hw [] a1 wC h0 n0 Z0 O0 S_C F_cod hC rfl) hZ (hw _ (List.mem_of_getElem? (i := 112) rfl)) (hw _ (List.mem_of_getElem? (i := 39) rfl)) (by decide) (by decide)) q2a q2c (g := (mkF m 1 #[.val (.ref a1)] [(.ref a1)])) rfl (by rw [hml]; rfl) (Steps.refl _) (argsL := []) (rest := []) (lenOf pd_14_3 rfl) rfl (by show 2 * 0 + _ ≤ _; exact Nat.le_of_eq rfl) (hb hby d14_1) (fun _ _ => ⟨rfl, e0, (by decide : 0 + 0 ≤ _), (by decide : 0 + 0 ≤ _)⟩)
  dsimp only [Pt.U, Pt.locs, Pt.cells, Pt.slots] at X2 l2 y2 z2 st2 hQ2
  subst l2 y2 z2
  obtain ⟨rfl, N2q, e2c⟩ := hQ2
  have N2 := Fr.app N0 N2q
  obtain ⟨T3, X3, e3, st3⟩ := getF X2 hx hZ hown (host := "") (Or.inl (hw _ (List.mem_of_getElem? (i := 115) rfl))) Via.refl e2c F_value_a1 (g := (mkF m 8 #[.val (.ref a1)] [(.ref a1)])) rfl rfl (hb hby d14_8)
  obtain ⟨_, _, ⟨T4, L4, k4, n4⟩, -, X4, ⟨Lc4, hQ4, l4, y4, z4⟩, st4⟩ := Jvm.LawKit.callS X3 hx (y := (⟨"java/lang/StringLatin1", "indexOfNonWhitespace", "([B)I"⟩ : MethodName)) hown (mvT hZ (hw _ (List.mem_of_getElem? (i := 116) rfl))) (mvT hZ (hw _ (List.mem_of_getElem? (i := 117) rfl))) (mvT hZ (hw _ (List.mem_of_getElem? (i := 118) rfl))) (mvT hZ (hw _ (List.mem_of_getElem? (i := 119) rfl))) (by decide) (backOf (W := 0) (rm16 l Z a0 hw [] bb cl wI wA pv clA h0 n0 Z0 Ar_b Sz_b (by decide) O0 S_I (E_I.ext O0.2) S_A Ar_A hinA hatA (inb_of Sz_b ⟨by decide, by decide⟩) hat0 hpv (by decide) (by decide) (by decide)) hZ (hw _ (List.mem_of_getElem? (i := 119) rfl)) (hw _ (List.mem_of_getElem? (i := 118) rfl)) (by decide) (by decide)) (g := (mkF m 11 #[.val (.ref a1)] [(.ref bb)])) rfl (by rw [hml]; rfl) (argsL := [(.ref bb)]) (rest := []) (lenOf pd_14_8 rfl) rfl (by show 2 * 0 + _ ≤ _; exact Nat.le_of_eq rfl) (hb hby d14_11) (fun _ _ => ⟨rfl, e3, (by decide : 0 + 0 ≤ _), (by decide : 0 + 0 ≤ _)⟩)
  dsimp only [Pt.U, Pt.locs, Pt.cells, Pt.slots] at X4 l4 y4 z4 st4 hQ4
  subst l4 y4 z4
  obtain ⟨rfl, N4q, e4c⟩ := hQ4
  have N4 := Fr.app N2 N4q
  obtain ⟨fs, hr, hrun, hended, hW, hsame⟩ := X4.leave (v := some (.int (0 : Int32))) (fun h => by rw [Bd.returns] at h; cases h)
  refine ⟨_, _, pre0 _ ?_, hrun, hended, _, _, rfl, ?_, ⟨_, rfl⟩, hW, hsame.mono (by decide) (by decide)⟩
  · show Steps p.tables e below (s₁.setTop (mkF m 0 #[.val (.ref a1)] [])) _
    refine XS.aloadN X0.here hx rfl (hb hby d14_0) rfl rfl ?_
    show Steps p.tables e below (s₁.setTop (mkF m 1 #[.val (.ref a1)] [(.ref a1)])) _
    refine st2.trans ?_
    show Steps p.tables e below (T2.setTop (mkF m 4 #[.val (.ref a1)] [(.int (1 : Int32))])) _
    refine XS.ifNo X2.here hx rfl (hb hby d14_4) rfl ((if0 _ _).trans (feq hc4).1) ?_
    show Steps p.tables e below (T2.setTop (mkF m 7 #[.val (.ref a1)] [])) _
    refine XS.aloadN X2.here hx rfl (hb hby d14_7) rfl rfl ?_
    show Steps p.tables e below (T2.setTop (mkF m 8 #[.val (.ref a1)] [(.ref a1)])) _
    refine st3 _ ?_
    show Steps p.tables e below (T3.setTop (mkF m 11 #[.val (.ref a1)] [(.ref bb)])) _
    refine st4 _ ?_
    show Steps p.tables e below (T4.setTop (mkF m 14 #[.val (.ref a1)] [(.int (0 : Int32))])) _
    refine XS.goto X4.here hx rfl (pc0 := 14) (pc' := 24) rfl (hb hby d14_14) (by decide) (by decide) ?_
    show Steps p.tables e below (T4.setTop (mkF m 24 #[.val (.ref a1)] [(.int (0 : Int32))])) _
    exact retI X4 hx Bd.returns (hb hby d14_24) hr
  · show Q14 Z  h0 n0 _ T4.heap _
    rw [e4c]
    exact ⟨rfl, N4, rfl⟩
theorem d21_0 : decode jdk_42_method_152_code 0 = .ok (.getstatic 38, 3) := by decide +kernel
theorem d21_3 : decode jdk_42_method_152_code 3 = .ok (.ifCond .eq 10, 3) := by decide +kernel
theorem d21_6 : decode jdk_42_method_152_code 6 = .ok (.aload_n 0, 1) := by decide +kernel
theorem d21_7 : decode jdk_42_method_152_code 7 = .ok (.getfield 15, 3) := by decide +kernel
theorem d21_10 : decode jdk_42_method_152_code 10 = .ok (.goto 4, 3) := by decide +kernel
theorem d21_14 : decode jdk_42_method_152_code 14 = .ok (.ireturn, 1) := by decide +kernel
theorem pn_21 : plainName "java/lang/String" = true := by first | (simp [plainName, overriddenIn]; done) | decide +kernel
theorem ef_21 (m : MethodId) (x0 : Addr) : entryFrame m #[(.ref x0)] 1 = mkF m 0 #[.val (.ref x0)] [] := by first | (simp [entryFrame, mkF, argsToLocals, Value.category]; done) | rfl
def Q21 (Z : State)  (h0 : Heap) (n0 : Nat) (v : Option Value) (h : Heap) (L : List Loc) : Prop := v = some (.int (0 : Int32)) ∧ Fr n0 L ∧ h = h0
set_option maxRecDepth 65536 in
set_option maxHeartbeats 40000000 in
theorem rm21 (l : Launch) (Z : State) (a0 : Array Value) (hw : ∀ d ∈ tables_1, d.before a0 Z = true) (ws : List Jvm.Cond) (a1 : Addr) (w2 : Int32) (h0 : Heap) (n0 : Nat) (Z0 : n0 ≤ h0.size) (O0 : Old Z n0 h0) (S_COMPACT_STRINGS : Sta Z Z.heap "java/lang/String" "COMPACT_STRINGS" "Z" (.int w2)) (F_coder_a1 : Fld Z h0 a1 "java/lang/String" "coder" "B" (.int (0 : Int32))) (hc3 : ¬ (w2 = (0 : Int32))) :
    MetFree l (⟨"java/lang/String", "coder", "()B"⟩ : MethodName) (head1 (Jvm.Cond.code (⟨"java/lang/String", "coder", "()B"⟩ : MethodName) jdk_42_method_152_code 1 (some .byte) :: ws) ({ frames := 0, cells := 0, slots := 0, locals := 0 } : Room)) (fun a U => a = #[(.ref a1)] ∧ Z.Warmed39 U.vm ∧ U.heap = h0) (fun _ _ _ _ _ => True) (fun _ U o U' => ∃ v L, o = .returned v ∧ Q21 Z  h0 n0 v U'.heap L ∧ FrameEnd U o U' L ({ frames := 0, cells := 0, slots := 0, locals := 0 } : Room).cells ({ frames := 0, cells := 0, slots := 0, locals := 0 } : Room).slots) := by
  refine MetFree.of_bodySF (plainFor_of_name pn_21) hisR ?_
  intro p e s m args below meth c s₁ Bd hml0 hP hK
  obtain ⟨rfl, hZ, hh⟩ := hP
  have hx := Bd.exec
  have hby := Bd.bytes
  have hml : c.maxLocals = 1 := hml0
  have hown : s.vm.findClass "java/lang/String" = some m.cls := findClass_of_methodNamed Bd.named
  have hnm := (name_of_methodNamed Bd.named Bd.method).1
  have X0 : Stand p l e ({ frames := 0, cells := 0, slots := 0, locals := 0 } : Room) s m #[(.ref a1)] below meth c s₁ [] 0 0 := Stand.of_body Bd
  have e0 : s₁.heap = h0 := by rw [← hh, Bd.state]; rfl
  have N0 := Fr.nil n0
  have pre0 : ∀ t, Steps p.tables e below (s₁.setTop (mkF m 0 #[.val (.ref a1)] [])) t → Steps p.tables e below (s₁.setTop (entryFrame m #[(.ref a1)] 1)) t := fun t k => castTop (ef_21 m a1) k
  obtain ⟨T3, X3, e3, st3⟩ := getS2 X0 hx hZ hown (host := "") (Or.inl (hw _ (List.mem_of_getElem? (i := 113) rfl))) Via.refl e0 (S_COMPACT_STRINGS.ext O0.2) (g := (mkF m 0 #[.val (.ref a1)] [])) rfl (hb hby d21_0)
  obtain ⟨T5, X5, e5, st5⟩ := getF X3 hx hZ hown (host := "") (Or.inl (hw _ (List.mem_of_getElem? (i := 114) rfl))) Via.refl e3 F_coder_a1 (g := (mkF m 7 #[.val (.ref a1)] [(.ref a1)])) rfl rfl (hb hby d21_7)
  obtain ⟨fs, hr, hrun, hended, hW, hsame⟩ := X5.leave (v := some (.int (0 : Int32))) (fun h => by rw [Bd.returns] at h; cases h)
  refine ⟨_, _, pre0 _ ?_, hrun, hended, _, _, rfl, ?_, ⟨_, rfl⟩, hW, hsame.mono (by decide) (by decide)⟩
  · show Steps p.tables e below (s₁.setTop (mkF m 0 #[.val (.ref a1)] [])) _
    refine st3 _ ?_
    show Steps p.tables e below (T3.setTop (mkF m 3 #[.val (.ref a1)] [(.int w2)])) _
    refine XS.ifNo X3.here hx rfl (hb hby d21_3) rfl ((if0 _ _).trans (feq hc3).1) ?_
    show Steps p.tables e below (T3.setTop (mkF m 6 #[.val (.ref a1)] [])) _
    refine XS.aloadN X3.here hx rfl (hb hby d21_6) rfl rfl ?_
    show Steps p.tables e below (T3.setTop (mkF m 7 #[.val (.ref a1)] [(.ref a1)])) _
    refine st5 _ ?_
    show Steps p.tables e below (T5.setTop (mkF m 10 #[.val (.ref a1)] [(.int (0 : Int32))])) _
    refine XS.goto X5.here hx rfl (pc0 := 10) (pc' := 14) rfl (hb hby d21_10) (by decide) (by decide) ?_
    show Steps p.tables e below (T5.setTop (mkF m 14 #[.val (.ref a1)] [(.int (0 : Int32))])) _
    exact retN X5 hx (t := .byte) Bd.returns (by simp) (hb hby d21_14) hr
  · show Q21 Z  h0 n0 _ T5.heap _
    rw [e5]
    exact ⟨rfl, N0, rfl⟩
theorem d20_0 : decode jdk_42_method_54_code 0 = .ok (.aload_n 0, 1) := by decide +kernel
theorem d20_1 : decode jdk_42_method_54_code 1 = .ok (.getfield 9, 3) := by decide +kernel
theorem d20_4 : decode jdk_42_method_54_code 4 = .ok (.arraylength, 1) := by decide +kernel
theorem d20_5 : decode jdk_42_method_54_code 5 = .ok (.aload_n 0, 1) := by decide +kernel
theorem d20_6 : decode jdk_42_method_54_code 6 = .ok (.invokevirtual 335, 3) := by decide +kernel
theorem d20_9 : decode jdk_42_method_54_code 9 = .ok (.ishr, 1) := by decide +kernel
theorem d20_10 : decode jdk_42_method_54_code 10 = .ok (.ireturn, 1) := by decide +kernel
theorem pn_20 : plainName "java/lang/String" = true := by first | (simp [plainName, overriddenIn]; done) | decide +kernel
theorem pd_20_12 : parseMethodDescriptor "()B" = some ⟨[], some .byte⟩ := by decide +kernel
theorem ef_20 (m : MethodId) (x0 : Addr) : entryFrame m #[(.ref x0)] 1 = mkF m 0 #[.val (.ref x0)] [] := by first | (simp [entryFrame, mkF, argsToLocals, Value.category]; done) | rfl
def Q20 (Z : State)  (h0 : Heap) (n0 : Nat) (v : Option Value) (h : Heap) (L : List Loc) : Prop := v = some (.int ((1 : Int32) >>> ((0 : Int32) &&& 31))) ∧ Fr n0 L ∧ h = h0
set_option maxRecDepth 65536 in
set_option maxHeartbeats 40000000 in
theorem rm20 (l : Launch) (Z : State) (a0 : Array Value) (hw : ∀ d ∈ tables_1, d.before a0 Z = true) (ws : List Jvm.Cond) (a1 : Addr) (w2 : Addr) (cl_w2 : Cell) (wC : Int32) (h0 : Heap) (n0 : Nat) (Z0 : n0 ≤ h0.size) (F_value_a1 : Fld Z h0 a1 "java/lang/String" "value" "[B" (.ref w2)) (Ar_w2 : Arr Z h0 w2 cl_w2 .byte) (S_w2 : cl_w2.slots.size = (1 : Int32).toNatClampNeg) (N_w2 : ¬ (1 : Int32) < 0) (E_a1 : Exa Z h0 a1 "java/lang/String") (O0 : Old Z n0 h0) (S_C : Sta Z Z.heap "java/lang/String" "COMPACT_STRINGS" "Z" (.int wC)) (hC : ¬ (wC = (0 : Int32))) (F_cod : Fld Z h0 a1 "java/lang/String" "coder" "B" (.int (0 : Int32))) :
    MetFree l (⟨"java/lang/String", "length", "()I"⟩ : MethodName) (head1 (Jvm.Cond.code (⟨"java/lang/String", "length", "()I"⟩ : MethodName) jdk_42_method_54_code 1 (some .int) :: ws) ({ frames := 1, cells := 0, slots := 0, locals := 13 } : Room)) (fun a U => a = #[(.ref a1)] ∧ Z.Warmed39 U.vm ∧ U.heap = h0) (fun _ _ _ _ _ => True) (fun _ U o U' => ∃ v L, o = .returned v ∧ Q20 Z  h0 n0 v U'.heap L ∧ FrameEnd U o U' L ({ frames := 1, cells := 0, slots := 0, locals := 13 } : Room).cells ({ frames := 1, cells := 0, slots := 0, locals := 13 } : Room).slots) := by
  refine MetFree.of_bodySF (plainFor_of_name pn_20) hisR ?_
  intro p e s m args below meth c s₁ Bd hml0 hP hK
  obtain ⟨rfl, hZ, hh⟩ := hP
  have hx := Bd.exec
  have hby := Bd.bytes
  have hml : c.maxLocals = 1 := hml0
  have hown : s.vm.findClass "java/lang/String" = some m.cls := findClass_of_methodNamed Bd.named
  have hnm := (name_of_methodNamed Bd.named Bd.method).1
  have X0 : Stand p l e ({ frames := 1, cells := 0, slots := 0, locals := 13 } : Room) s m #[(.ref a1)] below meth c s₁ [] 0 0 := Stand.of_body Bd
  have e0 : s₁.heap = h0 := by rw [← hh, Bd.state]; rfl
  have N0 := Fr.nil n0
  have pre0 : ∀ t, Steps p.tables e below (s₁.setTop (mkF m 0 #[.val (.ref a1)] [])) t → Steps p.tables e below (s₁.setTop (entryFrame m #[(.ref a1)] 1)) t := fun t k => castTop (ef_20 m a1) k
  obtain ⟨T3, X3, e3, st3⟩ := getF X0 hx hZ hown (host := "") (Or.inl (hw _ (List.mem_of_getElem? (i := 115) rfl))) Via.refl e0 F_value_a1 (g := (mkF m 1 #[.val (.ref a1)] [(.ref a1)])) rfl rfl (hb hby d20_1)
  obtain ⟨cq4, kq4, q4a, q4b, q4c⟩ := isOf hZ e3 E_a1
  obtain ⟨_, _, ⟨T4, L4, k4, n4⟩, -, X4, ⟨Lc4, hQ4, l4, y4, z4⟩, st4⟩ := X3.virtualBack hx (y := (⟨"java/lang/String", "coder", "()B"⟩ : MethodName)) (z := (⟨"java/lang/String", "coder", "()B"⟩ : MethodName)) hown (mvT hZ (hw _ (List.mem_of_getElem? (i := 141) rfl))) (mvT hZ (hw _ (List.mem_of_getElem? (i := 142) rfl))) (notFace_of_selects (args := #[]) (mvT hZ (hw _ (List.mem_of_getElem? (i := 144) rfl)))) (mvT hZ (hw _ (List.mem_of_getElem? (i := 144) rfl))) (mvT hZ (hw _ (List.mem_of_getElem? (i := 143) rfl))) (by decide) (backOf (W := 1) (rm21 l Z a0 hw [] a1 wC h0 n0 Z0 O0 S_C F_cod hC) hZ (hw _ (List.mem_of_getElem? (i := 145) rfl)) (hw _ (List.mem_of_getElem? (i := 39) rfl)) (by decide) (by decide)) q4a q4c (g := (mkF m 6 #[.val (.ref a1)] [(.ref a1), (.int (1 : Int32))])) rfl (by rw [hml]; rfl) (Steps.refl _) (argsL := []) (rest := [(.int (1 : Int32))]) (lenOf pd_20_12 rfl) rfl (by show 2 * 0 + _ ≤ _; exact Nat.le_of_eq rfl) (hb hby d20_6) (fun _ _ => ⟨rfl, e3, (by decide : 0 + 0 ≤ _), (by decide : 0 + 0 ≤ _)⟩)
  dsimp only [Pt.U, Pt.locs, Pt.cells, Pt.slots] at X4 l4 y4 z4 st4 hQ4
  subst l4 y4 z4
  obtain ⟨rfl, N4q, e4c⟩ := hQ4
  have N4 := Fr.app N0 N4q
  obtain ⟨fs, hr, hrun, hended, hW, hsame⟩ := X4.leave (v := some (.int ((1 : Int32) >>> ((0 : Int32) &&& 31)))) (fun h => by rw [Bd.returns] at h; cases h)
  refine ⟨_, _, pre0 _ ?_, hrun, hended, _, _, rfl, ?_, ⟨_, rfl⟩, hW, hsame.mono (by decide) (by decide)⟩
  · show Steps p.tables e below (s₁.setTop (mkF m 0 #[.val (.ref a1)] [])) _
    refine XS.aloadN X0.here hx rfl (hb hby d20_0) rfl rfl ?_
    show Steps p.tables e below (s₁.setTop (mkF m 1 #[.val (.ref a1)] [(.ref a1)])) _
    refine st3 _ ?_
    show Steps p.tables e below (T3.setTop (mkF m 4 #[.val (.ref a1)] [(.ref w2)])) _
    refine X3.arraylength hx (by rw [e3]; exact Ar_w2.1) (State.isArrayOf_alike hZ.alike Ar_w2.2.1) (g := (mkF m 4 #[.val (.ref a1)] [(.ref w2)])) rfl rfl (hb hby d20_4) _ ?_
    rw [len_of S_w2 N_w2]
    show Steps p.tables e below (T3.setTop (mkF m 5 #[.val (.ref a1)] [(.int (1 : Int32))])) _
    refine XS.aloadN X3.here hx rfl (hb hby d20_5) rfl rfl ?_
    show Steps p.tables e below (T3.setTop (mkF m 6 #[.val (.ref a1)] [(.ref a1), (.int (1 : Int32))])) _
    refine st4.trans ?_
    show Steps p.tables e below (T4.setTop (mkF m 9 #[.val (.ref a1)] [(.int (0 : Int32)), (.int (1 : Int32))])) _
    refine XS.ishr X4.here hx rfl (hb hby d20_9) rfl ?_
    show Steps p.tables e below (T4.setTop (mkF m 10 #[.val (.ref a1)] [(.int ((1 : Int32) >>> ((0 : Int32) &&& 31)))])) _
    exact retI X4 hx Bd.returns (hb hby d20_10) hr
  · show Q20 Z  h0 n0 _ T4.heap _
    rw [e4c]
    exact ⟨rfl, N4, rfl⟩
theorem d13_0 : decode jdk_42_method_117_code 0 = .ok (.aload_n 0, 1) := by decide +kernel
theorem d13_1 : decode jdk_42_method_117_code 1 = .ok (.invokevirtual 876, 3) := by decide +kernel
theorem d13_4 : decode jdk_42_method_117_code 4 = .ok (.aload_n 0, 1) := by decide +kernel
theorem d13_5 : decode jdk_42_method_117_code 5 = .ok (.invokevirtual 505, 3) := by decide +kernel
theorem d13_8 : decode jdk_42_method_117_code 8 = .ok (.if_icmp .ne 7, 3) := by decide +kernel
theorem d13_15 : decode jdk_42_method_117_code 15 = .ok (.iconst 0, 1) := by decide +kernel
theorem d13_16 : decode jdk_42_method_117_code 16 = .ok (.ireturn, 1) := by decide +kernel
theorem pn_13 : plainName "java/lang/String" = true := by first | (simp [plainName, overriddenIn]; done) | decide +kernel
theorem pd_13_7 : parseMethodDescriptor "()I" = some ⟨[], some .int⟩ := by decide +kernel
theorem ef_13 (m : MethodId) (x0 : Addr) : entryFrame m #[(.ref x0)] 1 = mkF m 0 #[.val (.ref x0)] [] := by first | (simp [entryFrame, mkF, argsToLocals, Value.category]; done) | rfl
def Q13 (Z : State)  (h0 : Heap) (n0 : Nat) (v : Option Value) (h : Heap) (L : List Loc) : Prop := v = some (.int (0 : Int32)) ∧ Fr n0 L ∧ h = h0
set_option maxRecDepth 65536 in
set_option maxHeartbeats 40000000 in
theorem rm13 (l : Launch) (Z : State) (a0 : Array Value) (hw : ∀ d ∈ tables_1, d.before a0 Z = true) (ws : List Jvm.Cond) (a1 : Addr) (wA : Addr) (pv : Int32) (clA : Cell) (wC : Int32) (wI : Addr) (bb : Addr) (cl : Cell) (h0 : Heap) (n0 : Nat) (Z0 : n0 ≤ h0.size) (E_a1 : Exa Z h0 a1 "java/lang/String") (O0 : Old Z n0 h0) (S_A : Sta Z Z.heap "java/lang/CharacterDataLatin1" "A" "[I" (.ref wA)) (Ar_A : Arr Z Z.heap wA clA .int) (hinA : ¬ (((109 : Int32).toUInt32.toUInt16.toUInt32.toInt32) < 0 ∨ clA.slots.size ≤ ((109 : Int32).toUInt32.toUInt16.toUInt32.toInt32).toNatClampNeg)) (hatA : clA.slots[((109 : Int32).toUInt32.toUInt16.toUInt32.toInt32).toNatClampNeg]? = some (.int pv)) (S_C : Sta Z Z.heap "java/lang/String" "COMPACT_STRINGS" "Z" (.int wC)) (hC : ¬ (wC = (0 : Int32))) (S_I : Sta Z Z.heap "java/lang/CharacterDataLatin1" "instance" "Ljava/lang/CharacterDataLatin1;" (.ref wI)) (E_I : Exa Z Z.heap wI "java/lang/CharacterDataLatin1") (hpv : ¬ ((pv &&& (28672 : Int32)) = (16384 : Int32))) (F_cod : Fld Z h0 a1 "java/lang/String" "coder" "B" (.int (0 : Int32))) (F_val : Fld Z h0 a1 "java/lang/String" "value" "[B" (.ref bb)) (Ar_b : Arr Z h0 bb cl .byte) (Sz_b : cl.slots.size = (1 : Int32).toNatClampNeg) (hat0 : cl.slots[(0 : Int32).toNatClampNeg]? = some (.int (109 : Int32))) (hc8 : ¬ ((0 : Int32) = ((1 : Int32) >>> ((0 : Int32) &&& 31)))) :
    MetFree l (⟨"java/lang/String", "isBlank", "()Z"⟩ : MethodName) (head1 (Jvm.Cond.code (⟨"java/lang/String", "isBlank", "()Z"⟩ : MethodName) jdk_42_method_117_code 1 (some .boolean) :: ws) ({ frames := 4, cells := 0, slots := 0, locals := 56 } : Room)) (fun a U => a = #[(.ref a1)] ∧ Z.Warmed39 U.vm ∧ U.heap = h0) (fun _ _ _ _ _ => True) (fun _ U o U' => ∃ v L, o = .returned v ∧ Q13 Z  h0 n0 v U'.heap L ∧ FrameEnd U o U' L ({ frames := 4, cells := 0, slots := 0, locals := 56 } : Room).cells ({ frames := 4, cells := 0, slots := 0, locals := 56 } : Room).slots) := by
  refine MetFree.of_bodySF (plainFor_of_name pn_13) hisR ?_
  intro p e s m args below meth c s₁ Bd hml0 hP hK
  obtain ⟨rfl, hZ, hh⟩ := hP
  have hx := Bd.exec
  have hby := Bd.bytes
  have hml : c.maxLocals = 1 := hml0
  have hown : s.vm.findClass "java/lang/String" = some m.cls := findClass_of_methodNamed Bd.named
  have hnm := (name_of_methodNamed Bd.named Bd.method).1
  have X0 : Stand p l e ({ frames := 4, cells := 0, slots := 0, locals := 56 } : Room) s m #[(.ref a1)] below meth c s₁ [] 0 0 := Stand.of_body Bd
  have e0 : s₁.heap = h0 := by rw [← hh, Bd.state]; rfl
  have N0 := Fr.nil n0
  have pre0 : ∀ t, Steps p.tables e below (s₁.setTop (mkF m 0 #[.val (.ref a1)] [])) t → Steps p.tables e below (s₁.setTop (entryFrame m #[(.ref a1)] 1)) t := fun t k => castTop (ef_13 m a1) k
  obtain ⟨cq2, q2, q2'⟩ := E_a1.cell
  obtain ⟨_, _, ⟨T2, L2, k2, n2⟩, -, X2, ⟨Lc2, hQ2, l2, y2, z2⟩, st2⟩ := X0.privateBack hx (y := (⟨"java/lang/String", "indexOfNonWhitespace", "()I"⟩ : MethodName)) hown (mvT hZ (hw _ (List.mem_of_getElem? (i := 103) rfl))) (mvT hZ (hw _ (List.mem_of_getElem? (i := 104) rfl))) (mvT hZ (hw _ (List.mem_of_getElem? (i := 106) rfl))) (Cond.privateMethod_at (mvP hZ (hw _ (List.mem_of_getElem? (i := 105) rfl)) (args := #[]))) (mvT hZ (hw _ (List.mem_of_getElem? (i := 107) rfl))) (by decide) (backOf (W := 0) (rm14 l Z a0 hw [] a1 wA pv clA wC wI bb cl h0 n0 Z0 F_val E_a1 O0 S_A Ar_A hinA hatA S_C hC S_I E_I hpv F_cod F_val Ar_b Sz_b hat0 (by decide)) hZ (hw _ (List.mem_of_getElem? (i := 107) rfl)) (hw _ (List.mem_of_getElem? (i := 39) rfl)) (by decide) (by decide)) (g := (mkF m 1 #[.val (.ref a1)] [(.ref a1)])) rfl (by rw [hml]; rfl) (Steps.refl _) (a := a1) (by rw [e0]; exact q2) q2' (argsL := []) (rest := []) (lenOf pd_13_7 rfl) rfl (by show 2 * 0 + _ ≤ _; exact Nat.le_of_eq rfl) (hb hby d13_1) (fun _ _ => ⟨rfl, e0, (by decide : 0 + 0 ≤ _), (by decide : 0 + 0 ≤ _)⟩)
  dsimp only [Pt.U, Pt.locs, Pt.cells, Pt.slots] at X2 l2 y2 z2 st2 hQ2
  subst l2 y2 z2
  obtain ⟨rfl, N2q, e2c⟩ := hQ2
  have N2 := Fr.app N0 N2q
  obtain ⟨cq3, kq3, q3a, q3b, q3c⟩ := isOf hZ e2c E_a1
  obtain ⟨_, _, ⟨T3, L3, k3, n3⟩, -, X3, ⟨Lc3, hQ3, l3, y3, z3⟩, st3⟩ := X2.virtualBack hx (y := (⟨"java/lang/String", "length", "()I"⟩ : MethodName)) (z := (⟨"java/lang/String", "length", "()I"⟩ : MethodName)) hown (mvT hZ (hw _ (List.mem_of_getElem? (i := 136) rfl))) (mvT hZ (hw _ (List.mem_of_getElem? (i := 137) rfl))) (notFace_of_selects (args := #[]) (mvT hZ (hw _ (List.mem_of_getElem? (i := 139) rfl)))) (mvT hZ (hw _ (List.mem_of_getElem? (i := 139) rfl))) (mvT hZ (hw _ (List.mem_of_getElem? (i := 138) rfl))) (by decide) (backOf (W := 1) (rm20 l Z a0 hw [] a1 bb cl wC h0 n0 Z0 F_val Ar_b Sz_b (by decide) E_a1 O0 S_C hC F_cod) hZ (hw _ (List.mem_of_getElem? (i := 140) rfl)) (hw _ (List.mem_of_getElem? (i := 39) rfl)) (by decide) (by decide)) q3a q3c (g := (mkF m 5 #[.val (.ref a1)] [(.ref a1), (.int (0 : Int32))])) rfl (by rw [hml]; rfl) (Steps.refl _) (argsL := []) (rest := [(.int (0 : Int32))]) (lenOf pd_13_7 rfl) rfl (by show 2 * 0 + _ ≤ _; exact Nat.le_of_eq rfl) (hb hby d13_5) (fun _ _ => ⟨rfl, e2c, (by decide : 0 + 0 ≤ _), (by decide : 0 + 0 ≤ _)⟩)
  dsimp only [Pt.U, Pt.locs, Pt.cells, Pt.slots] at X3 l3 y3 z3 st3 hQ3
  subst l3 y3 z3
  obtain ⟨rfl, N3q, e3c⟩ := hQ3
  have N3 := Fr.app N2 N3q
  obtain ⟨fs, hr, hrun, hended, hW, hsame⟩ := X3.leave (v := some (.int (0 : Int32))) (fun h => by rw [Bd.returns] at h; cases h)
  refine ⟨_, _, pre0 _ ?_, hrun, hended, _, _, rfl, ?_, ⟨_, rfl⟩, hW, hsame.mono (by decide) (by decide)⟩
  · show Steps p.tables e below (s₁.setTop (mkF m 0 #[.val (.ref a1)] [])) _
    refine XS.aloadN X0.here hx rfl (hb hby d13_0) rfl rfl ?_
    show Steps p.tables e below (s₁.setTop (mkF m 1 #[.val (.ref a1)] [(.ref a1)])) _
    refine st2.trans ?_
    show Steps p.tables e below (T2.setTop (mkF m 4 #[.val (.ref a1)] [(.int (0 : Int32))])) _
    refine XS.aloadN X2.here hx rfl (hb hby d13_4) rfl rfl ?_
    show Steps p.tables e below (T2.setTop (mkF m 5 #[.val (.ref a1)] [(.ref a1), (.int (0 : Int32))])) _
    refine st3.trans ?_
    show Steps p.tables e below (T3.setTop (mkF m 8 #[.val (.ref a1)] [(.int ((1 : Int32) >>> ((0 : Int32) &&& 31))), (.int (0 : Int32))])) _
    refine XS.icmpYes X3.here hx rfl (pc0 := 8) (pc' := 15) rfl (hb hby d13_8) rfl (feq hc8).2 (by decide) (by decide) ?_
    show Steps p.tables e below (T3.setTop (mkF m 15 #[.val (.ref a1)] [])) _
    refine XS.iconst X3.here hx rfl (hb hby d13_15) ?_
    show Steps p.tables e below (T3.setTop (mkF m 16 #[.val (.ref a1)] [(.int (0 : Int32))])) _
    exact retN X3 hx (t := .boolean) Bd.returns (by simp) (hb hby d13_16) hr
  · show Q13 Z  h0 n0 _ T3.heap _
    rw [e3c]
    exact ⟨rfl, N3, rfl⟩
theorem own_arrk {Z : State} {h h' : Heap} {a : Addr} {c : Cell} {ty : FieldType} {ws : List Addr} (A : Arr Z h a c ty) (K : Keep h h' ws) (q : a ∉ ws) : Arr Z h' a c ty := ⟨K.2.1 a c A.1 q, A.2⟩
theorem d26_0 : decode jdk_29_method_65_code 0 = .ok (.iload_n 0, 1) := by decide +kernel
theorem d26_1 : decode jdk_29_method_65_code 1 = .ok (.iload_n 1, 1) := by decide +kernel
theorem d26_2 : decode jdk_29_method_65_code 2 = .ok (.if_icmp .lt 7, 3) := by decide +kernel
theorem d26_5 : decode jdk_29_method_65_code 5 = .ok (.iload_n 0, 1) := by decide +kernel
theorem d26_6 : decode jdk_29_method_65_code 6 = .ok (.goto 4, 3) := by decide +kernel
theorem d26_10 : decode jdk_29_method_65_code 10 = .ok (.ireturn, 1) := by decide +kernel
theorem ef_26 (m : MethodId) (x0 : Int32) (x1 : Int32) : entryFrame m #[(.int x0), (.int x1)] 2 = mkF m 0 #[.val (.int x0), .val (.int x1)] [] := by first | (simp [entryFrame, mkF, argsToLocals, Value.category]; done) | rfl
def Q26 (Z : State) (p1 : Int32) (p2 : Int32) (h0 : Heap) (n0 : Nat) (v : Option Value) (h : Heap) (L : List Loc) : Prop := v = some (.int p1) ∧ Fr n0 L ∧ h = h0
set_option maxRecDepth 65536 in
set_option maxHeartbeats 40000000 in
theorem rm26 (l : Launch) (Z : State) (a0 : Array Value) (hw : ∀ d ∈ tables_1, d.before a0 Z = true) (ws : List Jvm.Cond) (p1 : Int32) (p2 : Int32) (h0 : Heap) (n0 : Nat) (Z0 : n0 ≤ h0.size) (hc2 : ¬ (p1 < p2)) :
    MetFree l (⟨"java/lang/Math", "max", "(II)I"⟩ : MethodName) (head1 (Jvm.Cond.code (⟨"java/lang/Math", "max", "(II)I"⟩ : MethodName) jdk_29_method_65_code 2 (some .int) :: ws) ({ frames := 0, cells := 0, slots := 0, locals := 0 } : Room)) (fun a U => a = #[(.int p1), (.int p2)] ∧ Z.Warmed39 U.vm ∧ U.heap = h0) (fun _ _ _ _ _ => True) (fun _ U o U' => ∃ v L, o = .returned v ∧ Q26 Z p1 p2 h0 n0 v U'.heap L ∧ FrameEnd U o U' L ({ frames := 0, cells := 0, slots := 0, locals := 0 } : Room).cells ({ frames := 0, cells := 0, slots := 0, locals := 0 } : Room).slots) := by
  refine MetFree.of_bodySF (Jvm.Free.JP.mathPlain rfl (by decide +kernel)) hisR ?_
  intro p e s m args below meth c s₁ Bd hml0 hP hK
  obtain ⟨rfl, hZ, hh⟩ := hP
  have hx := Bd.exec
  have hby := Bd.bytes
  have hml : c.maxLocals = 2 := hml0
  have hown : s.vm.findClass "java/lang/Math" = some m.cls := findClass_of_methodNamed Bd.named
  have hnm := (name_of_methodNamed Bd.named Bd.method).1
  have X0 : Stand p l e ({ frames := 0, cells := 0, slots := 0, locals := 0 } : Room) s m #[(.int p1), (.int p2)] below meth c s₁ [] 0 0 := Stand.of_body Bd
  have e0 : s₁.heap = h0 := by rw [← hh, Bd.state]; rfl
  have N0 := Fr.nil n0
  have pre0 : ∀ t, Steps p.tables e below (s₁.setTop (mkF m 0 #[.val (.int p1), .val (.int p2)] [])) t → Steps p.tables e below (s₁.setTop (entryFrame m #[(.int p1), (.int p2)] 2)) t := fun t k => castTop (ef_26 m p1 p2) k
  obtain ⟨fs, hr, hrun, hended, hW, hsame⟩ := X0.leave (v := some (.int p1)) (fun h => by rw [Bd.returns] at h; cases h)
  refine ⟨_, _, pre0 _ ?_, hrun, hended, _, _, rfl, ?_, ⟨_, rfl⟩, hW, hsame.mono (by decide) (by decide)⟩
  · show Steps p.tables e below (s₁.setTop (mkF m 0 #[.val (.int p1), .val (.int p2)] [])) _
    refine XS.iloadN X0.here hx rfl (hb hby d26_0) rfl ?_
    show Steps p.tables e below (s₁.setTop (mkF m 1 #[.val (.int p1), .val (.int p2)] [(.int p1)])) _
    refine XS.iloadN X0.here hx rfl (hb hby d26_1) rfl ?_
    show Steps p.tables e below (s₁.setTop (mkF m 2 #[.val (.int p1), .val (.int p2)] [(.int p2), (.int p1)])) _
    refine XS.icmpNo X0.here hx rfl (hb hby d26_2) rfl (flt hc2).1 ?_
    show Steps p.tables e below (s₁.setTop (mkF m 5 #[.val (.int p1), .val (.int p2)] [])) _
    refine XS.iloadN X0.here hx rfl (hb hby d26_5) rfl ?_
    show Steps p.tables e below (s₁.setTop (mkF m 6 #[.val (.int p1), .val (.int p2)] [(.int p1)])) _
    refine XS.goto X0.here hx rfl (pc0 := 6) (pc' := 10) rfl (hb hby d26_6) (by decide) (by decide) ?_
    show Steps p.tables e below (s₁.setTop (mkF m 10 #[.val (.int p1), .val (.int p2)] [(.int p1)])) _
    exact retI X0 hx Bd.returns (hb hby d26_10) hr
  · show Q26 Z p1 p2 h0 n0 _ s₁.heap _
    rw [e0]
    exact ⟨rfl, N0, rfl⟩
theorem d25_0 : decode jdk_38_method_6_code 0 = .ok (.aload_n 0, 1) := by decide +kernel
theorem d25_1 : decode jdk_38_method_6_code 1 = .ok (.getfield 9, 3) := by decide +kernel
theorem d25_4 : decode jdk_38_method_6_code 4 = .ok (.arraylength, 1) := by decide +kernel
theorem d25_5 : decode jdk_38_method_6_code 5 = .ok (.istore_n 2, 1) := by decide +kernel
theorem d25_6 : decode jdk_38_method_6_code 6 = .ok (.iload_n 2, 1) := by decide +kernel
theorem d25_7 : decode jdk_38_method_6_code 7 = .ok (.ifCond .gt 13, 3) := by decide +kernel
theorem d25_10 : decode jdk_38_method_6_code 10 = .ok (.aload_n 0, 1) := by decide +kernel
theorem d25_11 : decode jdk_38_method_6_code 11 = .ok (.getfield 9, 3) := by decide +kernel
theorem d25_14 : decode jdk_38_method_6_code 14 = .ok (.getstatic 39, 3) := by decide +kernel
theorem d25_17 : decode jdk_38_method_6_code 17 = .ok (.if_acmp .eq 28, 3) := by decide +kernel
theorem d25_45 : decode jdk_38_method_6_code 45 = .ok (.aload_n 0, 1) := by decide +kernel
theorem d25_46 : decode jdk_38_method_6_code 46 = .ok (.bipush 10, 2) := by decide +kernel
theorem d25_48 : decode jdk_38_method_6_code 48 = .ok (.iload_n 1, 1) := by decide +kernel
theorem d25_49 : decode jdk_38_method_6_code 49 = .ok (.invokestatic 79, 3) := by decide +kernel
theorem d25_52 : decode jdk_38_method_6_code 52 = .ok (.anewarray 7, 3) := by decide +kernel
theorem d25_55 : decode jdk_38_method_6_code 55 = .ok (.dup_x1, 1) := by decide +kernel
theorem d25_56 : decode jdk_38_method_6_code 56 = .ok (.putfield 9, 3) := by decide +kernel
theorem d25_59 : decode jdk_38_method_6_code 59 = .ok (.areturn, 1) := by decide +kernel
theorem pn_25 : plainName "java/util/ArrayList" = true := by first | (simp [plainName, overriddenIn]; done) | decide +kernel
theorem pd_25_17 : parseMethodDescriptor "(II)I" = some ⟨[.int, .int], some .int⟩ := by decide +kernel
theorem ef_25 (m : MethodId) (x0 : Addr) (x1 : Int32) : entryFrame m #[(.ref x0), (.int x1)] 4 = mkF m 0 #[.val (.ref x0), .val (.int x1), .unset, .unset] [] := by first | (simp [entryFrame, mkF, argsToLocals, Value.category]; done) | rfl
def Q25 (Z : State) (a1 : Addr) (um : Value) (us : Value) (h0 : Heap) (n0 : Nat) (v : Option Value) (h : Heap) (L : List Loc) : Prop := ∃ (b : Addr) (cl : Cell), v = some (.ref b) ∧ Fr n0 L ∧ Keep h0 h [a1] ∧ h0.size ≤ b ∧ n0 ≤ b ∧ Arr Z h b cl (.object "java/lang/Object") ∧ cl.slots.size = (10 : Int32).toNatClampNeg ∧ Ovr Z cl.cls "java/lang/Object" ∧ Exa Z h a1 "java/util/ArrayList" ∧ Fld Z h a1 "java/util/AbstractList" "modCount" "I" um ∧ Fld Z h a1 "java/util/ArrayList" "elementData" "[Ljava/lang/Object;" (.ref b) ∧ Fld Z h a1 "java/util/ArrayList" "size" "I" us
set_option maxRecDepth 65536 in
set_option maxHeartbeats 40000000 in
theorem rm25 (l : Launch) (Z : State) (a0 : Array Value) (hw : ∀ d ∈ tables_1, d.before a0 Z = true) (ws : List Jvm.Cond) (a1 : Addr) (p2 : Int32) (w3 : Addr) (cl_w3 : Cell) (w6 : Addr) (um : Value) (us : Value) (h0 : Heap) (n0 : Nat) (Z0 : n0 ≤ h0.size) (E_a1 : Exa Z h0 a1 "java/util/ArrayList") (F_modCount_a1 : Fld Z h0 a1 "java/util/AbstractList" "modCount" "I" um) (F_size_a1 : Fld Z h0 a1 "java/util/ArrayList" "size" "I" us) (F_elementData_a1 : Fld Z h0 a1 "java/util/ArrayList" "elementData" "[Ljava/lang/Object;" (.ref w3)) (Ar_w3 : Arr Z h0 w3 cl_w3 (.object "java/lang/Object")) (S_w3 : cl_w3.slots.size = (0 : Int32).toNatClampNeg) (N_w3 : ¬ (0 : Int32) < 0) (O0 : Old Z n0 h0) (S_DEFAULTCAPACITY_EMPTY_ELEMENTDATA : Sta Z Z.heap "java/util/ArrayList" "DEFAULTCAPACITY_EMPTY_ELEMENTDATA" "[Ljava/lang/Object;" (.ref w6)) (g_a1 : n0 ≤ a1) (hp : ¬ ((10 : Int32) < p2)) (hc7 : ¬ ((0 : Int32) < (0 : Int32))) (ha17 : w3 = w6) :
    MetFree l (⟨"java/util/ArrayList", "grow", "(I)[Ljava/lang/Object;"⟩ : MethodName) (head1 (Jvm.Cond.code (⟨"java/util/ArrayList", "grow", "(I)[Ljava/lang/Object;"⟩ : MethodName) jdk_38_method_6_code 4 (some (.array (.object "java/lang/Object"))) :: ws) ({ frames := 1, cells := 1, slots := 10, locals := 14 } : Room)) (fun a U => a = #[(.ref a1), (.int p2)] ∧ Z.Warmed39 U.vm ∧ U.heap = h0) (fun _ _ _ _ _ => True) (fun _ U o U' => ∃ v L, o = .returned v ∧ Q25 Z a1 um us h0 n0 v U'.heap L ∧ FrameEnd U o U' L ({ frames := 1, cells := 1, slots := 10, locals := 14 } : Room).cells ({ frames := 1, cells := 1, slots := 10, locals := 14 } : Room).slots) := by
  refine MetFree.of_bodySF (plainFor_of_name pn_25) hisR ?_
  intro p e s m args below meth c s₁ Bd hml0 hP hK
  obtain ⟨rfl, hZ, hh⟩ := hP
  have hx := Bd.exec
  have hby := Bd.bytes
  have hml : c.maxLocals = 4 := hml0
  have hown : s.vm.findClass "java/util/ArrayList" = some m.cls := findClass_of_methodNamed Bd.named
  have hnm := (name_of_methodNamed Bd.named Bd.method).1
  have X0 : Stand p l e ({ frames := 1, cells := 1, slots := 10, locals := 14 } : Room) s m #[(.ref a1), (.int p2)] below meth c s₁ [] 0 0 := Stand.of_body Bd
  have e0 : s₁.heap = h0 := by rw [← hh, Bd.state]; rfl
  have N0 := Fr.nil n0
  have pre0 : ∀ t, Steps p.tables e below (s₁.setTop (mkF m 0 #[.val (.ref a1), .val (.int p2), .unset, .unset] [])) t → Steps p.tables e below (s₁.setTop (entryFrame m #[(.ref a1), (.int p2)] 4)) t := fun t k => castTop (ef_25 m a1 p2) k
  obtain ⟨T4, X4, e4, st4⟩ := getF X0 hx hZ hown (host := "") (Or.inl (hw _ (List.mem_of_getElem? (i := 31) rfl))) Via.refl e0 F_elementData_a1 (g := (mkF m 1 #[.val (.ref a1), .val (.int p2), .unset, .unset] [(.ref a1)])) rfl rfl (hb hby d25_1)
  obtain ⟨T5, X5, e5, st5⟩ := getF X4 hx hZ hown (host := "") (Or.inl (hw _ (List.mem_of_getElem? (i := 31) rfl))) Via.refl e4 F_elementData_a1 (g := (mkF m 11 #[.val (.ref a1), .val (.int p2), .val (.int (0 : Int32)), .unset] [(.ref a1)])) rfl rfl (hb hby d25_11)
  obtain ⟨T7, X7, e7, st7⟩ := getS2 X5 hx hZ hown (host := "") (Or.inl (hw _ (List.mem_of_getElem? (i := 30) rfl))) Via.refl e5 (S_DEFAULTCAPACITY_EMPTY_ELEMENTDATA.ext O0.2) (g := (mkF m 14 #[.val (.ref a1), .val (.int p2), .val (.int (0 : Int32)), .unset] [(.ref w3)])) rfl (hb hby d25_14)
  obtain ⟨_, _, ⟨T8, L8, k8, n8⟩, -, X8, ⟨Lc8, hQ8, l8, y8, z8⟩, st8⟩ := Jvm.LawKit.callS X7 hx (y := (⟨"java/lang/Math", "max", "(II)I"⟩ : MethodName)) hown (mvT hZ (hw _ (List.mem_of_getElem? (i := 180) rfl))) (mvT hZ (hw _ (List.mem_of_getElem? (i := 181) rfl))) (mvT hZ (hw _ (List.mem_of_getElem? (i := 182) rfl))) (mvT hZ (hw _ (List.mem_of_getElem? (i := 183) rfl))) (by decide) (backOf (W := 1) (rm26 l Z a0 hw [] (10 : Int32) p2  h0 n0 Z0 hp) hZ (hw _ (List.mem_of_getElem? (i := 183) rfl)) (hw _ (List.mem_of_getElem? (i := 182) rfl)) (by decide) (by decide)) (g := (mkF m 49 #[.val (.ref a1), .val (.int p2), .val (.int (0 : Int32)), .unset] [(.int p2), (.int (10 : Int32)), (.ref a1)])) rfl (by rw [hml]; rfl) (argsL := [(.int (10 : Int32)), (.int p2)]) (rest := [(.ref a1)]) (lenOf pd_25_17 rfl) rfl (by show 2 * 0 + _ ≤ _; exact Nat.le_of_eq rfl) (hb hby d25_49) (fun _ _ => ⟨rfl, e7, (by decide : 0 + 0 ≤ _), (by decide : 0 + 0 ≤ _)⟩)
  dsimp only [Pt.U, Pt.locs, Pt.cells, Pt.slots] at X8 l8 y8 z8 st8 hQ8
  subst l8 y8 z8
  obtain ⟨rfl, N8q, e8c⟩ := hQ8
  have N8 := Fr.app N0 N8q
  obtain ⟨T9, h9, k9, X9, e9, E9, A9, O9, st9⟩ := newR X8 hx hZ hown (hw _ (List.mem_of_getElem? (i := 184) rfl)) (hw _ (List.mem_of_getElem? (i := 185) rfl)) e8c (g := (mkF m 52 #[.val (.ref a1), .val (.int p2), .val (.int (0 : Int32)), .unset] [(.int (10 : Int32)), (.ref a1)])) rfl (hb hby d25_52) rfl (by decide) (cap := 10) (by decide) (by decide) (by decide) (by decide)
  obtain ⟨b9, g9⟩ : ∃ z, z = h0.size := ⟨_, rfl⟩
  rw [← g9] at A9 st9
  have V_b9 := Arv.new A9 (by decide)
  have g_b9 : n0 ≤ b9 := Nat.le_trans Z0 (Nat.le_of_eq g9.symm)
  have sz_b9 : h0.size ≤ b9 := (Nat.le_trans (Keep.refl h0 [a1]).1 (Nat.le_of_eq g9.symm))
  have K9 : Keep h0 h9 [a1] := (Keep.refl h0 [a1]).ext E9
  obtain ⟨T10, h10, X10, e10, W10, st10⟩ := putF X9 hx hZ hown (host := "") (Or.inl (hw _ (List.mem_of_getElem? (i := 31) rfl))) Via.refl e9 (F_elementData_a1.ext E9) (E_a1.ext E9) (Or.inl (hw _ (List.mem_of_getElem? (i := 32) rfl))) (hw _ (List.mem_of_getElem? (i := 10) rfl)) (ty := (.array (.object "java/lang/Object"))) (by decide) rfl rfl (g := (mkF m 56 #[.val (.ref a1), .val (.int p2), .val (.int (0 : Int32)), .unset] [(.ref b9), (.ref a1), (.ref b9)])) rfl rfl (hb hby d25_56)
  have Fw10 := (F_elementData_a1.ext E9).same W10
  have K10 : Keep h0 h10 [a1] := K9.wr W10 (Or.inl (List.mem_of_getElem? (i := 0) rfl))
  have N10 := Fr.snoc X10 N8 g_a1
  obtain ⟨fs, hr, hrun, hended, hW, hsame⟩ := X10.leave (v := some (.ref b9)) (fun h => by rw [Bd.returns] at h; cases h)
  refine ⟨_, _, pre0 _ ?_, hrun, hended, _, _, rfl, ?_, ⟨_, rfl⟩, hW, hsame.mono (by decide) (by decide)⟩
  · show Steps p.tables e below (s₁.setTop (mkF m 0 #[.val (.ref a1), .val (.int p2), .unset, .unset] [])) _
    refine XS.aloadN X0.here hx rfl (hb hby d25_0) rfl rfl ?_
    show Steps p.tables e below (s₁.setTop (mkF m 1 #[.val (.ref a1), .val (.int p2), .unset, .unset] [(.ref a1)])) _
    refine st4 _ ?_
    show Steps p.tables e below (T4.setTop (mkF m 4 #[.val (.ref a1), .val (.int p2), .unset, .unset] [(.ref w3)])) _
    refine X4.arraylength hx (by rw [e4]; exact Ar_w3.1) (State.isArrayOf_alike hZ.alike Ar_w3.2.1) (g := (mkF m 4 #[.val (.ref a1), .val (.int p2), .unset, .unset] [(.ref w3)])) rfl rfl (hb hby d25_4) _ ?_
    rw [len_of S_w3 N_w3]
    show Steps p.tables e below (T4.setTop (mkF m 5 #[.val (.ref a1), .val (.int p2), .unset, .unset] [(.int (0 : Int32))])) _
    refine XS.istoreN X4.here hx rfl (hb hby d25_5) rfl (l' := #[.val (.ref a1), .val (.int p2), .val (.int (0 : Int32)), .unset]) rfl ?_
    show Steps p.tables e below (T4.setTop (mkF m 6 #[.val (.ref a1), .val (.int p2), .val (.int (0 : Int32)), .unset] [])) _
    refine XS.iloadN X4.here hx rfl (hb hby d25_6) rfl ?_
    show Steps p.tables e below (T4.setTop (mkF m 7 #[.val (.ref a1), .val (.int p2), .val (.int (0 : Int32)), .unset] [(.int (0 : Int32))])) _
    refine XS.ifNo X4.here hx rfl (hb hby d25_7) rfl ((if0 _ _).trans (flt hc7).2.2.1) ?_
    show Steps p.tables e below (T4.setTop (mkF m 10 #[.val (.ref a1), .val (.int p2), .val (.int (0 : Int32)), .unset] [])) _
    refine XS.aloadN X4.here hx rfl (hb hby d25_10) rfl rfl ?_
    show Steps p.tables e below (T4.setTop (mkF m 11 #[.val (.ref a1), .val (.int p2), .val (.int (0 : Int32)), .unset] [(.ref a1)])) _
    refine st5 _ ?_
    show Steps p.tables e below (T5.setTop (mkF m 14 #[.val (.ref a1), .val (.int p2), .val (.int (0 : Int32)), .unset] [(.ref w3)])) _
    refine st7 _ ?_
    show Steps p.tables e below (T7.setTop (mkF m 17 #[.val (.ref a1), .val (.int p2), .val (.int (0 : Int32)), .unset] [(.ref w6), (.ref w3)])) _
    refine Jvm.RoadKit.acmp (g := (mkF m 17 #[.val (.ref a1), .val (.int p2), .val (.int (0 : Int32)), .unset] [(.ref w6), (.ref w3)])) X7 hx rfl rfl rfl (pc0 := 17) (pc' := 45) (same := true) rfl (hb hby d25_17) rfl (decide_eq_true (congrArg Value.ref ha17)) (by decide) (by decide) ?_
    show Steps p.tables e below (T7.setTop (mkF m 45 #[.val (.ref a1), .val (.int p2), .val (.int (0 : Int32)), .unset] [])) _
    refine XS.aloadN X7.here hx rfl (hb hby d25_45) rfl rfl ?_
    show Steps p.tables e below (T7.setTop (mkF m 46 #[.val (.ref a1), .val (.int p2), .val (.int (0 : Int32)), .unset] [(.ref a1)])) _
    refine XS.bipush X7.here hx rfl (hb hby d25_46) ?_
    show Steps p.tables e below (T7.setTop (mkF m 48 #[.val (.ref a1), .val (.int p2), .val (.int (0 : Int32)), .unset] [(.int (10 : Int32)), (.ref a1)])) _
    refine XS.iloadN X7.here hx rfl (hb hby d25_48) rfl ?_
    show Steps p.tables e below (T7.setTop (mkF m 49 #[.val (.ref a1), .val (.int p2), .val (.int (0 : Int32)), .unset] [(.int p2), (.int (10 : Int32)), (.ref a1)])) _
    refine st8 _ ?_
    show Steps p.tables e below (T8.setTop (mkF m 52 #[.val (.ref a1), .val (.int p2), .val (.int (0 : Int32)), .unset] [(.int (10 : Int32)), (.ref a1)])) _
    refine st9 _ ?_
    show Steps p.tables e below (T9.setTop (mkF m 55 #[.val (.ref a1), .val (.int p2), .val (.int (0 : Int32)), .unset] [(.ref b9), (.ref a1)])) _
    refine XS.dupX1 X9.here hx rfl (hb hby d25_55) rfl rfl rfl ?_
    show Steps p.tables e below (T9.setTop (mkF m 56 #[.val (.ref a1), .val (.int p2), .val (.int (0 : Int32)), .unset] [(.ref b9), (.ref a1), (.ref b9)])) _
    refine st10 _ ?_
    show Steps p.tables e below (T10.setTop (mkF m 59 #[.val (.ref a1), .val (.int p2), .val (.int (0 : Int32)), .unset] [(.ref b9)])) _
    jvm_step X10.here [X10.here.top, hx, (hb hby d25_59), X10.method', Bd.returns, Value.isRef, FieldType.isReference]
    first | (intro acts; rw [hr _ acts rfl rfl rfl]) | rw [hr _ _ rfl rfl rfl]
    exact Steps.refl _
  · show Q25 Z a1 um us h0 n0 _ T10.heap _
    rw [e10]
    exact ⟨b9, _, rfl, N10, K10, sz_b9, g_b9, A9.other W10 (Ne.symm (Nat.ne_of_lt (Nat.lt_of_lt_of_le E_a1.lt (Nat.le_of_eq g9.symm)))), sz_new _ _ _, O9, ((E_a1.ext E9).wr W10), ((F_modCount_a1.ext E9).other W10 (Or.inr (slot_ne (Or.inl (hw _ (List.mem_of_getElem? (i := 29) rfl))) (Or.inl (hw _ (List.mem_of_getElem? (i := 32) rfl))) (by decide) (t := .int) (t' := (.array (.object "java/lang/Object"))) (by decide) (by decide)))), Fw10, ((F_size_a1.ext E9).other W10 (Or.inr (slot_ne (Or.inl (hw _ (List.mem_of_getElem? (i := 164) rfl))) (Or.inl (hw _ (List.mem_of_getElem? (i := 32) rfl))) (by decide) (t := .int) (t' := (.array (.object "java/lang/Object"))) (by decide) (by decide))))⟩
theorem d24_0 : decode jdk_38_method_7_code 0 = .ok (.aload_n 0, 1) := by decide +kernel
theorem d24_1 : decode jdk_38_method_7_code 1 = .ok (.aload_n 0, 1) := by decide +kernel
theorem d24_2 : decode jdk_38_method_7_code 2 = .ok (.getfield 48, 3) := by decide +kernel
theorem d24_5 : decode jdk_38_method_7_code 5 = .ok (.iconst 1, 1) := by decide +kernel
theorem d24_6 : decode jdk_38_method_7_code 6 = .ok (.iadd, 1) := by decide +kernel
theorem d24_7 : decode jdk_38_method_7_code 7 = .ok (.invokevirtual 69, 3) := by decide +kernel
theorem d24_10 : decode jdk_38_method_7_code 10 = .ok (.areturn, 1) := by decide +kernel
theorem pn_24 : plainName "java/util/ArrayList" = true := by first | (simp [plainName, overriddenIn]; done) | decide +kernel
theorem pd_24_16 : parseMethodDescriptor "(I)[Ljava/lang/Object;" = some ⟨[.int], some (.array (.object "java/lang/Object"))⟩ := by decide +kernel
theorem ef_24 (m : MethodId) (x0 : Addr) : entryFrame m #[(.ref x0)] 1 = mkF m 0 #[.val (.ref x0)] [] := by first | (simp [entryFrame, mkF, argsToLocals, Value.category]; done) | rfl
def Q24 (Z : State) (a1 : Addr) (um : Value) (h0 : Heap) (n0 : Nat) (v : Option Value) (h : Heap) (L : List Loc) : Prop := ∃ (b : Addr) (cl : Cell), v = some (.ref b) ∧ Fr n0 L ∧ Keep h0 h [a1] ∧ h0.size ≤ b ∧ n0 ≤ b ∧ Arr Z h b cl (.object "java/lang/Object") ∧ cl.slots.size = (10 : Int32).toNatClampNeg ∧ Ovr Z cl.cls "java/lang/Object" ∧ Exa Z h a1 "java/util/ArrayList" ∧ Fld Z h a1 "java/util/AbstractList" "modCount" "I" um ∧ Fld Z h a1 "java/util/ArrayList" "elementData" "[Ljava/lang/Object;" (.ref b) ∧ Fld Z h a1 "java/util/ArrayList" "size" "I" (.int (0 : Int32))
set_option maxRecDepth 65536 in
set_option maxHeartbeats 40000000 in
theorem rm24 (l : Launch) (Z : State) (a0 : Array Value) (hw : ∀ d ∈ tables_1, d.before a0 Z = true) (ws : List Jvm.Cond) (a1 : Addr) (um : Value) (wD : Addr) (clD : Cell) (h0 : Heap) (n0 : Nat) (Z0 : n0 ≤ h0.size) (E_a1 : Exa Z h0 a1 "java/util/ArrayList") (F_modCount_a1 : Fld Z h0 a1 "java/util/AbstractList" "modCount" "I" um) (F_size_a1 : Fld Z h0 a1 "java/util/ArrayList" "size" "I" (.int (0 : Int32))) (F_elementData_a1 : Fld Z h0 a1 "java/util/ArrayList" "elementData" "[Ljava/lang/Object;" (.ref wD)) (g_a1 : n0 ≤ a1) (O0 : Old Z n0 h0) (S_D : Sta Z Z.heap "java/util/ArrayList" "DEFAULTCAPACITY_EMPTY_ELEMENTDATA" "[Ljava/lang/Object;" (.ref wD)) (Ar_D : Arr Z Z.heap wD clD (.object "java/lang/Object")) (Sz_D : clD.slots.size = (0 : Int32).toNatClampNeg) :
    MetFree l (⟨"java/util/ArrayList", "grow", "()[Ljava/lang/Object;"⟩ : MethodName) (head1 (Jvm.Cond.code (⟨"java/util/ArrayList", "grow", "()[Ljava/lang/Object;"⟩ : MethodName) jdk_38_method_7_code 1 (some (.array (.object "java/lang/Object"))) :: ws) ({ frames := 2, cells := 1, slots := 10, locals := 29 } : Room)) (fun a U => a = #[(.ref a1)] ∧ Z.Warmed39 U.vm ∧ U.heap = h0) (fun _ _ _ _ _ => True) (fun _ U o U' => ∃ v L, o = .returned v ∧ Q24 Z a1 um h0 n0 v U'.heap L ∧ FrameEnd U o U' L ({ frames := 2, cells := 1, slots := 10, locals := 29 } : Room).cells ({ frames := 2, cells := 1, slots := 10, locals := 29 } : Room).slots) := by
  refine MetFree.of_bodySF (plainFor_of_name pn_24) hisR ?_
  intro p e s m args below meth c s₁ Bd hml0 hP hK
  obtain ⟨rfl, hZ, hh⟩ := hP
  have hx := Bd.exec
  have hby := Bd.bytes
  have hml : c.maxLocals = 1 := hml0
  have hown : s.vm.findClass "java/util/ArrayList" = some m.cls := findClass_of_methodNamed Bd.named
  have hnm := (name_of_methodNamed Bd.named Bd.method).1
  have X0 : Stand p l e ({ frames := 2, cells := 1, slots := 10, locals := 29 } : Room) s m #[(.ref a1)] below meth c s₁ [] 0 0 := Stand.of_body Bd
  have e0 : s₁.heap = h0 := by rw [← hh, Bd.state]; rfl
  have N0 := Fr.nil n0
  have pre0 : ∀ t, Steps p.tables e below (s₁.setTop (mkF m 0 #[.val (.ref a1)] [])) t → Steps p.tables e below (s₁.setTop (entryFrame m #[(.ref a1)] 1)) t := fun t k => castTop (ef_24 m a1) k
  obtain ⟨T2, X2, e2, st2⟩ := getF X0 hx hZ hown (host := "") (Or.inl (hw _ (List.mem_of_getElem? (i := 163) rfl))) Via.refl e0 F_size_a1 (g := (mkF m 2 #[.val (.ref a1)] [(.ref a1), (.ref a1)])) rfl rfl (hb hby d24_2)
  obtain ⟨cq3, q3, q3'⟩ := E_a1.cell
  obtain ⟨_, _, ⟨T3, L3, k3, n3⟩, -, X3, ⟨Lc3, hQ3, l3, y3, z3⟩, st3⟩ := X2.privateBack hx (y := (⟨"java/util/ArrayList", "grow", "(I)[Ljava/lang/Object;"⟩ : MethodName)) hown (mvT hZ (hw _ (List.mem_of_getElem? (i := 175) rfl))) (mvT hZ (hw _ (List.mem_of_getElem? (i := 176) rfl))) (mvT hZ (hw _ (List.mem_of_getElem? (i := 178) rfl))) (Cond.privateMethod_at (mvP hZ (hw _ (List.mem_of_getElem? (i := 177) rfl)) (args := #[]))) (mvT hZ (hw _ (List.mem_of_getElem? (i := 179) rfl))) (by decide) (backOf (W := 0) (rm25 l Z a0 hw [] a1 ((0 : Int32) + (1 : Int32)) wD clD wD um (.int (0 : Int32)) h0 n0 Z0 E_a1 F_modCount_a1 F_size_a1 F_elementData_a1 (Ar_D.ext O0.2) Sz_D (by decide) O0 S_D g_a1 (by decide) (by decide) rfl) hZ (hw _ (List.mem_of_getElem? (i := 179) rfl)) (hw _ (List.mem_of_getElem? (i := 11) rfl)) (by decide) (by decide)) (g := (mkF m 7 #[.val (.ref a1)] [(.int ((0 : Int32) + (1 : Int32))), (.ref a1)])) rfl (by rw [hml]; rfl) (Steps.refl _) (a := a1) (by rw [e2]; exact q3) q3' (argsL := [(.int ((0 : Int32) + (1 : Int32)))]) (rest := []) (lenOf pd_24_16 rfl) rfl (by show 2 * 0 + _ ≤ _; exact Nat.le_of_eq rfl) (hb hby d24_7) (fun _ _ => ⟨rfl, e2, (by decide : 0 + 1 ≤ _), (by decide : 0 + 10 ≤ _)⟩)
  dsimp only [Pt.U, Pt.locs, Pt.cells, Pt.slots] at X3 l3 y3 z3 st3 hQ3
  subst l3 y3 z3
  obtain ⟨b3r, cl3, rfl, N3q, K3c, sb3, gb3, Ab3, Zb3, Ob3, E3c, Fm3, Fe3, Fs3⟩ := hQ3
  have N3 := Fr.app N0 N3q
  have K3 : Keep h0 T3.heap [a1] := (Keep.refl h0 [a1]).trans K3c (allS (Or.inl (List.mem_of_getElem? (i := 0) rfl)) all0)
  obtain ⟨fs, hr, hrun, hended, hW, hsame⟩ := X3.leave (v := some (.ref b3r)) (fun h => by rw [Bd.returns] at h; cases h)
  refine ⟨_, _, pre0 _ ?_, hrun, hended, _, _, rfl, ?_, ⟨_, rfl⟩, hW, hsame.mono (by decide) (by decide)⟩
  · show Steps p.tables e below (s₁.setTop (mkF m 0 #[.val (.ref a1)] [])) _
    refine XS.aloadN X0.here hx rfl (hb hby d24_0) rfl rfl ?_
    show Steps p.tables e below (s₁.setTop (mkF m 1 #[.val (.ref a1)] [(.ref a1)])) _
    refine XS.aloadN X0.here hx rfl (hb hby d24_1) rfl rfl ?_
    show Steps p.tables e below (s₁.setTop (mkF m 2 #[.val (.ref a1)] [(.ref a1), (.ref a1)])) _
    refine st2 _ ?_
    show Steps p.tables e below (T2.setTop (mkF m 5 #[.val (.ref a1)] [(.int (0 : Int32)), (.ref a1)])) _
    refine XS.iconst X2.here hx rfl (hb hby d24_5) ?_
    show Steps p.tables e below (T2.setTop (mkF m 6 #[.val (.ref a1)] [(.int (1 : Int32)), (.int (0 : Int32)), (.ref a1)])) _
    refine XS.iadd X2.here hx rfl (hb hby d24_6) rfl ?_
    show Steps p.tables e below (T2.setTop (mkF m 7 #[.val (.ref a1)] [(.int ((0 : Int32) + (1 : Int32))), (.ref a1)])) _
    refine st3.trans ?_
    show Steps p.tables e below (T3.setTop (mkF m 10 #[.val (.ref a1)] [(.ref b3r)])) _
    jvm_step X3.here [X3.here.top, hx, (hb hby d24_10), X3.method', Bd.returns, Value.isRef, FieldType.isReference]
    first | (intro acts; rw [hr _ acts rfl rfl rfl]) | rw [hr _ _ rfl rfl rfl]
    exact Steps.refl _
  · show Q24 Z a1 um h0 n0 _ T3.heap _
    exact ⟨b3r, cl3, rfl, N3, K3, sb3, gb3, Ab3, Zb3, Ob3, E3c, Fm3, Fe3, Fs3⟩
theorem d23_0 : decode jdk_38_method_24_code 0 = .ok (.iload_n 3, 1) := by decide +kernel
theorem d23_1 : decode jdk_38_method_24_code 1 = .ok (.aload_n 2, 1) := by decide +kernel
theorem d23_2 : decode jdk_38_method_24_code 2 = .ok (.arraylength, 1) := by decide +kernel
theorem d23_3 : decode jdk_38_method_24_code 3 = .ok (.if_icmp .ne 8, 3) := by decide +kernel
theorem d23_6 : decode jdk_38_method_24_code 6 = .ok (.aload_n 0, 1) := by decide +kernel
theorem d23_7 : decode jdk_38_method_24_code 7 = .ok (.invokevirtual 129, 3) := by decide +kernel
theorem d23_10 : decode jdk_38_method_24_code 10 = .ok (.astore_n 2, 1) := by decide +kernel
theorem d23_11 : decode jdk_38_method_24_code 11 = .ok (.aload_n 2, 1) := by decide +kernel
theorem d23_12 : decode jdk_38_method_24_code 12 = .ok (.iload_n 3, 1) := by decide +kernel
theorem d23_13 : decode jdk_38_method_24_code 13 = .ok (.aload_n 1, 1) := by decide +kernel
theorem d23_14 : decode jdk_38_method_24_code 14 = .ok (.aastore, 1) := by decide +kernel
theorem d23_15 : decode jdk_38_method_24_code 15 = .ok (.aload_n 0, 1) := by decide +kernel
theorem d23_16 : decode jdk_38_method_24_code 16 = .ok (.iload_n 3, 1) := by decide +kernel
theorem d23_17 : decode jdk_38_method_24_code 17 = .ok (.iconst 1, 1) := by decide +kernel
theorem d23_18 : decode jdk_38_method_24_code 18 = .ok (.iadd, 1) := by decide +kernel
theorem d23_19 : decode jdk_38_method_24_code 19 = .ok (.putfield 48, 3) := by decide +kernel
theorem d23_22 : decode jdk_38_method_24_code 22 = .ok (.return_, 1) := by decide +kernel
theorem pn_23 : plainName "java/util/ArrayList" = true := by first | (simp [plainName, overriddenIn]; done) | decide +kernel
theorem pd_23_15 : parseMethodDescriptor "()[Ljava/lang/Object;" = some ⟨[], some (.array (.object "java/lang/Object"))⟩ := by decide +kernel
theorem ef_23 (m : MethodId) (x0 : Addr) (x1 : Addr) (x2 : Addr) (x3 : Int32) : entryFrame m #[(.ref x0), (.ref x1), (.ref x2), (.int x3)] 4 = mkF m 0 #[.val (.ref x0), .val (.ref x1), .val (.ref x2), .val (.int x3)] [] := by first | (simp [entryFrame, mkF, argsToLocals, Value.category]; done) | rfl
def Q23F (Z : State) (a1 : Addr) (p4 : Int32) (um : Value) (h0 : Heap) (n0 : Nat) (v : Option Value) (h : Heap) (L : List Loc) : Prop := v = none ∧ Fr n0 L ∧ Keep h0 h [a1] ∧ Exa Z h a1 "java/util/ArrayList" ∧ Fld Z h a1 "java/util/AbstractList" "modCount" "I" um ∧ Fld Z h a1 "java/util/ArrayList" "size" "I" (.int (p4 + (1 : Int32))) ∧ ∃ (b : Addr) (cl : Cell), n0 ≤ b ∧ Fld Z h a1 "java/util/ArrayList" "elementData" "[Ljava/lang/Object;" (.ref b) ∧ Arr Z h b cl (.object "java/lang/Object") ∧ cl.slots.size = (10 : Int32).toNatClampNeg ∧ Ovr Z cl.cls "java/lang/Object"
set_option maxRecDepth 65536 in
set_option maxHeartbeats 40000000 in
theorem rm23F (l : Launch) (Z : State) (a0 : Array Value) (hw : ∀ d ∈ tables_1, d.before a0 Z = true) (ws : List Jvm.Cond) (a1 : Addr) (a2 : Addr) (a3 : Addr) (p4 : Int32) (cl_a3 : Cell) (um : Value) (h0 : Heap) (n0 : Nat) (Z0 : n0 ≤ h0.size) (E_a1 : Exa Z h0 a1 "java/util/ArrayList") (E_a2 : Exa Z h0 a2 "com/example/stomme/stomme/diagnostic/Diagnostic") (F_modCount_a1 : Fld Z h0 a1 "java/util/AbstractList" "modCount" "I" um) (F_size_a1 : Fld Z h0 a1 "java/util/ArrayList" "size" "I" (.int (0 : Int32))) (F_elementData_a1 : Fld Z h0 a1 "java/util/ArrayList" "elementData" "[Ljava/lang/Object;" (.ref a3)) (Ar_a3 : Arr Z h0 a3 cl_a3 (.object "java/lang/Object")) (S_a3 : cl_a3.slots.size = (0 : Int32).toNatClampNeg) (N_a3 : ¬ (0 : Int32) < 0) (g_a1 : n0 ≤ a1) (O0 : Old Z n0 h0) (S_D : Sta Z Z.heap "java/util/ArrayList" "DEFAULTCAPACITY_EMPTY_ELEMENTDATA" "[Ljava/lang/Object;" (.ref a3)) (Ar_D : Arr Z Z.heap a3 cl_a3 (.object "java/lang/Object")) (hc3 : p4 = (0 : Int32)) :
    MetFree l (⟨"java/util/ArrayList", "add", "(Ljava/lang/Object;[Ljava/lang/Object;I)V"⟩ : MethodName) (head1 (Jvm.Cond.code (⟨"java/util/ArrayList", "add", "(Ljava/lang/Object;[Ljava/lang/Object;I)V"⟩ : MethodName) jdk_38_method_24_code 4 none :: ws) ({ frames := 3, cells := 1, slots := 10, locals := 41 } : Room)) (fun a U => a = #[(.ref a1), (.ref a2), (.ref a3), (.int p4)] ∧ Z.Warmed39 U.vm ∧ U.heap = h0) (fun _ _ _ _ _ => True) (fun _ U o U' => ∃ v L, o = .returned v ∧ Q23F Z a1 p4 um h0 n0 v U'.heap L ∧ FrameEnd U o U' L ({ frames := 3, cells := 1, slots := 10, locals := 41 } : Room).cells ({ frames := 3, cells := 1, slots := 10, locals := 41 } : Room).slots) := by
  refine MetFree.of_bodySF (plainFor_of_name pn_23) hisR ?_
  intro p e s m args below meth c s₁ Bd hml0 hP hK
  obtain ⟨rfl, hZ, hh⟩ := hP
  have hx := Bd.exec
  have hby := Bd.bytes
  have hml : c.maxLocals = 4 := hml0
  have hown : s.vm.findClass "java/util/ArrayList" = some m.cls := findClass_of_methodNamed Bd.named
  have hnm := (name_of_methodNamed Bd.named Bd.method).1
  have X0 : Stand p l e ({ frames := 3, cells := 1, slots := 10, locals := 41 } : Room) s m #[(.ref a1), (.ref a2), (.ref a3), (.int p4)] below meth c s₁ [] 0 0 := Stand.of_body Bd
  have e0 : s₁.heap = h0 := by rw [← hh, Bd.state]; rfl
  have N0 := Fr.nil n0
  have pre0 : ∀ t, Steps p.tables e below (s₁.setTop (mkF m 0 #[.val (.ref a1), .val (.ref a2), .val (.ref a3), .val (.int p4)] [])) t → Steps p.tables e below (s₁.setTop (entryFrame m #[(.ref a1), (.ref a2), (.ref a3), (.int p4)] 4)) t := fun t k => castTop (ef_23 m a1 a2 a3 p4) k
  obtain ⟨cq5, q5, q5'⟩ := E_a1.cell
  obtain ⟨_, _, ⟨T5, L5, k5, n5⟩, -, X5, ⟨Lc5, hQ5, l5, y5, z5⟩, st5⟩ := X0.privateBack hx (y := (⟨"java/util/ArrayList", "grow", "()[Ljava/lang/Object;"⟩ : MethodName)) hown (mvT hZ (hw _ (List.mem_of_getElem? (i := 170) rfl))) (mvT hZ (hw _ (List.mem_of_getElem? (i := 171) rfl))) (mvT hZ (hw _ (List.mem_of_getElem? (i := 173) rfl))) (Cond.privateMethod_at (mvP hZ (hw _ (List.mem_of_getElem? (i := 172) rfl)) (args := #[]))) (mvT hZ (hw _ (List.mem_of_getElem? (i := 174) rfl))) (by decide) (backOf (W := 0) (rm24 l Z a0 hw [] a1 um a3 cl_a3 h0 n0 Z0 E_a1 F_modCount_a1 F_size_a1 F_elementData_a1 g_a1 O0 S_D Ar_D S_a3) hZ (hw _ (List.mem_of_getElem? (i := 174) rfl)) (hw _ (List.mem_of_getElem? (i := 11) rfl)) (by decide) (by decide)) (g := (mkF m 7 #[.val (.ref a1), .val (.ref a2), .val (.ref a3), .val (.int p4)] [(.ref a1)])) rfl (by rw [hml]; rfl) (Steps.refl _) (a := a1) (by rw [e0]; exact q5) q5' (argsL := []) (rest := []) (lenOf pd_23_15 rfl) rfl (by show 2 * 0 + _ ≤ _; exact Nat.le_of_eq rfl) (hb hby d23_7) (fun _ _ => ⟨rfl, e0, (by decide : 0 + 1 ≤ _), (by decide : 0 + 10 ≤ _)⟩)
  dsimp only [Pt.U, Pt.locs, Pt.cells, Pt.slots] at X5 l5 y5 z5 st5 hQ5
  subst l5 y5 z5
  obtain ⟨b5r, cl5, rfl, N5q, K5c, sz_b5r, g_b5r, Ar_b5r, Zb5, Ob5, E5c, Fm5, Fe5, Fs5⟩ := hQ5
  have N5 := Fr.app N0 N5q
  have K5 : Keep h0 T5.heap [a1] := (Keep.refl h0 [a1]).trans K5c (allS (Or.inl (List.mem_of_getElem? (i := 0) rfl)) all0)
  have n_ab : a1 ≠ b5r := Nat.ne_of_lt (Nat.lt_of_lt_of_le E_a1.lt sz_b5r)
  have hin14 : ¬ (p4 < 0 ∨ cl5.slots.size ≤ (p4).toNatClampNeg) := by rw [hc3]; exact inb_of Zb5 ⟨by decide, by decide⟩
  have Sto14 : Sto Z T5.heap b5r (.ref a2) := Sto.of Ar_b5r Ob5 (Ins.of_exa (E_a2.keep K5c) (hw _ (List.mem_of_getElem? (i := 186) rfl)))
  obtain ⟨T6, h6, X6, e6, W6, st6⟩ := stR X5 hx hZ rfl Ar_b5r (j := p4) hin14 rfl Sto14 (g := (mkF m 14 #[.val (.ref a1), .val (.ref a2), .val (.ref b5r), .val (.int p4)] [(.ref a2), (.int p4), (.ref b5r)])) rfl rfl (hb hby d23_14)
  have N6 := Fr.snoc X6 N5 g_b5r
  have K6 : Keep h0 h6 [a1] := K5.wr W6 (Or.inr sz_b5r)
  obtain ⟨T7, h7, X7, e7, W7, st7⟩ := putF X6 hx hZ hown (host := "") (Or.inl (hw _ (List.mem_of_getElem? (i := 163) rfl))) Via.refl e6 (Fs5.other W6 (Or.inl n_ab)) (E5c.wr W6) (Or.inl (hw _ (List.mem_of_getElem? (i := 164) rfl))) (hw _ (List.mem_of_getElem? (i := 10) rfl)) (ty := .int) (by decide) rfl rfl (g := (mkF m 19 #[.val (.ref a1), .val (.ref a2), .val (.ref b5r), .val (.int p4)] [(.int (p4 + (1 : Int32))), (.ref a1)])) rfl rfl (hb hby d23_19)
  have Fw7 := (Fs5.other W6 (Or.inl n_ab)).same W7
  have K7 : Keep h0 h7 [a1] := K6.wr W7 (Or.inl (List.mem_of_getElem? (i := 0) rfl))
  have N7 := Fr.snoc X7 N6 g_a1
  obtain ⟨fs, hr, hrun, hended, hW, hsame⟩ := X7.leave (v := none) (fun _ => rfl)
  refine ⟨_, _, pre0 _ ?_, hrun, hended, _, _, rfl, ?_, ⟨_, rfl⟩, hW, hsame.mono (by decide) (by decide)⟩
  · show Steps p.tables e below (s₁.setTop (mkF m 0 #[.val (.ref a1), .val (.ref a2), .val (.ref a3), .val (.int p4)] [])) _
    refine XS.iloadN X0.here hx rfl (hb hby d23_0) rfl ?_
    show Steps p.tables e below (s₁.setTop (mkF m 1 #[.val (.ref a1), .val (.ref a2), .val (.ref a3), .val (.int p4)] [(.int p4)])) _
    refine XS.aloadN X0.here hx rfl (hb hby d23_1) rfl rfl ?_
    show Steps p.tables e below (s₁.setTop (mkF m 2 #[.val (.ref a1), .val (.ref a2), .val (.ref a3), .val (.int p4)] [(.ref a3), (.int p4)])) _
    refine X0.arraylength hx (by rw [e0]; exact Ar_a3.1) (State.isArrayOf_alike hZ.alike Ar_a3.2.1) (g := (mkF m 2 #[.val (.ref a1), .val (.ref a2), .val (.ref a3), .val (.int p4)] [(.ref a3), (.int p4)])) rfl rfl (hb hby d23_2) _ ?_
    rw [len_of S_a3 N_a3]
    show Steps p.tables e below (s₁.setTop (mkF m 3 #[.val (.ref a1), .val (.ref a2), .val (.ref a3), .val (.int p4)] [(.int (0 : Int32)), (.int p4)])) _
    refine XS.icmpNo X0.here hx rfl (hb hby d23_3) rfl (teq hc3).2 ?_
    show Steps p.tables e below (s₁.setTop (mkF m 6 #[.val (.ref a1), .val (.ref a2), .val (.ref a3), .val (.int p4)] [])) _
    refine XS.aloadN X0.here hx rfl (hb hby d23_6) rfl rfl ?_
    show Steps p.tables e below (s₁.setTop (mkF m 7 #[.val (.ref a1), .val (.ref a2), .val (.ref a3), .val (.int p4)] [(.ref a1)])) _
    refine st5.trans ?_
    show Steps p.tables e below (T5.setTop (mkF m 10 #[.val (.ref a1), .val (.ref a2), .val (.ref a3), .val (.int p4)] [(.ref b5r)])) _
    refine XS.astoreN X5.here hx rfl (hb hby d23_10) rfl rfl (l' := #[.val (.ref a1), .val (.ref a2), .val (.ref b5r), .val (.int p4)]) rfl ?_
    show Steps p.tables e below (T5.setTop (mkF m 11 #[.val (.ref a1), .val (.ref a2), .val (.ref b5r), .val (.int p4)] [])) _
    refine XS.aloadN X5.here hx rfl (hb hby d23_11) rfl rfl ?_
    show Steps p.tables e below (T5.setTop (mkF m 12 #[.val (.ref a1), .val (.ref a2), .val (.ref b5r), .val (.int p4)] [(.ref b5r)])) _
    refine XS.iloadN X5.here hx rfl (hb hby d23_12) rfl ?_
    show Steps p.tables e below (T5.setTop (mkF m 13 #[.val (.ref a1), .val (.ref a2), .val (.ref b5r), .val (.int p4)] [(.int p4), (.ref b5r)])) _
    refine XS.aloadN X5.here hx rfl (hb hby d23_13) rfl rfl ?_
    show Steps p.tables e below (T5.setTop (mkF m 14 #[.val (.ref a1), .val (.ref a2), .val (.ref b5r), .val (.int p4)] [(.ref a2), (.int p4), (.ref b5r)])) _
    refine st6 _ ?_
    show Steps p.tables e below (T6.setTop (mkF m 15 #[.val (.ref a1), .val (.ref a2), .val (.ref b5r), .val (.int p4)] [])) _
    refine XS.aloadN X6.here hx rfl (hb hby d23_15) rfl rfl ?_
    show Steps p.tables e below (T6.setTop (mkF m 16 #[.val (.ref a1), .val (.ref a2), .val (.ref b5r), .val (.int p4)] [(.ref a1)])) _
    refine XS.iloadN X6.here hx rfl (hb hby d23_16) rfl ?_
    show Steps p.tables e below (T6.setTop (mkF m 17 #[.val (.ref a1), .val (.ref a2), .val (.ref b5r), .val (.int p4)] [(.int p4), (.ref a1)])) _
    refine XS.iconst X6.here hx rfl (hb hby d23_17) ?_
    show Steps p.tables e below (T6.setTop (mkF m 18 #[.val (.ref a1), .val (.ref a2), .val (.ref b5r), .val (.int p4)] [(.int (1 : Int32)), (.int p4), (.ref a1)])) _
    refine XS.iadd X6.here hx rfl (hb hby d23_18) rfl ?_
    show Steps p.tables e below (T6.setTop (mkF m 19 #[.val (.ref a1), .val (.ref a2), .val (.ref b5r), .val (.int p4)] [(.int (p4 + (1 : Int32))), (.ref a1)])) _
    refine st7 _ ?_
    show Steps p.tables e below (T7.setTop (mkF m 22 #[.val (.ref a1), .val (.ref a2), .val (.ref b5r), .val (.int p4)] [])) _
    exact X7.returnOut hx Bd.returns (hb hby d23_22) hr
  · show Q23F Z a1 p4 um h0 n0 _ T7.heap _
    rw [e7]
    exact ⟨rfl, N7, K7, ((E5c.wr W6).wr W7), ((Fm5.other W6 (Or.inl n_ab)).other W7 (Or.inr (slot_ne (Or.inl (hw _ (List.mem_of_getElem? (i := 29) rfl))) (Or.inl (hw _ (List.mem_of_getElem? (i := 164) rfl))) (by decide) (t := .int) (t' := .int) (by decide) (by decide)))), Fw7, b5r, _, g_b5r, ((Fe5.other W6 (Or.inl n_ab)).other W7 (Or.inr (slot_ne (Or.inl (hw _ (List.mem_of_getElem? (i := 32) rfl))) (Or.inl (hw _ (List.mem_of_getElem? (i := 164) rfl))) (by decide) (t := (.array (.object "java/lang/Object"))) (t' := .int) (by decide) (by decide)))), (Ar_b5r.same W6).other W7 (Ne.symm n_ab), (sz_set _ _ _).trans Zb5, Ob5⟩
def Q23L (Z : State) (a1 : Addr) (a3 : Addr) (p4 : Int32) (um : Value) (h0 : Heap) (n0 : Nat) (v : Option Value) (h : Heap) (L : List Loc) : Prop := v = none ∧ Fr n0 L ∧ Keep h0 h [a3, a1] ∧ Exa Z h a1 "java/util/ArrayList" ∧ Fld Z h a1 "java/util/AbstractList" "modCount" "I" um ∧ Fld Z h a1 "java/util/ArrayList" "size" "I" (.int (p4 + (1 : Int32))) ∧ ∃ (b : Addr) (cl : Cell), n0 ≤ b ∧ Fld Z h a1 "java/util/ArrayList" "elementData" "[Ljava/lang/Object;" (.ref b) ∧ Arr Z h b cl (.object "java/lang/Object") ∧ cl.slots.size = (10 : Int32).toNatClampNeg ∧ Ovr Z cl.cls "java/lang/Object"
set_option maxRecDepth 65536 in
set_option maxHeartbeats 40000000 in
theorem rm23L (l : Launch) (Z : State) (a0 : Array Value) (hw : ∀ d ∈ tables_1, d.before a0 Z = true) (ws : List Jvm.Cond) (a1 : Addr) (a2 : Addr) (a3 : Addr) (p4 : Int32) (cl_a3 : Cell) (u_size_a1 : Value) (um : Value) (h0 : Heap) (n0 : Nat) (Z0 : n0 ≤ h0.size) (E_a1 : Exa Z h0 a1 "java/util/ArrayList") (E_a2 : Exa Z h0 a2 "com/example/stomme/stomme/diagnostic/Diagnostic") (F_modCount_a1 : Fld Z h0 a1 "java/util/AbstractList" "modCount" "I" um) (F_elementData_a1 : Fld Z h0 a1 "java/util/ArrayList" "elementData" "[Ljava/lang/Object;" (.ref a3)) (Ar_a3 : Arr Z h0 a3 cl_a3 (.object "java/lang/Object")) (S_a3 : cl_a3.slots.size = (10 : Int32).toNatClampNeg) (N_a3 : ¬ (10 : Int32) < 0) (hin14 : ¬ (p4 < 0 ∨ cl_a3.slots.size ≤ (p4).toNatClampNeg)) (g_a3 : n0 ≤ a3) (F_size_a1 : Fld Z h0 a1 "java/util/ArrayList" "size" "I" u_size_a1) (g_a1 : n0 ≤ a1) (n13 : a1 ≠ a3) (O3 : Ovr Z cl_a3.cls "java/lang/Object") (hc3 : ¬ (p4 = (10 : Int32))) :
    MetFree l (⟨"java/util/ArrayList", "add", "(Ljava/lang/Object;[Ljava/lang/Object;I)V"⟩ : MethodName) (head1 (Jvm.Cond.code (⟨"java/util/ArrayList", "add", "(Ljava/lang/Object;[Ljava/lang/Object;I)V"⟩ : MethodName) jdk_38_method_24_code 4 none :: ws) ({ frames := 0, cells := 0, slots := 0, locals := 0 } : Room)) (fun a U => a = #[(.ref a1), (.ref a2), (.ref a3), (.int p4)] ∧ Z.Warmed39 U.vm ∧ U.heap = h0) (fun _ _ _ _ _ => True) (fun _ U o U' => ∃ v L, o = .returned v ∧ Q23L Z a1 a3 p4 um h0 n0 v U'.heap L ∧ FrameEnd U o U' L ({ frames := 0, cells := 0, slots := 0, locals := 0 } : Room).cells ({ frames := 0, cells := 0, slots := 0, locals := 0 } : Room).slots) := by
  refine MetFree.of_bodySF (plainFor_of_name pn_23) hisR ?_
  intro p e s m args below meth c s₁ Bd hml0 hP hK
  obtain ⟨rfl, hZ, hh⟩ := hP
  have hx := Bd.exec
  have hby := Bd.bytes
  have hml : c.maxLocals = 4 := hml0
  have hown : s.vm.findClass "java/util/ArrayList" = some m.cls := findClass_of_methodNamed Bd.named
  have hnm := (name_of_methodNamed Bd.named Bd.method).1
  have X0 : Stand p l e ({ frames := 0, cells := 0, slots := 0, locals := 0 } : Room) s m #[(.ref a1), (.ref a2), (.ref a3), (.int p4)] below meth c s₁ [] 0 0 := Stand.of_body Bd
  have e0 : s₁.heap = h0 := by rw [← hh, Bd.state]; rfl
  have N0 := Fr.nil n0
  have pre0 : ∀ t, Steps p.tables e below (s₁.setTop (mkF m 0 #[.val (.ref a1), .val (.ref a2), .val (.ref a3), .val (.int p4)] [])) t → Steps p.tables e below (s₁.setTop (entryFrame m #[(.ref a1), (.ref a2), (.ref a3), (.int p4)] 4)) t := fun t k => castTop (ef_23 m a1 a2 a3 p4) k
  obtain ⟨T5, h5, X5, e5, W5, st5⟩ := stR X0 hx hZ e0 Ar_a3 (j := p4) hin14 rfl (Sto.of Ar_a3 O3 (Ins.of_exa E_a2 (hw _ (List.mem_of_getElem? (i := 186) rfl)))) (g := (mkF m 14 #[.val (.ref a1), .val (.ref a2), .val (.ref a3), .val (.int p4)] [(.ref a2), (.int p4), (.ref a3)])) rfl rfl (hb hby d23_14)
  have N5 := Fr.snoc X5 N0 g_a3
  have K5 : Keep h0 h5 [a3, a1] := (Keep.refl h0 [a3, a1]).wr W5 (Or.inl (List.mem_of_getElem? (i := 0) rfl))
  obtain ⟨T6, h6, X6, e6, W6, st6⟩ := putF X5 hx hZ hown (host := "") (Or.inl (hw _ (List.mem_of_getElem? (i := 163) rfl))) Via.refl e5 (F_size_a1.other W5 (Or.inl n13)) (E_a1.wr W5) (Or.inl (hw _ (List.mem_of_getElem? (i := 164) rfl))) (hw _ (List.mem_of_getElem? (i := 10) rfl)) (ty := .int) (by decide) rfl rfl (g := (mkF m 19 #[.val (.ref a1), .val (.ref a2), .val (.ref a3), .val (.int p4)] [(.int (p4 + (1 : Int32))), (.ref a1)])) rfl rfl (hb hby d23_19)
  have Fw6 := (F_size_a1.other W5 (Or.inl n13)).same W6
  have K6 : Keep h0 h6 [a3, a1] := K5.wr W6 (Or.inl (List.mem_of_getElem? (i := 1) rfl))
  have N6 := Fr.snoc X6 N5 g_a1
  obtain ⟨fs, hr, hrun, hended, hW, hsame⟩ := X6.leave (v := none) (fun _ => rfl)
  refine ⟨_, _, pre0 _ ?_, hrun, hended, _, _, rfl, ?_, ⟨_, rfl⟩, hW, hsame.mono (by decide) (by decide)⟩
  · show Steps p.tables e below (s₁.setTop (mkF m 0 #[.val (.ref a1), .val (.ref a2), .val (.ref a3), .val (.int p4)] [])) _
    refine XS.iloadN X0.here hx rfl (hb hby d23_0) rfl ?_
    show Steps p.tables e below (s₁.setTop (mkF m 1 #[.val (.ref a1), .val (.ref a2), .val (.ref a3), .val (.int p4)] [(.int p4)])) _
    refine XS.aloadN X0.here hx rfl (hb hby d23_1) rfl rfl ?_
    show Steps p.tables e below (s₁.setTop (mkF m 2 #[.val (.ref a1), .val (.ref a2), .val (.ref a3), .val (.int p4)] [(.ref a3), (.int p4)])) _
    refine X0.arraylength hx (by rw [e0]; exact Ar_a3.1) (State.isArrayOf_alike hZ.alike Ar_a3.2.1) (g := (mkF m 2 #[.val (.ref a1), .val (.ref a2), .val (.ref a3), .val (.int p4)] [(.ref a3), (.int p4)])) rfl rfl (hb hby d23_2) _ ?_
    rw [len_of S_a3 N_a3]
    show Steps p.tables e below (s₁.setTop (mkF m 3 #[.val (.ref a1), .val (.ref a2), .val (.ref a3), .val (.int p4)] [(.int (10 : Int32)), (.int p4)])) _
    refine XS.icmpYes X0.here hx rfl (pc0 := 3) (pc' := 11) rfl (hb hby d23_3) rfl (feq hc3).2 (by decide) (by decide) ?_
    show Steps p.tables e below (s₁.setTop (mkF m 11 #[.val (.ref a1), .val (.ref a2), .val (.ref a3), .val (.int p4)] [])) _
    refine XS.aloadN X0.here hx rfl (hb hby d23_11) rfl rfl ?_
    show Steps p.tables e below (s₁.setTop (mkF m 12 #[.val (.ref a1), .val (.ref a2), .val (.ref a3), .val (.int p4)] [(.ref a3)])) _
    refine XS.iloadN X0.here hx rfl (hb hby d23_12) rfl ?_
    show Steps p.tables e below (s₁.setTop (mkF m 13 #[.val (.ref a1), .val (.ref a2), .val (.ref a3), .val (.int p4)] [(.int p4), (.ref a3)])) _
    refine XS.aloadN X0.here hx rfl (hb hby d23_13) rfl rfl ?_
    show Steps p.tables e below (s₁.setTop (mkF m 14 #[.val (.ref a1), .val (.ref a2), .val (.ref a3), .val (.int p4)] [(.ref a2), (.int p4), (.ref a3)])) _
    refine st5 _ ?_
    show Steps p.tables e below (T5.setTop (mkF m 15 #[.val (.ref a1), .val (.ref a2), .val (.ref a3), .val (.int p4)] [])) _
    refine XS.aloadN X5.here hx rfl (hb hby d23_15) rfl rfl ?_
    show Steps p.tables e below (T5.setTop (mkF m 16 #[.val (.ref a1), .val (.ref a2), .val (.ref a3), .val (.int p4)] [(.ref a1)])) _
    refine XS.iloadN X5.here hx rfl (hb hby d23_16) rfl ?_
    show Steps p.tables e below (T5.setTop (mkF m 17 #[.val (.ref a1), .val (.ref a2), .val (.ref a3), .val (.int p4)] [(.int p4), (.ref a1)])) _
    refine XS.iconst X5.here hx rfl (hb hby d23_17) ?_
    show Steps p.tables e below (T5.setTop (mkF m 18 #[.val (.ref a1), .val (.ref a2), .val (.ref a3), .val (.int p4)] [(.int (1 : Int32)), (.int p4), (.ref a1)])) _
    refine XS.iadd X5.here hx rfl (hb hby d23_18) rfl ?_
    show Steps p.tables e below (T5.setTop (mkF m 19 #[.val (.ref a1), .val (.ref a2), .val (.ref a3), .val (.int p4)] [(.int (p4 + (1 : Int32))), (.ref a1)])) _
    refine st6 _ ?_
    show Steps p.tables e below (T6.setTop (mkF m 22 #[.val (.ref a1), .val (.ref a2), .val (.ref a3), .val (.int p4)] [])) _
    exact X6.returnOut hx Bd.returns (hb hby d23_22) hr
  · show Q23L Z a1 a3 p4 um h0 n0 _ T6.heap _
    rw [e6]
    exact ⟨rfl, N6, K6, ((E_a1.wr W5).wr W6), ((F_modCount_a1.other W5 (Or.inl n13)).other W6 (Or.inr (slot_ne (Or.inl (hw _ (List.mem_of_getElem? (i := 29) rfl))) (Or.inl (hw _ (List.mem_of_getElem? (i := 164) rfl))) (by decide) (t := .int) (t' := .int) (by decide) (by decide)))), Fw6, a3, _, g_a3, ((F_elementData_a1.other W5 (Or.inl n13)).other W6 (Or.inr (slot_ne (Or.inl (hw _ (List.mem_of_getElem? (i := 32) rfl))) (Or.inl (hw _ (List.mem_of_getElem? (i := 164) rfl))) (by decide) (t := (.array (.object "java/lang/Object"))) (t' := .int) (by decide) (by decide)))), (Ar_a3.same W5).other W6 (Ne.symm n13), (sz_set _ _ _).trans S_a3, O3⟩
theorem d22_0 : decode jdk_38_method_25_code 0 = .ok (.aload_n 0, 1) := by decide +kernel
theorem d22_1 : decode jdk_38_method_25_code 1 = .ok (.dup, 1) := by decide +kernel
theorem d22_2 : decode jdk_38_method_25_code 2 = .ok (.getfield 63, 3) := by decide +kernel
theorem d22_5 : decode jdk_38_method_25_code 5 = .ok (.iconst 1, 1) := by decide +kernel
theorem d22_6 : decode jdk_38_method_25_code 6 = .ok (.iadd, 1) := by decide +kernel
theorem d22_7 : decode jdk_38_method_25_code 7 = .ok (.putfield 63, 3) := by decide +kernel
theorem d22_10 : decode jdk_38_method_25_code 10 = .ok (.aload_n 0, 1) := by decide +kernel
theorem d22_11 : decode jdk_38_method_25_code 11 = .ok (.aload_n 1, 1) := by decide +kernel
theorem d22_12 : decode jdk_38_method_25_code 12 = .ok (.aload_n 0, 1) := by decide +kernel
theorem d22_13 : decode jdk_38_method_25_code 13 = .ok (.getfield 9, 3) := by decide +kernel
theorem d22_16 : decode jdk_38_method_25_code 16 = .ok (.aload_n 0, 1) := by decide +kernel
theorem d22_17 : decode jdk_38_method_25_code 17 = .ok (.getfield 48, 3) := by decide +kernel
theorem d22_20 : decode jdk_38_method_25_code 20 = .ok (.invokevirtual 131, 3) := by decide +kernel
theorem d22_23 : decode jdk_38_method_25_code 23 = .ok (.iconst 1, 1) := by decide +kernel
theorem d22_24 : decode jdk_38_method_25_code 24 = .ok (.ireturn, 1) := by decide +kernel
theorem pn_22 : plainName "java/util/ArrayList" = true := by first | (simp [plainName, overriddenIn]; done) | decide +kernel
theorem pd_22_14 : parseMethodDescriptor "(Ljava/lang/Object;[Ljava/lang/Object;I)V" = some ⟨[(.object "java/lang/Object"), (.array (.object "java/lang/Object")), .int], none⟩ := by decide +kernel
theorem ef_22 (m : MethodId) (x0 : Addr) (x1 : Addr) : entryFrame m #[(.ref x0), (.ref x1)] 2 = mkF m 0 #[.val (.ref x0), .val (.ref x1)] [] := by first | (simp [entryFrame, mkF, argsToLocals, Value.category]; done) | rfl
def Q22F (Z : State) (a1 : Addr) (h0 : Heap) (n0 : Nat) (v : Option Value) (h : Heap) (L : List Loc) : Prop := v = some (.int (1 : Int32)) ∧ Fr n0 L ∧ Keep h0 h [a1] ∧ Exa Z h a1 "java/util/ArrayList" ∧ ∃ (mc sz : Int32) (b : Addr) (cl : Cell), Fld Z h a1 "java/util/AbstractList" "modCount" "I" (.int mc) ∧ Fld Z h a1 "java/util/ArrayList" "size" "I" (.int sz) ∧ Fld Z h a1 "java/util/ArrayList" "elementData" "[Ljava/lang/Object;" (.ref b) ∧ sz = (0 : Int32) + (1 : Int32) ∧ n0 ≤ b ∧ Arr Z h b cl (.object "java/lang/Object") ∧ cl.slots.size = (10 : Int32).toNatClampNeg ∧ Ovr Z cl.cls "java/lang/Object"
set_option maxRecDepth 65536 in
set_option maxHeartbeats 40000000 in
theorem rm22F (l : Launch) (Z : State) (a0 : Array Value) (hw : ∀ d ∈ tables_1, d.before a0 Z = true) (ws : List Jvm.Cond) (a1 : Addr) (a2 : Addr) (mc : Int32) (wD : Addr) (clD : Cell) (h0 : Heap) (n0 : Nat) (Z0 : n0 ≤ h0.size) (E_a1 : Exa Z h0 a1 "java/util/ArrayList") (E_a2 : Exa Z h0 a2 "com/example/stomme/stomme/diagnostic/Diagnostic") (F_modCount_a1 : Fld Z h0 a1 "java/util/AbstractList" "modCount" "I" (.int mc)) (F_size_a1 : Fld Z h0 a1 "java/util/ArrayList" "size" "I" (.int (0 : Int32))) (F_elementData_a1 : Fld Z h0 a1 "java/util/ArrayList" "elementData" "[Ljava/lang/Object;" (.ref wD)) (g_a1 : n0 ≤ a1) (O0 : Old Z n0 h0) (S_D : Sta Z Z.heap "java/util/ArrayList" "DEFAULTCAPACITY_EMPTY_ELEMENTDATA" "[Ljava/lang/Object;" (.ref wD)) (Ar_D : Arr Z Z.heap wD clD (.object "java/lang/Object")) (Sz_D : clD.slots.size = (0 : Int32).toNatClampNeg) :
    MetFree l (⟨"java/util/ArrayList", "add", "(Ljava/lang/Object;)Z"⟩ : MethodName) (head1 (Jvm.Cond.code (⟨"java/util/ArrayList", "add", "(Ljava/lang/Object;)Z"⟩ : MethodName) jdk_38_method_25_code 2 (some .boolean) :: ws) ({ frames := 4, cells := 1, slots := 10, locals := 56 } : Room)) (fun a U => a = #[(.ref a1), (.ref a2)] ∧ Z.Warmed39 U.vm ∧ U.heap = h0) (fun _ _ _ _ _ => True) (fun _ U o U' => ∃ v L, o = .returned v ∧ Q22F Z a1 h0 n0 v U'.heap L ∧ FrameEnd U o U' L ({ frames := 4, cells := 1, slots := 10, locals := 56 } : Room).cells ({ frames := 4, cells := 1, slots := 10, locals := 56 } : Room).slots) := by
  refine MetFree.of_bodySF (plainFor_of_name pn_22) hisR ?_
  intro p e s m args below meth c s₁ Bd hml0 hP hK
  obtain ⟨rfl, hZ, hh⟩ := hP
  have hx := Bd.exec
  have hby := Bd.bytes
  have hml : c.maxLocals = 2 := hml0
  have hown : s.vm.findClass "java/util/ArrayList" = some m.cls := findClass_of_methodNamed Bd.named
  have hnm := (name_of_methodNamed Bd.named Bd.method).1
  have X0 : Stand p l e ({ frames := 4, cells := 1, slots := 10, locals := 56 } : Room) s m #[(.ref a1), (.ref a2)] below meth c s₁ [] 0 0 := Stand.of_body Bd
  have e0 : s₁.heap = h0 := by rw [← hh, Bd.state]; rfl
  have N0 := Fr.nil n0
  have pre0 : ∀ t, Steps p.tables e below (s₁.setTop (mkF m 0 #[.val (.ref a1), .val (.ref a2)] [])) t → Steps p.tables e below (s₁.setTop (entryFrame m #[(.ref a1), (.ref a2)] 2)) t := fun t k => castTop (ef_22 m a1 a2) k
  obtain ⟨T3, X3, e3, st3⟩ := getF X0 hx hZ hown (host := "") (Or.inl (hw _ (List.mem_of_getElem? (i := 161) rfl))) (Via.of (hw _ (List.mem_of_getElem? (i := 162) rfl))) e0 F_modCount_a1 (g := (mkF m 2 #[.val (.ref a1), .val (.ref a2)] [(.ref a1), (.ref a1)])) rfl rfl (hb hby d22_2)
  obtain ⟨T4, h4, X4, e4, W4, st4⟩ := putF X3 hx hZ hown (host := "") (Or.inl (hw _ (List.mem_of_getElem? (i := 161) rfl))) (Via.of (hw _ (List.mem_of_getElem? (i := 162) rfl))) e3 F_modCount_a1 E_a1 (Or.inl (hw _ (List.mem_of_getElem? (i := 29) rfl))) (hw _ (List.mem_of_getElem? (i := 10) rfl)) (ty := .int) (by decide) rfl rfl (g := (mkF m 7 #[.val (.ref a1), .val (.ref a2)] [(.int (mc + (1 : Int32))), (.ref a1)])) rfl rfl (hb hby d22_7)
  have Fw4 := F_modCount_a1.same W4
  have K4 : Keep h0 h4 [a1] := (Keep.refl h0 [a1]).wr W4 (Or.inl (List.mem_of_getElem? (i := 0) rfl))
  have N4 := Fr.snoc X4 N0 g_a1
  obtain ⟨T5, X5, e5, st5⟩ := getF X4 hx hZ hown (host := "") (Or.inl (hw _ (List.mem_of_getElem? (i := 31) rfl))) Via.refl e4 (F_elementData_a1.other W4 (Or.inr (slot_ne (Or.inl (hw _ (List.mem_of_getElem? (i := 32) rfl))) (Or.inl (hw _ (List.mem_of_getElem? (i := 29) rfl))) (by decide) (t := (.array (.object "java/lang/Object"))) (t' := .int) (by decide) (by decide)))) (g := (mkF m 13 #[.val (.ref a1), .val (.ref a2)] [(.ref a1), (.ref a2), (.ref a1)])) rfl rfl (hb hby d22_13)
  obtain ⟨T6, X6, e6, st6⟩ := getF X5 hx hZ hown (host := "") (Or.inl (hw _ (List.mem_of_getElem? (i := 163) rfl))) Via.refl e5 (F_size_a1.other W4 (Or.inr (slot_ne (Or.inl (hw _ (List.mem_of_getElem? (i := 164) rfl))) (Or.inl (hw _ (List.mem_of_getElem? (i := 29) rfl))) (by decide) (t := .int) (t' := .int) (by decide) (by decide)))) (g := (mkF m 17 #[.val (.ref a1), .val (.ref a2)] [(.ref a1), (.ref wD), (.ref a2), (.ref a1)])) rfl rfl (hb hby d22_17)
  obtain ⟨cq7, q7, q7'⟩ := (E_a1.wr W4).cell
  obtain ⟨_, _, ⟨T7, L7, k7, n7⟩, -, X7, ⟨Lc7, hQ7, l7, y7, z7⟩, st7⟩ := X6.privateBack hx (y := (⟨"java/util/ArrayList", "add", "(Ljava/lang/Object;[Ljava/lang/Object;I)V"⟩ : MethodName)) hown (mvT hZ (hw _ (List.mem_of_getElem? (i := 165) rfl))) (mvT hZ (hw _ (List.mem_of_getElem? (i := 166) rfl))) (mvT hZ (hw _ (List.mem_of_getElem? (i := 168) rfl))) (Cond.privateMethod_at (mvP hZ (hw _ (List.mem_of_getElem? (i := 167) rfl)) (args := #[]))) (mvT hZ (hw _ (List.mem_of_getElem? (i := 169) rfl))) (by decide) (backOf (W := 0) (rm23F l Z a0 hw [] a1 a2 wD (0 : Int32) clD (.int (mc + (1 : Int32))) h4 n0 (Nat.le_trans Z0 (Keep.of_wr W4).1) (E_a1.wr W4) (E_a2.wr W4) Fw4 (F_size_a1.other W4 (Or.inr (slot_ne (Or.inl (hw _ (List.mem_of_getElem? (i := 164) rfl))) (Or.inl (hw _ (List.mem_of_getElem? (i := 29) rfl))) (by decide) (t := .int) (t' := .int) (by decide) (by decide)))) (F_elementData_a1.other W4 (Or.inr (slot_ne (Or.inl (hw _ (List.mem_of_getElem? (i := 32) rfl))) (Or.inl (hw _ (List.mem_of_getElem? (i := 29) rfl))) (by decide) (t := (.array (.object "java/lang/Object"))) (t' := .int) (by decide) (by decide)))) (Ar_D.ext (O0.wr W4 g_a1).2) Sz_D (by decide) g_a1 (O0.wr W4 g_a1) S_D Ar_D rfl) hZ (hw _ (List.mem_of_getElem? (i := 169) rfl)) (hw _ (List.mem_of_getElem? (i := 11) rfl)) (by decide) (by decide)) (g := (mkF m 20 #[.val (.ref a1), .val (.ref a2)] [(.int (0 : Int32)), (.ref wD), (.ref a2), (.ref a1)])) rfl (by rw [hml]; rfl) (Steps.refl _) (a := a1) (by rw [e6]; exact q7) q7' (argsL := [(.ref a2), (.ref wD), (.int (0 : Int32))]) (rest := []) (lenOf pd_22_14 rfl) rfl (by show 2 * 0 + _ ≤ _; exact Nat.le_of_eq rfl) (hb hby d22_20) (fun _ _ => ⟨rfl, e6, (by decide : 0 + 1 ≤ _), (by decide : 0 + 10 ≤ _)⟩)
  dsimp only [Pt.U, Pt.locs, Pt.cells, Pt.slots] at X7 l7 y7 z7 st7 hQ7
  subst l7 y7 z7
  obtain ⟨rfl, N7q, K7c, E7c, Fm7, Fs7, b7r, cl7, g_b7r, Fe7, Ar_b7r, Zb7, Ob7⟩ := hQ7
  have N7 := Fr.app N4 N7q
  have K7 : Keep h0 T7.heap [a1] := K4.trans K7c (allS (Or.inl (List.mem_of_getElem? (i := 0) rfl)) all0)
  obtain ⟨fs, hr, hrun, hended, hW, hsame⟩ := X7.leave (v := some (.int (1 : Int32))) (fun h => by rw [Bd.returns] at h; cases h)
  refine ⟨_, _, pre0 _ ?_, hrun, hended, _, _, rfl, ?_, ⟨_, rfl⟩, hW, hsame.mono (by decide) (by decide)⟩
  · show Steps p.tables e below (s₁.setTop (mkF m 0 #[.val (.ref a1), .val (.ref a2)] [])) _
    refine XS.aloadN X0.here hx rfl (hb hby d22_0) rfl rfl ?_
    show Steps p.tables e below (s₁.setTop (mkF m 1 #[.val (.ref a1), .val (.ref a2)] [(.ref a1)])) _
    refine XS.dup X0.here hx rfl (hb hby d22_1) rfl rfl ?_
    show Steps p.tables e below (s₁.setTop (mkF m 2 #[.val (.ref a1), .val (.ref a2)] [(.ref a1), (.ref a1)])) _
    refine st3 _ ?_
    show Steps p.tables e below (T3.setTop (mkF m 5 #[.val (.ref a1), .val (.ref a2)] [(.int mc), (.ref a1)])) _
    refine XS.iconst X3.here hx rfl (hb hby d22_5) ?_
    show Steps p.tables e below (T3.setTop (mkF m 6 #[.val (.ref a1), .val (.ref a2)] [(.int (1 : Int32)), (.int mc), (.ref a1)])) _
    refine XS.iadd X3.here hx rfl (hb hby d22_6) rfl ?_
    show Steps p.tables e below (T3.setTop (mkF m 7 #[.val (.ref a1), .val (.ref a2)] [(.int (mc + (1 : Int32))), (.ref a1)])) _
    refine st4 _ ?_
    show Steps p.tables e below (T4.setTop (mkF m 10 #[.val (.ref a1), .val (.ref a2)] [])) _
    refine XS.aloadN X4.here hx rfl (hb hby d22_10) rfl rfl ?_
    show Steps p.tables e below (T4.setTop (mkF m 11 #[.val (.ref a1), .val (.ref a2)] [(.ref a1)])) _
    refine XS.aloadN X4.here hx rfl (hb hby d22_11) rfl rfl ?_
    show Steps p.tables e below (T4.setTop (mkF m 12 #[.val (.ref a1), .val (.ref a2)] [(.ref a2), (.ref a1)])) _
    refine XS.aloadN X4.here hx rfl (hb hby d22_12) rfl rfl ?_
    show Steps p.tables e below (T4.setTop (mkF m 13 #[.val (.ref a1), .val (.ref a2)] [(.ref a1), (.ref a2), (.ref a1)])) _
    refine st5 _ ?_
    show Steps p.tables e below (T5.setTop (mkF m 16 #[.val (.ref a1), .val (.ref a2)] [(.ref wD), (.ref a2), (.ref a1)])) _
    refine XS.aloadN X5.here hx rfl (hb hby d22_16) rfl rfl ?_
    show Steps p.tables e below (T5.setTop (mkF m 17 #[.val (.ref a1), .val (.ref a2)] [(.ref a1), (.ref wD), (.ref a2), (.ref a1)])) _
    refine st6 _ ?_
    show Steps p.tables e below (T6.setTop (mkF m 20 #[.val (.ref a1), .val (.ref a2)] [(.int (0 : Int32)), (.ref wD), (.ref a2), (.ref a1)])) _
    refine st7.trans ?_
    show Steps p.tables e below (T7.setTop (mkF m 23 #[.val (.ref a1), .val (.ref a2)] [])) _
    refine XS.iconst X7.here hx rfl (hb hby d22_23) ?_
    show Steps p.tables e below (T7.setTop (mkF m 24 #[.val (.ref a1), .val (.ref a2)] [(.int (1 : Int32))])) _
    exact retN X7 hx (t := .boolean) Bd.returns (by simp) (hb hby d22_24) hr
  · show Q22F Z a1 h0 n0 _ T7.heap _
    exact ⟨rfl, N7, K7, E7c, _, _, _, _, Fm7, Fs7, Fe7, rfl, g_b7r, Ar_b7r, Zb7, Ob7⟩
def Q22L (Z : State) (a1 : Addr) (sz : Int32) (ed : Addr) (h0 : Heap) (n0 : Nat) (v : Option Value) (h : Heap) (L : List Loc) : Prop := v = some (.int (1 : Int32)) ∧ Fr n0 L ∧ Keep h0 h [a1, ed] ∧ Exa Z h a1 "java/util/ArrayList" ∧ ∃ (mc sz' : Int32) (b : Addr) (cl : Cell), Fld Z h a1 "java/util/AbstractList" "modCount" "I" (.int mc) ∧ Fld Z h a1 "java/util/ArrayList" "size" "I" (.int sz') ∧ Fld Z h a1 "java/util/ArrayList" "elementData" "[Ljava/lang/Object;" (.ref b) ∧ sz' = sz + (1 : Int32) ∧ n0 ≤ b ∧ Arr Z h b cl (.object "java/lang/Object") ∧ cl.slots.size = (10 : Int32).toNatClampNeg ∧ Ovr Z cl.cls "java/lang/Object"
set_option maxRecDepth 65536 in
set_option maxHeartbeats 40000000 in
theorem rm22L (l : Launch) (Z : State) (a0 : Array Value) (hw : ∀ d ∈ tables_1, d.before a0 Z = true) (ws : List Jvm.Cond) (a1 : Addr) (a2 : Addr) (mc : Int32) (sz : Int32) (ed : Addr) (cl : Cell) (h0 : Heap) (n0 : Nat) (Z0 : n0 ≤ h0.size) (E_a1 : Exa Z h0 a1 "java/util/ArrayList") (E_a2 : Exa Z h0 a2 "com/example/stomme/stomme/diagnostic/Diagnostic") (F_modCount_a1 : Fld Z h0 a1 "java/util/AbstractList" "modCount" "I" (.int mc)) (F_size_a1 : Fld Z h0 a1 "java/util/ArrayList" "size" "I" (.int sz)) (F_elementData_a1 : Fld Z h0 a1 "java/util/ArrayList" "elementData" "[Ljava/lang/Object;" (.ref ed)) (Ar_ed : Arr Z h0 ed cl (.object "java/lang/Object")) (g_a1 : n0 ≤ a1) (g_ed : n0 ≤ ed) (Sz_ed : cl.slots.size = (10 : Int32).toNatClampNeg) (n13 : a1 ≠ ed) (O3 : Ovr Z cl.cls "java/lang/Object") (hin : ¬ (sz < 0 ∨ cl.slots.size ≤ sz.toNatClampNeg)) (hs10 : ¬ (sz = (10 : Int32))) :
    MetFree l (⟨"java/util/ArrayList", "add", "(Ljava/lang/Object;)Z"⟩ : MethodName) (head1 (Jvm.Cond.code (⟨"java/util/ArrayList", "add", "(Ljava/lang/Object;)Z"⟩ : MethodName) jdk_38_method_25_code 2 (some .boolean) :: ws) ({ frames := 1, cells := 0, slots := 0, locals := 15 } : Room)) (fun a U => a = #[(.ref a1), (.ref a2)] ∧ Z.Warmed39 U.vm ∧ U.heap = h0) (fun _ _ _ _ _ => True) (fun _ U o U' => ∃ v L, o = .returned v ∧ Q22L Z a1 sz ed h0 n0 v U'.heap L ∧ FrameEnd U o U' L ({ frames := 1, cells := 0, slots := 0, locals := 15 } : Room).cells ({ frames := 1, cells := 0, slots := 0, locals := 15 } : Room).slots) := by
  refine MetFree.of_bodySF (plainFor_of_name pn_22) hisR ?_
  intro p e s m args below meth c s₁ Bd hml0 hP hK
  obtain ⟨rfl, hZ, hh⟩ := hP
  have hx := Bd.exec
  have hby := Bd.bytes
  have hml : c.maxLocals = 2 := hml0
  have hown : s.vm.findClass "java/util/ArrayList" = some m.cls := findClass_of_methodNamed Bd.named
  have hnm := (name_of_methodNamed Bd.named Bd.method).1
  have X0 : Stand p l e ({ frames := 1, cells := 0, slots := 0, locals := 15 } : Room) s m #[(.ref a1), (.ref a2)] below meth c s₁ [] 0 0 := Stand.of_body Bd
  have e0 : s₁.heap = h0 := by rw [← hh, Bd.state]; rfl
  have N0 := Fr.nil n0
  have pre0 : ∀ t, Steps p.tables e below (s₁.setTop (mkF m 0 #[.val (.ref a1), .val (.ref a2)] [])) t → Steps p.tables e below (s₁.setTop (entryFrame m #[(.ref a1), (.ref a2)] 2)) t := fun t k => castTop (ef_22 m a1 a2) k
  obtain ⟨T3, X3, e3, st3⟩ := getF X0 hx hZ hown (host := "") (Or.inl (hw _ (List.mem_of_getElem? (i := 161) rfl))) (Via.of (hw _ (List.mem_of_getElem? (i := 162) rfl))) e0 F_modCount_a1 (g := (mkF m 2 #[.val (.ref a1), .val (.ref a2)] [(.ref a1), (.ref a1)])) rfl rfl (hb hby d22_2)
  obtain ⟨T4, h4, X4, e4, W4, st4⟩ := putF X3 hx hZ hown (host := "") (Or.inl (hw _ (List.mem_of_getElem? (i := 161) rfl))) (Via.of (hw _ (List.mem_of_getElem? (i := 162) rfl))) e3 F_modCount_a1 E_a1 (Or.inl (hw _ (List.mem_of_getElem? (i := 29) rfl))) (hw _ (List.mem_of_getElem? (i := 10) rfl)) (ty := .int) (by decide) rfl rfl (g := (mkF m 7 #[.val (.ref a1), .val (.ref a2)] [(.int (mc + (1 : Int32))), (.ref a1)])) rfl rfl (hb hby d22_7)
  have Fw4 := F_modCount_a1.same W4
  have K4 : Keep h0 h4 [a1, ed] := (Keep.refl h0 [a1, ed]).wr W4 (Or.inl (List.mem_of_getElem? (i := 0) rfl))
  have N4 := Fr.snoc X4 N0 g_a1
  obtain ⟨T5, X5, e5, st5⟩ := getF X4 hx hZ hown (host := "") (Or.inl (hw _ (List.mem_of_getElem? (i := 31) rfl))) Via.refl e4 (F_elementData_a1.other W4 (Or.inr (slot_ne (Or.inl (hw _ (List.mem_of_getElem? (i := 32) rfl))) (Or.inl (hw _ (List.mem_of_getElem? (i := 29) rfl))) (by decide) (t := (.array (.object "java/lang/Object"))) (t' := .int) (by decide) (by decide)))) (g := (mkF m 13 #[.val (.ref a1), .val (.ref a2)] [(.ref a1), (.ref a2), (.ref a1)])) rfl rfl (hb hby d22_13)
  obtain ⟨T6, X6, e6, st6⟩ := getF X5 hx hZ hown (host := "") (Or.inl (hw _ (List.mem_of_getElem? (i := 163) rfl))) Via.refl e5 (F_size_a1.other W4 (Or.inr (slot_ne (Or.inl (hw _ (List.mem_of_getElem? (i := 164) rfl))) (Or.inl (hw _ (List.mem_of_getElem? (i := 29) rfl))) (by decide) (t := .int) (t' := .int) (by decide) (by decide)))) (g := (mkF m 17 #[.val (.ref a1), .val (.ref a2)] [(.ref a1), (.ref ed), (.ref a2), (.ref a1)])) rfl rfl (hb hby d22_17)
  obtain ⟨cq7, q7, q7'⟩ := (E_a1.wr W4).cell
  obtain ⟨_, _, ⟨T7, L7, k7, n7⟩, -, X7, ⟨Lc7, hQ7, l7, y7, z7⟩, st7⟩ := X6.privateBack hx (y := (⟨"java/util/ArrayList", "add", "(Ljava/lang/Object;[Ljava/lang/Object;I)V"⟩ : MethodName)) hown (mvT hZ (hw _ (List.mem_of_getElem? (i := 165) rfl))) (mvT hZ (hw _ (List.mem_of_getElem? (i := 166) rfl))) (mvT hZ (hw _ (List.mem_of_getElem? (i := 168) rfl))) (Cond.privateMethod_at (mvP hZ (hw _ (List.mem_of_getElem? (i := 167) rfl)) (args := #[]))) (mvT hZ (hw _ (List.mem_of_getElem? (i := 169) rfl))) (by decide) (backOf (W := 0) (rm23L l Z a0 hw [] a1 a2 ed sz cl (.int sz) (.int (mc + (1 : Int32))) h4 n0 (Nat.le_trans Z0 (Keep.of_wr W4).1) (E_a1.wr W4) (E_a2.wr W4) Fw4 (F_elementData_a1.other W4 (Or.inr (slot_ne (Or.inl (hw _ (List.mem_of_getElem? (i := 32) rfl))) (Or.inl (hw _ (List.mem_of_getElem? (i := 29) rfl))) (by decide) (t := (.array (.object "java/lang/Object"))) (t' := .int) (by decide) (by decide)))) (Ar_ed.other W4 (Ne.symm n13)) Sz_ed (by decide) hin g_ed (F_size_a1.other W4 (Or.inr (slot_ne (Or.inl (hw _ (List.mem_of_getElem? (i := 164) rfl))) (Or.inl (hw _ (List.mem_of_getElem? (i := 29) rfl))) (by decide) (t := .int) (t' := .int) (by decide) (by decide)))) g_a1 n13 O3 hs10) hZ (hw _ (List.mem_of_getElem? (i := 169) rfl)) (hw _ (List.mem_of_getElem? (i := 11) rfl)) (by decide) (by decide)) (g := (mkF m 20 #[.val (.ref a1), .val (.ref a2)] [(.int sz), (.ref ed), (.ref a2), (.ref a1)])) rfl (by rw [hml]; rfl) (Steps.refl _) (a := a1) (by rw [e6]; exact q7) q7' (argsL := [(.ref a2), (.ref ed), (.int sz)]) (rest := []) (lenOf pd_22_14 rfl) rfl (by show 2 * 0 + _ ≤ _; exact Nat.le_of_eq rfl) (hb hby d22_20) (fun _ _ => ⟨rfl, e6, (by decide : 0 + 0 ≤ _), (by decide : 0 + 0 ≤ _)⟩)
  dsimp only [Pt.U, Pt.locs, Pt.cells, Pt.slots] at X7 l7 y7 z7 st7 hQ7
  subst l7 y7 z7
  obtain ⟨rfl, N7q, K7c, E7c, Fm7, Fs7, b7r, cl7, g_b7r, Fe7, Ar_b7r, Zb7, Ob7⟩ := hQ7
  have N7 := Fr.app N4 N7q
  have K7 : Keep h0 T7.heap [a1, ed] := K4.trans K7c (allS (Or.inl (List.mem_of_getElem? (i := 1) rfl)) (allS (Or.inl (List.mem_of_getElem? (i := 0) rfl)) all0))
  obtain ⟨fs, hr, hrun, hended, hW, hsame⟩ := X7.leave (v := some (.int (1 : Int32))) (fun h => by rw [Bd.returns] at h; cases h)
  refine ⟨_, _, pre0 _ ?_, hrun, hended, _, _, rfl, ?_, ⟨_, rfl⟩, hW, hsame.mono (by decide) (by decide)⟩
  · show Steps p.tables e below (s₁.setTop (mkF m 0 #[.val (.ref a1), .val (.ref a2)] [])) _
    refine XS.aloadN X0.here hx rfl (hb hby d22_0) rfl rfl ?_
    show Steps p.tables e below (s₁.setTop (mkF m 1 #[.val (.ref a1), .val (.ref a2)] [(.ref a1)])) _
    refine XS.dup X0.here hx rfl (hb hby d22_1) rfl rfl ?_
    show Steps p.tables e below (s₁.setTop (mkF m 2 #[.val (.ref a1), .val (.ref a2)] [(.ref a1), (.ref a1)])) _
    refine st3 _ ?_
    show Steps p.tables e below (T3.setTop (mkF m 5 #[.val (.ref a1), .val (.ref a2)] [(.int mc), (.ref a1)])) _
    refine XS.iconst X3.here hx rfl (hb hby d22_5) ?_
    show Steps p.tables e below (T3.setTop (mkF m 6 #[.val (.ref a1), .val (.ref a2)] [(.int (1 : Int32)), (.int mc), (.ref a1)])) _
    refine XS.iadd X3.here hx rfl (hb hby d22_6) rfl ?_
    show Steps p.tables e below (T3.setTop (mkF m 7 #[.val (.ref a1), .val (.ref a2)] [(.int (mc + (1 : Int32))), (.ref a1)])) _
    refine st4 _ ?_
    show Steps p.tables e below (T4.setTop (mkF m 10 #[.val (.ref a1), .val (.ref a2)] [])) _
    refine XS.aloadN X4.here hx rfl (hb hby d22_10) rfl rfl ?_
    show Steps p.tables e below (T4.setTop (mkF m 11 #[.val (.ref a1), .val (.ref a2)] [(.ref a1)])) _
    refine XS.aloadN X4.here hx rfl (hb hby d22_11) rfl rfl ?_
    show Steps p.tables e below (T4.setTop (mkF m 12 #[.val (.ref a1), .val (.ref a2)] [(.ref a2), (.ref a1)])) _
    refine XS.aloadN X4.here hx rfl (hb hby d22_12) rfl rfl ?_
    show Steps p.tables e below (T4.setTop (mkF m 13 #[.val (.ref a1), .val (.ref a2)] [(.ref a1), (.ref a2), (.ref a1)])) _
    refine st5 _ ?_
    show Steps p.tables e below (T5.setTop (mkF m 16 #[.val (.ref a1), .val (.ref a2)] [(.ref ed), (.ref a2), (.ref a1)])) _
    refine XS.aloadN X5.here hx rfl (hb hby d22_16) rfl rfl ?_
    show Steps p.tables e below (T5.setTop (mkF m 17 #[.val (.ref a1), .val (.ref a2)] [(.ref a1), (.ref ed), (.ref a2), (.ref a1)])) _
    refine st6 _ ?_
    show Steps p.tables e below (T6.setTop (mkF m 20 #[.val (.ref a1), .val (.ref a2)] [(.int sz), (.ref ed), (.ref a2), (.ref a1)])) _
    refine st7.trans ?_
    show Steps p.tables e below (T7.setTop (mkF m 23 #[.val (.ref a1), .val (.ref a2)] [])) _
    refine XS.iconst X7.here hx rfl (hb hby d22_23) ?_
    show Steps p.tables e below (T7.setTop (mkF m 24 #[.val (.ref a1), .val (.ref a2)] [(.int (1 : Int32))])) _
    exact retN X7 hx (t := .boolean) Bd.returns (by simp) (hb hby d22_24) hr
  · show Q22L Z a1 sz ed h0 n0 _ T7.heap _
    exact ⟨rfl, N7, K7, E7c, _, _, _, _, Fm7, Fs7, Fe7, rfl, g_b7r, Ar_b7r, Zb7, Ob7⟩
theorem d6_0 : decode prog_11_method_1_code 0 = .ok (.aload_n 0, 1) := by decide +kernel
theorem d6_1 : decode prog_11_method_1_code 1 = .ok (.invokespecial 1, 3) := by decide +kernel
theorem d6_4 : decode prog_11_method_1_code 4 = .ok (.aload_n 1, 1) := by decide +kernel
theorem d6_5 : decode prog_11_method_1_code 5 = .ok (.ldc 7, 2) := by decide +kernel
theorem d6_7 : decode prog_11_method_1_code 7 = .ok (.invokestatic 9, 3) := by decide +kernel
theorem d6_10 : decode prog_11_method_1_code 10 = .ok (.pop, 1) := by decide +kernel
theorem d6_11 : decode prog_11_method_1_code 11 = .ok (.iload_n 2, 1) := by decide +kernel
theorem d6_12 : decode prog_11_method_1_code 12 = .ok (.iconst 1, 1) := by decide +kernel
theorem d6_13 : decode prog_11_method_1_code 13 = .ok (.if_icmp .lt 8, 3) := by decide +kernel
theorem d6_16 : decode prog_11_method_1_code 16 = .ok (.iload_n 3, 1) := by decide +kernel
theorem d6_17 : decode prog_11_method_1_code 17 = .ok (.iconst 1, 1) := by decide +kernel
theorem d6_18 : decode prog_11_method_1_code 18 = .ok (.if_icmp .ge 18, 3) := by decide +kernel
theorem d6_36 : decode prog_11_method_1_code 36 = .ok (.aload_n 0, 1) := by decide +kernel
theorem d6_37 : decode prog_11_method_1_code 37 = .ok (.aload_n 1, 1) := by decide +kernel
theorem d6_38 : decode prog_11_method_1_code 38 = .ok (.putfield 24, 3) := by decide +kernel
theorem d6_41 : decode prog_11_method_1_code 41 = .ok (.aload_n 0, 1) := by decide +kernel
theorem d6_42 : decode prog_11_method_1_code 42 = .ok (.iload_n 2, 1) := by decide +kernel
theorem d6_43 : decode prog_11_method_1_code 43 = .ok (.putfield 29, 3) := by decide +kernel
theorem d6_46 : decode prog_11_method_1_code 46 = .ok (.aload_n 0, 1) := by decide +kernel
theorem d6_47 : decode prog_11_method_1_code 47 = .ok (.iload_n 3, 1) := by decide +kernel
theorem d6_48 : decode prog_11_method_1_code 48 = .ok (.putfield 33, 3) := by decide +kernel
theorem d6_51 : decode prog_11_method_1_code 51 = .ok (.return_, 1) := by decide +kernel
theorem pn_6 : plainName "com/example/stomme/stomme/diagnostic/Position" = true := by first | (simp [plainName, overriddenIn]; done) | decide +kernel
theorem pd_6_0 : parseMethodDescriptor "()V" = some ⟨[], none⟩ := by decide +kernel
theorem pd_6_2 : parseMethodDescriptor "(Ljava/lang/Object;Ljava/lang/String;)Ljava/lang/Object;" = some ⟨[(.object "java/lang/Object"), (.object "java/lang/String")], some (.object "java/lang/Object")⟩ := by decide +kernel
theorem ef_6 (m : MethodId) (x0 : Addr) (x1 : Addr) (x2 : Int32) (x3 : Int32) : entryFrame m #[(.ref x0), (.ref x1), (.int x2), (.int x3)] 4 = mkF m 0 #[.val (.ref x0), .val (.ref x1), .val (.int x2), .val (.int x3)] [] := by first | (simp [entryFrame, mkF, argsToLocals, Value.category]; done) | rfl
def Q6 (Z : State) (a1 : Addr) (h0 : Heap) (n0 : Nat) (v : Option Value) (h : Heap) (L : List Loc) : Prop := v = none ∧ Fr n0 L ∧ Keep h0 h [a1] ∧ Exa Z h a1 "com/example/stomme/stomme/diagnostic/Position"
set_option maxRecDepth 65536 in
set_option maxHeartbeats 40000000 in
theorem rm6 (l : Launch) (Z : State) (a0 : Array Value) (hw : ∀ d ∈ tables_1, d.before a0 Z = true) (ws : List Jvm.Cond) (a1 : Addr) (a2 : Addr) (p3 : Int32) (p4 : Int32) (u_file_a1 : Value) (u_line_a1 : Value) (u_column_a1 : Value) (hEL : EW Z a0 EL) (h0 : Heap) (n0 : Nat) (Z0 : n0 ≤ h0.size) (E_a1 : Exa Z h0 a1 "com/example/stomme/stomme/diagnostic/Position") (F_file_a1 : Fld Z h0 a1 "com/example/stomme/stomme/diagnostic/Position" "file" "Ljava/lang/String;" u_file_a1) (g_a1 : n0 ≤ a1) (F_line_a1 : Fld Z h0 a1 "com/example/stomme/stomme/diagnostic/Position" "line" "I" u_line_a1) (F_column_a1 : Fld Z h0 a1 "com/example/stomme/stomme/diagnostic/Position" "column" "I" u_column_a1) (hc13 : ¬ (p3 < (1 : Int32))) (hc18 : ¬ (p4 < (1 : Int32))) :
    MetFree l (⟨"com/example/stomme/stomme/diagnostic/Position", "<init>", "(Ljava/lang/String;II)V"⟩ : MethodName) (head1 (Jvm.Cond.code (⟨"com/example/stomme/stomme/diagnostic/Position", "<init>", "(Ljava/lang/String;II)V"⟩ : MethodName) prog_11_method_1_code 4 none :: ws) ({ frames := 2, cells := 2, slots := 20, locals := 24 } : Room)) (fun a U => a = #[(.ref a1), (.ref a2), (.int p3), (.int p4)] ∧ Z.Warmed39 U.vm ∧ U.heap = h0 ∧ CHv Z EL U.vm h0) (fun _ _ _ _ _ => True) (fun _ U o U' => ∃ v L, o = .returned v ∧ Q6 Z a1 h0 n0 v U'.heap L ∧ CHr Z EL U.vm U.heap U'.vm U'.heap ∧ ReturnedEndW U o U' L ({ frames := 2, cells := 2, slots := 20, locals := 24 } : Room).cells ({ frames := 2, cells := 2, slots := 20, locals := 24 } : Room).slots) := by
  refine MetFree.of_bodySF (plainFor_of_name pn_6) hisR ?_
  intro p e s m args below meth c s₁ Bd hml0 hP hK
  obtain ⟨rfl, hZ, hh, C0⟩ := hP
  have hx := Bd.exec
  have hby := Bd.bytes
  have hml : c.maxLocals = 4 := hml0
  have hown : s.vm.findClass "com/example/stomme/stomme/diagnostic/Position" = some m.cls := findClass_of_methodNamed Bd.named
  have hnm := (name_of_methodNamed Bd.named Bd.method).1
  have X0 : Stand p l e ({ frames := 2, cells := 2, slots := 20, locals := 24 } : Room) (s.setVm s.vm) m #[(.ref a1), (.ref a2), (.int p3), (.int p4)] below meth c s₁ [] 0 0 := Stand.of_body Bd
  have e0 : s₁.heap = h0 := by rw [← hh, Bd.state]; rfl
  have N0 := Fr.nil n0
  have hS0 := own_since s 0
  have wS := own_strs hw
  have pre0 : ∀ t, Steps p.tables e below (s₁.setTop (mkF m 0 #[.val (.ref a1), .val (.ref a2), .val (.int p3), .val (.int p4)] [])) t → Steps p.tables e below (s₁.setTop (entryFrame m #[(.ref a1), (.ref a2), (.int p3), (.int p4)] 4)) t := fun t k => castTop (ef_6 m a1 a2 p3 p4) k
  obtain ⟨_, _, ⟨T5, L5, k5, n5⟩, -, X5, ⟨Lc5, hQ5, l5, y5, z5⟩, st5⟩ := X0.specialBack hx (y := (⟨"java/lang/Record", "<init>", "()V"⟩ : MethodName)) rfl hown (mvT hZ (hw _ (List.mem_of_getElem? (i := 50) rfl))) (mvT hZ (hw _ (List.mem_of_getElem? (i := 51) rfl))) (mvT hZ (hw _ (List.mem_of_getElem? (i := 54) rfl))) (by decide) (backOf (W := 0) (rm7 l Z a0 hw [] a1  h0 n0 Z0) hZ (hw _ (List.mem_of_getElem? (i := 54) rfl)) (hw _ (List.mem_of_getElem? (i := 53) rfl)) (by decide) (by decide)) (g := (mkF m 1 #[.val (.ref a1), .val (.ref a2), .val (.int p3), .val (.int p4)] [(.ref a1)])) rfl (by rw [hml]; rfl) (Steps.refl _) (a := a1) (argsL := []) (rest := []) (lenOf pd_6_0 rfl) rfl (by show 2 * 0 + _ ≤ _; exact Nat.le_of_eq rfl) (hb hby d6_1) (fun _ _ => ⟨rfl, e0, (by decide : 0 + 0 ≤ _), (by decide : 0 + 0 ≤ _)⟩)
  dsimp only [Pt.U, Pt.locs, Pt.cells, Pt.slots] at X5 l5 y5 z5 st5 hQ5
  subst l5 y5 z5
  obtain ⟨rfl, N5q, e5c⟩ := hQ5
  have N5 := Fr.app N0 N5q
  obtain ⟨b6, T6, h6, kk6, X6, e6, E6, hS6, hk6, hZ6, hown6, RQ6, -, st6⟩ := ldcOH X5 hx hZ hown (hw _ (List.mem_of_getElem? (i := 56) rfl)) wS e5c hS0 (Nat.zero_le _) hEL C0 (g := (mkF m 5 #[.val (.ref a1), .val (.ref a2), .val (.int p3), .val (.int p4)] [(.ref a2)])) rfl (hb hby d6_5) (n := 16) (by decide) (by decide) (by decide) (by decide)
  have C6 := RQ6.1
  have R6 := (CHr.refl C0).trans RQ6
  have K6 : Keep h0 h6 [a1] := (Keep.refl h0 [a1]).ext E6
  obtain ⟨_, _, ⟨T7, L7, k7, n7⟩, -, X7, ⟨Lc7, hQ7, l7, y7, z7⟩, st7⟩ := Jvm.LawKit.callS X6 hx (y := (⟨"java/util/Objects", "requireNonNull", "(Ljava/lang/Object;Ljava/lang/String;)Ljava/lang/Object;"⟩ : MethodName)) hown6 (mvT hZ6 (hw _ (List.mem_of_getElem? (i := 57) rfl))) (mvT hZ6 (hw _ (List.mem_of_getElem? (i := 58) rfl))) (mvT hZ6 (hw _ (List.mem_of_getElem? (i := 59) rfl))) (mvT hZ6 (hw _ (List.mem_of_getElem? (i := 60) rfl))) (by decide) (backOf (W := 0) (rm8 l Z a0 hw [] a2 b6  h6 n0 (Nat.le_trans Z0 E6.1)) hZ6 (hw _ (List.mem_of_getElem? (i := 60) rfl)) (hw _ (List.mem_of_getElem? (i := 59) rfl)) (by decide) (by decide)) (g := (mkF m 7 #[.val (.ref a1), .val (.ref a2), .val (.int p3), .val (.int p4)] [(.ref b6), (.ref a2)])) rfl (by rw [hml]; rfl) (argsL := [(.ref a2), (.ref b6)]) (rest := []) (lenOf pd_6_2 rfl) rfl (by show 2 * 0 + _ ≤ _; exact Nat.le_of_eq rfl) (hb hby d6_7) (fun _ _ => ⟨rfl, e6, (by decide : 2 + 0 ≤ _), (by decide : 20 + 0 ≤ _)⟩)
  dsimp only [Pt.U, Pt.locs, Pt.cells, Pt.slots] at X7 l7 y7 z7 st7 hQ7
  subst l7 y7 z7
  obtain ⟨rfl, N7q, e7c⟩ := hQ7
  have N7 := Fr.app N5 N7q
  obtain ⟨T8, h8, X8, e8, W8, st8⟩ := putF X7 hx hZ6 hown6 (host := "") (Or.inl (hw _ (List.mem_of_getElem? (i := 61) rfl))) Via.refl e7c (F_file_a1.ext E6) (E_a1.ext E6) (Or.inr ⟨(hw _ (List.mem_of_getElem? (i := 62) rfl)), rfl, hnm⟩) (hw _ (List.mem_of_getElem? (i := 36) rfl)) (ty := (.object "java/lang/String")) (by decide) rfl rfl (g := (mkF m 38 #[.val (.ref a1), .val (.ref a2), .val (.int p3), .val (.int p4)] [(.ref a2), (.ref a1)])) rfl rfl (hb hby d6_38)
  have Fw8 := (F_file_a1.ext E6).same W8
  have C8 := CHv.wr W8 (Safe.exa hZ6.alike (E_a1.ext E6) (by decide) (by decide)) C6
  have R8 := R6.trans (CHr.wr W8 (Safe.exa hZ6.alike (E_a1.ext E6) (by decide) (by decide)) C6)
  have K8 : Keep h0 h8 [a1] := K6.wr W8 (Or.inl (List.mem_of_getElem? (i := 0) rfl))
  have N8 := Fr.snoc X8 N7 g_a1
  obtain ⟨T9, h9, X9, e9, W9, st9⟩ := putF X8 hx hZ6 hown6 (host := "") (Or.inl (hw _ (List.mem_of_getElem? (i := 63) rfl))) Via.refl e8 ((F_line_a1.ext E6).other W8 (Or.inr (slot_ne (Or.inr (hw _ (List.mem_of_getElem? (i := 64) rfl))) (Or.inr (hw _ (List.mem_of_getElem? (i := 62) rfl))) (by decide) (t := .int) (t' := (.object "java/lang/String")) (by decide) (by decide)))) ((E_a1.ext E6).wr W8) (Or.inr ⟨(hw _ (List.mem_of_getElem? (i := 64) rfl)), rfl, hnm⟩) (hw _ (List.mem_of_getElem? (i := 36) rfl)) (ty := .int) (by decide) rfl rfl (g := (mkF m 43 #[.val (.ref a1), .val (.ref a2), .val (.int p3), .val (.int p4)] [(.int p3), (.ref a1)])) rfl rfl (hb hby d6_43)
  have Fw9 := ((F_line_a1.ext E6).other W8 (Or.inr (slot_ne (Or.inr (hw _ (List.mem_of_getElem? (i := 64) rfl))) (Or.inr (hw _ (List.mem_of_getElem? (i := 62) rfl))) (by decide) (t := .int) (t' := (.object "java/lang/String")) (by decide) (by decide)))).same W9
  have C9 := CHv.wr W9 (Safe.exa hZ6.alike ((E_a1.ext E6).wr W8) (by decide) (by decide)) C8
  have R9 := R8.trans (CHr.wr W9 (Safe.exa hZ6.alike ((E_a1.ext E6).wr W8) (by decide) (by decide)) C8)
  have K9 : Keep h0 h9 [a1] := K8.wr W9 (Or.inl (List.mem_of_getElem? (i := 0) rfl))
  have N9 := Fr.snoc X9 N8 g_a1
  obtain ⟨T10, h10, X10, e10, W10, st10⟩ := putF X9 hx hZ6 hown6 (host := "") (Or.inl (hw _ (List.mem_of_getElem? (i := 65) rfl))) Via.refl e9 (((F_column_a1.ext E6).other W8 (Or.inr (slot_ne (Or.inr (hw _ (List.mem_of_getElem? (i := 66) rfl))) (Or.inr (hw _ (List.mem_of_getElem? (i := 62) rfl))) (by decide) (t := .int) (t' := (.object "java/lang/String")) (by decide) (by decide)))).other W9 (Or.inr (slot_ne (Or.inr (hw _ (List.mem_of_getElem? (i := 66) rfl))) (Or.inr (hw _ (List.mem_of_getElem? (i := 64) rfl))) (by decide) (t := .int) (t' := .int) (by decide) (by decide)))) (((E_a1.ext E6).wr W8).wr W9) (Or.inr ⟨(hw _ (List.mem_of_getElem? (i := 66) rfl)), rfl, hnm⟩) (hw _ (List.mem_of_getElem? (i := 36) rfl)) (ty := .int) (by decide) rfl rfl (g := (mkF m 48 #[.val (.ref a1), .val (.ref a2), .val (.int p3), .val (.int p4)] [(.int p4), (.ref a1)])) rfl rfl (hb hby d6_48)
  have Fw10 := (((F_column_a1.ext E6).other W8 (Or.inr (slot_ne (Or.inr (hw _ (List.mem_of_getElem? (i := 66) rfl))) (Or.inr (hw _ (List.mem_of_getElem? (i := 62) rfl))) (by decide) (t := .int) (t' := (.object "java/lang/String")) (by decide) (by decide)))).other W9 (Or.inr (slot_ne (Or.inr (hw _ (List.mem_of_getElem? (i := 66) rfl))) (Or.inr (hw _ (List.mem_of_getElem? (i := 64) rfl))) (by decide) (t := .int) (t' := .int) (by decide) (by decide)))).same W10
  have C10 := CHv.wr W10 (Safe.exa hZ6.alike (((E_a1.ext E6).wr W8).wr W9) (by decide) (by decide)) C9
  have R10 := R9.trans (CHr.wr W10 (Safe.exa hZ6.alike (((E_a1.ext E6).wr W8).wr W9) (by decide) (by decide)) C9)
  have K10 : Keep h0 h10 [a1] := K9.wr W10 (Or.inl (List.mem_of_getElem? (i := 0) rfl))
  have N10 := Fr.snoc X10 N9 g_a1
  have RZ := R10.trans (CHv.at X10 hZ6 hEL C10)
  obtain ⟨fs, hr, hrun, hended, hREW⟩ := (X10.more (cells' := ({ frames := 2, cells := 2, slots := 20, locals := 24 } : Room).cells) (slots' := ({ frames := 2, cells := 2, slots := 20, locals := 24 } : Room).slots) (by decide) (by decide)).leaveW hS6 (by rw [e10]; exact (Nat.le_trans (Nat.le_trans (Nat.le_trans hk6 (Keep.of_wr W8).1) (Keep.of_wr W9).1) (Keep.of_wr W10).1)) (v := none) (fun _ => rfl)
  refine ⟨_, _, pre0 _ ?_, hrun, hended, _, _, rfl, ?_, ?_, hREW⟩
  · show Steps p.tables e below (s₁.setTop (mkF m 0 #[.val (.ref a1), .val (.ref a2), .val (.int p3), .val (.int p4)] [])) _
    refine XS.aloadN X0.here hx rfl (hb hby d6_0) rfl rfl ?_
    show Steps p.tables e below (s₁.setTop (mkF m 1 #[.val (.ref a1), .val (.ref a2), .val (.int p3), .val (.int p4)] [(.ref a1)])) _
    refine st5.trans ?_
    show Steps p.tables e below (T5.setTop (mkF m 4 #[.val (.ref a1), .val (.ref a2), .val (.int p3), .val (.int p4)] [])) _
    refine XS.aloadN X5.here hx rfl (hb hby d6_4) rfl rfl ?_
    show Steps p.tables e below (T5.setTop (mkF m 5 #[.val (.ref a1), .val (.ref a2), .val (.int p3), .val (.int p4)] [(.ref a2)])) _
    refine st6 _ ?_
    show Steps p.tables e below (T6.setTop (mkF m 7 #[.val (.ref a1), .val (.ref a2), .val (.int p3), .val (.int p4)] [(.ref b6), (.ref a2)])) _
    refine st7 _ ?_
    show Steps p.tables e below (T7.setTop (mkF m 10 #[.val (.ref a1), .val (.ref a2), .val (.int p3), .val (.int p4)] [(.ref a2)])) _
    refine XS.pop X7.here hx rfl (hb hby d6_10) rfl rfl ?_
    show Steps p.tables e below (T7.setTop (mkF m 11 #[.val (.ref a1), .val (.ref a2), .val (.int p3), .val (.int p4)] [])) _
    refine XS.iloadN X7.here hx rfl (hb hby d6_11) rfl ?_
    show Steps p.tables e below (T7.setTop (mkF m 12 #[.val (.ref a1), .val (.ref a2), .val (.int p3), .val (.int p4)] [(.int p3)])) _
    refine XS.iconst X7.here hx rfl (hb hby d6_12) ?_
    show Steps p.tables e below (T7.setTop (mkF m 13 #[.val (.ref a1), .val (.ref a2), .val (.int p3), .val (.int p4)] [(.int (1 : Int32)), (.int p3)])) _
    refine XS.icmpNo X7.here hx rfl (hb hby d6_13) rfl (flt hc13).1 ?_
    show Steps p.tables e below (T7.setTop (mkF m 16 #[.val (.ref a1), .val (.ref a2), .val (.int p3), .val (.int p4)] [])) _
    refine XS.iloadN X7.here hx rfl (hb hby d6_16) rfl ?_
    show Steps p.tables e below (T7.setTop (mkF m 17 #[.val (.ref a1), .val (.ref a2), .val (.int p3), .val (.int p4)] [(.int p4)])) _
    refine XS.iconst X7.here hx rfl (hb hby d6_17) ?_
    show Steps p.tables e below (T7.setTop (mkF m 18 #[.val (.ref a1), .val (.ref a2), .val (.int p3), .val (.int p4)] [(.int (1 : Int32)), (.int p4)])) _
    refine XS.icmpYes X7.here hx rfl (pc0 := 18) (pc' := 36) rfl (hb hby d6_18) rfl (flt hc18).2.1 (by decide) (by decide) ?_
    show Steps p.tables e below (T7.setTop (mkF m 36 #[.val (.ref a1), .val (.ref a2), .val (.int p3), .val (.int p4)] [])) _
    refine XS.aloadN X7.here hx rfl (hb hby d6_36) rfl rfl ?_
    show Steps p.tables e below (T7.setTop (mkF m 37 #[.val (.ref a1), .val (.ref a2), .val (.int p3), .val (.int p4)] [(.ref a1)])) _
    refine XS.aloadN X7.here hx rfl (hb hby d6_37) rfl rfl ?_
    show Steps p.tables e below (T7.setTop (mkF m 38 #[.val (.ref a1), .val (.ref a2), .val (.int p3), .val (.int p4)] [(.ref a2), (.ref a1)])) _
    refine st8 _ ?_
    show Steps p.tables e below (T8.setTop (mkF m 41 #[.val (.ref a1), .val (.ref a2), .val (.int p3), .val (.int p4)] [])) _
    refine XS.aloadN X8.here hx rfl (hb hby d6_41) rfl rfl ?_
    show Steps p.tables e below (T8.setTop (mkF m 42 #[.val (.ref a1), .val (.ref a2), .val (.int p3), .val (.int p4)] [(.ref a1)])) _
    refine XS.iloadN X8.here hx rfl (hb hby d6_42) rfl ?_
    show Steps p.tables e below (T8.setTop (mkF m 43 #[.val (.ref a1), .val (.ref a2), .val (.int p3), .val (.int p4)] [(.int p3), (.ref a1)])) _
    refine st9 _ ?_
    show Steps p.tables e below (T9.setTop (mkF m 46 #[.val (.ref a1), .val (.ref a2), .val (.int p3), .val (.int p4)] [])) _
    refine XS.aloadN X9.here hx rfl (hb hby d6_46) rfl rfl ?_
    show Steps p.tables e below (T9.setTop (mkF m 47 #[.val (.ref a1), .val (.ref a2), .val (.int p3), .val (.int p4)] [(.ref a1)])) _
    refine XS.iloadN X9.here hx rfl (hb hby d6_47) rfl ?_
    show Steps p.tables e below (T9.setTop (mkF m 48 #[.val (.ref a1), .val (.ref a2), .val (.int p3), .val (.int p4)] [(.int p4), (.ref a1)])) _
    refine st10 _ ?_
    show Steps p.tables e below (T10.setTop (mkF m 51 #[.val (.ref a1), .val (.ref a2), .val (.int p3), .val (.int p4)] [])) _
    exact X10.returnOut hx Bd.returns (hb hby d6_51) hr
  · show Q6 Z a1 h0 n0 _ T10.heap _
    rw [e10]
    exact ⟨rfl, N10, K10, ((((E_a1.ext E6).wr W8).wr W9).wr W10)⟩
  · show CHr Z EL s.vm s.heap T10.vm T10.heap
    rw [hh, e10]
    exact RZ
theorem d12_0 : decode prog_7_method_1_code 0 = .ok (.aload_n 0, 1) := by decide +kernel
theorem d12_1 : decode prog_7_method_1_code 1 = .ok (.invokespecial 1, 3) := by decide +kernel
theorem d12_4 : decode prog_7_method_1_code 4 = .ok (.aload_n 1, 1) := by decide +kernel
theorem d12_5 : decode prog_7_method_1_code 5 = .ok (.ldc 7, 2) := by decide +kernel
theorem d12_7 : decode prog_7_method_1_code 7 = .ok (.invokestatic 9, 3) := by decide +kernel
theorem d12_10 : decode prog_7_method_1_code 10 = .ok (.pop, 1) := by decide +kernel
theorem d12_11 : decode prog_7_method_1_code 11 = .ok (.aload_n 2, 1) := by decide +kernel
theorem d12_12 : decode prog_7_method_1_code 12 = .ok (.ldc 15, 2) := by decide +kernel
theorem d12_14 : decode prog_7_method_1_code 14 = .ok (.invokestatic 9, 3) := by decide +kernel
theorem d12_17 : decode prog_7_method_1_code 17 = .ok (.pop, 1) := by decide +kernel
theorem d12_18 : decode prog_7_method_1_code 18 = .ok (.aload_n 3, 1) := by decide +kernel
theorem d12_19 : decode prog_7_method_1_code 19 = .ok (.ldc 17, 2) := by decide +kernel
theorem d12_21 : decode prog_7_method_1_code 21 = .ok (.invokestatic 9, 3) := by decide +kernel
theorem d12_24 : decode prog_7_method_1_code 24 = .ok (.pop, 1) := by decide +kernel
theorem d12_25 : decode prog_7_method_1_code 25 = .ok (.aload_n 3, 1) := by decide +kernel
theorem d12_26 : decode prog_7_method_1_code 26 = .ok (.invokevirtual 19, 3) := by decide +kernel
theorem d12_29 : decode prog_7_method_1_code 29 = .ok (.ifCond .eq 13, 3) := by decide +kernel
theorem d12_42 : decode prog_7_method_1_code 42 = .ok (.aload_n 0, 1) := by decide +kernel
theorem d12_43 : decode prog_7_method_1_code 43 = .ok (.aload_n 1, 1) := by decide +kernel
theorem d12_44 : decode prog_7_method_1_code 44 = .ok (.putfield 32, 3) := by decide +kernel
theorem d12_47 : decode prog_7_method_1_code 47 = .ok (.aload_n 0, 1) := by decide +kernel
theorem d12_48 : decode prog_7_method_1_code 48 = .ok (.aload_n 2, 1) := by decide +kernel
theorem d12_49 : decode prog_7_method_1_code 49 = .ok (.putfield 37, 3) := by decide +kernel
theorem d12_52 : decode prog_7_method_1_code 52 = .ok (.aload_n 0, 1) := by decide +kernel
theorem d12_53 : decode prog_7_method_1_code 53 = .ok (.aload_n 3, 1) := by decide +kernel
theorem d12_54 : decode prog_7_method_1_code 54 = .ok (.putfield 40, 3) := by decide +kernel
theorem d12_57 : decode prog_7_method_1_code 57 = .ok (.return_, 1) := by decide +kernel
theorem pn_12 : plainName "com/example/stomme/stomme/diagnostic/Diagnostic" = true := by first | (simp [plainName, overriddenIn]; done) | decide +kernel
theorem pd_12_0 : parseMethodDescriptor "()V" = some ⟨[], none⟩ := by decide +kernel
theorem pd_12_2 : parseMethodDescriptor "(Ljava/lang/Object;Ljava/lang/String;)Ljava/lang/Object;" = some ⟨[(.object "java/lang/Object"), (.object "java/lang/String")], some (.object "java/lang/Object")⟩ := by decide +kernel
theorem pd_12_3 : parseMethodDescriptor "()Z" = some ⟨[], some .boolean⟩ := by decide +kernel
theorem ef_12 (m : MethodId) (x0 : Addr) (x1 : Addr) (x2 : Addr) (x3 : Addr) : entryFrame m #[(.ref x0), (.ref x1), (.ref x2), (.ref x3)] 4 = mkF m 0 #[.val (.ref x0), .val (.ref x1), .val (.ref x2), .val (.ref x3)] [] := by first | (simp [entryFrame, mkF, argsToLocals, Value.category]; done) | rfl
def Q12 (Z : State) (a1 : Addr) (h0 : Heap) (n0 : Nat) (v : Option Value) (h : Heap) (L : List Loc) : Prop := v = none ∧ Fr n0 L ∧ Keep h0 h [a1] ∧ Exa Z h a1 "com/example/stomme/stomme/diagnostic/Diagnostic"
set_option maxRecDepth 65536 in
set_option maxHeartbeats 40000000 in
theorem rm12 (l : Launch) (Z : State) (a0 : Array Value) (hw : ∀ d ∈ tables_1, d.before a0 Z = true) (ws : List Jvm.Cond) (a1 : Addr) (a2 : Addr) (a3 : Addr) (a4 : Addr) (u_severity_a1 : Value) (u_position_a1 : Value) (u_message_a1 : Value) (wA : Addr) (pv : Int32) (clA : Cell) (wC : Int32) (wI : Addr) (bb : Addr) (cl : Cell) (hEL : EW Z a0 EL) (h0 : Heap) (n0 : Nat) (Z0 : n0 ≤ h0.size) (E_a1 : Exa Z h0 a1 "com/example/stomme/stomme/diagnostic/Diagnostic") (E_a4 : Exa Z h0 a4 "java/lang/String") (F_coder_a4 : Fld Z h0 a4 "java/lang/String" "coder" "B" (.int (0 : Int32))) (F_value_a4 : Fld Z h0 a4 "java/lang/String" "value" "[B" (.ref bb)) (Ar_bb : Arr Z h0 bb cl .byte) (F_severity_a1 : Fld Z h0 a1 "com/example/stomme/stomme/diagnostic/Diagnostic" "severity" "Lcom/example/stomme/stomme/diagnostic/Diagnostic$Severity;" u_severity_a1) (g_a1 : n0 ≤ a1) (F_position_a1 : Fld Z h0 a1 "com/example/stomme/stomme/diagnostic/Diagnostic" "position" "Lcom/example/stomme/stomme/diagnostic/Position;" u_position_a1) (F_message_a1 : Fld Z h0 a1 "com/example/stomme/stomme/diagnostic/Diagnostic" "message" "Ljava/lang/String;" u_message_a1) (O0 : Old Z n0 h0) (S_A : Sta Z Z.heap "java/lang/CharacterDataLatin1" "A" "[I" (.ref wA)) (Ar_A : Arr Z Z.heap wA clA .int) (hinA : ¬ (((109 : Int32).toUInt32.toUInt16.toUInt32.toInt32) < 0 ∨ clA.slots.size ≤ ((109 : Int32).toUInt32.toUInt16.toUInt32.toInt32).toNatClampNeg)) (hatA : clA.slots[((109 : Int32).toUInt32.toUInt16.toUInt32.toInt32).toNatClampNeg]? = some (.int pv)) (S_C : Sta Z Z.heap "java/lang/String" "COMPACT_STRINGS" "Z" (.int wC)) (hC : ¬ (wC = (0 : Int32))) (S_I : Sta Z Z.heap "java/lang/CharacterDataLatin1" "instance" "Ljava/lang/CharacterDataLatin1;" (.ref wI)) (E_I : Exa Z Z.heap wI "java/lang/CharacterDataLatin1") (hpv : ¬ ((pv &&& (28672 : Int32)) = (16384 : Int32))) (Sz_b : cl.slots.size = (1 : Int32).toNatClampNeg) (hat0 : cl.slots[(0 : Int32).toNatClampNeg]? = some (.int (109 : Int32))) :
    MetFree l (⟨"com/example/stomme/stomme/diagnostic/Diagnostic", "<init>", "(Lcom/example/stomme/stomme/diagnostic/Diagnostic$Severity;Lcom/example/stomme/stomme/diagnostic/Position;Ljava/lang/String;)V"⟩ : MethodName) (head1 (Jvm.Cond.code (⟨"com/example/stomme/stomme/diagnostic/Diagnostic", "<init>", "(Lcom/example/stomme/stomme/diagnostic/Diagnostic$Severity;Lcom/example/stomme/stomme/diagnostic/Position;Ljava/lang/String;)V"⟩ : MethodName) prog_7_method_1_code 4 none :: ws) ({ frames := 5, cells := 6, slots := 104, locals := 68 } : Room)) (fun a U => a = #[(.ref a1), (.ref a2), (.ref a3), (.ref a4)] ∧ Z.Warmed39 U.vm ∧ U.heap = h0 ∧ CHv Z EL U.vm h0) (fun _ _ _ _ _ => True) (fun _ U o U' => ∃ v L, o = .returned v ∧ Q12 Z a1 h0 n0 v U'.heap L ∧ CHr Z EL U.vm U.heap U'.vm U'.heap ∧ ReturnedEndW U o U' L ({ frames := 5, cells := 6, slots := 104, locals := 68 } : Room).cells ({ frames := 5, cells := 6, slots := 104, locals := 68 } : Room).slots) := by
  refine MetFree.of_bodySF (plainFor_of_name pn_12) hisR ?_
  intro p e s m args below meth c s₁ Bd hml0 hP hK
  obtain ⟨rfl, hZ, hh, C0⟩ := hP
  have hx := Bd.exec
  have hby := Bd.bytes
  have hml : c.maxLocals = 4 := hml0
  have hown : s.vm.findClass "com/example/stomme/stomme/diagnostic/Diagnostic" = some m.cls := findClass_of_methodNamed Bd.named
  have hnm := (name_of_methodNamed Bd.named Bd.method).1
  have X0 : Stand p l e ({ frames := 5, cells := 6, slots := 104, locals := 68 } : Room) (s.setVm s.vm) m #[(.ref a1), (.ref a2), (.ref a3), (.ref a4)] below meth c s₁ [] 0 0 := Stand.of_body Bd
  have e0 : s₁.heap = h0 := by rw [← hh, Bd.state]; rfl
  have N0 := Fr.nil n0
  have hS0 := own_since s 0
  have wS := own_strs hw
  have pre0 : ∀ t, Steps p.tables e below (s₁.setTop (mkF m 0 #[.val (.ref a1), .val (.ref a2), .val (.ref a3), .val (.ref a4)] [])) t → Steps p.tables e below (s₁.setTop (entryFrame m #[(.ref a1), (.ref a2), (.ref a3), (.ref a4)] 4)) t := fun t k => castTop (ef_12 m a1 a2 a3 a4) k
  obtain ⟨_, _, ⟨T5, L5, k5, n5⟩, -, X5, ⟨Lc5, hQ5, l5, y5, z5⟩, st5⟩ := X0.specialBack hx (y := (⟨"java/lang/Record", "<init>", "()V"⟩ : MethodName)) rfl hown (mvT hZ (hw _ (List.mem_of_getElem? (i := 93) rfl))) (mvT hZ (hw _ (List.mem_of_getElem? (i := 51) rfl))) (mvT hZ (hw _ (List.mem_of_getElem? (i := 54) rfl))) (by decide) (backOf (W := 0) (rm7 l Z a0 hw [] a1  h0 n0 Z0) hZ (hw _ (List.mem_of_getElem? (i := 54) rfl)) (hw _ (List.mem_of_getElem? (i := 53) rfl)) (by decide) (by decide)) (g := (mkF m 1 #[.val (.ref a1), .val (.ref a2), .val (.ref a3), .val (.ref a4)] [(.ref a1)])) rfl (by rw [hml]; rfl) (Steps.refl _) (a := a1) (argsL := []) (rest := []) (lenOf pd_12_0 rfl) rfl (by show 2 * 0 + _ ≤ _; exact Nat.le_of_eq rfl) (hb hby d12_1) (fun _ _ => ⟨rfl, e0, (by decide : 0 + 0 ≤ _), (by decide : 0 + 0 ≤ _)⟩)
  dsimp only [Pt.U, Pt.locs, Pt.cells, Pt.slots] at X5 l5 y5 z5 st5 hQ5
  subst l5 y5 z5
  obtain ⟨rfl, N5q, e5c⟩ := hQ5
  have N5 := Fr.app N0 N5q
  obtain ⟨b6, T6, h6, kk6, X6, e6, E6, hS6, hk6, hZ6, hown6, RQ6, -, st6⟩ := ldcOH X5 hx hZ hown (hw _ (List.mem_of_getElem? (i := 94) rfl)) wS e5c hS0 (Nat.zero_le _) hEL C0 (g := (mkF m 5 #[.val (.ref a1), .val (.ref a2), .val (.ref a3), .val (.ref a4)] [(.ref a2)])) rfl (hb hby d12_5) (n := 32) (by decide) (by decide) (by decide) (by decide)
  have C6 := RQ6.1
  have R6 := (CHr.refl C0).trans RQ6
  have K6 : Keep h0 h6 [a1] := (Keep.refl h0 [a1]).ext E6
  obtain ⟨_, _, ⟨T7, L7, k7, n7⟩, -, X7, ⟨Lc7, hQ7, l7, y7, z7⟩, st7⟩ := Jvm.LawKit.callS X6 hx (y := (⟨"java/util/Objects", "requireNonNull", "(Ljava/lang/Object;Ljava/lang/String;)Ljava/lang/Object;"⟩ : MethodName)) hown6 (mvT hZ6 (hw _ (List.mem_of_getElem? (i := 95) rfl))) (mvT hZ6 (hw _ (List.mem_of_getElem? (i := 58) rfl))) (mvT hZ6 (hw _ (List.mem_of_getElem? (i := 59) rfl))) (mvT hZ6 (hw _ (List.mem_of_getElem? (i := 60) rfl))) (by decide) (backOf (W := 0) (rm8 l Z a0 hw [] a2 b6  h6 n0 (Nat.le_trans Z0 E6.1)) hZ6 (hw _ (List.mem_of_getElem? (i := 60) rfl)) (hw _ (List.mem_of_getElem? (i := 59) rfl)) (by decide) (by decide)) (g := (mkF m 7 #[.val (.ref a1), .val (.ref a2), .val (.ref a3), .val (.ref a4)] [(.ref b6), (.ref a2)])) rfl (by rw [hml]; rfl) (argsL := [(.ref a2), (.ref b6)]) (rest := []) (lenOf pd_12_2 rfl) rfl (by show 2 * 0 + _ ≤ _; exact Nat.le_of_eq rfl) (hb hby d12_7) (fun _ _ => ⟨rfl, e6, (by decide : 2 + 0 ≤ _), (by decide : 36 + 0 ≤ _)⟩)
  dsimp only [Pt.U, Pt.locs, Pt.cells, Pt.slots] at X7 l7 y7 z7 st7 hQ7
  subst l7 y7 z7
  obtain ⟨rfl, N7q, e7c⟩ := hQ7
  have N7 := Fr.app N5 N7q
  obtain ⟨b8, T8, h8, kk8, X8, e8, E8, hS8, hk8, hZ8, hown8, RQ8, -, st8⟩ := ldcOH X7 hx hZ6 hown6 (hw _ (List.mem_of_getElem? (i := 96) rfl)) wS e7c hS6 hk6 hEL C6 (g := (mkF m 12 #[.val (.ref a1), .val (.ref a2), .val (.ref a3), .val (.ref a4)] [(.ref a3)])) rfl (hb hby d12_12) (n := 32) (by decide) (by decide) (by decide) (by decide)
  have C8 := RQ8.1
  have R8 := R6.trans RQ8
  have K8 : Keep h0 h8 [a1] := K6.ext E8
  obtain ⟨_, _, ⟨T9, L9, k9, n9⟩, -, X9, ⟨Lc9, hQ9, l9, y9, z9⟩, st9⟩ := Jvm.LawKit.callS X8 hx (y := (⟨"java/util/Objects", "requireNonNull", "(Ljava/lang/Object;Ljava/lang/String;)Ljava/lang/Object;"⟩ : MethodName)) hown8 (mvT hZ8 (hw _ (List.mem_of_getElem? (i := 95) rfl))) (mvT hZ8 (hw _ (List.mem_of_getElem? (i := 58) rfl))) (mvT hZ8 (hw _ (List.mem_of_getElem? (i := 59) rfl))) (mvT hZ8 (hw _ (List.mem_of_getElem? (i := 60) rfl))) (by decide) (backOf (W := 0) (rm8 l Z a0 hw [] a3 b8  h8 n0 (Nat.le_trans (Nat.le_trans Z0 E6.1) E8.1)) hZ8 (hw _ (List.mem_of_getElem? (i := 60) rfl)) (hw _ (List.mem_of_getElem? (i := 59) rfl)) (by decide) (by decide)) (g := (mkF m 14 #[.val (.ref a1), .val (.ref a2), .val (.ref a3), .val (.ref a4)] [(.ref b8), (.ref a3)])) rfl (by rw [hml]; rfl) (argsL := [(.ref a3), (.ref b8)]) (rest := []) (lenOf pd_12_2 rfl) rfl (by show 2 * 0 + _ ≤ _; exact Nat.le_of_eq rfl) (hb hby d12_14) (fun _ _ => ⟨rfl, e8, (by decide : 4 + 0 ≤ _), (by decide : 72 + 0 ≤ _)⟩)
  dsimp only [Pt.U, Pt.locs, Pt.cells, Pt.slots] at X9 l9 y9 z9 st9 hQ9
  subst l9 y9 z9
  obtain ⟨rfl, N9q, e9c⟩ := hQ9
  have N9 := Fr.app N7 N9q
  obtain ⟨b10, T10, h10, kk10, X10, e10, E10, hS10, hk10, hZ10, hown10, RQ10, -, st10⟩ := ldcOH X9 hx hZ8 hown8 (hw _ (List.mem_of_getElem? (i := 97) rfl)) wS e9c hS8 hk8 hEL C8 (g := (mkF m 19 #[.val (.ref a1), .val (.ref a2), .val (.ref a3), .val (.ref a4)] [(.ref a4)])) rfl (hb hby d12_19) (n := 28) (by decide) (by decide) (by decide) (by decide)
  have C10 := RQ10.1
  have R10 := R8.trans RQ10
  have K10 : Keep h0 h10 [a1] := K8.ext E10
  obtain ⟨_, _, ⟨T11, L11, k11, n11⟩, -, X11, ⟨Lc11, hQ11, l11, y11, z11⟩, st11⟩ := Jvm.LawKit.callS X10 hx (y := (⟨"java/util/Objects", "requireNonNull", "(Ljava/lang/Object;Ljava/lang/String;)Ljava/lang/Object;"⟩ : MethodName)) hown10 (mvT hZ10 (hw _ (List.mem_of_getElem? (i := 95) rfl))) (mvT hZ10 (hw _ (List.mem_of_getElem? (i := 58) rfl))) (mvT hZ10 (hw _ (List.mem_of_getElem? (i := 59) rfl))) (mvT hZ10 (hw _ (List.mem_of_getElem? (i := 60) rfl))) (by decide) (backOf (W := 0) (rm8 l Z a0 hw [] a4 b10  h10 n0 (Nat.le_trans (Nat.le_trans (Nat.le_trans Z0 E6.1) E8.1) E10.1)) hZ10 (hw _ (List.mem_of_getElem? (i := 60) rfl)) (hw _ (List.mem_of_getElem? (i := 59) rfl)) (by decide) (by decide)) (g := (mkF m 21 #[.val (.ref a1), .val (.ref a2), .val (.ref a3), .val (.ref a4)] [(.ref b10), (.ref a4)])) rfl (by rw [hml]; rfl) (argsL := [(.ref a4), (.ref b10)]) (rest := []) (lenOf pd_12_2 rfl) rfl (by show 2 * 0 + _ ≤ _; exact Nat.le_of_eq rfl) (hb hby d12_21) (fun _ _ => ⟨rfl, e10, (by decide : 6 + 0 ≤ _), (by decide : 104 + 0 ≤ _)⟩)
  dsimp only [Pt.U, Pt.locs, Pt.cells, Pt.slots] at X11 l11 y11 z11 st11 hQ11
  subst l11 y11 z11
  obtain ⟨rfl, N11q, e11c⟩ := hQ11
  have N11 := Fr.app N9 N11q
  obtain ⟨cq12, kq12, q12a, q12b, q12c⟩ := isOf hZ10 e11c (((E_a4.ext E6).ext E8).ext E10)
  obtain ⟨_, _, ⟨T12, L12, k12, n12⟩, -, X12, ⟨Lc12, hQ12, l12, y12, z12⟩, st12⟩ := X11.virtualBack hx (y := (⟨"java/lang/String", "isBlank", "()Z"⟩ : MethodName)) (z := (⟨"java/lang/String", "isBlank", "()Z"⟩ : MethodName)) hown10 (mvT hZ10 (hw _ (List.mem_of_getElem? (i := 98) rfl))) (mvT hZ10 (hw _ (List.mem_of_getElem? (i := 99) rfl))) (notFace_of_selects (args := #[]) (mvT hZ10 (hw _ (List.mem_of_getElem? (i := 101) rfl)))) (mvT hZ10 (hw _ (List.mem_of_getElem? (i := 101) rfl))) (mvT hZ10 (hw _ (List.mem_of_getElem? (i := 100) rfl))) (by decide) (backOf (W := 0) (rm13 l Z a0 hw [] a4 wA pv clA wC wI bb cl h10 n0 (Nat.le_trans (Nat.le_trans (Nat.le_trans Z0 E6.1) E8.1) E10.1) (((E_a4.ext E6).ext E8).ext E10) (((O0.ext E6).ext E8).ext E10) S_A Ar_A hinA hatA S_C hC S_I E_I hpv (((F_coder_a4.ext E6).ext E8).ext E10) (((F_value_a4.ext E6).ext E8).ext E10) (((Ar_bb.ext E6).ext E8).ext E10) Sz_b hat0 (by decide)) hZ10 (hw _ (List.mem_of_getElem? (i := 102) rfl)) (hw _ (List.mem_of_getElem? (i := 39) rfl)) (by decide) (by decide)) q12a q12c (g := (mkF m 26 #[.val (.ref a1), .val (.ref a2), .val (.ref a3), .val (.ref a4)] [(.ref a4)])) rfl (by rw [hml]; rfl) (Steps.refl _) (argsL := []) (rest := []) (lenOf pd_12_3 rfl) rfl (by show 2 * 0 + _ ≤ _; exact Nat.le_of_eq rfl) (hb hby d12_26) (fun _ _ => ⟨rfl, e11c, (by decide : 6 + 0 ≤ _), (by decide : 104 + 0 ≤ _)⟩)
  dsimp only [Pt.U, Pt.locs, Pt.cells, Pt.slots] at X12 l12 y12 z12 st12 hQ12
  subst l12 y12 z12
  obtain ⟨rfl, N12q, e12c⟩ := hQ12
  have N12 := Fr.app N11 N12q
  obtain ⟨T13, h13, X13, e13, W13, st13⟩ := putF X12 hx hZ10 hown10 (host := "") (Or.inl (hw _ (List.mem_of_getElem? (i := 146) rfl))) Via.refl e12c (((F_severity_a1.ext E6).ext E8).ext E10) (((E_a1.ext E6).ext E8).ext E10) (Or.inr ⟨(hw _ (List.mem_of_getElem? (i := 147) rfl)), rfl, hnm⟩) (hw _ (List.mem_of_getElem? (i := 85) rfl)) (ty := (.object "com/example/stomme/stomme/diagnostic/Diagnostic$Severity")) (by decide) rfl rfl (g := (mkF m 44 #[.val (.ref a1), .val (.ref a2), .val (.ref a3), .val (.ref a4)] [(.ref a2), (.ref a1)])) rfl rfl (hb hby d12_44)
  have Fw13 := (((F_severity_a1.ext E6).ext E8).ext E10).same W13
  have C13 := CHv.wr W13 (Safe.exa hZ10.alike (((E_a1.ext E6).ext E8).ext E10) (by decide) (by decide)) C10
  have R13 := R10.trans (CHr.wr W13 (Safe.exa hZ10.alike (((E_a1.ext E6).ext E8).ext E10) (by decide) (by decide)) C10)
  have K13 : Keep h0 h13 [a1] := K10.wr W13 (Or.inl (List.mem_of_getElem? (i := 0) rfl))
  have N13 := Fr.snoc X13 N12 g_a1
  obtain ⟨T14, h14, X14, e14, W14, st14⟩ := putF X13 hx hZ10 hown10 (host := "") (Or.inl (hw _ (List.mem_of_getElem? (i := 148) rfl))) Via.refl e13 ((((F_position_a1.ext E6).ext E8).ext E10).other W13 (Or.inr (slot_ne (Or.inr (hw _ (List.mem_of_getElem? (i := 149) rfl))) (Or.inr (hw _ (List.mem_of_getElem? (i := 147) rfl))) (by decide) (t := (.object "com/example/stomme/stomme/diagnostic/Position")) (t' := (.object "com/example/stomme/stomme/diagnostic/Diagnostic$Severity")) (by decide) (by decide)))) ((((E_a1.ext E6).ext E8).ext E10).wr W13) (Or.inr ⟨(hw _ (List.mem_of_getElem? (i := 149) rfl)), rfl, hnm⟩) (hw _ (List.mem_of_getElem? (i := 85) rfl)) (ty := (.object "com/example/stomme/stomme/diagnostic/Position")) (by decide) rfl rfl (g := (mkF m 49 #[.val (.ref a1), .val (.ref a2), .val (.ref a3), .val (.ref a4)] [(.ref a3), (.ref a1)])) rfl rfl (hb hby d12_49)
  have Fw14 := ((((F_position_a1.ext E6).ext E8).ext E10).other W13 (Or.inr (slot_ne (Or.inr (hw _ (List.mem_of_getElem? (i := 149) rfl))) (Or.inr (hw _ (List.mem_of_getElem? (i := 147) rfl))) (by decide) (t := (.object "com/example/stomme/stomme/diagnostic/Position")) (t' := (.object "com/example/stomme/stomme/diagnostic/Diagnostic$Severity")) (by decide) (by decide)))).same W14
  have C14 := CHv.wr W14 (Safe.exa hZ10.alike ((((E_a1.ext E6).ext E8).ext E10).wr W13) (by decide) (by decide)) C13
  have R14 := R13.trans (CHr.wr W14 (Safe.exa hZ10.alike ((((E_a1.ext E6).ext E8).ext E10).wr W13) (by decide) (by decide)) C13)
  have K14 : Keep h0 h14 [a1] := K13.wr W14 (Or.inl (List.mem_of_getElem? (i := 0) rfl))
  have N14 := Fr.snoc X14 N13 g_a1
  obtain ⟨T15, h15, X15, e15, W15, st15⟩ := putF X14 hx hZ10 hown10 (host := "") (Or.inl (hw _ (List.mem_of_getElem? (i := 150) rfl))) Via.refl e14 (((((F_message_a1.ext E6).ext E8).ext E10).other W13 (Or.inr (slot_ne (Or.inr (hw _ (List.mem_of_getElem? (i := 151) rfl))) (Or.inr (hw _ (List.mem_of_getElem? (i := 147) rfl))) (by decide) (t := (.object "java/lang/String")) (t' := (.object "com/example/stomme/stomme/diagnostic/Diagnostic$Severity")) (by decide) (by decide)))).other W14 (Or.inr (slot_ne (Or.inr (hw _ (List.mem_of_getElem? (i := 151) rfl))) (Or.inr (hw _ (List.mem_of_getElem? (i := 149) rfl))) (by decide) (t := (.object "java/lang/String")) (t' := (.object "com/example/stomme/stomme/diagnostic/Position")) (by decide) (by decide)))) (((((E_a1.ext E6).ext E8).ext E10).wr W13).wr W14) (Or.inr ⟨(hw _ (List.mem_of_getElem? (i := 151) rfl)), rfl, hnm⟩) (hw _ (List.mem_of_getElem? (i := 85) rfl)) (ty := (.object "java/lang/String")) (by decide) rfl rfl (g := (mkF m 54 #[.val (.ref a1), .val (.ref a2), .val (.ref a3), .val (.ref a4)] [(.ref a4), (.ref a1)])) rfl rfl (hb hby d12_54)
  have Fw15 := (((((F_message_a1.ext E6).ext E8).ext E10).other W13 (Or.inr (slot_ne (Or.inr (hw _ (List.mem_of_getElem? (i := 151) rfl))) (Or.inr (hw _ (List.mem_of_getElem? (i := 147) rfl))) (by decide) (t := (.object "java/lang/String")) (t' := (.object "com/example/stomme/stomme/diagnostic/Diagnostic$Severity")) (by decide) (by decide)))).other W14 (Or.inr (slot_ne (Or.inr (hw _ (List.mem_of_getElem? (i := 151) rfl))) (Or.inr (hw _ (List.mem_of_getElem? (i := 149) rfl))) (by decide) (t := (.object "java/lang/String")) (t' := (.object "com/example/stomme/stomme/diagnostic/Position")) (by decide) (by decide)))).same W15
  have C15 := CHv.wr W15 (Safe.exa hZ10.alike (((((E_a1.ext E6).ext E8).ext E10).wr W13).wr W14) (by decide) (by decide)) C14
  have R15 := R14.trans (CHr.wr W15 (Safe.exa hZ10.alike (((((E_a1.ext E6).ext E8).ext E10).wr W13).wr W14) (by decide) (by decide)) C14)
  have K15 : Keep h0 h15 [a1] := K14.wr W15 (Or.inl (List.mem_of_getElem? (i := 0) rfl))
  have N15 := Fr.snoc X15 N14 g_a1
  have RZ := R15.trans (CHv.at X15 hZ10 hEL C15)
  obtain ⟨fs, hr, hrun, hended, hREW⟩ := (X15.more (cells' := ({ frames := 5, cells := 6, slots := 104, locals := 68 } : Room).cells) (slots' := ({ frames := 5, cells := 6, slots := 104, locals := 68 } : Room).slots) (by decide) (by decide)).leaveW hS10 (by rw [e15]; exact (Nat.le_trans (Nat.le_trans (Nat.le_trans hk10 (Keep.of_wr W13).1) (Keep.of_wr W14).1) (Keep.of_wr W15).1)) (v := none) (fun _ => rfl)
  refine ⟨_, _, pre0 _ ?_, hrun, hended, _, _, rfl, ?_, ?_, hREW⟩
  · show Steps p.tables e below (s₁.setTop (mkF m 0 #[.val (.ref a1), .val (.ref a2), .val (.ref a3), .val (.ref a4)] [])) _
    refine XS.aloadN X0.here hx rfl (hb hby d12_0) rfl rfl ?_
    show Steps p.tables e below (s₁.setTop (mkF m 1 #[.val (.ref a1), .val (.ref a2), .val (.ref a3), .val (.ref a4)] [(.ref a1)])) _
    refine st5.trans ?_
    show Steps p.tables e below (T5.setTop (mkF m 4 #[.val (.ref a1), .val (.ref a2), .val (.ref a3), .val (.ref a4)] [])) _
    refine XS.aloadN X5.here hx rfl (hb hby d12_4) rfl rfl ?_
    show Steps p.tables e below (T5.setTop (mkF m 5 #[.val (.ref a1), .val (.ref a2), .val (.ref a3), .val (.ref a4)] [(.ref a2)])) _
    refine st6 _ ?_
    show Steps p.tables e below (T6.setTop (mkF m 7 #[.val (.ref a1), .val (.ref a2), .val (.ref a3), .val (.ref a4)] [(.ref b6), (.ref a2)])) _
    refine st7 _ ?_
    show Steps p.tables e below (T7.setTop (mkF m 10 #[.val (.ref a1), .val (.ref a2), .val (.ref a3), .val (.ref a4)] [(.ref a2)])) _
    refine XS.pop X7.here hx rfl (hb hby d12_10) rfl rfl ?_
    show Steps p.tables e below (T7.setTop (mkF m 11 #[.val (.ref a1), .val (.ref a2), .val (.ref a3), .val (.ref a4)] [])) _
    refine XS.aloadN X7.here hx rfl (hb hby d12_11) rfl rfl ?_
    show Steps p.tables e below (T7.setTop (mkF m 12 #[.val (.ref a1), .val (.ref a2), .val (.ref a3), .val (.ref a4)] [(.ref a3)])) _
    refine st8 _ ?_
    show Steps p.tables e below (T8.setTop (mkF m 14 #[.val (.ref a1), .val (.ref a2), .val (.ref a3), .val (.ref a4)] [(.ref b8), (.ref a3)])) _
    refine st9 _ ?_
    show Steps p.tables e below (T9.setTop (mkF m 17 #[.val (.ref a1), .val (.ref a2), .val (.ref a3), .val (.ref a4)] [(.ref a3)])) _
    refine XS.pop X9.here hx rfl (hb hby d12_17) rfl rfl ?_
    show Steps p.tables e below (T9.setTop (mkF m 18 #[.val (.ref a1), .val (.ref a2), .val (.ref a3), .val (.ref a4)] [])) _
    refine XS.aloadN X9.here hx rfl (hb hby d12_18) rfl rfl ?_
    show Steps p.tables e below (T9.setTop (mkF m 19 #[.val (.ref a1), .val (.ref a2), .val (.ref a3), .val (.ref a4)] [(.ref a4)])) _
    refine st10 _ ?_
    show Steps p.tables e below (T10.setTop (mkF m 21 #[.val (.ref a1), .val (.ref a2), .val (.ref a3), .val (.ref a4)] [(.ref b10), (.ref a4)])) _
    refine st11 _ ?_
    show Steps p.tables e below (T11.setTop (mkF m 24 #[.val (.ref a1), .val (.ref a2), .val (.ref a3), .val (.ref a4)] [(.ref a4)])) _
    refine XS.pop X11.here hx rfl (hb hby d12_24) rfl rfl ?_
    show Steps p.tables e below (T11.setTop (mkF m 25 #[.val (.ref a1), .val (.ref a2), .val (.ref a3), .val (.ref a4)] [])) _
    refine XS.aloadN X11.here hx rfl (hb hby d12_25) rfl rfl ?_
    show Steps p.tables e below (T11.setTop (mkF m 26 #[.val (.ref a1), .val (.ref a2), .val (.ref a3), .val (.ref a4)] [(.ref a4)])) _
    refine st12.trans ?_
    show Steps p.tables e below (T12.setTop (mkF m 29 #[.val (.ref a1), .val (.ref a2), .val (.ref a3), .val (.ref a4)] [(.int (0 : Int32))])) _
    refine XS.ifYes X12.here hx rfl (pc0 := 29) (pc' := 42) rfl (hb hby d12_29) rfl ((if0 _ _).trans (teq (rfl : (0 : Int32) = (0 : Int32))).1) (by decide) (by decide) ?_
    show Steps p.tables e below (T12.setTop (mkF m 42 #[.val (.ref a1), .val (.ref a2), .val (.ref a3), .val (.ref a4)] [])) _
    refine XS.aloadN X12.here hx rfl (hb hby d12_42) rfl rfl ?_
    show Steps p.tables e below (T12.setTop (mkF m 43 #[.val (.ref a1), .val (.ref a2), .val (.ref a3), .val (.ref a4)] [(.ref a1)])) _
    refine XS.aloadN X12.here hx rfl (hb hby d12_43) rfl rfl ?_
    show Steps p.tables e below (T12.setTop (mkF m 44 #[.val (.ref a1), .val (.ref a2), .val (.ref a3), .val (.ref a4)] [(.ref a2), (.ref a1)])) _
    refine st13 _ ?_
    show Steps p.tables e below (T13.setTop (mkF m 47 #[.val (.ref a1), .val (.ref a2), .val (.ref a3), .val (.ref a4)] [])) _
    refine XS.aloadN X13.here hx rfl (hb hby d12_47) rfl rfl ?_
    show Steps p.tables e below (T13.setTop (mkF m 48 #[.val (.ref a1), .val (.ref a2), .val (.ref a3), .val (.ref a4)] [(.ref a1)])) _
    refine XS.aloadN X13.here hx rfl (hb hby d12_48) rfl rfl ?_
    show Steps p.tables e below (T13.setTop (mkF m 49 #[.val (.ref a1), .val (.ref a2), .val (.ref a3), .val (.ref a4)] [(.ref a3), (.ref a1)])) _
    refine st14 _ ?_
    show Steps p.tables e below (T14.setTop (mkF m 52 #[.val (.ref a1), .val (.ref a2), .val (.ref a3), .val (.ref a4)] [])) _
    refine XS.aloadN X14.here hx rfl (hb hby d12_52) rfl rfl ?_
    show Steps p.tables e below (T14.setTop (mkF m 53 #[.val (.ref a1), .val (.ref a2), .val (.ref a3), .val (.ref a4)] [(.ref a1)])) _
    refine XS.aloadN X14.here hx rfl (hb hby d12_53) rfl rfl ?_
    show Steps p.tables e below (T14.setTop (mkF m 54 #[.val (.ref a1), .val (.ref a2), .val (.ref a3), .val (.ref a4)] [(.ref a4), (.ref a1)])) _
    refine st15 _ ?_
    show Steps p.tables e below (T15.setTop (mkF m 57 #[.val (.ref a1), .val (.ref a2), .val (.ref a3), .val (.ref a4)] [])) _
    exact X15.returnOut hx Bd.returns (hb hby d12_57) hr
  · show Q12 Z a1 h0 n0 _ T15.heap _
    rw [e15]
    exact ⟨rfl, N15, K15, ((((((E_a1.ext E6).ext E8).ext E10).wr W13).wr W14).wr W15)⟩
  · show CHr Z EL s.vm s.heap T15.vm T15.heap
    rw [hh, e15]
    exact RZ
def LstA (Z : State) (h : Heap) (al wD : Addr) : Prop := ∃ mc : Int32, Fld Z h al "java/util/AbstractList" "modCount" "I" (.int mc) ∧ Fld Z h al "java/util/ArrayList" "size" "I" (.int (0 : Int32)) ∧ Fld Z h al "java/util/ArrayList" "elementData" "[Ljava/lang/Object;" (.ref wD)
def LstB (Z : State) (h : Heap) (n0 : Nat) (al : Addr) (k : Nat) : Prop := ∃ (mc sz : Int32) (b : Addr) (cl : Cell), Fld Z h al "java/util/AbstractList" "modCount" "I" (.int mc) ∧ Fld Z h al "java/util/ArrayList" "size" "I" (.int sz) ∧ Fld Z h al "java/util/ArrayList" "elementData" "[Ljava/lang/Object;" (.ref b) ∧ (0 ≤ sz.toInt ∧ sz.toInt ≤ (k : Int)) ∧ n0 ≤ b ∧ Arr Z h b cl (.object "java/lang/Object") ∧ cl.slots.size = (10 : Int32).toNatClampNeg ∧ Ovr Z cl.cls "java/lang/Object"
def Dg (Z : State) (h : Heap) (n0 : Nat) (wD d al : Addr) (e : Int32) (k : Nat) : Prop := Exa Z h d "com/example/stomme/stomme/diagnostic/Diagnostics" ∧ Fld Z h d "com/example/stomme/stomme/diagnostic/Diagnostics" "reported" "Ljava/util/List;" (.ref al) ∧ Fld Z h d "com/example/stomme/stomme/diagnostic/Diagnostics" "errors" "I" (.int e) ∧ Exa Z h al "java/util/ArrayList" ∧ n0 ≤ d ∧ n0 ≤ al ∧ (LstA Z h al wD ∨ LstB Z h n0 al k)
theorem own_sz1 {sz : Int32} (h : sz = (0 : Int32) + (1 : Int32)) (k : Nat) : 0 ≤ sz.toInt ∧ sz.toInt ≤ ((k + 1 : Nat) : Int) := by
  have e : sz.toInt = 1 := by rw [h]; decide
  omega
theorem own_szS {sz sz' : Int32} {k : Nat} (h : sz' = sz + (1 : Int32)) (b : 0 ≤ sz.toInt ∧ sz.toInt ≤ (k : Int)) (hk : k ≤ 5) : 0 ≤ sz'.toInt ∧ sz'.toInt ≤ ((k + 1 : Nat) : Int) := by
  have a := c_iadd sz (1 : Int32)
  have r := rng32 (sz + (1 : Int32))
  have z1 : (1 : Int32).toInt = 1 := by decide
  rw [h]; omega
theorem own_szin {sz : Int32} {cl : Cell} {k : Nat} (S : cl.slots.size = (10 : Int32).toNatClampNeg) (b : 0 ≤ sz.toInt ∧ sz.toInt ≤ (k : Int)) (hk : k ≤ 5) : ¬ (sz < 0 ∨ cl.slots.size ≤ sz.toNatClampNeg) ∧ ¬ (sz = (10 : Int32)) := by
  have z10 : (10 : Int32).toInt = 10 := by decide
  have z0 : (0 : Int32).toInt = 0 := by decide
  refine ⟨inb_of S ⟨by rw [Int32.lt_iff_toInt_lt]; omega, by rw [Int32.lt_iff_toInt_lt]; omega⟩, fun q => ?_⟩
  have := congrArg Int32.toInt q
  omega
theorem d11_0 : decode prog_9_method_2_code 0 = .ok (.aload_n 0, 1) := by decide +kernel
theorem d11_1 : decode prog_9_method_2_code 1 = .ok (.getfield 10, 3) := by decide +kernel
theorem d11_4 : decode prog_9_method_2_code 4 = .ok (.new 16, 3) := by decide +kernel
theorem d11_7 : decode prog_9_method_2_code 7 = .ok (.dup, 1) := by decide +kernel
theorem d11_8 : decode prog_9_method_2_code 8 = .ok (.getstatic 18, 3) := by decide +kernel
theorem d11_11 : decode prog_9_method_2_code 11 = .ok (.aload_n 1, 1) := by decide +kernel
theorem d11_12 : decode prog_9_method_2_code 12 = .ok (.aload_n 2, 1) := by decide +kernel
theorem d11_13 : decode prog_9_method_2_code 13 = .ok (.invokespecial 24, 3) := by decide +kernel
theorem d11_16 : decode prog_9_method_2_code 16 = .ok (.invokeinterface 27 2, 5) := by decide +kernel
theorem d11_21 : decode prog_9_method_2_code 21 = .ok (.pop, 1) := by decide +kernel
theorem d11_22 : decode prog_9_method_2_code 22 = .ok (.aload_n 0, 1) := by decide +kernel
theorem d11_23 : decode prog_9_method_2_code 23 = .ok (.dup, 1) := by decide +kernel
theorem d11_24 : decode prog_9_method_2_code 24 = .ok (.getfield 33, 3) := by decide +kernel
theorem d11_27 : decode prog_9_method_2_code 27 = .ok (.iconst 1, 1) := by decide +kernel
theorem d11_28 : decode prog_9_method_2_code 28 = .ok (.iadd, 1) := by decide +kernel
theorem d11_29 : decode prog_9_method_2_code 29 = .ok (.putfield 33, 3) := by decide +kernel
theorem d11_32 : decode prog_9_method_2_code 32 = .ok (.return_, 1) := by decide +kernel
theorem pn_11 : plainName "com/example/stomme/stomme/diagnostic/Diagnostics" = true := by first | (simp [plainName, overriddenIn]; done) | decide +kernel
theorem pd_11_6 : parseMethodDescriptor "(Lcom/example/stomme/stomme/diagnostic/Diagnostic$Severity;Lcom/example/stomme/stomme/diagnostic/Position;Ljava/lang/String;)V" = some ⟨[(.object "com/example/stomme/stomme/diagnostic/Diagnostic$Severity"), (.object "com/example/stomme/stomme/diagnostic/Position"), (.object "java/lang/String")], none⟩ := by decide +kernel
theorem pd_11_13 : parseMethodDescriptor "(Ljava/lang/Object;)Z" = some ⟨[(.object "java/lang/Object")], some .boolean⟩ := by decide +kernel
theorem ef_11 (m : MethodId) (x0 : Addr) (x1 : Addr) (x2 : Addr) : entryFrame m #[(.ref x0), (.ref x1), (.ref x2)] 3 = mkF m 0 #[.val (.ref x0), .val (.ref x1), .val (.ref x2)] [] := by first | (simp [entryFrame, mkF, argsToLocals, Value.category]; done) | rfl
def Q11F (Z : State) (a1 : Addr) (al : Addr) (e9 : Int32) (k : Nat) (wD : Addr) (h0 : Heap) (n0 : Nat) (v : Option Value) (h : Heap) (L : List Loc) : Prop := v = none ∧ Fr n0 L ∧ Old Z n0 h ∧ Dg Z h n0 wD a1 al (e9 + (1 : Int32)) (k + 1)
set_option maxRecDepth 65536 in
set_option maxHeartbeats 40000000 in
theorem rm11F (l : Launch) (Z : State) (a0 : Array Value) (hw : ∀ d ∈ tables_1, d.before a0 Z = true) (ws : List Jvm.Cond) (a1 : Addr) (a2 : Addr) (a3 : Addr) (w6 : Addr) (al : Addr) (e9 : Int32) (mc : Int32) (k : Nat) (wD : Addr) (clD : Cell) (wA : Addr) (pv : Int32) (clA : Cell) (wC : Int32) (wI : Addr) (bb : Addr) (cl : Cell) (hEL : EW Z a0 EL) (h0 : Heap) (n0 : Nat) (Z0 : n0 ≤ h0.size) (E_a1 : Exa Z h0 a1 "com/example/stomme/stomme/diagnostic/Diagnostics") (E_al : Exa Z h0 al "java/util/ArrayList") (E_a3 : Exa Z h0 a3 "java/lang/String") (F_reported_a1 : Fld Z h0 a1 "com/example/stomme/stomme/diagnostic/Diagnostics" "reported" "Ljava/util/List;" (.ref al)) (F_errors_a1 : Fld Z h0 a1 "com/example/stomme/stomme/diagnostic/Diagnostics" "errors" "I" (.int e9)) (F_modCount_al : Fld Z h0 al "java/util/AbstractList" "modCount" "I" (.int mc)) (F_size_al : Fld Z h0 al "java/util/ArrayList" "size" "I" (.int (0 : Int32))) (F_elementData_al : Fld Z h0 al "java/util/ArrayList" "elementData" "[Ljava/lang/Object;" (.ref wD)) (F_coder_a3 : Fld Z h0 a3 "java/lang/String" "coder" "B" (.int (0 : Int32))) (F_value_a3 : Fld Z h0 a3 "java/lang/String" "value" "[B" (.ref bb)) (Ar_bb : Arr Z h0 bb cl .byte) (O0 : Old Z n0 h0) (S_ERROR : Sta Z Z.heap "com/example/stomme/stomme/diagnostic/Diagnostic$Severity" "ERROR" "Lcom/example/stomme/stomme/diagnostic/Diagnostic$Severity;" (.ref w6)) (g_al : n0 ≤ al) (g_a1 : n0 ≤ a1) (S_A : Sta Z Z.heap "java/lang/CharacterDataLatin1" "A" "[I" (.ref wA)) (Ar_A : Arr Z Z.heap wA clA .int) (hinA : ¬ (((109 : Int32).toUInt32.toUInt16.toUInt32.toInt32) < 0 ∨ clA.slots.size ≤ ((109 : Int32).toUInt32.toUInt16.toUInt32.toInt32).toNatClampNeg)) (hatA : clA.slots[((109 : Int32).toUInt32.toUInt16.toUInt32.toInt32).toNatClampNeg]? = some (.int pv)) (S_C : Sta Z Z.heap "java/lang/String" "COMPACT_STRINGS" "Z" (.int wC)) (hC : ¬ (wC = (0 : Int32))) (S_I : Sta Z Z.heap "java/lang/CharacterDataLatin1" "instance" "Ljava/lang/CharacterDataLatin1;" (.ref wI)) (E_I : Exa Z Z.heap wI "java/lang/CharacterDataLatin1") (hpv : ¬ ((pv &&& (28672 : Int32)) = (16384 : Int32))) (Sz_b : cl.slots.size = (1 : Int32).toNatClampNeg) (hat0 : cl.slots[(0 : Int32).toNatClampNeg]? = some (.int (109 : Int32))) (S_D : Sta Z Z.heap "java/util/ArrayList" "DEFAULTCAPACITY_EMPTY_ELEMENTDATA" "[Ljava/lang/Object;" (.ref wD)) (Ar_D : Arr Z Z.heap wD clD (.object "java/lang/Object")) (Sz_D : clD.slots.size = (0 : Int32).toNatClampNeg) (n_dal : a1 ≠ al) :
    MetFree l (⟨"com/example/stomme/stomme/diagnostic/Diagnostics", "error", "(Lcom/example/stomme/stomme/diagnostic/Position;Ljava/lang/String;)V"⟩ : MethodName) (head1 (Jvm.Cond.code (⟨"com/example/stomme/stomme/diagnostic/Diagnostics", "error", "(Lcom/example/stomme/stomme/diagnostic/Position;Ljava/lang/String;)V"⟩ : MethodName) prog_9_method_2_code 3 none :: ws) ({ frames := 6, cells := 8, slots := 117, locals := 85 } : Room)) (fun a U => a = #[(.ref a1), (.ref a2), (.ref a3)] ∧ Z.Warmed39 U.vm ∧ U.heap = h0 ∧ CHv Z EL U.vm h0) (fun _ _ _ _ _ => True) (fun _ U o U' => ∃ v L, o = .returned v ∧ Q11F Z a1 al e9 k wD h0 n0 v U'.heap L ∧ CHr Z EL U.vm U.heap U'.vm U'.heap ∧ ReturnedEndW U o U' L ({ frames := 6, cells := 8, slots := 117, locals := 85 } : Room).cells ({ frames := 6, cells := 8, slots := 117, locals := 85 } : Room).slots) := by
  refine MetFree.of_bodySF (plainFor_of_name pn_11) hisR ?_
  intro p e s m args below meth c s₁ Bd hml0 hP hK
  obtain ⟨rfl, hZ, hh, C0⟩ := hP
  have hx := Bd.exec
  have hby := Bd.bytes
  have hml : c.maxLocals = 3 := hml0
  have hown : s.vm.findClass "com/example/stomme/stomme/diagnostic/Diagnostics" = some m.cls := findClass_of_methodNamed Bd.named
  have hnm := (name_of_methodNamed Bd.named Bd.method).1
  have X0 : Stand p l e ({ frames := 6, cells := 8, slots := 117, locals := 85 } : Room) (s.setVm s.vm) m #[(.ref a1), (.ref a2), (.ref a3)] below meth c s₁ [] 0 0 := Stand.of_body Bd
  have e0 : s₁.heap = h0 := by rw [← hh, Bd.state]; rfl
  have N0 := Fr.nil n0
  have hS0 := own_since s 0
  have wS := own_strs hw
  have pre0 : ∀ t, Steps p.tables e below (s₁.setTop (mkF m 0 #[.val (.ref a1), .val (.ref a2), .val (.ref a3)] [])) t → Steps p.tables e below (s₁.setTop (entryFrame m #[(.ref a1), (.ref a2), (.ref a3)] 3)) t := fun t k => castTop (ef_11 m a1 a2 a3) k
  obtain ⟨T4, X4, e4, st4⟩ := getF X0 hx hZ hown (host := "") (Or.inl (hw _ (List.mem_of_getElem? (i := 33) rfl))) Via.refl e0 F_reported_a1 (g := (mkF m 1 #[.val (.ref a1), .val (.ref a2), .val (.ref a3)] [(.ref a1)])) rfl rfl (hb hby d11_1)
  obtain ⟨T5, h5, X5, e5, E5, A5, D5, -, st5⟩ := newO X4 hx hZ hown (hw _ (List.mem_of_getElem? (i := 84) rfl)) (hw _ (List.mem_of_getElem? (i := 85) rfl)) (hw _ (List.mem_of_getElem? (i := 86) rfl)) e4 (g := (mkF m 4 #[.val (.ref a1), .val (.ref a2), .val (.ref a3)] [(.ref al)])) rfl (hb hby d11_4) (by decide) (by decide)
  obtain ⟨b5, g5⟩ : ∃ z, z = h0.size := ⟨_, rfl⟩
  rw [← g5] at A5 D5 st5
  have F_severity_b5 : Fld Z h5 b5 "com/example/stomme/stomme/diagnostic/Diagnostic" "severity" "Lcom/example/stomme/stomme/diagnostic/Diagnostic$Severity;" .null := D5 (Or.inr (hw _ (List.mem_of_getElem? (i := 147) rfl))) (ty := (.object "com/example/stomme/stomme/diagnostic/Diagnostic$Severity")) (by decide)
  have F_position_b5 : Fld Z h5 b5 "com/example/stomme/stomme/diagnostic/Diagnostic" "position" "Lcom/example/stomme/stomme/diagnostic/Position;" .null := D5 (Or.inr (hw _ (List.mem_of_getElem? (i := 149) rfl))) (ty := (.object "com/example/stomme/stomme/diagnostic/Position")) (by decide)
  have F_message_b5 : Fld Z h5 b5 "com/example/stomme/stomme/diagnostic/Diagnostic" "message" "Ljava/lang/String;" .null := D5 (Or.inr (hw _ (List.mem_of_getElem? (i := 151) rfl))) (ty := (.object "java/lang/String")) (by decide)
  have E_b5 := A5
  have g_b5 : n0 ≤ b5 := Nat.le_trans Z0 (Nat.le_of_eq g5.symm)
  have sz_b5 : h0.size ≤ b5 := (Nat.le_trans (Keep.refl h0 [al, a1]).1 (Nat.le_of_eq g5.symm))
  have C5 := CHv.ext E5 C0
  have R5 := (CHr.refl C0).trans (CHr.ext E5 C0)
  have K5 : Keep h0 h5 [al, a1] := (Keep.refl h0 [al, a1]).ext E5
  obtain ⟨T7, X7, e7, st7⟩ := getS2 X5 hx hZ hown (host := "") (Or.inl (hw _ (List.mem_of_getElem? (i := 87) rfl))) Via.refl e5 (S_ERROR.ext (O0.ext E5).2) (g := (mkF m 8 #[.val (.ref a1), .val (.ref a2), .val (.ref a3)] [(.ref b5), (.ref b5), (.ref al)])) rfl (hb hby d11_8)
  obtain ⟨_, _, ⟨T8, L8, k8, n8⟩, -, X8, hS8, gr8, ⟨Lc8, hQ8, l8, y8, z8, RQ8⟩, st8⟩ := X7.specialBackS hx (y := (⟨"com/example/stomme/stomme/diagnostic/Diagnostic", "<init>", "(Lcom/example/stomme/stomme/diagnostic/Diagnostic$Severity;Lcom/example/stomme/stomme/diagnostic/Position;Ljava/lang/String;)V"⟩ : MethodName)) rfl hown (mvT hZ (hw _ (List.mem_of_getElem? (i := 90) rfl))) (mvT hZ (hw _ (List.mem_of_getElem? (i := 91) rfl))) (mvT hZ (hw _ (List.mem_of_getElem? (i := 92) rfl))) (by decide) (backOfSH (W := 2) (rm12 l Z a0 hw [] b5 w6 a2 a3 _ _ _ wA pv clA wC wI bb cl hEL h5 n0 (Nat.le_trans Z0 E5.1) E_b5 (E_a3.ext E5) (F_coder_a3.ext E5) (F_value_a3.ext E5) (Ar_bb.ext E5) F_severity_b5 g_b5 F_position_b5 F_message_b5 (O0.ext E5) S_A Ar_A hinA hatA S_C hC S_I E_I hpv Sz_b hat0) hZ (hw _ (List.mem_of_getElem? (i := 92) rfl)) (hw _ (List.mem_of_getElem? (i := 86) rfl)) (by decide) (by decide) hEL C5) (g := (mkF m 13 #[.val (.ref a1), .val (.ref a2), .val (.ref a3)] [(.ref a3), (.ref a2), (.ref w6), (.ref b5), (.ref b5), (.ref al)])) rfl (by rw [hml]; rfl) (Steps.refl _) (a := b5) (argsL := [(.ref w6), (.ref a2), (.ref a3)]) (rest := [(.ref b5), (.ref al)]) (lenOf pd_11_6 rfl) rfl (by show 2 * 0 + _ ≤ _; exact Nat.le_of_eq rfl) (hb hby d11_13) (fun _ _ => ⟨rfl, e7, (by decide : 1 + 6 ≤ _), (by decide : 3 + 104 ≤ _)⟩)
  dsimp only [Pt.U, Pt.locs, Pt.cells, Pt.slots] at X8 hS8 gr8 l8 y8 z8 st8 hQ8 RQ8
  subst l8 y8 z8
  obtain ⟨rfl, N8q, K8c, E8c⟩ := hQ8
  have N8 := Fr.app N0 N8q
  have K8 : Keep h0 T8.heap [al, a1] := K5.trans K8c (allS (Or.inr sz_b5) all0)
  obtain ⟨X8, hS8, hZ8, hown8⟩ := rebS hS0 (by rw [e7]; exact (Nat.le_trans (Nat.zero_le _) E5.1)) X8 hS8 gr8 hZ hown
  have C8 := RQ8.1
  have R8 := R5.trans RQ8
  obtain ⟨cq9, kq9, q9a, q9b, q9c⟩ := isOf hZ8 rfl ((E_al.ext E5).keep K8c)
  obtain ⟨_, _, ⟨T9, L9, k9, n9⟩, -, X9, ⟨Lc9, hQ9, l9, y9, z9⟩, st9⟩ := X8.interfaceBack hx (xi := (⟨"java/util/List", "add", "(Ljava/lang/Object;)Z"⟩ : MethodName)) (y := (⟨"java/util/ArrayList", "add", "(Ljava/lang/Object;)Z"⟩ : MethodName)) hown8 (mvT hZ8 (hw _ (List.mem_of_getElem? (i := 152) rfl))) (mvT hZ8 (hw _ (List.mem_of_getElem? (i := 153) rfl))) (mvT hZ8 (hw _ (List.mem_of_getElem? (i := 154) rfl))) (mvT hZ8 (hw _ (List.mem_of_getElem? (i := 155) rfl))) (mvT hZ8 (hw _ (List.mem_of_getElem? (i := 156) rfl))) (mvT hZ8 (hw _ (List.mem_of_getElem? (i := 157) rfl))) (mvT hZ8 (hw _ (List.mem_of_getElem? (i := 158) rfl))) (mvT hZ8 (hw _ (List.mem_of_getElem? (i := 159) rfl))) (by decide) (backOf (W := 0) (rm22F l Z a0 hw [] al b5 mc wD clD T8.heap n0 (Nat.le_trans (Nat.le_trans Z0 E5.1) K8c.1) ((E_al.ext E5).keep K8c) E8c ((F_modCount_al.ext E5).keep K8c (ninS (Nat.ne_of_lt (Nat.lt_of_lt_of_le E_al.lt (Nat.le_of_eq g5.symm))) nin0)) ((F_size_al.ext E5).keep K8c (ninS (Nat.ne_of_lt (Nat.lt_of_lt_of_le E_al.lt (Nat.le_of_eq g5.symm))) nin0)) ((F_elementData_al.ext E5).keep K8c (ninS (Nat.ne_of_lt (Nat.lt_of_lt_of_le E_al.lt (Nat.le_of_eq g5.symm))) nin0)) g_al ((O0.ext E5).keep K8c (allS g_b5 all0)) S_D Ar_D Sz_D) hZ8 (hw _ (List.mem_of_getElem? (i := 160) rfl)) (hw _ (List.mem_of_getElem? (i := 11) rfl)) (by decide) (by decide)) q9a q9b q9c (g := (mkF m 16 #[.val (.ref a1), .val (.ref a2), .val (.ref a3)] [(.ref b5), (.ref al)])) rfl (by rw [hml]; rfl) (Steps.refl _) (argsL := [(.ref b5)]) (rest := []) (lenOf pd_11_13 rfl) rfl (by show 2 * 0 + _ ≤ _; exact Nat.le_of_eq rfl) (hb hby d11_16) (fun _ _ => ⟨rfl, rfl, (by decide : 7 + 1 ≤ _), (by decide : 107 + 10 ≤ _)⟩)
  dsimp only [Pt.U, Pt.locs, Pt.cells, Pt.slots] at X9 l9 y9 z9 st9 hQ9
  subst l9 y9 z9
  obtain ⟨rfl, N9q, K9c, E9c, mcX, szX, edX, clX, FmX, FsX, FeX, hsX, gdX, AdX, ZdX, OdX⟩ := hQ9
  have N9 := Fr.app N8 N9q
  have K9 : Keep h0 T9.heap [al, a1] := K8.trans K9c (allS (Or.inl (List.mem_of_getElem? (i := 0) rfl)) all0)
  have C9 := CHv.keep K9c (sfS (Safe.exa hZ8.alike ((E_al.ext E5).keep K8c) (by decide) (by decide)) sf0) C8
  have R9 := R8.trans (CHr.keep K9c (sfS (Safe.exa hZ8.alike ((E_al.ext E5).keep K8c) (by decide) (by decide)) sf0) C8)
  have n_edX : a1 ≠ edX := ne_arr (((E_a1.ext E5).keep K8c).keep K9c) (hw _ (List.mem_of_getElem? (i := 1) rfl)) AdX
  obtain ⟨T10, X10, e10, st10⟩ := getF X9 hx hZ8 hown8 (host := "") (Or.inl (hw _ (List.mem_of_getElem? (i := 72) rfl))) Via.refl rfl (((F_errors_a1.ext E5).keep K8c (ninS (Nat.ne_of_lt (Nat.lt_of_lt_of_le E_a1.lt (Nat.le_of_eq g5.symm))) nin0)).keep K9c (ninS n_dal nin0)) (g := (mkF m 24 #[.val (.ref a1), .val (.ref a2), .val (.ref a3)] [(.ref a1), (.ref a1)])) rfl rfl (hb hby d11_24)
  obtain ⟨T11, h11, X11, e11, W11, st11⟩ := putF X10 hx hZ8 hown8 (host := "") (Or.inl (hw _ (List.mem_of_getElem? (i := 72) rfl))) Via.refl e10 (((F_errors_a1.ext E5).keep K8c (ninS (Nat.ne_of_lt (Nat.lt_of_lt_of_le E_a1.lt (Nat.le_of_eq g5.symm))) nin0)).keep K9c (ninS n_dal nin0)) (((E_a1.ext E5).keep K8c).keep K9c) (Or.inl (hw _ (List.mem_of_getElem? (i := 73) rfl))) (hw _ (List.mem_of_getElem? (i := 1) rfl)) (ty := .int) (by decide) rfl rfl (g := (mkF m 29 #[.val (.ref a1), .val (.ref a2), .val (.ref a3)] [(.int (e9 + (1 : Int32))), (.ref a1)])) rfl rfl (hb hby d11_29)
  have Fw11 := (((F_errors_a1.ext E5).keep K8c (ninS (Nat.ne_of_lt (Nat.lt_of_lt_of_le E_a1.lt (Nat.le_of_eq g5.symm))) nin0)).keep K9c (ninS n_dal nin0)).same W11
  have C11 := CHv.wr W11 (Safe.exa hZ8.alike (((E_a1.ext E5).keep K8c).keep K9c) (by decide) (by decide)) C9
  have R11 := R9.trans (CHr.wr W11 (Safe.exa hZ8.alike (((E_a1.ext E5).keep K8c).keep K9c) (by decide) (by decide)) C9)
  have K11 : Keep h0 h11 [al, a1] := K9.wr W11 (Or.inl (List.mem_of_getElem? (i := 1) rfl))
  have N11 := Fr.snoc X11 N9 g_a1
  have RZ := R11.trans (CHv.at X11 hZ8 hEL C11)
  obtain ⟨fs, hr, hrun, hended, hREW⟩ := (X11.more (cells' := ({ frames := 6, cells := 8, slots := 117, locals := 85 } : Room).cells) (slots' := ({ frames := 6, cells := 8, slots := 117, locals := 85 } : Room).slots) (by decide) (by decide)).leaveW hS8 (by rw [e11]; exact (Nat.le_trans (Nat.le_trans (Nat.le_refl _) K9c.1) (Keep.of_wr W11).1)) (v := none) (fun _ => rfl)
  refine ⟨_, _, pre0 _ ?_, hrun, hended, _, _, rfl, ?_, ?_, hREW⟩
  · show Steps p.tables e below (s₁.setTop (mkF m 0 #[.val (.ref a1), .val (.ref a2), .val (.ref a3)] [])) _
    refine XS.aloadN X0.here hx rfl (hb hby d11_0) rfl rfl ?_
    show Steps p.tables e below (s₁.setTop (mkF m 1 #[.val (.ref a1), .val (.ref a2), .val (.ref a3)] [(.ref a1)])) _
    refine st4 _ ?_
    show Steps p.tables e below (T4.setTop (mkF m 4 #[.val (.ref a1), .val (.ref a2), .val (.ref a3)] [(.ref al)])) _
    refine st5 _ ?_
    show Steps p.tables e below (T5.setTop (mkF m 7 #[.val (.ref a1), .val (.ref a2), .val (.ref a3)] [(.ref b5), (.ref al)])) _
    refine XS.dup X5.here hx rfl (hb hby d11_7) rfl rfl ?_
    show Steps p.tables e below (T5.setTop (mkF m 8 #[.val (.ref a1), .val (.ref a2), .val (.ref a3)] [(.ref b5), (.ref b5), (.ref al)])) _
    refine st7 _ ?_
    show Steps p.tables e below (T7.setTop (mkF m 11 #[.val (.ref a1), .val (.ref a2), .val (.ref a3)] [(.ref w6), (.ref b5), (.ref b5), (.ref al)])) _
    refine XS.aloadN X7.here hx rfl (hb hby d11_11) rfl rfl ?_
    show Steps p.tables e below (T7.setTop (mkF m 12 #[.val (.ref a1), .val (.ref a2), .val (.ref a3)] [(.ref a2), (.ref w6), (.ref b5), (.ref b5), (.ref al)])) _
    refine XS.aloadN X7.here hx rfl (hb hby d11_12) rfl rfl ?_
    show Steps p.tables e below (T7.setTop (mkF m 13 #[.val (.ref a1), .val (.ref a2), .val (.ref a3)] [(.ref a3), (.ref a2), (.ref w6), (.ref b5), (.ref b5), (.ref al)])) _
    refine st8.trans ?_
    show Steps p.tables e below (T8.setTop (mkF m 16 #[.val (.ref a1), .val (.ref a2), .val (.ref a3)] [(.ref b5), (.ref al)])) _
    refine st9.trans ?_
    show Steps p.tables e below (T9.setTop (mkF m 21 #[.val (.ref a1), .val (.ref a2), .val (.ref a3)] [(.int (1 : Int32))])) _
    refine XS.pop X9.here hx rfl (hb hby d11_21) rfl rfl ?_
    show Steps p.tables e below (T9.setTop (mkF m 22 #[.val (.ref a1), .val (.ref a2), .val (.ref a3)] [])) _
    refine XS.aloadN X9.here hx rfl (hb hby d11_22) rfl rfl ?_
    show Steps p.tables e below (T9.setTop (mkF m 23 #[.val (.ref a1), .val (.ref a2), .val (.ref a3)] [(.ref a1)])) _
    refine XS.dup X9.here hx rfl (hb hby d11_23) rfl rfl ?_
    show Steps p.tables e below (T9.setTop (mkF m 24 #[.val (.ref a1), .val (.ref a2), .val (.ref a3)] [(.ref a1), (.ref a1)])) _
    refine st10 _ ?_
    show Steps p.tables e below (T10.setTop (mkF m 27 #[.val (.ref a1), .val (.ref a2), .val (.ref a3)] [(.int e9), (.ref a1)])) _
    refine XS.iconst X10.here hx rfl (hb hby d11_27) ?_
    show Steps p.tables e below (T10.setTop (mkF m 28 #[.val (.ref a1), .val (.ref a2), .val (.ref a3)] [(.int (1 : Int32)), (.int e9), (.ref a1)])) _
    refine XS.iadd X10.here hx rfl (hb hby d11_28) rfl ?_
    show Steps p.tables e below (T10.setTop (mkF m 29 #[.val (.ref a1), .val (.ref a2), .val (.ref a3)] [(.int (e9 + (1 : Int32))), (.ref a1)])) _
    refine st11 _ ?_
    show Steps p.tables e below (T11.setTop (mkF m 32 #[.val (.ref a1), .val (.ref a2), .val (.ref a3)] [])) _
    exact X11.returnOut hx Bd.returns (hb hby d11_32) hr
  · show Q11F Z a1 al e9 k wD h0 n0 _ T11.heap _
    rw [e11]
    exact ⟨rfl, N11, ((((O0.ext E5).keep K8c (allS g_b5 all0)).keep K9c (allS g_al all0)).wr W11 g_a1), ((((E_a1.ext E5).keep K8c).keep K9c).wr W11), ((((F_reported_a1.ext E5).keep K8c (ninS (Nat.ne_of_lt (Nat.lt_of_lt_of_le E_a1.lt (Nat.le_of_eq g5.symm))) nin0)).keep K9c (ninS n_dal nin0)).other W11 (Or.inr (slot_ne (Or.inr (hw _ (List.mem_of_getElem? (i := 34) rfl))) (Or.inl (hw _ (List.mem_of_getElem? (i := 73) rfl))) (by decide) (t := (.object "java/util/List")) (t' := .int) (by decide) (by decide)))), Fw11, (E9c.wr W11), g_a1, g_al, Or.inr ⟨_, _, _, _, (FmX.other W11 (Or.inl (Ne.symm n_dal))), (FsX.other W11 (Or.inl (Ne.symm n_dal))), (FeX.other W11 (Or.inl (Ne.symm n_dal))), own_sz1 hsX k, gdX, (AdX.other W11 (Ne.symm n_edX)), ZdX, OdX⟩⟩
  · show CHr Z EL s.vm s.heap T11.vm T11.heap
    rw [hh, e11]
    exact RZ
def Q11L (Z : State) (a1 : Addr) (al : Addr) (e9 : Int32) (k : Nat) (wD : Addr) (h0 : Heap) (n0 : Nat) (v : Option Value) (h : Heap) (L : List Loc) : Prop := v = none ∧ Fr n0 L ∧ Old Z n0 h ∧ Dg Z h n0 wD a1 al (e9 + (1 : Int32)) (k + 1)
set_option maxRecDepth 65536 in
set_option maxHeartbeats 40000000 in
theorem rm11L (l : Launch) (Z : State) (a0 : Array Value) (hw : ∀ d ∈ tables_1, d.before a0 Z = true) (ws : List Jvm.Cond) (a1 : Addr) (a2 : Addr) (a3 : Addr) (w6 : Addr) (al : Addr) (e9 : Int32) (mc : Int32) (k : Nat) (wD : Addr) (clD : Cell) (wA : Addr) (pv : Int32) (clA : Cell) (wC : Int32) (wI : Addr) (bb : Addr) (cl : Cell) (sz : Int32) (ed : Addr) (cld : Cell) (hEL : EW Z a0 EL) (h0 : Heap) (n0 : Nat) (Z0 : n0 ≤ h0.size) (E_a1 : Exa Z h0 a1 "com/example/stomme/stomme/diagnostic/Diagnostics") (E_al : Exa Z h0 al "java/util/ArrayList") (E_a3 : Exa Z h0 a3 "java/lang/String") (F_reported_a1 : Fld Z h0 a1 "com/example/stomme/stomme/diagnostic/Diagnostics" "reported" "Ljava/util/List;" (.ref al)) (F_errors_a1 : Fld Z h0 a1 "com/example/stomme/stomme/diagnostic/Diagnostics" "errors" "I" (.int e9)) (F_modCount_al : Fld Z h0 al "java/util/AbstractList" "modCount" "I" (.int mc)) (F_size_al : Fld Z h0 al "java/util/ArrayList" "size" "I" (.int sz)) (F_elementData_al : Fld Z h0 al "java/util/ArrayList" "elementData" "[Ljava/lang/Object;" (.ref ed)) (F_coder_a3 : Fld Z h0 a3 "java/lang/String" "coder" "B" (.int (0 : Int32))) (F_value_a3 : Fld Z h0 a3 "java/lang/String" "value" "[B" (.ref bb)) (Ar_bb : Arr Z h0 bb cl .byte) (Ar_ed : Arr Z h0 ed cld (.object "java/lang/Object")) (O0 : Old Z n0 h0) (S_ERROR : Sta Z Z.heap "com/example/stomme/stomme/diagnostic/Diagnostic$Severity" "ERROR" "Lcom/example/stomme/stomme/diagnostic/Diagnostic$Severity;" (.ref w6)) (g_al : n0 ≤ al) (g_ed : n0 ≤ ed) (g_a1 : n0 ≤ a1) (S_A : Sta Z Z.heap "java/lang/CharacterDataLatin1" "A" "[I" (.ref wA)) (Ar_A : Arr Z Z.heap wA clA .int) (hinA : ¬ (((109 : Int32).toUInt32.toUInt16.toUInt32.toInt32) < 0 ∨ clA.slots.size ≤ ((109 : Int32).toUInt32.toUInt16.toUInt32.toInt32).toNatClampNeg)) (hatA : clA.slots[((109 : Int32).toUInt32.toUInt16.toUInt32.toInt32).toNatClampNeg]? = some (.int pv)) (S_C : Sta Z Z.heap "java/lang/String" "COMPACT_STRINGS" "Z" (.int wC)) (hC : ¬ (wC = (0 : Int32))) (S_I : Sta Z Z.heap "java/lang/CharacterDataLatin1" "instance" "Ljava/lang/CharacterDataLatin1;" (.ref wI)) (E_I : Exa Z Z.heap wI "java/lang/CharacterDataLatin1") (hpv : ¬ ((pv &&& (28672 : Int32)) = (16384 : Int32))) (Sz_b : cl.slots.size = (1 : Int32).toNatClampNeg) (hat0 : cl.slots[(0 : Int32).toNatClampNeg]? = some (.int (109 : Int32))) (S_D : Sta Z Z.heap "java/util/ArrayList" "DEFAULTCAPACITY_EMPTY_ELEMENTDATA" "[Ljava/lang/Object;" (.ref wD)) (Ar_D : Arr Z Z.heap wD clD (.object "java/lang/Object")) (Sz_D : clD.slots.size = (0 : Int32).toNatClampNeg) (n_dal : a1 ≠ al) (Sz_ed : cld.slots.size = (10 : Int32).toNatClampNeg) (n_aled : al ≠ ed) (n_ded : a1 ≠ ed) (O3 : Ovr Z cld.cls "java/lang/Object") (hb_sz : 0 ≤ sz.toInt ∧ sz.toInt ≤ (k : Int)) (hk5 : k ≤ 5) :
    MetFree l (⟨"com/example/stomme/stomme/diagnostic/Diagnostics", "error", "(Lcom/example/stomme/stomme/diagnostic/Position;Ljava/lang/String;)V"⟩ : MethodName) (head1 (Jvm.Cond.code (⟨"com/example/stomme/stomme/diagnostic/Diagnostics", "error", "(Lcom/example/stomme/stomme/diagnostic/Position;Ljava/lang/String;)V"⟩ : MethodName) prog_9_method_2_code 3 none :: ws) ({ frames := 6, cells := 7, slots := 107, locals := 85 } : Room)) (fun a U => a = #[(.ref a1), (.ref a2), (.ref a3)] ∧ Z.Warmed39 U.vm ∧ U.heap = h0 ∧ CHv Z EL U.vm h0) (fun _ _ _ _ _ => True) (fun _ U o U' => ∃ v L, o = .returned v ∧ Q11L Z a1 al e9 k wD h0 n0 v U'.heap L ∧ CHr Z EL U.vm U.heap U'.vm U'.heap ∧ ReturnedEndW U o U' L ({ frames := 6, cells := 7, slots := 107, locals := 85 } : Room).cells ({ frames := 6, cells := 7, slots := 107, locals := 85 } : Room).slots) := by
  refine MetFree.of_bodySF (plainFor_of_name pn_11) hisR ?_
  intro p e s m args below meth c s₁ Bd hml0 hP hK
  obtain ⟨rfl, hZ, hh, C0⟩ := hP
  have hx := Bd.exec
  have hby := Bd.bytes
  have hml : c.maxLocals = 3 := hml0
  have hown : s.vm.findClass "com/example/stomme/stomme/diagnostic/Diagnostics" = some m.cls := findClass_of_methodNamed Bd.named
  have hnm := (name_of_methodNamed Bd.named Bd.method).1
  have X0 : Stand p l e ({ frames := 6, cells := 7, slots := 107, locals := 85 } : Room) (s.setVm s.vm) m #[(.ref a1), (.ref a2), (.ref a3)] below meth c s₁ [] 0 0 := Stand.of_body Bd
  have e0 : s₁.heap = h0 := by rw [← hh, Bd.state]; rfl
  have N0 := Fr.nil n0
  have hS0 := own_since s 0
  have wS := own_strs hw
  have pre0 : ∀ t, Steps p.tables e below (s₁.setTop (mkF m 0 #[.val (.ref a1), .val (.ref a2), .val (.ref a3)] [])) t → Steps p.tables e below (s₁.setTop (entryFrame m #[(.ref a1), (.ref a2), (.ref a3)] 3)) t := fun t k => castTop (ef_11 m a1 a2 a3) k
  obtain ⟨T4, X4, e4, st4⟩ := getF X0 hx hZ hown (host := "") (Or.inl (hw _ (List.mem_of_getElem? (i := 33) rfl))) Via.refl e0 F_reported_a1 (g := (mkF m 1 #[.val (.ref a1), .val (.ref a2), .val (.ref a3)] [(.ref a1)])) rfl rfl (hb hby d11_1)
  obtain ⟨T5, h5, X5, e5, E5, A5, D5, -, st5⟩ := newO X4 hx hZ hown (hw _ (List.mem_of_getElem? (i := 84) rfl)) (hw _ (List.mem_of_getElem? (i := 85) rfl)) (hw _ (List.mem_of_getElem? (i := 86) rfl)) e4 (g := (mkF m 4 #[.val (.ref a1), .val (.ref a2), .val (.ref a3)] [(.ref al)])) rfl (hb hby d11_4) (by decide) (by decide)
  obtain ⟨b5, g5⟩ : ∃ z, z = h0.size := ⟨_, rfl⟩
  rw [← g5] at A5 D5 st5
  have F_severity_b5 : Fld Z h5 b5 "com/example/stomme/stomme/diagnostic/Diagnostic" "severity" "Lcom/example/stomme/stomme/diagnostic/Diagnostic$Severity;" .null := D5 (Or.inr (hw _ (List.mem_of_getElem? (i := 147) rfl))) (ty := (.object "com/example/stomme/stomme/diagnostic/Diagnostic$Severity")) (by decide)
  have F_position_b5 : Fld Z h5 b5 "com/example/stomme/stomme/diagnostic/Diagnostic" "position" "Lcom/example/stomme/stomme/diagnostic/Position;" .null := D5 (Or.inr (hw _ (List.mem_of_getElem? (i := 149) rfl))) (ty := (.object "com/example/stomme/stomme/diagnostic/Position")) (by decide)
  have F_message_b5 : Fld Z h5 b5 "com/example/stomme/stomme/diagnostic/Diagnostic" "message" "Ljava/lang/String;" .null := D5 (Or.inr (hw _ (List.mem_of_getElem? (i := 151) rfl))) (ty := (.object "java/lang/String")) (by decide)
  have E_b5 := A5
  have g_b5 : n0 ≤ b5 := Nat.le_trans Z0 (Nat.le_of_eq g5.symm)
  have sz_b5 : h0.size ≤ b5 := (Nat.le_trans (Keep.refl h0 [al, ed, a1]).1 (Nat.le_of_eq g5.symm))
  have C5 := CHv.ext E5 C0
  have R5 := (CHr.refl C0).trans (CHr.ext E5 C0)
  have K5 : Keep h0 h5 [al, ed, a1] := (Keep.refl h0 [al, ed, a1]).ext E5
  obtain ⟨T7, X7, e7, st7⟩ := getS2 X5 hx hZ hown (host := "") (Or.inl (hw _ (List.mem_of_getElem? (i := 87) rfl))) Via.refl e5 (S_ERROR.ext (O0.ext E5).2) (g := (mkF m 8 #[.val (.ref a1), .val (.ref a2), .val (.ref a3)] [(.ref b5), (.ref b5), (.ref al)])) rfl (hb hby d11_8)
  obtain ⟨_, _, ⟨T8, L8, k8, n8⟩, -, X8, hS8, gr8, ⟨Lc8, hQ8, l8, y8, z8, RQ8⟩, st8⟩ := X7.specialBackS hx (y := (⟨"com/example/stomme/stomme/diagnostic/Diagnostic", "<init>", "(Lcom/example/stomme/stomme/diagnostic/Diagnostic$Severity;Lcom/example/stomme/stomme/diagnostic/Position;Ljava/lang/String;)V"⟩ : MethodName)) rfl hown (mvT hZ (hw _ (List.mem_of_getElem? (i := 90) rfl))) (mvT hZ (hw _ (List.mem_of_getElem? (i := 91) rfl))) (mvT hZ (hw _ (List.mem_of_getElem? (i := 92) rfl))) (by decide) (backOfSH (W := 2) (rm12 l Z a0 hw [] b5 w6 a2 a3 _ _ _ wA pv clA wC wI bb cl hEL h5 n0 (Nat.le_trans Z0 E5.1) E_b5 (E_a3.ext E5) (F_coder_a3.ext E5) (F_value_a3.ext E5) (Ar_bb.ext E5) F_severity_b5 g_b5 F_position_b5 F_message_b5 (O0.ext E5) S_A Ar_A hinA hatA S_C hC S_I E_I hpv Sz_b hat0) hZ (hw _ (List.mem_of_getElem? (i := 92) rfl)) (hw _ (List.mem_of_getElem? (i := 86) rfl)) (by decide) (by decide) hEL C5) (g := (mkF m 13 #[.val (.ref a1), .val (.ref a2), .val (.ref a3)] [(.ref a3), (.ref a2), (.ref w6), (.ref b5), (.ref b5), (.ref al)])) rfl (by rw [hml]; rfl) (Steps.refl _) (a := b5) (argsL := [(.ref w6), (.ref a2), (.ref a3)]) (rest := [(.ref b5), (.ref al)]) (lenOf pd_11_6 rfl) rfl (by show 2 * 0 + _ ≤ _; exact Nat.le_of_eq rfl) (hb hby d11_13) (fun _ _ => ⟨rfl, e7, (by decide : 1 + 6 ≤ _), (by decide : 3 + 104 ≤ _)⟩)
  dsimp only [Pt.U, Pt.locs, Pt.cells, Pt.slots] at X8 hS8 gr8 l8 y8 z8 st8 hQ8 RQ8
  subst l8 y8 z8
  obtain ⟨rfl, N8q, K8c, E8c⟩ := hQ8
  have N8 := Fr.app N0 N8q
  have K8 : Keep h0 T8.heap [al, ed, a1] := K5.trans K8c (allS (Or.inr sz_b5) all0)
  obtain ⟨X8, hS8, hZ8, hown8⟩ := rebS hS0 (by rw [e7]; exact (Nat.le_trans (Nat.zero_le _) E5.1)) X8 hS8 gr8 hZ hown
  have C8 := RQ8.1
  have R8 := R5.trans RQ8
  obtain ⟨cq9, kq9, q9a, q9b, q9c⟩ := isOf hZ8 rfl ((E_al.ext E5).keep K8c)
  obtain ⟨_, _, ⟨T9, L9, k9, n9⟩, -, X9, ⟨Lc9, hQ9, l9, y9, z9⟩, st9⟩ := X8.interfaceBack hx (xi := (⟨"java/util/List", "add", "(Ljava/lang/Object;)Z"⟩ : MethodName)) (y := (⟨"java/util/ArrayList", "add", "(Ljava/lang/Object;)Z"⟩ : MethodName)) hown8 (mvT hZ8 (hw _ (List.mem_of_getElem? (i := 152) rfl))) (mvT hZ8 (hw _ (List.mem_of_getElem? (i := 153) rfl))) (mvT hZ8 (hw _ (List.mem_of_getElem? (i := 154) rfl))) (mvT hZ8 (hw _ (List.mem_of_getElem? (i := 155) rfl))) (mvT hZ8 (hw _ (List.mem_of_getElem? (i := 156) rfl))) (mvT hZ8 (hw _ (List.mem_of_getElem? (i := 157) rfl))) (mvT hZ8 (hw _ (List.mem_of_getElem? (i := 158) rfl))) (mvT hZ8 (hw _ (List.mem_of_getElem? (i := 159) rfl))) (by decide) (backOf (W := 0) (rm22L l Z a0 hw [] al b5 mc sz ed cld T8.heap n0 (Nat.le_trans (Nat.le_trans Z0 E5.1) K8c.1) ((E_al.ext E5).keep K8c) E8c ((F_modCount_al.ext E5).keep K8c (ninS (Nat.ne_of_lt (Nat.lt_of_lt_of_le E_al.lt (Nat.le_of_eq g5.symm))) nin0)) ((F_size_al.ext E5).keep K8c (ninS (Nat.ne_of_lt (Nat.lt_of_lt_of_le E_al.lt (Nat.le_of_eq g5.symm))) nin0)) ((F_elementData_al.ext E5).keep K8c (ninS (Nat.ne_of_lt (Nat.lt_of_lt_of_le E_al.lt (Nat.le_of_eq g5.symm))) nin0)) (own_arrk (Ar_ed.ext E5) K8c (ninS (Nat.ne_of_lt (Nat.lt_of_lt_of_le Ar_ed.lt (Nat.le_of_eq g5.symm))) nin0)) g_al g_ed Sz_ed n_aled O3 (own_szin Sz_ed hb_sz hk5).1 (own_szin Sz_ed hb_sz hk5).2) hZ8 (hw _ (List.mem_of_getElem? (i := 160) rfl)) (hw _ (List.mem_of_getElem? (i := 11) rfl)) (by decide) (by decide)) q9a q9b q9c (g := (mkF m 16 #[.val (.ref a1), .val (.ref a2), .val (.ref a3)] [(.ref b5), (.ref al)])) rfl (by rw [hml]; rfl) (Steps.refl _) (argsL := [(.ref b5)]) (rest := []) (lenOf pd_11_13 rfl) rfl (by show 2 * 0 + _ ≤ _; exact Nat.le_of_eq rfl) (hb hby d11_16) (fun _ _ => ⟨rfl, rfl, (by decide : 7 + 0 ≤ _), (by decide : 107 + 0 ≤ _)⟩)
  dsimp only [Pt.U, Pt.locs, Pt.cells, Pt.slots] at X9 l9 y9 z9 st9 hQ9
  subst l9 y9 z9
  obtain ⟨rfl, N9q, K9c, E9c, mcX, szX, edX, clX, FmX, FsX, FeX, hsX, gdX, AdX, ZdX, OdX⟩ := hQ9
  have N9 := Fr.app N8 N9q
  have K9 : Keep h0 T9.heap [al, ed, a1] := K8.trans K9c (allS (Or.inl (List.mem_of_getElem? (i := 0) rfl)) (allS (Or.inl (List.mem_of_getElem? (i := 1) rfl)) all0))
  have C9 := CHv.keep K9c (sfS (Safe.exa hZ8.alike ((E_al.ext E5).keep K8c) (by decide) (by decide)) (sfS (Safe.arr hZ8.alike (own_arrk (Ar_ed.ext E5) K8c (ninS (Nat.ne_of_lt (Nat.lt_of_lt_of_le Ar_ed.lt (Nat.le_of_eq g5.symm))) nin0)) (by decide)) sf0)) C8
  have R9 := R8.trans (CHr.keep K9c (sfS (Safe.exa hZ8.alike ((E_al.ext E5).keep K8c) (by decide) (by decide)) (sfS (Safe.arr hZ8.alike (own_arrk (Ar_ed.ext E5) K8c (ninS (Nat.ne_of_lt (Nat.lt_of_lt_of_le Ar_ed.lt (Nat.le_of_eq g5.symm))) nin0)) (by decide)) sf0)) C8)
  have n_edX : a1 ≠ edX := ne_arr (((E_a1.ext E5).keep K8c).keep K9c) (hw _ (List.mem_of_getElem? (i := 1) rfl)) AdX
  obtain ⟨T10, X10, e10, st10⟩ := getF X9 hx hZ8 hown8 (host := "") (Or.inl (hw _ (List.mem_of_getElem? (i := 72) rfl))) Via.refl rfl (((F_errors_a1.ext E5).keep K8c (ninS (Nat.ne_of_lt (Nat.lt_of_lt_of_le E_a1.lt (Nat.le_of_eq g5.symm))) nin0)).keep K9c (ninS n_dal (ninS n_ded nin0))) (g := (mkF m 24 #[.val (.ref a1), .val (.ref a2), .val (.ref a3)] [(.ref a1), (.ref a1)])) rfl rfl (hb hby d11_24)
  obtain ⟨T11, h11, X11, e11, W11, st11⟩ := putF X10 hx hZ8 hown8 (host := "") (Or.inl (hw _ (List.mem_of_getElem? (i := 72) rfl))) Via.refl e10 (((F_errors_a1.ext E5).keep K8c (ninS (Nat.ne_of_lt (Nat.lt_of_lt_of_le E_a1.lt (Nat.le_of_eq g5.symm))) nin0)).keep K9c (ninS n_dal (ninS n_ded nin0))) (((E_a1.ext E5).keep K8c).keep K9c) (Or.inl (hw _ (List.mem_of_getElem? (i := 73) rfl))) (hw _ (List.mem_of_getElem? (i := 1) rfl)) (ty := .int) (by decide) rfl rfl (g := (mkF m 29 #[.val (.ref a1), .val (.ref a2), .val (.ref a3)] [(.int (e9 + (1 : Int32))), (.ref a1)])) rfl rfl (hb hby d11_29)
  have Fw11 := (((F_errors_a1.ext E5).keep K8c (ninS (Nat.ne_of_lt (Nat.lt_of_lt_of_le E_a1.lt (Nat.le_of_eq g5.symm))) nin0)).keep K9c (ninS n_dal (ninS n_ded nin0))).same W11
  have C11 := CHv.wr W11 (Safe.exa hZ8.alike (((E_a1.ext E5).keep K8c).keep K9c) (by decide) (by decide)) C9
  have R11 := R9.trans (CHr.wr W11 (Safe.exa hZ8.alike (((E_a1.ext E5).keep K8c).keep K9c) (by decide) (by decide)) C9)
  have K11 : Keep h0 h11 [al, ed, a1] := K9.wr W11 (Or.inl (List.mem_of_getElem? (i := 2) rfl))
  have N11 := Fr.snoc X11 N9 g_a1
  have RZ := R11.trans (CHv.at X11 hZ8 hEL C11)
  obtain ⟨fs, hr, hrun, hended, hREW⟩ := (X11.more (cells' := ({ frames := 6, cells := 7, slots := 107, locals := 85 } : Room).cells) (slots' := ({ frames := 6, cells := 7, slots := 107, locals := 85 } : Room).slots) (by decide) (by decide)).leaveW hS8 (by rw [e11]; exact (Nat.le_trans (Nat.le_trans (Nat.le_refl _) K9c.1) (Keep.of_wr W11).1)) (v := none) (fun _ => rfl)
  refine ⟨_, _, pre0 _ ?_, hrun, hended, _, _, rfl, ?_, ?_, hREW⟩
  · show Steps p.tables e below (s₁.setTop (mkF m 0 #[.val (.ref a1), .val (.ref a2), .val (.ref a3)] [])) _
    refine XS.aloadN X0.here hx rfl (hb hby d11_0) rfl rfl ?_
    show Steps p.tables e below (s₁.setTop (mkF m 1 #[.val (.ref a1), .val (.ref a2), .val (.ref a3)] [(.ref a1)])) _
    refine st4 _ ?_
    show Steps p.tables e below (T4.setTop (mkF m 4 #[.val (.ref a1), .val (.ref a2), .val (.ref a3)] [(.ref al)])) _
    refine st5 _ ?_
    show Steps p.tables e below (T5.setTop (mkF m 7 #[.val (.ref a1), .val (.ref a2), .val (.ref a3)] [(.ref b5), (.ref al)])) _
    refine XS.dup X5.here hx rfl (hb hby d11_7) rfl rfl ?_
    show Steps p.tables e below (T5.setTop (mkF m 8 #[.val (.ref a1), .val (.ref a2), .val (.ref a3)] [(.ref b5), (.ref b5), (.ref al)])) _
    refine st7 _ ?_
    show Steps p.tables e below (T7.setTop (mkF m 11 #[.val (.ref a1), .val (.ref a2), .val (.ref a3)] [(.ref w6), (.ref b5), (.ref b5), (.ref al)])) _
    refine XS.aloadN X7.here hx rfl (hb hby d11_11) rfl rfl ?_
    show Steps p.tables e below (T7.setTop (mkF m 12 #[.val (.ref a1), .val (.ref a2), .val (.ref a3)] [(.ref a2), (.ref w6), (.ref b5), (.ref b5), (.ref al)])) _
    refine XS.aloadN X7.here hx rfl (hb hby d11_12) rfl rfl ?_
    show Steps p.tables e below (T7.setTop (mkF m 13 #[.val (.ref a1), .val (.ref a2), .val (.ref a3)] [(.ref a3), (.ref a2), (.ref w6), (.ref b5), (.ref b5), (.ref al)])) _
    refine st8.trans ?_
    show Steps p.tables e below (T8.setTop (mkF m 16 #[.val (.ref a1), .val (.ref a2), .val (.ref a3)] [(.ref b5), (.ref al)])) _
    refine st9.trans ?_
    show Steps p.tables e below (T9.setTop (mkF m 21 #[.val (.ref a1), .val (.ref a2), .val (.ref a3)] [(.int (1 : Int32))])) _
    refine XS.pop X9.here hx rfl (hb hby d11_21) rfl rfl ?_
    show Steps p.tables e below (T9.setTop (mkF m 22 #[.val (.ref a1), .val (.ref a2), .val (.ref a3)] [])) _
    refine XS.aloadN X9.here hx rfl (hb hby d11_22) rfl rfl ?_
    show Steps p.tables e below (T9.setTop (mkF m 23 #[.val (.ref a1), .val (.ref a2), .val (.ref a3)] [(.ref a1)])) _
    refine XS.dup X9.here hx rfl (hb hby d11_23) rfl rfl ?_
    show Steps p.tables e below (T9.setTop (mkF m 24 #[.val (.ref a1), .val (.ref a2), .val (.ref a3)] [(.ref a1), (.ref a1)])) _
    refine st10 _ ?_
    show Steps p.tables e below (T10.setTop (mkF m 27 #[.val (.ref a1), .val (.ref a2), .val (.ref a3)] [(.int e9), (.ref a1)])) _
    refine XS.iconst X10.here hx rfl (hb hby d11_27) ?_
    show Steps p.tables e below (T10.setTop (mkF m 28 #[.val (.ref a1), .val (.ref a2), .val (.ref a3)] [(.int (1 : Int32)), (.int e9), (.ref a1)])) _
    refine XS.iadd X10.here hx rfl (hb hby d11_28) rfl ?_
    show Steps p.tables e below (T10.setTop (mkF m 29 #[.val (.ref a1), .val (.ref a2), .val (.ref a3)] [(.int (e9 + (1 : Int32))), (.ref a1)])) _
    refine st11 _ ?_
    show Steps p.tables e below (T11.setTop (mkF m 32 #[.val (.ref a1), .val (.ref a2), .val (.ref a3)] [])) _
    exact X11.returnOut hx Bd.returns (hb hby d11_32) hr
  · show Q11L Z a1 al e9 k wD h0 n0 _ T11.heap _
    rw [e11]
    exact ⟨rfl, N11, ((((O0.ext E5).keep K8c (allS g_b5 all0)).keep K9c (allS g_al (allS g_ed all0))).wr W11 g_a1), ((((E_a1.ext E5).keep K8c).keep K9c).wr W11), ((((F_reported_a1.ext E5).keep K8c (ninS (Nat.ne_of_lt (Nat.lt_of_lt_of_le E_a1.lt (Nat.le_of_eq g5.symm))) nin0)).keep K9c (ninS n_dal (ninS n_ded nin0))).other W11 (Or.inr (slot_ne (Or.inr (hw _ (List.mem_of_getElem? (i := 34) rfl))) (Or.inl (hw _ (List.mem_of_getElem? (i := 73) rfl))) (by decide) (t := (.object "java/util/List")) (t' := .int) (by decide) (by decide)))), Fw11, (E9c.wr W11), g_a1, g_al, Or.inr ⟨_, _, _, _, (FmX.other W11 (Or.inl (Ne.symm n_dal))), (FsX.other W11 (Or.inl (Ne.symm n_dal))), (FeX.other W11 (Or.inl (Ne.symm n_dal))), own_szS hsX hb_sz hk5, gdX, (AdX.other W11 (Ne.symm n_edX)), ZdX, OdX⟩⟩
  · show CHr Z EL s.vm s.heap T11.vm T11.heap
    rw [hh, e11]
    exact RZ
theorem d27_0 : decode prog_9_method_3_code 0 = .ok (.aload_n 0, 1) := by decide +kernel
theorem d27_1 : decode prog_9_method_3_code 1 = .ok (.getfield 10, 3) := by decide +kernel
theorem d27_4 : decode prog_9_method_3_code 4 = .ok (.new 16, 3) := by decide +kernel
theorem d27_7 : decode prog_9_method_3_code 7 = .ok (.dup, 1) := by decide +kernel
theorem d27_8 : decode prog_9_method_3_code 8 = .ok (.getstatic 37, 3) := by decide +kernel
theorem d27_11 : decode prog_9_method_3_code 11 = .ok (.aload_n 1, 1) := by decide +kernel
theorem d27_12 : decode prog_9_method_3_code 12 = .ok (.aload_n 2, 1) := by decide +kernel
theorem d27_13 : decode prog_9_method_3_code 13 = .ok (.invokespecial 24, 3) := by decide +kernel
theorem d27_16 : decode prog_9_method_3_code 16 = .ok (.invokeinterface 27 2, 5) := by decide +kernel
theorem d27_21 : decode prog_9_method_3_code 21 = .ok (.pop, 1) := by decide +kernel
theorem d27_22 : decode prog_9_method_3_code 22 = .ok (.return_, 1) := by decide +kernel
theorem pn_27 : plainName "com/example/stomme/stomme/diagnostic/Diagnostics" = true := by first | (simp [plainName, overriddenIn]; done) | decide +kernel
theorem pd_27_6 : parseMethodDescriptor "(Lcom/example/stomme/stomme/diagnostic/Diagnostic$Severity;Lcom/example/stomme/stomme/diagnostic/Position;Ljava/lang/String;)V" = some ⟨[(.object "com/example/stomme/stomme/diagnostic/Diagnostic$Severity"), (.object "com/example/stomme/stomme/diagnostic/Position"), (.object "java/lang/String")], none⟩ := by decide +kernel
theorem pd_27_13 : parseMethodDescriptor "(Ljava/lang/Object;)Z" = some ⟨[(.object "java/lang/Object")], some .boolean⟩ := by decide +kernel
theorem ef_27 (m : MethodId) (x0 : Addr) (x1 : Addr) (x2 : Addr) : entryFrame m #[(.ref x0), (.ref x1), (.ref x2)] 3 = mkF m 0 #[.val (.ref x0), .val (.ref x1), .val (.ref x2)] [] := by first | (simp [entryFrame, mkF, argsToLocals, Value.category]; done) | rfl
def Q27F (Z : State) (a1 : Addr) (al : Addr) (e9 : Int32) (k : Nat) (wD : Addr) (h0 : Heap) (n0 : Nat) (v : Option Value) (h : Heap) (L : List Loc) : Prop := v = none ∧ Fr n0 L ∧ Old Z n0 h ∧ Dg Z h n0 wD a1 al e9 (k + 1)
set_option maxRecDepth 65536 in
set_option maxHeartbeats 40000000 in
theorem rm27F (l : Launch) (Z : State) (a0 : Array Value) (hw : ∀ d ∈ tables_1, d.before a0 Z = true) (ws : List Jvm.Cond) (a1 : Addr) (a2 : Addr) (a3 : Addr) (w6 : Addr) (al : Addr) (e9 : Int32) (mc : Int32) (k : Nat) (wD : Addr) (clD : Cell) (wA : Addr) (pv : Int32) (clA : Cell) (wC : Int32) (wI : Addr) (bb : Addr) (cl : Cell) (hEL : EW Z a0 EL) (h0 : Heap) (n0 : Nat) (Z0 : n0 ≤ h0.size) (E_a1 : Exa Z h0 a1 "com/example/stomme/stomme/diagnostic/Diagnostics") (E_al : Exa Z h0 al "java/util/ArrayList") (E_a3 : Exa Z h0 a3 "java/lang/String") (F_reported_a1 : Fld Z h0 a1 "com/example/stomme/stomme/diagnostic/Diagnostics" "reported" "Ljava/util/List;" (.ref al)) (F_errors_a1 : Fld Z h0 a1 "com/example/stomme/stomme/diagnostic/Diagnostics" "errors" "I" (.int e9)) (F_modCount_al : Fld Z h0 al "java/util/AbstractList" "modCount" "I" (.int mc)) (F_size_al : Fld Z h0 al "java/util/ArrayList" "size" "I" (.int (0 : Int32))) (F_elementData_al : Fld Z h0 al "java/util/ArrayList" "elementData" "[Ljava/lang/Object;" (.ref wD)) (F_coder_a3 : Fld Z h0 a3 "java/lang/String" "coder" "B" (.int (0 : Int32))) (F_value_a3 : Fld Z h0 a3 "java/lang/String" "value" "[B" (.ref bb)) (Ar_bb : Arr Z h0 bb cl .byte) (O0 : Old Z n0 h0) (S_WARNING : Sta Z Z.heap "com/example/stomme/stomme/diagnostic/Diagnostic$Severity" "WARNING" "Lcom/example/stomme/stomme/diagnostic/Diagnostic$Severity;" (.ref w6)) (g_al : n0 ≤ al) (S_A : Sta Z Z.heap "java/lang/CharacterDataLatin1" "A" "[I" (.ref wA)) (Ar_A : Arr Z Z.heap wA clA .int) (hinA : ¬ (((109 : Int32).toUInt32.toUInt16.toUInt32.toInt32) < 0 ∨ clA.slots.size ≤ ((109 : Int32).toUInt32.toUInt16.toUInt32.toInt32).toNatClampNeg)) (hatA : clA.slots[((109 : Int32).toUInt32.toUInt16.toUInt32.toInt32).toNatClampNeg]? = some (.int pv)) (S_C : Sta Z Z.heap "java/lang/String" "COMPACT_STRINGS" "Z" (.int wC)) (hC : ¬ (wC = (0 : Int32))) (S_I : Sta Z Z.heap "java/lang/CharacterDataLatin1" "instance" "Ljava/lang/CharacterDataLatin1;" (.ref wI)) (E_I : Exa Z Z.heap wI "java/lang/CharacterDataLatin1") (hpv : ¬ ((pv &&& (28672 : Int32)) = (16384 : Int32))) (Sz_b : cl.slots.size = (1 : Int32).toNatClampNeg) (hat0 : cl.slots[(0 : Int32).toNatClampNeg]? = some (.int (109 : Int32))) (S_D : Sta Z Z.heap "java/util/ArrayList" "DEFAULTCAPACITY_EMPTY_ELEMENTDATA" "[Ljava/lang/Object;" (.ref wD)) (Ar_D : Arr Z Z.heap wD clD (.object "java/lang/Object")) (Sz_D : clD.slots.size = (0 : Int32).toNatClampNeg) (g_a1 : n0 ≤ a1) (n_dal : a1 ≠ al) :
    MetFree l (⟨"com/example/stomme/stomme/diagnostic/Diagnostics", "warning", "(Lcom/example/stomme/stomme/diagnostic/Position;Ljava/lang/String;)V"⟩ : MethodName) (head1 (Jvm.Cond.code (⟨"com/example/stomme/stomme/diagnostic/Diagnostics", "warning", "(Lcom/example/stomme/stomme/diagnostic/Position;Ljava/lang/String;)V"⟩ : MethodName) prog_9_method_3_code 3 none :: ws) ({ frames := 6, cells := 8, slots := 117, locals := 85 } : Room)) (fun a U => a = #[(.ref a1), (.ref a2), (.ref a3)] ∧ Z.Warmed39 U.vm ∧ U.heap = h0 ∧ CHv Z EL U.vm h0) (fun _ _ _ _ _ => True) (fun _ U o U' => ∃ v L, o = .returned v ∧ Q27F Z a1 al e9 k wD h0 n0 v U'.heap L ∧ CHr Z EL U.vm U.heap U'.vm U'.heap ∧ ReturnedEndW U o U' L ({ frames := 6, cells := 8, slots := 117, locals := 85 } : Room).cells ({ frames := 6, cells := 8, slots := 117, locals := 85 } : Room).slots) := by
  refine MetFree.of_bodySF (plainFor_of_name pn_27) hisR ?_
  intro p e s m args below meth c s₁ Bd hml0 hP hK
  obtain ⟨rfl, hZ, hh, C0⟩ := hP
  have hx := Bd.exec
  have hby := Bd.bytes
  have hml : c.maxLocals = 3 := hml0
  have hown : s.vm.findClass "com/example/stomme/stomme/diagnostic/Diagnostics" = some m.cls := findClass_of_methodNamed Bd.named
  have hnm := (name_of_methodNamed Bd.named Bd.method).1
  have X0 : Stand p l e ({ frames := 6, cells := 8, slots := 117, locals := 85 } : Room) (s.setVm s.vm) m #[(.ref a1), (.ref a2), (.ref a3)] below meth c s₁ [] 0 0 := Stand.of_body Bd
  have e0 : s₁.heap = h0 := by rw [← hh, Bd.state]; rfl
  have N0 := Fr.nil n0
  have hS0 := own_since s 0
  have wS := own_strs hw
  have pre0 : ∀ t, Steps p.tables e below (s₁.setTop (mkF m 0 #[.val (.ref a1), .val (.ref a2), .val (.ref a3)] [])) t → Steps p.tables e below (s₁.setTop (entryFrame m #[(.ref a1), (.ref a2), (.ref a3)] 3)) t := fun t k => castTop (ef_27 m a1 a2 a3) k
  obtain ⟨T4, X4, e4, st4⟩ := getF X0 hx hZ hown (host := "") (Or.inl (hw _ (List.mem_of_getElem? (i := 33) rfl))) Via.refl e0 F_reported_a1 (g := (mkF m 1 #[.val (.ref a1), .val (.ref a2), .val (.ref a3)] [(.ref a1)])) rfl rfl (hb hby d27_1)
  obtain ⟨T5, h5, X5, e5, E5, A5, D5, -, st5⟩ := newO X4 hx hZ hown (hw _ (List.mem_of_getElem? (i := 84) rfl)) (hw _ (List.mem_of_getElem? (i := 85) rfl)) (hw _ (List.mem_of_getElem? (i := 86) rfl)) e4 (g := (mkF m 4 #[.val (.ref a1), .val (.ref a2), .val (.ref a3)] [(.ref al)])) rfl (hb hby d27_4) (by decide) (by decide)
  obtain ⟨b5, g5⟩ : ∃ z, z = h0.size := ⟨_, rfl⟩
  rw [← g5] at A5 D5 st5
  have F_severity_b5 : Fld Z h5 b5 "com/example/stomme/stomme/diagnostic/Diagnostic" "severity" "Lcom/example/stomme/stomme/diagnostic/Diagnostic$Severity;" .null := D5 (Or.inr (hw _ (List.mem_of_getElem? (i := 147) rfl))) (ty := (.object "com/example/stomme/stomme/diagnostic/Diagnostic$Severity")) (by decide)
  have F_position_b5 : Fld Z h5 b5 "com/example/stomme/stomme/diagnostic/Diagnostic" "position" "Lcom/example/stomme/stomme/diagnostic/Position;" .null := D5 (Or.inr (hw _ (List.mem_of_getElem? (i := 149) rfl))) (ty := (.object "com/example/stomme/stomme/diagnostic/Position")) (by decide)
  have F_message_b5 : Fld Z h5 b5 "com/example/stomme/stomme/diagnostic/Diagnostic" "message" "Ljava/lang/String;" .null := D5 (Or.inr (hw _ (List.mem_of_getElem? (i := 151) rfl))) (ty := (.object "java/lang/String")) (by decide)
  have E_b5 := A5
  have g_b5 : n0 ≤ b5 := Nat.le_trans Z0 (Nat.le_of_eq g5.symm)
  have sz_b5 : h0.size ≤ b5 := (Nat.le_trans (Keep.refl h0 [al]).1 (Nat.le_of_eq g5.symm))
  have C5 := CHv.ext E5 C0
  have R5 := (CHr.refl C0).trans (CHr.ext E5 C0)
  have K5 : Keep h0 h5 [al] := (Keep.refl h0 [al]).ext E5
  obtain ⟨T7, X7, e7, st7⟩ := getS2 X5 hx hZ hown (host := "") (Or.inl (hw _ (List.mem_of_getElem? (i := 192) rfl))) Via.refl e5 (S_WARNING.ext (O0.ext E5).2) (g := (mkF m 8 #[.val (.ref a1), .val (.ref a2), .val (.ref a3)] [(.ref b5), (.ref b5), (.ref al)])) rfl (hb hby d27_8)
  obtain ⟨_, _, ⟨T8, L8, k8, n8⟩, -, X8, hS8, gr8, ⟨Lc8, hQ8, l8, y8, z8, RQ8⟩, st8⟩ := X7.specialBackS hx (y := (⟨"com/example/stomme/stomme/diagnostic/Diagnostic", "<init>", "(Lcom/example/stomme/stomme/diagnostic/Diagnostic$Severity;Lcom/example/stomme/stomme/diagnostic/Position;Ljava/lang/String;)V"⟩ : MethodName)) rfl hown (mvT hZ (hw _ (List.mem_of_getElem? (i := 90) rfl))) (mvT hZ (hw _ (List.mem_of_getElem? (i := 91) rfl))) (mvT hZ (hw _ (List.mem_of_getElem? (i := 92) rfl))) (by decide) (backOfSH (W := 2) (rm12 l Z a0 hw [] b5 w6 a2 a3 _ _ _ wA pv clA wC wI bb cl hEL h5 n0 (Nat.le_trans Z0 E5.1) E_b5 (E_a3.ext E5) (F_coder_a3.ext E5) (F_value_a3.ext E5) (Ar_bb.ext E5) F_severity_b5 g_b5 F_position_b5 F_message_b5 (O0.ext E5) S_A Ar_A hinA hatA S_C hC S_I E_I hpv Sz_b hat0) hZ (hw _ (List.mem_of_getElem? (i := 92) rfl)) (hw _ (List.mem_of_getElem? (i := 86) rfl)) (by decide) (by decide) hEL C5) (g := (mkF m 13 #[.val (.ref a1), .val (.ref a2), .val (.ref a3)] [(.ref a3), (.ref a2), (.ref w6), (.ref b5), (.ref b5), (.ref al)])) rfl (by rw [hml]; rfl) (Steps.refl _) (a := b5) (argsL := [(.ref w6), (.ref a2), (.ref a3)]) (rest := [(.ref b5), (.ref al)]) (lenOf pd_27_6 rfl) rfl (by show 2 * 0 + _ ≤ _; exact Nat.le_of_eq rfl) (hb hby d27_13) (fun _ _ => ⟨rfl, e7, (by decide : 1 + 6 ≤ _), (by decide : 3 + 104 ≤ _)⟩)
  dsimp only [Pt.U, Pt.locs, Pt.cells, Pt.slots] at X8 hS8 gr8 l8 y8 z8 st8 hQ8 RQ8
  subst l8 y8 z8
  obtain ⟨rfl, N8q, K8c, E8c⟩ := hQ8
  have N8 := Fr.app N0 N8q
  have K8 : Keep h0 T8.heap [al] := K5.trans K8c (allS (Or.inr sz_b5) all0)
  obtain ⟨X8, hS8, hZ8, hown8⟩ := rebS hS0 (by rw [e7]; exact (Nat.le_trans (Nat.zero_le _) E5.1)) X8 hS8 gr8 hZ hown
  have C8 := RQ8.1
  have R8 := R5.trans RQ8
  obtain ⟨cq9, kq9, q9a, q9b, q9c⟩ := isOf hZ8 rfl ((E_al.ext E5).keep K8c)
  obtain ⟨_, _, ⟨T9, L9, k9, n9⟩, -, X9, ⟨Lc9, hQ9, l9, y9, z9⟩, st9⟩ := X8.interfaceBack hx (xi := (⟨"java/util/List", "add", "(Ljava/lang/Object;)Z"⟩ : MethodName)) (y := (⟨"java/util/ArrayList", "add", "(Ljava/lang/Object;)Z"⟩ : MethodName)) hown8 (mvT hZ8 (hw _ (List.mem_of_getElem? (i := 152) rfl))) (mvT hZ8 (hw _ (List.mem_of_getElem? (i := 153) rfl))) (mvT hZ8 (hw _ (List.mem_of_getElem? (i := 154) rfl))) (mvT hZ8 (hw _ (List.mem_of_getElem? (i := 155) rfl))) (mvT hZ8 (hw _ (List.mem_of_getElem? (i := 156) rfl))) (mvT hZ8 (hw _ (List.mem_of_getElem? (i := 157) rfl))) (mvT hZ8 (hw _ (List.mem_of_getElem? (i := 158) rfl))) (mvT hZ8 (hw _ (List.mem_of_getElem? (i := 159) rfl))) (by decide) (backOf (W := 0) (rm22F l Z a0 hw [] al b5 mc wD clD T8.heap n0 (Nat.le_trans (Nat.le_trans Z0 E5.1) K8c.1) ((E_al.ext E5).keep K8c) E8c ((F_modCount_al.ext E5).keep K8c (ninS (Nat.ne_of_lt (Nat.lt_of_lt_of_le E_al.lt (Nat.le_of_eq g5.symm))) nin0)) ((F_size_al.ext E5).keep K8c (ninS (Nat.ne_of_lt (Nat.lt_of_lt_of_le E_al.lt (Nat.le_of_eq g5.symm))) nin0)) ((F_elementData_al.ext E5).keep K8c (ninS (Nat.ne_of_lt (Nat.lt_of_lt_of_le E_al.lt (Nat.le_of_eq g5.symm))) nin0)) g_al ((O0.ext E5).keep K8c (allS g_b5 all0)) S_D Ar_D Sz_D) hZ8 (hw _ (List.mem_of_getElem? (i := 160) rfl)) (hw _ (List.mem_of_getElem? (i := 11) rfl)) (by decide) (by decide)) q9a q9b q9c (g := (mkF m 16 #[.val (.ref a1), .val (.ref a2), .val (.ref a3)] [(.ref b5), (.ref al)])) rfl (by rw [hml]; rfl) (Steps.refl _) (argsL := [(.ref b5)]) (rest := []) (lenOf pd_27_13 rfl) rfl (by show 2 * 0 + _ ≤ _; exact Nat.le_of_eq rfl) (hb hby d27_16) (fun _ _ => ⟨rfl, rfl, (by decide : 7 + 1 ≤ _), (by decide : 107 + 10 ≤ _)⟩)
  dsimp only [Pt.U, Pt.locs, Pt.cells, Pt.slots] at X9 l9 y9 z9 st9 hQ9
  subst l9 y9 z9
  obtain ⟨rfl, N9q, K9c, E9c, mcX, szX, edX, clX, FmX, FsX, FeX, hsX, gdX, AdX, ZdX, OdX⟩ := hQ9
  have N9 := Fr.app N8 N9q
  have K9 : Keep h0 T9.heap [al] := K8.trans K9c (allS (Or.inl (List.mem_of_getElem? (i := 0) rfl)) all0)
  have C9 := CHv.keep K9c (sfS (Safe.exa hZ8.alike ((E_al.ext E5).keep K8c) (by decide) (by decide)) sf0) C8
  have R9 := R8.trans (CHr.keep K9c (sfS (Safe.exa hZ8.alike ((E_al.ext E5).keep K8c) (by decide) (by decide)) sf0) C8)
  have n_edX : a1 ≠ edX := ne_arr (((E_a1.ext E5).keep K8c).keep K9c) (hw _ (List.mem_of_getElem? (i := 1) rfl)) AdX
  have RZ := R9.trans (CHv.at X9 hZ8 hEL C9)
  obtain ⟨fs, hr, hrun, hended, hREW⟩ := (X9.more (cells' := ({ frames := 6, cells := 8, slots := 117, locals := 85 } : Room).cells) (slots' := ({ frames := 6, cells := 8, slots := 117, locals := 85 } : Room).slots) (by decide) (by decide)).leaveW hS8 (Nat.le_trans (Nat.le_refl _) K9c.1) (v := none) (fun _ => rfl)
  refine ⟨_, _, pre0 _ ?_, hrun, hended, _, _, rfl, ?_, ?_, hREW⟩
  · show Steps p.tables e below (s₁.setTop (mkF m 0 #[.val (.ref a1), .val (.ref a2), .val (.ref a3)] [])) _
    refine XS.aloadN X0.here hx rfl (hb hby d27_0) rfl rfl ?_
    show Steps p.tables e below (s₁.setTop (mkF m 1 #[.val (.ref a1), .val (.ref a2), .val (.ref a3)] [(.ref a1)])) _
    refine st4 _ ?_
    show Steps p.tables e below (T4.setTop (mkF m 4 #[.val (.ref a1), .val (.ref a2), .val (.ref a3)] [(.ref al)])) _
    refine st5 _ ?_
    show Steps p.tables e below (T5.setTop (mkF m 7 #[.val (.ref a1), .val (.ref a2), .val (.ref a3)] [(.ref b5), (.ref al)])) _
    refine XS.dup X5.here hx rfl (hb hby d27_7) rfl rfl ?_
    show Steps p.tables e below (T5.setTop (mkF m 8 #[.val (.ref a1), .val (.ref a2), .val (.ref a3)] [(.ref b5), (.ref b5), (.ref al)])) _
    refine st7 _ ?_
    show Steps p.tables e below (T7.setTop (mkF m 11 #[.val (.ref a1), .val (.ref a2), .val (.ref a3)] [(.ref w6), (.ref b5), (.ref b5), (.ref al)])) _
    refine XS.aloadN X7.here hx rfl (hb hby d27_11) rfl rfl ?_
    show Steps p.tables e below (T7.setTop (mkF m 12 #[.val (.ref a1), .val (.ref a2), .val (.ref a3)] [(.ref a2), (.ref w6), (.ref b5), (.ref b5), (.ref al)])) _
    refine XS.aloadN X7.here hx rfl (hb hby d27_12) rfl rfl ?_
    show Steps p.tables e below (T7.setTop (mkF m 13 #[.val (.ref a1), .val (.ref a2), .val (.ref a3)] [(.ref a3), (.ref a2), (.ref w6), (.ref b5), (.ref b5), (.ref al)])) _
    refine st8.trans ?_
    show Steps p.tables e below (T8.setTop (mkF m 16 #[.val (.ref a1), .val (.ref a2), .val (.ref a3)] [(.ref b5), (.ref al)])) _
    refine st9.trans ?_
    show Steps p.tables e below (T9.setTop (mkF m 21 #[.val (.ref a1), .val (.ref a2), .val (.ref a3)] [(.int (1 : Int32))])) _
    refine XS.pop X9.here hx rfl (hb hby d27_21) rfl rfl ?_
    show Steps p.tables e below (T9.setTop (mkF m 22 #[.val (.ref a1), .val (.ref a2), .val (.ref a3)] [])) _
    exact X9.returnOut hx Bd.returns (hb hby d27_22) hr
  · show Q27F Z a1 al e9 k wD h0 n0 _ T9.heap _
    exact ⟨rfl, N9, (((O0.ext E5).keep K8c (allS g_b5 all0)).keep K9c (allS g_al all0)), (((E_a1.ext E5).keep K8c).keep K9c), (((F_reported_a1.ext E5).keep K8c (ninS (Nat.ne_of_lt (Nat.lt_of_lt_of_le E_a1.lt (Nat.le_of_eq g5.symm))) nin0)).keep K9c (ninS n_dal nin0)), (((F_errors_a1.ext E5).keep K8c (ninS (Nat.ne_of_lt (Nat.lt_of_lt_of_le E_a1.lt (Nat.le_of_eq g5.symm))) nin0)).keep K9c (ninS n_dal nin0)), E9c, g_a1, g_al, Or.inr ⟨_, _, _, _, FmX, FsX, FeX, own_sz1 hsX k, gdX, AdX, ZdX, OdX⟩⟩
  · show CHr Z EL s.vm s.heap T9.vm T9.heap
    rw [hh]
    exact RZ
def Q27L (Z : State) (a1 : Addr) (al : Addr) (e9 : Int32) (k : Nat) (wD : Addr) (h0 : Heap) (n0 : Nat) (v : Option Value) (h : Heap) (L : List Loc) : Prop := v = none ∧ Fr n0 L ∧ Old Z n0 h ∧ Dg Z h n0 wD a1 al e9 (k + 1)
set_option maxRecDepth 65536 in
set_option maxHeartbeats 40000000 in
theorem rm27L (l : Launch) (Z : State) (a0 : Array Value) (hw : ∀ d ∈ tables_1, d.before a0 Z = true) (ws : List Jvm.Cond) (a1 : Addr) (a2 : Addr) (a3 : Addr) (w6 : Addr) (al : Addr) (e9 : Int32) (mc : Int32) (k : Nat) (wD : Addr) (clD : Cell) (wA : Addr) (pv : Int32) (clA : Cell) (wC : Int32) (wI : Addr) (bb : Addr) (cl : Cell) (sz : Int32) (ed : Addr) (cld : Cell) (hEL : EW Z a0 EL) (h0 : Heap) (n0 : Nat) (Z0 : n0 ≤ h0.size) (E_a1 : Exa Z h0 a1 "com/example/stomme/stomme/diagnostic/Diagnostics") (E_al : Exa Z h0 al "java/util/ArrayList") (E_a3 : Exa Z h0 a3 "java/lang/String") (F_reported_a1 : Fld Z h0 a1 "com/example/stomme/stomme/diagnostic/Diagnostics" "reported" "Ljava/util/List;" (.ref al)) (F_errors_a1 : Fld Z h0 a1 "com/example/stomme/stomme/diagnostic/Diagnostics" "errors" "I" (.int e9)) (F_modCount_al : Fld Z h0 al "java/util/AbstractList" "modCount" "I" (.int mc)) (F_size_al : Fld Z h0 al "java/util/ArrayList" "size" "I" (.int sz)) (F_elementData_al : Fld Z h0 al "java/util/ArrayList" "elementData" "[Ljava/lang/Object;" (.ref ed)) (F_coder_a3 : Fld Z h0 a3 "java/lang/String" "coder" "B" (.int (0 : Int32))) (F_value_a3 : Fld Z h0 a3 "java/lang/String" "value" "[B" (.ref bb)) (Ar_bb : Arr Z h0 bb cl .byte) (Ar_ed : Arr Z h0 ed cld (.object "java/lang/Object")) (O0 : Old Z n0 h0) (S_WARNING : Sta Z Z.heap "com/example/stomme/stomme/diagnostic/Diagnostic$Severity" "WARNING" "Lcom/example/stomme/stomme/diagnostic/Diagnostic$Severity;" (.ref w6)) (g_al : n0 ≤ al) (g_ed : n0 ≤ ed) (S_A : Sta Z Z.heap "java/lang/CharacterDataLatin1" "A" "[I" (.ref wA)) (Ar_A : Arr Z Z.heap wA clA .int) (hinA : ¬ (((109 : Int32).toUInt32.toUInt16.toUInt32.toInt32) < 0 ∨ clA.slots.size ≤ ((109 : Int32).toUInt32.toUInt16.toUInt32.toInt32).toNatClampNeg)) (hatA : clA.slots[((109 : Int32).toUInt32.toUInt16.toUInt32.toInt32).toNatClampNeg]? = some (.int pv)) (S_C : Sta Z Z.heap "java/lang/String" "COMPACT_STRINGS" "Z" (.int wC)) (hC : ¬ (wC = (0 : Int32))) (S_I : Sta Z Z.heap "java/lang/CharacterDataLatin1" "instance" "Ljava/lang/CharacterDataLatin1;" (.ref wI)) (E_I : Exa Z Z.heap wI "java/lang/CharacterDataLatin1") (hpv : ¬ ((pv &&& (28672 : Int32)) = (16384 : Int32))) (Sz_b : cl.slots.size = (1 : Int32).toNatClampNeg) (hat0 : cl.slots[(0 : Int32).toNatClampNeg]? = some (.int (109 : Int32))) (S_D : Sta Z Z.heap "java/util/ArrayList" "DEFAULTCAPACITY_EMPTY_ELEMENTDATA" "[Ljava/lang/Object;" (.ref wD)) (Ar_D : Arr Z Z.heap wD clD (.object "java/lang/Object")) (Sz_D : clD.slots.size = (0 : Int32).toNatClampNeg) (g_a1 : n0 ≤ a1) (n_dal : a1 ≠ al) (Sz_ed : cld.slots.size = (10 : Int32).toNatClampNeg) (n_aled : al ≠ ed) (n_ded : a1 ≠ ed) (O3 : Ovr Z cld.cls "java/lang/Object") (hb_sz : 0 ≤ sz.toInt ∧ sz.toInt ≤ (k : Int)) (hk5 : k ≤ 5) :
    MetFree l (⟨"com/example/stomme/stomme/diagnostic/Diagnostics", "warning", "(Lcom/example/stomme/stomme/diagnostic/Position;Ljava/lang/String;)V"⟩ : MethodName) (head1 (Jvm.Cond.code (⟨"com/example/stomme/stomme/diagnostic/Diagnostics", "warning", "(Lcom/example/stomme/stomme/diagnostic/Position;Ljava/lang/String;)V"⟩ : MethodName) prog_9_method_3_code 3 none :: ws) ({ frames := 6, cells := 7, slots := 107, locals := 85 } : Room)) (fun a U => a = #[(.ref a1), (.ref a2), (.ref a3)] ∧ Z.Warmed39 U.vm ∧ U.heap = h0 ∧ CHv Z EL U.vm h0) (fun _ _ _ _ _ => True) (fun _ U o U' => ∃ v L, o = .returned v ∧ Q27L Z a1 al e9 k wD h0 n0 v U'.heap L ∧ CHr Z EL U.vm U.heap U'.vm U'.heap ∧ ReturnedEndW U o U' L ({ frames := 6, cells := 7, slots := 107, locals := 85 } : Room).cells ({ frames := 6, cells := 7, slots := 107, locals := 85 } : Room).slots) := by
  refine MetFree.of_bodySF (plainFor_of_name pn_27) hisR ?_
  intro p e s m args below meth c s₁ Bd hml0 hP hK
  obtain ⟨rfl, hZ, hh, C0⟩ := hP
  have hx := Bd.exec
  have hby := Bd.bytes
  have hml : c.maxLocals = 3 := hml0
  have hown : s.vm.findClass "com/example/stomme/stomme/diagnostic/Diagnostics" = some m.cls := findClass_of_methodNamed Bd.named
  have hnm := (name_of_methodNamed Bd.named Bd.method).1
  have X0 : Stand p l e ({ frames := 6, cells := 7, slots := 107, locals := 85 } : Room) (s.setVm s.vm) m #[(.ref a1), (.ref a2), (.ref a3)] below meth c s₁ [] 0 0 := Stand.of_body Bd
  have e0 : s₁.heap = h0 := by rw [← hh, Bd.state]; rfl
  have N0 := Fr.nil n0
  have hS0 := own_since s 0
  have wS := own_strs hw
  have pre0 : ∀ t, Steps p.tables e below (s₁.setTop (mkF m 0 #[.val (.ref a1), .val (.ref a2), .val (.ref a3)] [])) t → Steps p.tables e below (s₁.setTop (entryFrame m #[(.ref a1), (.ref a2), (.ref a3)] 3)) t := fun t k => castTop (ef_27 m a1 a2 a3) k
  obtain ⟨T4, X4, e4, st4⟩ := getF X0 hx hZ hown (host := "") (Or.inl (hw _ (List.mem_of_getElem? (i := 33) rfl))) Via.refl e0 F_reported_a1 (g := (mkF m 1 #[.val (.ref a1), .val (.ref a2), .val (.ref a3)] [(.ref a1)])) rfl rfl (hb hby d27_1)
  obtain ⟨T5, h5, X5, e5, E5, A5, D5, -, st5⟩ := newO X4 hx hZ hown (hw _ (List.mem_of_getElem? (i := 84) rfl)) (hw _ (List.mem_of_getElem? (i := 85) rfl)) (hw _ (List.mem_of_getElem? (i := 86) rfl)) e4 (g := (mkF m 4 #[.val (.ref a1), .val (.ref a2), .val (.ref a3)] [(.ref al)])) rfl (hb hby d27_4) (by decide) (by decide)
  obtain ⟨b5, g5⟩ : ∃ z, z = h0.size := ⟨_, rfl⟩
  rw [← g5] at A5 D5 st5
  have F_severity_b5 : Fld Z h5 b5 "com/example/stomme/stomme/diagnostic/Diagnostic" "severity" "Lcom/example/stomme/stomme/diagnostic/Diagnostic$Severity;" .null := D5 (Or.inr (hw _ (List.mem_of_getElem? (i := 147) rfl))) (ty := (.object "com/example/stomme/stomme/diagnostic/Diagnostic$Severity")) (by decide)
  have F_position_b5 : Fld Z h5 b5 "com/example/stomme/stomme/diagnostic/Diagnostic" "position" "Lcom/example/stomme/stomme/diagnostic/Position;" .null := D5 (Or.inr (hw _ (List.mem_of_getElem? (i := 149) rfl))) (ty := (.object "com/example/stomme/stomme/diagnostic/Position")) (by decide)
  have F_message_b5 : Fld Z h5 b5 "com/example/stomme/stomme/diagnostic/Diagnostic" "message" "Ljava/lang/String;" .null := D5 (Or.inr (hw _ (List.mem_of_getElem? (i := 151) rfl))) (ty := (.object "java/lang/String")) (by decide)
  have E_b5 := A5
  have g_b5 : n0 ≤ b5 := Nat.le_trans Z0 (Nat.le_of_eq g5.symm)
  have sz_b5 : h0.size ≤ b5 := (Nat.le_trans (Keep.refl h0 [al, ed]).1 (Nat.le_of_eq g5.symm))
  have C5 := CHv.ext E5 C0
  have R5 := (CHr.refl C0).trans (CHr.ext E5 C0)
  have K5 : Keep h0 h5 [al, ed] := (Keep.refl h0 [al, ed]).ext E5
  obtain ⟨T7, X7, e7, st7⟩ := getS2 X5 hx hZ hown (host := "") (Or.inl (hw _ (List.mem_of_getElem? (i := 192) rfl))) Via.refl e5 (S_WARNING.ext (O0.ext E5).2) (g := (mkF m 8 #[.val (.ref a1), .val (.ref a2), .val (.ref a3)] [(.ref b5), (.ref b5), (.ref al)])) rfl (hb hby d27_8)
  obtain ⟨_, _, ⟨T8, L8, k8, n8⟩, -, X8, hS8, gr8, ⟨Lc8, hQ8, l8, y8, z8, RQ8⟩, st8⟩ := X7.specialBackS hx (y := (⟨"com/example/stomme/stomme/diagnostic/Diagnostic", "<init>", "(Lcom/example/stomme/stomme/diagnostic/Diagnostic$Severity;Lcom/example/stomme/stomme/diagnostic/Position;Ljava/lang/String;)V"⟩ : MethodName)) rfl hown (mvT hZ (hw _ (List.mem_of_getElem? (i := 90) rfl))) (mvT hZ (hw _ (List.mem_of_getElem? (i := 91) rfl))) (mvT hZ (hw _ (List.mem_of_getElem? (i := 92) rfl))) (by decide) (backOfSH (W := 2) (rm12 l Z a0 hw [] b5 w6 a2 a3 _ _ _ wA pv clA wC wI bb cl hEL h5 n0 (Nat.le_trans Z0 E5.1) E_b5 (E_a3.ext E5) (F_coder_a3.ext E5) (F_value_a3.ext E5) (Ar_bb.ext E5) F_severity_b5 g_b5 F_position_b5 F_message_b5 (O0.ext E5) S_A Ar_A hinA hatA S_C hC S_I E_I hpv Sz_b hat0) hZ (hw _ (List.mem_of_getElem? (i := 92) rfl)) (hw _ (List.mem_of_getElem? (i := 86) rfl)) (by decide) (by decide) hEL C5) (g := (mkF m 13 #[.val (.ref a1), .val (.ref a2), .val (.ref a3)] [(.ref a3), (.ref a2), (.ref w6), (.ref b5), (.ref b5), (.ref al)])) rfl (by rw [hml]; rfl) (Steps.refl _) (a := b5) (argsL := [(.ref w6), (.ref a2), (.ref a3)]) (rest := [(.ref b5), (.ref al)]) (lenOf pd_27_6 rfl) rfl (by show 2 * 0 + _ ≤ _; exact Nat.le_of_eq rfl) (hb hby d27_13) (fun _ _ => ⟨rfl, e7, (by decide : 1 + 6 ≤ _), (by decide : 3 + 104 ≤ _)⟩)
  dsimp only [Pt.U, Pt.locs, Pt.cells, Pt.slots] at X8 hS8 gr8 l8 y8 z8 st8 hQ8 RQ8
  subst l8 y8 z8
  obtain ⟨rfl, N8q, K8c, E8c⟩ := hQ8
  have N8 := Fr.app N0 N8q
  have K8 : Keep h0 T8.heap [al, ed] := K5.trans K8c (allS (Or.inr sz_b5) all0)
  obtain ⟨X8, hS8, hZ8, hown8⟩ := rebS hS0 (by rw [e7]; exact (Nat.le_trans (Nat.zero_le _) E5.1)) X8 hS8 gr8 hZ hown
  have C8 := RQ8.1
  have R8 := R5.trans RQ8
  obtain ⟨cq9, kq9, q9a, q9b, q9c⟩ := isOf hZ8 rfl ((E_al.ext E5).keep K8c)
  obtain ⟨_, _, ⟨T9, L9, k9, n9⟩, -, X9, ⟨Lc9, hQ9, l9, y9, z9⟩, st9⟩ := X8.interfaceBack hx (xi := (⟨"java/util/List", "add", "(Ljava/lang/Object;)Z"⟩ : MethodName)) (y := (⟨"java/util/ArrayList", "add", "(Ljava/lang/Object;)Z"⟩ : MethodName)) hown8 (mvT hZ8 (hw _ (List.mem_of_getElem? (i := 152) rfl))) (mvT hZ8 (hw _ (List.mem_of_getElem? (i := 153) rfl))) (mvT hZ8 (hw _ (List.mem_of_getElem? (i := 154) rfl))) (mvT hZ8 (hw _ (List.mem_of_getElem? (i := 155) rfl))) (mvT hZ8 (hw _ (List.mem_of_getElem? (i := 156) rfl))) (mvT hZ8 (hw _ (List.mem_of_getElem? (i := 157) rfl))) (mvT hZ8 (hw _ (List.mem_of_getElem? (i := 158) rfl))) (mvT hZ8 (hw _ (List.mem_of_getElem? (i := 159) rfl))) (by decide) (backOf (W := 0) (rm22L l Z a0 hw [] al b5 mc sz ed cld T8.heap n0 (Nat.le_trans (Nat.le_trans Z0 E5.1) K8c.1) ((E_al.ext E5).keep K8c) E8c ((F_modCount_al.ext E5).keep K8c (ninS (Nat.ne_of_lt (Nat.lt_of_lt_of_le E_al.lt (Nat.le_of_eq g5.symm))) nin0)) ((F_size_al.ext E5).keep K8c (ninS (Nat.ne_of_lt (Nat.lt_of_lt_of_le E_al.lt (Nat.le_of_eq g5.symm))) nin0)) ((F_elementData_al.ext E5).keep K8c (ninS (Nat.ne_of_lt (Nat.lt_of_lt_of_le E_al.lt (Nat.le_of_eq g5.symm))) nin0)) (own_arrk (Ar_ed.ext E5) K8c (ninS (Nat.ne_of_lt (Nat.lt_of_lt_of_le Ar_ed.lt (Nat.le_of_eq g5.symm))) nin0)) g_al g_ed Sz_ed n_aled O3 (own_szin Sz_ed hb_sz hk5).1 (own_szin Sz_ed hb_sz hk5).2) hZ8 (hw _ (List.mem_of_getElem? (i := 160) rfl)) (hw _ (List.mem_of_getElem? (i := 11) rfl)) (by decide) (by decide)) q9a q9b q9c (g := (mkF m 16 #[.val (.ref a1), .val (.ref a2), .val (.ref a3)] [(.ref b5), (.ref al)])) rfl (by rw [hml]; rfl) (Steps.refl _) (argsL := [(.ref b5)]) (rest := []) (lenOf pd_27_13 rfl) rfl (by show 2 * 0 + _ ≤ _; exact Nat.le_of_eq rfl) (hb hby d27_16) (fun _ _ => ⟨rfl, rfl, (by decide : 7 + 0 ≤ _), (by decide : 107 + 0 ≤ _)⟩)
  dsimp only [Pt.U, Pt.locs, Pt.cells, Pt.slots] at X9 l9 y9 z9 st9 hQ9
  subst l9 y9 z9
  obtain ⟨rfl, N9q, K9c, E9c, mcX, szX, edX, clX, FmX, FsX, FeX, hsX, gdX, AdX, ZdX, OdX⟩ := hQ9
  have N9 := Fr.app N8 N9q
  have K9 : Keep h0 T9.heap [al, ed] := K8.trans K9c (allS (Or.inl (List.mem_of_getElem? (i := 0) rfl)) (allS (Or.inl (List.mem_of_getElem? (i := 1) rfl)) all0))
  have C9 := CHv.keep K9c (sfS (Safe.exa hZ8.alike ((E_al.ext E5).keep K8c) (by decide) (by decide)) (sfS (Safe.arr hZ8.alike (own_arrk (Ar_ed.ext E5) K8c (ninS (Nat.ne_of_lt (Nat.lt_of_lt_of_le Ar_ed.lt (Nat.le_of_eq g5.symm))) nin0)) (by decide)) sf0)) C8
  have R9 := R8.trans (CHr.keep K9c (sfS (Safe.exa hZ8.alike ((E_al.ext E5).keep K8c) (by decide) (by decide)) (sfS (Safe.arr hZ8.alike (own_arrk (Ar_ed.ext E5) K8c (ninS (Nat.ne_of_lt (Nat.lt_of_lt_of_le Ar_ed.lt (Nat.le_of_eq g5.symm))) nin0)) (by decide)) sf0)) C8)
  have n_edX : a1 ≠ edX := ne_arr (((E_a1.ext E5).keep K8c).keep K9c) (hw _ (List.mem_of_getElem? (i := 1) rfl)) AdX
  have RZ := R9.trans (CHv.at X9 hZ8 hEL C9)
  obtain ⟨fs, hr, hrun, hended, hREW⟩ := (X9.more (cells' := ({ frames := 6, cells := 7, slots := 107, locals := 85 } : Room).cells) (slots' := ({ frames := 6, cells := 7, slots := 107, locals := 85 } : Room).slots) (by decide) (by decide)).leaveW hS8 (Nat.le_trans (Nat.le_refl _) K9c.1) (v := none) (fun _ => rfl)
  refine ⟨_, _, pre0 _ ?_, hrun, hended, _, _, rfl, ?_, ?_, hREW⟩
  · show Steps p.tables e below (s₁.setTop (mkF m 0 #[.val (.ref a1), .val (.ref a2), .val (.ref a3)] [])) _
    refine XS.aloadN X0.here hx rfl (hb hby d27_0) rfl rfl ?_
    show Steps p.tables e below (s₁.setTop (mkF m 1 #[.val (.ref a1), .val (.ref a2), .val (.ref a3)] [(.ref a1)])) _
    refine st4 _ ?_
    show Steps p.tables e below (T4.setTop (mkF m 4 #[.val (.ref a1), .val (.ref a2), .val (.ref a3)] [(.ref al)])) _
    refine st5 _ ?_
    show Steps p.tables e below (T5.setTop (mkF m 7 #[.val (.ref a1), .val (.ref a2), .val (.ref a3)] [(.ref b5), (.ref al)])) _
    refine XS.dup X5.here hx rfl (hb hby d27_7) rfl rfl ?_
    show Steps p.tables e below (T5.setTop (mkF m 8 #[.val (.ref a1), .val (.ref a2), .val (.ref a3)] [(.ref b5), (.ref b5), (.ref al)])) _
    refine st7 _ ?_
    show Steps p.tables e below (T7.setTop (mkF m 11 #[.val (.ref a1), .val (.ref a2), .val (.ref a3)] [(.ref w6), (.ref b5), (.ref b5), (.ref al)])) _
    refine XS.aloadN X7.here hx rfl (hb hby d27_11) rfl rfl ?_
    show Steps p.tables e below (T7.setTop (mkF m 12 #[.val (.ref a1), .val (.ref a2), .val (.ref a3)] [(.ref a2), (.ref w6), (.ref b5), (.ref b5), (.ref al)])) _
    refine XS.aloadN X7.here hx rfl (hb hby d27_12) rfl rfl ?_
    show Steps p.tables e below (T7.setTop (mkF m 13 #[.val (.ref a1), .val (.ref a2), .val (.ref a3)] [(.ref a3), (.ref a2), (.ref w6), (.ref b5), (.ref b5), (.ref al)])) _
    refine st8.trans ?_
    show Steps p.tables e below (T8.setTop (mkF m 16 #[.val (.ref a1), .val (.ref a2), .val (.ref a3)] [(.ref b5), (.ref al)])) _
    refine st9.trans ?_
    show Steps p.tables e below (T9.setTop (mkF m 21 #[.val (.ref a1), .val (.ref a2), .val (.ref a3)] [(.int (1 : Int32))])) _
    refine XS.pop X9.here hx rfl (hb hby d27_21) rfl rfl ?_
    show Steps p.tables e below (T9.setTop (mkF m 22 #[.val (.ref a1), .val (.ref a2), .val (.ref a3)] [])) _
    exact X9.returnOut hx Bd.returns (hb hby d27_22) hr
  · show Q27L Z a1 al e9 k wD h0 n0 _ T9.heap _
    exact ⟨rfl, N9, (((O0.ext E5).keep K8c (allS g_b5 all0)).keep K9c (allS g_al (allS g_ed all0))), (((E_a1.ext E5).keep K8c).keep K9c), (((F_reported_a1.ext E5).keep K8c (ninS (Nat.ne_of_lt (Nat.lt_of_lt_of_le E_a1.lt (Nat.le_of_eq g5.symm))) nin0)).keep K9c (ninS n_dal (ninS n_ded nin0))), (((F_errors_a1.ext E5).keep K8c (ninS (Nat.ne_of_lt (Nat.lt_of_lt_of_le E_a1.lt (Nat.le_of_eq g5.symm))) nin0)).keep K9c (ninS n_dal (ninS n_ded nin0))), E9c, g_a1, g_al, Or.inr ⟨_, _, _, _, FmX, FsX, FeX, own_szS hsX hb_sz hk5, gdX, AdX, ZdX, OdX⟩⟩
  · show CHr Z EL s.vm s.heap T9.vm T9.heap
    rw [hh]
    exact RZ
def own_r (k : Int32) : Int32 := if k = (1 : Int32) then 0 else if k < (2 : Int32) then 0 else 1
theorem own_dgS {Z : State} {h : Heap} {n0 : Nat} {wD d al : Addr} {e : Int32} {k : Nat} (D : Dg Z h n0 wD d al e k) : Dg Z h n0 wD d al e (k + 1) := by
  obtain ⟨d1, d2, d3, d4, d5, d6, d7⟩ := D
  refine ⟨d1, d2, d3, d4, d5, d6, d7.imp id ?_⟩
  rintro ⟨mc, sz, b, cl, f1, f2, f3, ⟨f4, f5⟩, r⟩
  exact ⟨mc, sz, b, cl, f1, f2, f3, ⟨f4, by omega⟩, r⟩
theorem own_add0 (x : Int32) : x + (0 : Int32) = x := by
  have a := c_iadd x (0 : Int32)
  have r := rng32 (x + (0 : Int32))
  have r2 := rng32 x
  have z0 : (0 : Int32).toInt = 0 := by decide
  rw [← Int32.toInt_inj]; omega
theorem d10_0 : decode method_3_code 0 = .ok (.iload_n 2, 1) := by decide +kernel
theorem d10_1 : decode method_3_code 1 = .ok (.iconst 1, 1) := by decide +kernel
theorem d10_2 : decode method_3_code 2 = .ok (.if_icmp .ne 12, 3) := by decide +kernel
theorem d10_5 : decode method_3_code 5 = .ok (.aload_n 0, 1) := by decide +kernel
theorem d10_6 : decode method_3_code 6 = .ok (.aload_n 1, 1) := by decide +kernel
theorem d10_7 : decode method_3_code 7 = .ok (.ldc 28, 2) := by decide +kernel
theorem d10_9 : decode method_3_code 9 = .ok (.invokevirtual 30, 3) := by decide +kernel
theorem d10_12 : decode method_3_code 12 = .ok (.iconst 0, 1) := by decide +kernel
theorem d10_13 : decode method_3_code 13 = .ok (.ireturn, 1) := by decide +kernel
theorem pn_10 : plainName "com/example/stomme/stomme/diagnostic/DiagnosticsHasErrorsPinLaw" = true := by first | (simp [plainName, overriddenIn]; done) | decide +kernel
theorem pd_10_5 : parseMethodDescriptor "(Lcom/example/stomme/stomme/diagnostic/Position;Ljava/lang/String;)V" = some ⟨[(.object "com/example/stomme/stomme/diagnostic/Position"), (.object "java/lang/String")], none⟩ := by decide +kernel
theorem ef_10 (m : MethodId) (x0 : Addr) (x1 : Addr) (x2 : Int32) : entryFrame m #[(.ref x0), (.ref x1), (.int x2)] 3 = mkF m 0 #[.val (.ref x0), .val (.ref x1), .val (.int x2)] [] := by first | (simp [entryFrame, mkF, argsToLocals, Value.category]; done) | rfl
def Q10 (Z : State) (a1 : Addr) (p3 : Int32) (al : Addr) (e9 : Int32) (k : Nat) (wD : Addr) (h0 : Heap) (n0 : Nat) (v : Option Value) (h : Heap) (L : List Loc) : Prop := v = some (.int (own_r p3)) ∧ Fr n0 L ∧ Old Z n0 h ∧ Dg Z h n0 wD a1 al (e9 + own_r p3) (k + 1)
set_option maxRecDepth 65536 in
set_option maxHeartbeats 40000000 in
theorem rm10WF (l : Launch) (Z : State) (a0 : Array Value) (hw : ∀ d ∈ tables_1, d.before a0 Z = true) (ws : List Jvm.Cond) (a1 : Addr) (a2 : Addr) (p3 : Int32) (al : Addr) (e9 : Int32) (mc : Int32) (k : Nat) (wD : Addr) (clD : Cell) (wA : Addr) (pv : Int32) (clA : Cell) (wC : Int32) (wI : Addr) (w6 : Addr) (hEL : EW Z a0 EL) (h0 : Heap) (n0 : Nat) (Z0 : n0 ≤ h0.size) (E_a1 : Exa Z h0 a1 "com/example/stomme/stomme/diagnostic/Diagnostics") (E_al : Exa Z h0 al "java/util/ArrayList") (F_reported_a1 : Fld Z h0 a1 "com/example/stomme/stomme/diagnostic/Diagnostics" "reported" "Ljava/util/List;" (.ref al)) (F_errors_a1 : Fld Z h0 a1 "com/example/stomme/stomme/diagnostic/Diagnostics" "errors" "I" (.int e9)) (F_modCount_al : Fld Z h0 al "java/util/AbstractList" "modCount" "I" (.int mc)) (F_size_al : Fld Z h0 al "java/util/ArrayList" "size" "I" (.int (0 : Int32))) (F_elementData_al : Fld Z h0 al "java/util/ArrayList" "elementData" "[Ljava/lang/Object;" (.ref wD)) (O0 : Old Z n0 h0) (S_A : Sta Z Z.heap "java/lang/CharacterDataLatin1" "A" "[I" (.ref wA)) (Ar_A : Arr Z Z.heap wA clA .int) (hinA : ¬ (((109 : Int32).toUInt32.toUInt16.toUInt32.toInt32) < 0 ∨ clA.slots.size ≤ ((109 : Int32).toUInt32.toUInt16.toUInt32.toInt32).toNatClampNeg)) (hatA : clA.slots[((109 : Int32).toUInt32.toUInt16.toUInt32.toInt32).toNatClampNeg]? = some (.int pv)) (S_C : Sta Z Z.heap "java/lang/String" "COMPACT_STRINGS" "Z" (.int wC)) (hC : ¬ (wC = (0 : Int32))) (S_I : Sta Z Z.heap "java/lang/CharacterDataLatin1" "instance" "Ljava/lang/CharacterDataLatin1;" (.ref wI)) (E_I : Exa Z Z.heap wI "java/lang/CharacterDataLatin1") (hpv : ¬ ((pv &&& (28672 : Int32)) = (16384 : Int32))) (S_D : Sta Z Z.heap "java/util/ArrayList" "DEFAULTCAPACITY_EMPTY_ELEMENTDATA" "[Ljava/lang/Object;" (.ref wD)) (Ar_D : Arr Z Z.heap wD clD (.object "java/lang/Object")) (Sz_D : clD.slots.size = (0 : Int32).toNatClampNeg) (S_V : Sta Z Z.heap "com/example/stomme/stomme/diagnostic/Diagnostic$Severity" "WARNING" "Lcom/example/stomme/stomme/diagnostic/Diagnostic$Severity;" (.ref w6)) (g_a1 : n0 ≤ a1) (g_al : n0 ≤ al) (n_dal : a1 ≠ al) (hc2 : p3 = (1 : Int32)) :
    MetFree l (⟨"com/example/stomme/stomme/diagnostic/DiagnosticsHasErrorsPinLaw", "step", "(Lcom/example/stomme/stomme/diagnostic/Diagnostics;Lcom/example/stomme/stomme/diagnostic/Position;I)I"⟩ : MethodName) (head1 (Jvm.Cond.code (⟨"com/example/stomme/stomme/diagnostic/DiagnosticsHasErrorsPinLaw", "step", "(Lcom/example/stomme/stomme/diagnostic/Diagnostics;Lcom/example/stomme/stomme/diagnostic/Position;I)I"⟩ : MethodName) method_3_code 3 (some .int) :: ws) ({ frames := 7, cells := 10, slots := 125, locals := 99 } : Room)) (fun a U => a = #[(.ref a1), (.ref a2), (.int p3)] ∧ Z.Warmed39 U.vm ∧ U.heap = h0 ∧ CHv Z EL U.vm h0) (fun _ _ _ _ _ => True) (fun _ U o U' => ∃ v L, o = .returned v ∧ Q10 Z a1 p3 al e9 k wD h0 n0 v U'.heap L ∧ CHr Z EL U.vm U.heap U'.vm U'.heap ∧ ReturnedEndW U o U' L ({ frames := 7, cells := 10, slots := 125, locals := 99 } : Room).cells ({ frames := 7, cells := 10, slots := 125, locals := 99 } : Room).slots) := by
  refine MetFree.of_bodySF (plainFor_of_name pn_10) hisR ?_
  intro p e s m args below meth c s₁ Bd hml0 hP hK
  obtain ⟨rfl, hZ, hh, C0⟩ := hP
  have hx := Bd.exec
  have hby := Bd.bytes
  have hml : c.maxLocals = 3 := hml0
  have hown : s.vm.findClass "com/example/stomme/stomme/diagnostic/DiagnosticsHasErrorsPinLaw" = some m.cls := findClass_of_methodNamed Bd.named
  have hnm := (name_of_methodNamed Bd.named Bd.method).1
  have X0 : Stand p l e ({ frames := 7, cells := 10, slots := 125, locals := 99 } : Room) (s.setVm s.vm) m #[(.ref a1), (.ref a2), (.int p3)] below meth c s₁ [] 0 0 := Stand.of_body Bd
  have e0 : s₁.heap = h0 := by rw [← hh, Bd.state]; rfl
  have N0 := Fr.nil n0
  have hS0 := own_since s 0
  have wS := own_strs hw
  have pre0 : ∀ t, Steps p.tables e below (s₁.setTop (mkF m 0 #[.val (.ref a1), .val (.ref a2), .val (.int p3)] [])) t → Steps p.tables e below (s₁.setTop (entryFrame m #[(.ref a1), (.ref a2), (.int p3)] 3)) t := fun t k => castTop (ef_10 m a1 a2 p3) k
  obtain ⟨b4, T4, h4, kk4, bb4, kc4, X4, e4, E4, hS4, hk4, hZ4, hown4, Ex4, Fc4, Fv4, Av4, lb4, lbb4, RQ4, -, Ne4, st4⟩ := ldcCH X0 hx hZ hown (hw _ (List.mem_of_getElem? (i := 78) rfl)) wS e0 hS0 (Nat.zero_le _) hEL (by simp [EL]) C0 (vs := [.int (109 : Int32)]) (z := (1 : Int32)) ⟨by decide, by rfl⟩ (by decide) rfl (g := (mkF m 7 #[.val (.ref a1), .val (.ref a2), .val (.int p3)] [(.ref a2), (.ref a1)])) rfl (hb hby d10_7) (n := 4) (by decide) (by decide) (by decide) (by decide)
  have C4 := RQ4.1
  have R4 := (CHr.refl C0).trans RQ4
  have K4 : Keep h0 h4 [] := (Keep.refl h0 []).ext E4
  obtain ⟨clM, ArM, -, SzM, -, HM, -⟩ := Av4
  have hatM : clM.slots[(0 : Int32).toNatClampNeg]? = some (.int (109 : Int32)) := HM.at (inb_of SzM ⟨by decide, by decide⟩) rfl
  obtain ⟨cq5, kq5, q5a, q5b, q5c⟩ := isOf hZ4 e4 (E_a1.ext E4)
  obtain ⟨_, _, ⟨T5, L5, k5, n5⟩, -, X5, hS5, gr5, ⟨Lc5, hQ5, l5, y5, z5, RQ5⟩, st5⟩ := X4.virtualBackS hx (y := (⟨"com/example/stomme/stomme/diagnostic/Diagnostics", "warning", "(Lcom/example/stomme/stomme/diagnostic/Position;Ljava/lang/String;)V"⟩ : MethodName)) (z := (⟨"com/example/stomme/stomme/diagnostic/Diagnostics", "warning", "(Lcom/example/stomme/stomme/diagnostic/Position;Ljava/lang/String;)V"⟩ : MethodName)) hown4 (mvT hZ4 (hw _ (List.mem_of_getElem? (i := 187) rfl))) (mvT hZ4 (hw _ (List.mem_of_getElem? (i := 188) rfl))) (notFace_of_selects (args := #[]) (mvT hZ4 (hw _ (List.mem_of_getElem? (i := 190) rfl)))) (mvT hZ4 (hw _ (List.mem_of_getElem? (i := 190) rfl))) (mvT hZ4 (hw _ (List.mem_of_getElem? (i := 189) rfl))) (by decide) (backOfSH (W := 0) (rm27F l Z a0 hw [] a1 a2 b4 w6 al e9 mc k wD clD wA pv clA wC wI bb4 clM hEL h4 n0 (Nat.le_trans Z0 E4.1) (E_a1.ext E4) (E_al.ext E4) Ex4 (F_reported_a1.ext E4) (F_errors_a1.ext E4) (F_modCount_al.ext E4) (F_size_al.ext E4) (F_elementData_al.ext E4) Fc4 Fv4 ArM (O0.ext E4) S_V g_al S_A Ar_A hinA hatA S_C hC S_I E_I hpv SzM hatM S_D Ar_D Sz_D g_a1 n_dal) hZ4 (hw _ (List.mem_of_getElem? (i := 191) rfl)) (hw _ (List.mem_of_getElem? (i := 2) rfl)) (by decide) (by decide) hEL C4) q5a q5c (g := (mkF m 9 #[.val (.ref a1), .val (.ref a2), .val (.int p3)] [(.ref b4), (.ref a2), (.ref a1)])) rfl (by rw [hml]; rfl) (Steps.refl _) (argsL := [(.ref a2), (.ref b4)]) (rest := []) (lenOf pd_10_5 rfl) rfl (by show 2 * 0 + _ ≤ _; exact Nat.le_of_eq rfl) (hb hby d10_9) (fun _ _ => ⟨rfl, e4, (by decide : 2 + 8 ≤ _), (by decide : 8 + 117 ≤ _)⟩)
  dsimp only [Pt.U, Pt.locs, Pt.cells, Pt.slots] at X5 hS5 gr5 l5 y5 z5 st5 hQ5 RQ5
  subst l5 y5 z5
  obtain ⟨rfl, N5q, O5c, D5c⟩ := hQ5
  have N5 := Fr.app N0 N5q
  obtain ⟨X5, hS5, hZ5, hown5⟩ := rebS hS4 (by rw [e4]; exact hk4) X5 hS5 gr5 hZ4 hown4
  have C5 := RQ5.1
  have R5 := R4.trans RQ5
  have RZ := R5.trans (CHv.at X5 hZ5 hEL C5)
  obtain ⟨fs, hr, hrun, hended, hREW⟩ := (X5.more (cells' := ({ frames := 7, cells := 10, slots := 125, locals := 99 } : Room).cells) (slots' := ({ frames := 7, cells := 10, slots := 125, locals := 99 } : Room).slots) (by decide) (by decide)).leaveW hS5 (Nat.le_refl _) (v := some (.int (0 : Int32))) (fun h => by rw [Bd.returns] at h; cases h)
  refine ⟨_, _, pre0 _ ?_, hrun, hended, _, _, rfl, ?_, ?_, hREW⟩
  · show Steps p.tables e below (s₁.setTop (mkF m 0 #[.val (.ref a1), .val (.ref a2), .val (.int p3)] [])) _
    refine XS.iloadN X0.here hx rfl (hb hby d10_0) rfl ?_
    show Steps p.tables e below (s₁.setTop (mkF m 1 #[.val (.ref a1), .val (.ref a2), .val (.int p3)] [(.int p3)])) _
    refine XS.iconst X0.here hx rfl (hb hby d10_1) ?_
    show Steps p.tables e below (s₁.setTop (mkF m 2 #[.val (.ref a1), .val (.ref a2), .val (.int p3)] [(.int (1 : Int32)), (.int p3)])) _
    refine XS.icmpNo X0.here hx rfl (hb hby d10_2) rfl (teq hc2).2 ?_
    show Steps p.tables e below (s₁.setTop (mkF m 5 #[.val (.ref a1), .val (.ref a2), .val (.int p3)] [])) _
    refine XS.aloadN X0.here hx rfl (hb hby d10_5) rfl rfl ?_
    show Steps p.tables e below (s₁.setTop (mkF m 6 #[.val (.ref a1), .val (.ref a2), .val (.int p3)] [(.ref a1)])) _
    refine XS.aloadN X0.here hx rfl (hb hby d10_6) rfl rfl ?_
    show Steps p.tables e below (s₁.setTop (mkF m 7 #[.val (.ref a1), .val (.ref a2), .val (.int p3)] [(.ref a2), (.ref a1)])) _
    refine st4 _ ?_
    show Steps p.tables e below (T4.setTop (mkF m 9 #[.val (.ref a1), .val (.ref a2), .val (.int p3)] [(.ref b4), (.ref a2), (.ref a1)])) _
    refine st5.trans ?_
    show Steps p.tables e below (T5.setTop (mkF m 12 #[.val (.ref a1), .val (.ref a2), .val (.int p3)] [])) _
    refine XS.iconst X5.here hx rfl (hb hby d10_12) ?_
    show Steps p.tables e below (T5.setTop (mkF m 13 #[.val (.ref a1), .val (.ref a2), .val (.int p3)] [(.int (0 : Int32))])) _
    exact retI X5 hx Bd.returns (hb hby d10_13) hr
  · show Q10 Z a1 p3 al e9 k wD h0 n0 _ T5.heap _
    have er : own_r p3 = (0 : Int32) := by rw [own_r, if_pos hc2]
    refine ⟨by rw [er], N5, O5c, ?_⟩
    rw [er, own_add0]
    exact D5c
  · show CHr Z EL s.vm s.heap T5.vm T5.heap
    rw [hh]
    exact RZ
set_option maxRecDepth 65536 in
set_option maxHeartbeats 40000000 in
theorem rm10WL (l : Launch) (Z : State) (a0 : Array Value) (hw : ∀ d ∈ tables_1, d.before a0 Z = true) (ws : List Jvm.Cond) (a1 : Addr) (a2 : Addr) (p3 : Int32) (al : Addr) (e9 : Int32) (mc : Int32) (k : Nat) (wD : Addr) (clD : Cell) (wA : Addr) (pv : Int32) (clA : Cell) (wC : Int32) (wI : Addr) (w6 : Addr) (sz : Int32) (ed : Addr) (cld : Cell) (hEL : EW Z a0 EL) (h0 : Heap) (n0 : Nat) (Z0 : n0 ≤ h0.size) (E_a1 : Exa Z h0 a1 "com/example/stomme/stomme/diagnostic/Diagnostics") (E_al : Exa Z h0 al "java/util/ArrayList") (F_reported_a1 : Fld Z h0 a1 "com/example/stomme/stomme/diagnostic/Diagnostics" "reported" "Ljava/util/List;" (.ref al)) (F_errors_a1 : Fld Z h0 a1 "com/example/stomme/stomme/diagnostic/Diagnostics" "errors" "I" (.int e9)) (F_modCount_al : Fld Z h0 al "java/util/AbstractList" "modCount" "I" (.int mc)) (F_size_al : Fld Z h0 al "java/util/ArrayList" "size" "I" (.int sz)) (F_elementData_al : Fld Z h0 al "java/util/ArrayList" "elementData" "[Ljava/lang/Object;" (.ref ed)) (Ar_ed : Arr Z h0 ed cld (.object "java/lang/Object")) (O0 : Old Z n0 h0) (S_A : Sta Z Z.heap "java/lang/CharacterDataLatin1" "A" "[I" (.ref wA)) (Ar_A : Arr Z Z.heap wA clA .int) (hinA : ¬ (((109 : Int32).toUInt32.toUInt16.toUInt32.toInt32) < 0 ∨ clA.slots.size ≤ ((109 : Int32).toUInt32.toUInt16.toUInt32.toInt32).toNatClampNeg)) (hatA : clA.slots[((109 : Int32).toUInt32.toUInt16.toUInt32.toInt32).toNatClampNeg]? = some (.int pv)) (S_C : Sta Z Z.heap "java/lang/String" "COMPACT_STRINGS" "Z" (.int wC)) (hC : ¬ (wC = (0 : Int32))) (S_I : Sta Z Z.heap "java/lang/CharacterDataLatin1" "instance" "Ljava/lang/CharacterDataLatin1;" (.ref wI)) (E_I : Exa Z Z.heap wI "java/lang/CharacterDataLatin1") (hpv : ¬ ((pv &&& (28672 : Int32)) = (16384 : Int32))) (S_D : Sta Z Z.heap "java/util/ArrayList" "DEFAULTCAPACITY_EMPTY_ELEMENTDATA" "[Ljava/lang/Object;" (.ref wD)) (Ar_D : Arr Z Z.heap wD clD (.object "java/lang/Object")) (Sz_D : clD.slots.size = (0 : Int32).toNatClampNeg) (S_V : Sta Z Z.heap "com/example/stomme/stomme/diagnostic/Diagnostic$Severity" "WARNING" "Lcom/example/stomme/stomme/diagnostic/Diagnostic$Severity;" (.ref w6)) (g_a1 : n0 ≤ a1) (g_al : n0 ≤ al) (n_dal : a1 ≠ al) (Sz_ed : cld.slots.size = (10 : Int32).toNatClampNeg) (g_ed : n0 ≤ ed) (n_aled : al ≠ ed) (n_ded : a1 ≠ ed) (O3 : Ovr Z cld.cls "java/lang/Object") (hb_sz : 0 ≤ sz.toInt ∧ sz.toInt ≤ (k : Int)) (hk5 : k ≤ 5) (hc2 : p3 = (1 : Int32)) :
    MetFree l (⟨"com/example/stomme/stomme/diagnostic/DiagnosticsHasErrorsPinLaw", "step", "(Lcom/example/stomme/stomme/diagnostic/Diagnostics;Lcom/example/stomme/stomme/diagnostic/Position;I)I"⟩ : MethodName) (head1 (Jvm.Cond.code (⟨"com/example/stomme/stomme/diagnostic/DiagnosticsHasErrorsPinLaw", "step", "(Lcom/example/stomme/stomme/diagnostic/Diagnostics;Lcom/example/stomme/stomme/diagnostic/Position;I)I"⟩ : MethodName) method_3_code 3 (some .int) :: ws) ({ frames := 7, cells := 10, slots := 125, locals := 99 } : Room)) (fun a U => a = #[(.ref a1), (.ref a2), (.int p3)] ∧ Z.Warmed39 U.vm ∧ U.heap = h0 ∧ CHv Z EL U.vm h0) (fun _ _ _ _ _ => True) (fun _ U o U' => ∃ v L, o = .returned v ∧ Q10 Z a1 p3 al e9 k wD h0 n0 v U'.heap L ∧ CHr Z EL U.vm U.heap U'.vm U'.heap ∧ ReturnedEndW U o U' L ({ frames := 7, cells := 10, slots := 125, locals := 99 } : Room).cells ({ frames := 7, cells := 10, slots := 125, locals := 99 } : Room).slots) := by
  refine MetFree.of_bodySF (plainFor_of_name pn_10) hisR ?_
  intro p e s m args below meth c s₁ Bd hml0 hP hK
  obtain ⟨rfl, hZ, hh, C0⟩ := hP
  have hx := Bd.exec
  have hby := Bd.bytes
  have hml : c.maxLocals = 3 := hml0
  have hown : s.vm.findClass "com/example/stomme/stomme/diagnostic/DiagnosticsHasErrorsPinLaw" = some m.cls := findClass_of_methodNamed Bd.named
  have hnm := (name_of_methodNamed Bd.named Bd.method).1
  have X0 : Stand p l e ({ frames := 7, cells := 10, slots := 125, locals := 99 } : Room) (s.setVm s.vm) m #[(.ref a1), (.ref a2), (.int p3)] below meth c s₁ [] 0 0 := Stand.of_body Bd
  have e0 : s₁.heap = h0 := by rw [← hh, Bd.state]; rfl
  have N0 := Fr.nil n0
  have hS0 := own_since s 0
  have wS := own_strs hw
  have pre0 : ∀ t, Steps p.tables e below (s₁.setTop (mkF m 0 #[.val (.ref a1), .val (.ref a2), .val (.int p3)] [])) t → Steps p.tables e below (s₁.setTop (entryFrame m #[(.ref a1), (.ref a2), (.int p3)] 3)) t := fun t k => castTop (ef_10 m a1 a2 p3) k
  obtain ⟨b4, T4, h4, kk4, bb4, kc4, X4, e4, E4, hS4, hk4, hZ4, hown4, Ex4, Fc4, Fv4, Av4, lb4, lbb4, RQ4, -, Ne4, st4⟩ := ldcCH X0 hx hZ hown (hw _ (List.mem_of_getElem? (i := 78) rfl)) wS e0 hS0 (Nat.zero_le _) hEL (by simp [EL]) C0 (vs := [.int (109 : Int32)]) (z := (1 : Int32)) ⟨by decide, by rfl⟩ (by decide) rfl (g := (mkF m 7 #[.val (.ref a1), .val (.ref a2), .val (.int p3)] [(.ref a2), (.ref a1)])) rfl (hb hby d10_7) (n := 4) (by decide) (by decide) (by decide) (by decide)
  have C4 := RQ4.1
  have R4 := (CHr.refl C0).trans RQ4
  have K4 : Keep h0 h4 [] := (Keep.refl h0 []).ext E4
  obtain ⟨clM, ArM, -, SzM, -, HM, -⟩ := Av4
  have hatM : clM.slots[(0 : Int32).toNatClampNeg]? = some (.int (109 : Int32)) := HM.at (inb_of SzM ⟨by decide, by decide⟩) rfl
  obtain ⟨cq5, kq5, q5a, q5b, q5c⟩ := isOf hZ4 e4 (E_a1.ext E4)
  obtain ⟨_, _, ⟨T5, L5, k5, n5⟩, -, X5, hS5, gr5, ⟨Lc5, hQ5, l5, y5, z5, RQ5⟩, st5⟩ := X4.virtualBackS hx (y := (⟨"com/example/stomme/stomme/diagnostic/Diagnostics", "warning", "(Lcom/example/stomme/stomme/diagnostic/Position;Ljava/lang/String;)V"⟩ : MethodName)) (z := (⟨"com/example/stomme/stomme/diagnostic/Diagnostics", "warning", "(Lcom/example/stomme/stomme/diagnostic/Position;Ljava/lang/String;)V"⟩ : MethodName)) hown4 (mvT hZ4 (hw _ (List.mem_of_getElem? (i := 187) rfl))) (mvT hZ4 (hw _ (List.mem_of_getElem? (i := 188) rfl))) (notFace_of_selects (args := #[]) (mvT hZ4 (hw _ (List.mem_of_getElem? (i := 190) rfl)))) (mvT hZ4 (hw _ (List.mem_of_getElem? (i := 190) rfl))) (mvT hZ4 (hw _ (List.mem_of_getElem? (i := 189) rfl))) (by decide) (backOfSH (W := 0) (rm27L l Z a0 hw [] a1 a2 b4 w6 al e9 mc k wD clD wA pv clA wC wI bb4 clM sz ed cld hEL h4 n0 (Nat.le_trans Z0 E4.1) (E_a1.ext E4) (E_al.ext E4) Ex4 (F_reported_a1.ext E4) (F_errors_a1.ext E4) (F_modCount_al.ext E4) (F_size_al.ext E4) (F_elementData_al.ext E4) Fc4 Fv4 ArM (Ar_ed.ext E4) (O0.ext E4) S_V g_al g_ed S_A Ar_A hinA hatA S_C hC S_I E_I hpv SzM hatM S_D Ar_D Sz_D g_a1 n_dal Sz_ed n_aled n_ded O3 hb_sz hk5) hZ4 (hw _ (List.mem_of_getElem? (i := 191) rfl)) (hw _ (List.mem_of_getElem? (i := 2) rfl)) (by decide) (by decide) hEL C4) q5a q5c (g := (mkF m 9 #[.val (.ref a1), .val (.ref a2), .val (.int p3)] [(.ref b4), (.ref a2), (.ref a1)])) rfl (by rw [hml]; rfl) (Steps.refl _) (argsL := [(.ref a2), (.ref b4)]) (rest := []) (lenOf pd_10_5 rfl) rfl (by show 2 * 0 + _ ≤ _; exact Nat.le_of_eq rfl) (hb hby d10_9) (fun _ _ => ⟨rfl, e4, (by decide : 2 + 7 ≤ _), (by decide : 8 + 107 ≤ _)⟩)
  dsimp only [Pt.U, Pt.locs, Pt.cells, Pt.slots] at X5 hS5 gr5 l5 y5 z5 st5 hQ5 RQ5
  subst l5 y5 z5
  obtain ⟨rfl, N5q, O5c, D5c⟩ := hQ5
  have N5 := Fr.app N0 N5q
  obtain ⟨X5, hS5, hZ5, hown5⟩ := rebS hS4 (by rw [e4]; exact hk4) X5 hS5 gr5 hZ4 hown4
  have C5 := RQ5.1
  have R5 := R4.trans RQ5
  have RZ := R5.trans (CHv.at X5 hZ5 hEL C5)
  obtain ⟨fs, hr, hrun, hended, hREW⟩ := (X5.more (cells' := ({ frames := 7, cells := 10, slots := 125, locals := 99 } : Room).cells) (slots' := ({ frames := 7, cells := 10, slots := 125, locals := 99 } : Room).slots) (by decide) (by decide)).leaveW hS5 (Nat.le_refl _) (v := some (.int (0 : Int32))) (fun h => by rw [Bd.returns] at h; cases h)
  refine ⟨_, _, pre0 _ ?_, hrun, hended, _, _, rfl, ?_, ?_, hREW⟩
  · show Steps p.tables e below (s₁.setTop (mkF m 0 #[.val (.ref a1), .val (.ref a2), .val (.int p3)] [])) _
    refine XS.iloadN X0.here hx rfl (hb hby d10_0) rfl ?_
    show Steps p.tables e below (s₁.setTop (mkF m 1 #[.val (.ref a1), .val (.ref a2), .val (.int p3)] [(.int p3)])) _
    refine XS.iconst X0.here hx rfl (hb hby d10_1) ?_
    show Steps p.tables e below (s₁.setTop (mkF m 2 #[.val (.ref a1), .val (.ref a2), .val (.int p3)] [(.int (1 : Int32)), (.int p3)])) _
    refine XS.icmpNo X0.here hx rfl (hb hby d10_2) rfl (teq hc2).2 ?_
    show Steps p.tables e below (s₁.setTop (mkF m 5 #[.val (.ref a1), .val (.ref a2), .val (.int p3)] [])) _
    refine XS.aloadN X0.here hx rfl (hb hby d10_5) rfl rfl ?_
    show Steps p.tables e below (s₁.setTop (mkF m 6 #[.val (.ref a1), .val (.ref a2), .val (.int p3)] [(.ref a1)])) _
    refine XS.aloadN X0.here hx rfl (hb hby d10_6) rfl rfl ?_
    show Steps p.tables e below (s₁.setTop (mkF m 7 #[.val (.ref a1), .val (.ref a2), .val (.int p3)] [(.ref a2), (.ref a1)])) _
    refine st4 _ ?_
    show Steps p.tables e below (T4.setTop (mkF m 9 #[.val (.ref a1), .val (.ref a2), .val (.int p3)] [(.ref b4), (.ref a2), (.ref a1)])) _
    refine st5.trans ?_
    show Steps p.tables e below (T5.setTop (mkF m 12 #[.val (.ref a1), .val (.ref a2), .val (.int p3)] [])) _
    refine XS.iconst X5.here hx rfl (hb hby d10_12) ?_
    show Steps p.tables e below (T5.setTop (mkF m 13 #[.val (.ref a1), .val (.ref a2), .val (.int p3)] [(.int (0 : Int32))])) _
    exact retI X5 hx Bd.returns (hb hby d10_13) hr
  · show Q10 Z a1 p3 al e9 k wD h0 n0 _ T5.heap _
    have er : own_r p3 = (0 : Int32) := by rw [own_r, if_pos hc2]
    refine ⟨by rw [er], N5, O5c, ?_⟩
    rw [er, own_add0]
    exact D5c
  · show CHr Z EL s.vm s.heap T5.vm T5.heap
    rw [hh]
    exact RZ
theorem d10_14 : decode method_3_code 14 = .ok (.iload_n 2, 1) := by decide +kernel
theorem d10_15 : decode method_3_code 15 = .ok (.iconst 2, 1) := by decide +kernel
theorem d10_16 : decode method_3_code 16 = .ok (.if_icmp .lt 12, 3) := by decide +kernel
theorem d10_19 : decode method_3_code 19 = .ok (.aload_n 0, 1) := by decide +kernel
theorem d10_20 : decode method_3_code 20 = .ok (.aload_n 1, 1) := by decide +kernel
theorem d10_21 : decode method_3_code 21 = .ok (.ldc 28, 2) := by decide +kernel
theorem d10_23 : decode method_3_code 23 = .ok (.invokevirtual 34, 3) := by decide +kernel
theorem d10_26 : decode method_3_code 26 = .ok (.iconst 1, 1) := by decide +kernel
theorem d10_27 : decode method_3_code 27 = .ok (.ireturn, 1) := by decide +kernel
set_option maxRecDepth 65536 in
set_option maxHeartbeats 40000000 in
theorem rm10EF (l : Launch) (Z : State) (a0 : Array Value) (hw : ∀ d ∈ tables_1, d.before a0 Z = true) (ws : List Jvm.Cond) (a1 : Addr) (a2 : Addr) (p3 : Int32) (al : Addr) (e9 : Int32) (mc : Int32) (k : Nat) (wD : Addr) (clD : Cell) (wA : Addr) (pv : Int32) (clA : Cell) (wC : Int32) (wI : Addr) (w6 : Addr) (hEL : EW Z a0 EL) (h0 : Heap) (n0 : Nat) (Z0 : n0 ≤ h0.size) (E_a1 : Exa Z h0 a1 "com/example/stomme/stomme/diagnostic/Diagnostics") (E_al : Exa Z h0 al "java/util/ArrayList") (F_reported_a1 : Fld Z h0 a1 "com/example/stomme/stomme/diagnostic/Diagnostics" "reported" "Ljava/util/List;" (.ref al)) (F_errors_a1 : Fld Z h0 a1 "com/example/stomme/stomme/diagnostic/Diagnostics" "errors" "I" (.int e9)) (F_modCount_al : Fld Z h0 al "java/util/AbstractList" "modCount" "I" (.int mc)) (F_size_al : Fld Z h0 al "java/util/ArrayList" "size" "I" (.int (0 : Int32))) (F_elementData_al : Fld Z h0 al "java/util/ArrayList" "elementData" "[Ljava/lang/Object;" (.ref wD)) (O0 : Old Z n0 h0) (S_A : Sta Z Z.heap "java/lang/CharacterDataLatin1" "A" "[I" (.ref wA)) (Ar_A : Arr Z Z.heap wA clA .int) (hinA : ¬ (((109 : Int32).toUInt32.toUInt16.toUInt32.toInt32) < 0 ∨ clA.slots.size ≤ ((109 : Int32).toUInt32.toUInt16.toUInt32.toInt32).toNatClampNeg)) (hatA : clA.slots[((109 : Int32).toUInt32.toUInt16.toUInt32.toInt32).toNatClampNeg]? = some (.int pv)) (S_C : Sta Z Z.heap "java/lang/String" "COMPACT_STRINGS" "Z" (.int wC)) (hC : ¬ (wC = (0 : Int32))) (S_I : Sta Z Z.heap "java/lang/CharacterDataLatin1" "instance" "Ljava/lang/CharacterDataLatin1;" (.ref wI)) (E_I : Exa Z Z.heap wI "java/lang/CharacterDataLatin1") (hpv : ¬ ((pv &&& (28672 : Int32)) = (16384 : Int32))) (S_D : Sta Z Z.heap "java/util/ArrayList" "DEFAULTCAPACITY_EMPTY_ELEMENTDATA" "[Ljava/lang/Object;" (.ref wD)) (Ar_D : Arr Z Z.heap wD clD (.object "java/lang/Object")) (Sz_D : clD.slots.size = (0 : Int32).toNatClampNeg) (S_V : Sta Z Z.heap "com/example/stomme/stomme/diagnostic/Diagnostic$Severity" "ERROR" "Lcom/example/stomme/stomme/diagnostic/Diagnostic$Severity;" (.ref w6)) (g_a1 : n0 ≤ a1) (g_al : n0 ≤ al) (n_dal : a1 ≠ al) (hc2 : ¬ (p3 = (1 : Int32))) (hc16 : ¬ (p3 < (2 : Int32))) :
    MetFree l (⟨"com/example/stomme/stomme/diagnostic/DiagnosticsHasErrorsPinLaw", "step", "(Lcom/example/stomme/stomme/diagnostic/Diagnostics;Lcom/example/stomme/stomme/diagnostic/Position;I)I"⟩ : MethodName) (head1 (Jvm.Cond.code (⟨"com/example/stomme/stomme/diagnostic/DiagnosticsHasErrorsPinLaw", "step", "(Lcom/example/stomme/stomme/diagnostic/Diagnostics;Lcom/example/stomme/stomme/diagnostic/Position;I)I"⟩ : MethodName) method_3_code 3 (some .int) :: ws) ({ frames := 7, cells := 10, slots := 125, locals := 99 } : Room)) (fun a U => a = #[(.ref a1), (.ref a2), (.int p3)] ∧ Z.Warmed39 U.vm ∧ U.heap = h0 ∧ CHv Z EL U.vm h0) (fun _ _ _ _ _ => True) (fun _ U o U' => ∃ v L, o = .returned v ∧ Q10 Z a1 p3 al e9 k wD h0 n0 v U'.heap L ∧ CHr Z EL U.vm U.heap U'.vm U'.heap ∧ ReturnedEndW U o U' L ({ frames := 7, cells := 10, slots := 125, locals := 99 } : Room).cells ({ frames := 7, cells := 10, slots := 125, locals := 99 } : Room).slots) := by
  refine MetFree.of_bodySF (plainFor_of_name pn_10) hisR ?_
  intro p e s m args below meth c s₁ Bd hml0 hP hK
  obtain ⟨rfl, hZ, hh, C0⟩ := hP
  have hx := Bd.exec
  have hby := Bd.bytes
  have hml : c.maxLocals = 3 := hml0
  have hown : s.vm.findClass "com/example/stomme/stomme/diagnostic/DiagnosticsHasErrorsPinLaw" = some m.cls := findClass_of_methodNamed Bd.named
  have hnm := (name_of_methodNamed Bd.named Bd.method).1
  have X0 : Stand p l e ({ frames := 7, cells := 10, slots := 125, locals := 99 } : Room) (s.setVm s.vm) m #[(.ref a1), (.ref a2), (.int p3)] below meth c s₁ [] 0 0 := Stand.of_body Bd
  have e0 : s₁.heap = h0 := by rw [← hh, Bd.state]; rfl
  have N0 := Fr.nil n0
  have hS0 := own_since s 0
  have wS := own_strs hw
  have pre0 : ∀ t, Steps p.tables e below (s₁.setTop (mkF m 0 #[.val (.ref a1), .val (.ref a2), .val (.int p3)] [])) t → Steps p.tables e below (s₁.setTop (entryFrame m #[(.ref a1), (.ref a2), (.int p3)] 3)) t := fun t k => castTop (ef_10 m a1 a2 p3) k
  obtain ⟨b4, T4, h4, kk4, bb4, kc4, X4, e4, E4, hS4, hk4, hZ4, hown4, Ex4, Fc4, Fv4, Av4, lb4, lbb4, RQ4, -, Ne4, st4⟩ := ldcCH X0 hx hZ hown (hw _ (List.mem_of_getElem? (i := 78) rfl)) wS e0 hS0 (Nat.zero_le _) hEL (by simp [EL]) C0 (vs := [.int (109 : Int32)]) (z := (1 : Int32)) ⟨by decide, by rfl⟩ (by decide) rfl (g := (mkF m 21 #[.val (.ref a1), .val (.ref a2), .val (.int p3)] [(.ref a2), (.ref a1)])) rfl (hb hby d10_21) (n := 4) (by decide) (by decide) (by decide) (by decide)
  have C4 := RQ4.1
  have R4 := (CHr.refl C0).trans RQ4
  have K4 : Keep h0 h4 [] := (Keep.refl h0 []).ext E4
  obtain ⟨clM, ArM, -, SzM, -, HM, -⟩ := Av4
  have hatM : clM.slots[(0 : Int32).toNatClampNeg]? = some (.int (109 : Int32)) := HM.at (inb_of SzM ⟨by decide, by decide⟩) rfl
  obtain ⟨cq5, kq5, q5a, q5b, q5c⟩ := isOf hZ4 e4 (E_a1.ext E4)
  obtain ⟨_, _, ⟨T5, L5, k5, n5⟩, -, X5, hS5, gr5, ⟨Lc5, hQ5, l5, y5, z5, RQ5⟩, st5⟩ := X4.virtualBackS hx (y := (⟨"com/example/stomme/stomme/diagnostic/Diagnostics", "error", "(Lcom/example/stomme/stomme/diagnostic/Position;Ljava/lang/String;)V"⟩ : MethodName)) (z := (⟨"com/example/stomme/stomme/diagnostic/Diagnostics", "error", "(Lcom/example/stomme/stomme/diagnostic/Position;Ljava/lang/String;)V"⟩ : MethodName)) hown4 (mvT hZ4 (hw _ (List.mem_of_getElem? (i := 79) rfl))) (mvT hZ4 (hw _ (List.mem_of_getElem? (i := 80) rfl))) (notFace_of_selects (args := #[]) (mvT hZ4 (hw _ (List.mem_of_getElem? (i := 82) rfl)))) (mvT hZ4 (hw _ (List.mem_of_getElem? (i := 82) rfl))) (mvT hZ4 (hw _ (List.mem_of_getElem? (i := 81) rfl))) (by decide) (backOfSH (W := 0) (rm11F l Z a0 hw [] a1 a2 b4 w6 al e9 mc k wD clD wA pv clA wC wI bb4 clM hEL h4 n0 (Nat.le_trans Z0 E4.1) (E_a1.ext E4) (E_al.ext E4) Ex4 (F_reported_a1.ext E4) (F_errors_a1.ext E4) (F_modCount_al.ext E4) (F_size_al.ext E4) (F_elementData_al.ext E4) Fc4 Fv4 ArM (O0.ext E4) S_V g_al g_a1 S_A Ar_A hinA hatA S_C hC S_I E_I hpv SzM hatM S_D Ar_D Sz_D n_dal) hZ4 (hw _ (List.mem_of_getElem? (i := 83) rfl)) (hw _ (List.mem_of_getElem? (i := 2) rfl)) (by decide) (by decide) hEL C4) q5a q5c (g := (mkF m 23 #[.val (.ref a1), .val (.ref a2), .val (.int p3)] [(.ref b4), (.ref a2), (.ref a1)])) rfl (by rw [hml]; rfl) (Steps.refl _) (argsL := [(.ref a2), (.ref b4)]) (rest := []) (lenOf pd_10_5 rfl) rfl (by show 2 * 0 + _ ≤ _; exact Nat.le_of_eq rfl) (hb hby d10_23) (fun _ _ => ⟨rfl, e4, (by decide : 2 + 8 ≤ _), (by decide : 8 + 117 ≤ _)⟩)
  dsimp only [Pt.U, Pt.locs, Pt.cells, Pt.slots] at X5 hS5 gr5 l5 y5 z5 st5 hQ5 RQ5
  subst l5 y5 z5
  obtain ⟨rfl, N5q, O5c, D5c⟩ := hQ5
  have N5 := Fr.app N0 N5q
  obtain ⟨X5, hS5, hZ5, hown5⟩ := rebS hS4 (by rw [e4]; exact hk4) X5 hS5 gr5 hZ4 hown4
  have C5 := RQ5.1
  have R5 := R4.trans RQ5
  have RZ := R5.trans (CHv.at X5 hZ5 hEL C5)
  obtain ⟨fs, hr, hrun, hended, hREW⟩ := (X5.more (cells' := ({ frames := 7, cells := 10, slots := 125, locals := 99 } : Room).cells) (slots' := ({ frames := 7, cells := 10, slots := 125, locals := 99 } : Room).slots) (by decide) (by decide)).leaveW hS5 (Nat.le_refl _) (v := some (.int (1 : Int32))) (fun h => by rw [Bd.returns] at h; cases h)
  refine ⟨_, _, pre0 _ ?_, hrun, hended, _, _, rfl, ?_, ?_, hREW⟩
  · show Steps p.tables e below (s₁.setTop (mkF m 0 #[.val (.ref a1), .val (.ref a2), .val (.int p3)] [])) _
    refine XS.iloadN X0.here hx rfl (hb hby d10_0) rfl ?_
    show Steps p.tables e below (s₁.setTop (mkF m 1 #[.val (.ref a1), .val (.ref a2), .val (.int p3)] [(.int p3)])) _
    refine XS.iconst X0.here hx rfl (hb hby d10_1) ?_
    show Steps p.tables e below (s₁.setTop (mkF m 2 #[.val (.ref a1), .val (.ref a2), .val (.int p3)] [(.int (1 : Int32)), (.int p3)])) _
    refine XS.icmpYes X0.here hx rfl (pc0 := 2) (pc' := 14) rfl (hb hby d10_2) rfl (feq hc2).2 (by decide) (by decide) ?_
    show Steps p.tables e below (s₁.setTop (mkF m 14 #[.val (.ref a1), .val (.ref a2), .val (.int p3)] [])) _
    refine XS.iloadN X0.here hx rfl (hb hby d10_14) rfl ?_
    show Steps p.tables e below (s₁.setTop (mkF m 15 #[.val (.ref a1), .val (.ref a2), .val (.int p3)] [(.int p3)])) _
    refine XS.iconst X0.here hx rfl (hb hby d10_15) ?_
    show Steps p.tables e below (s₁.setTop (mkF m 16 #[.val (.ref a1), .val (.ref a2), .val (.int p3)] [(.int (2 : Int32)), (.int p3)])) _
    refine XS.icmpNo X0.here hx rfl (hb hby d10_16) rfl (flt hc16).1 ?_
    show Steps p.tables e below (s₁.setTop (mkF m 19 #[.val (.ref a1), .val (.ref a2), .val (.int p3)] [])) _
    refine XS.aloadN X0.here hx rfl (hb hby d10_19) rfl rfl ?_
    show Steps p.tables e below (s₁.setTop (mkF m 20 #[.val (.ref a1), .val (.ref a2), .val (.int p3)] [(.ref a1)])) _
    refine XS.aloadN X0.here hx rfl (hb hby d10_20) rfl rfl ?_
    show Steps p.tables e below (s₁.setTop (mkF m 21 #[.val (.ref a1), .val (.ref a2), .val (.int p3)] [(.ref a2), (.ref a1)])) _
    refine st4 _ ?_
    show Steps p.tables e below (T4.setTop (mkF m 23 #[.val (.ref a1), .val (.ref a2), .val (.int p3)] [(.ref b4), (.ref a2), (.ref a1)])) _
    refine st5.trans ?_
    show Steps p.tables e below (T5.setTop (mkF m 26 #[.val (.ref a1), .val (.ref a2), .val (.int p3)] [])) _
    refine XS.iconst X5.here hx rfl (hb hby d10_26) ?_
    show Steps p.tables e below (T5.setTop (mkF m 27 #[.val (.ref a1), .val (.ref a2), .val (.int p3)] [(.int (1 : Int32))])) _
    exact retI X5 hx Bd.returns (hb hby d10_27) hr
  · show Q10 Z a1 p3 al e9 k wD h0 n0 _ T5.heap _
    have er : own_r p3 = (1 : Int32) := by rw [own_r, if_neg hc2, if_neg hc16]
    refine ⟨by rw [er], N5, O5c, ?_⟩
    rw [er]
    exact D5c
  · show CHr Z EL s.vm s.heap T5.vm T5.heap
    rw [hh]
    exact RZ
set_option maxRecDepth 65536 in
set_option maxHeartbeats 40000000 in
theorem rm10EL (l : Launch) (Z : State) (a0 : Array Value) (hw : ∀ d ∈ tables_1, d.before a0 Z = true) (ws : List Jvm.Cond) (a1 : Addr) (a2 : Addr) (p3 : Int32) (al : Addr) (e9 : Int32) (mc : Int32) (k : Nat) (wD : Addr) (clD : Cell) (wA : Addr) (pv : Int32) (clA : Cell) (wC : Int32) (wI : Addr) (w6 : Addr) (sz : Int32) (ed : Addr) (cld : Cell) (hEL : EW Z a0 EL) (h0 : Heap) (n0 : Nat) (Z0 : n0 ≤ h0.size) (E_a1 : Exa Z h0 a1 "com/example/stomme/stomme/diagnostic/Diagnostics") (E_al : Exa Z h0 al "java/util/ArrayList") (F_reported_a1 : Fld Z h0 a1 "com/example/stomme/stomme/diagnostic/Diagnostics" "reported" "Ljava/util/List;" (.ref al)) (F_errors_a1 : Fld Z h0 a1 "com/example/stomme/stomme/diagnostic/Diagnostics" "errors" "I" (.int e9)) (F_modCount_al : Fld Z h0 al "java/util/AbstractList" "modCount" "I" (.int mc)) (F_size_al : Fld Z h0 al "java/util/ArrayList" "size" "I" (.int sz)) (F_elementData_al : Fld Z h0 al "java/util/ArrayList" "elementData" "[Ljava/lang/Object;" (.ref ed)) (Ar_ed : Arr Z h0 ed cld (.object "java/lang/Object")) (O0 : Old Z n0 h0) (S_A : Sta Z Z.heap "java/lang/CharacterDataLatin1" "A" "[I" (.ref wA)) (Ar_A : Arr Z Z.heap wA clA .int) (hinA : ¬ (((109 : Int32).toUInt32.toUInt16.toUInt32.toInt32) < 0 ∨ clA.slots.size ≤ ((109 : Int32).toUInt32.toUInt16.toUInt32.toInt32).toNatClampNeg)) (hatA : clA.slots[((109 : Int32).toUInt32.toUInt16.toUInt32.toInt32).toNatClampNeg]? = some (.int pv)) (S_C : Sta Z Z.heap "java/lang/String" "COMPACT_STRINGS" "Z" (.int wC)) (hC : ¬ (wC = (0 : Int32))) (S_I : Sta Z Z.heap "java/lang/CharacterDataLatin1" "instance" "Ljava/lang/CharacterDataLatin1;" (.ref wI)) (E_I : Exa Z Z.heap wI "java/lang/CharacterDataLatin1") (hpv : ¬ ((pv &&& (28672 : Int32)) = (16384 : Int32))) (S_D : Sta Z Z.heap "java/util/ArrayList" "DEFAULTCAPACITY_EMPTY_ELEMENTDATA" "[Ljava/lang/Object;" (.ref wD)) (Ar_D : Arr Z Z.heap wD clD (.object "java/lang/Object")) (Sz_D : clD.slots.size = (0 : Int32).toNatClampNeg) (S_V : Sta Z Z.heap "com/example/stomme/stomme/diagnostic/Diagnostic$Severity" "ERROR" "Lcom/example/stomme/stomme/diagnostic/Diagnostic$Severity;" (.ref w6)) (g_a1 : n0 ≤ a1) (g_al : n0 ≤ al) (n_dal : a1 ≠ al) (Sz_ed : cld.slots.size = (10 : Int32).toNatClampNeg) (g_ed : n0 ≤ ed) (n_aled : al ≠ ed) (n_ded : a1 ≠ ed) (O3 : Ovr Z cld.cls "java/lang/Object") (hb_sz : 0 ≤ sz.toInt ∧ sz.toInt ≤ (k : Int)) (hk5 : k ≤ 5) (hc2 : ¬ (p3 = (1 : Int32))) (hc16 : ¬ (p3 < (2 : Int32))) :
    MetFree l (⟨"com/example/stomme/stomme/diagnostic/DiagnosticsHasErrorsPinLaw", "step", "(Lcom/example/stomme/stomme/diagnostic/Diagnostics;Lcom/example/stomme/stomme/diagnostic/Position;I)I"⟩ : MethodName) (head1 (Jvm.Cond.code (⟨"com/example/stomme/stomme/diagnostic/DiagnosticsHasErrorsPinLaw", "step", "(Lcom/example/stomme/stomme/diagnostic/Diagnostics;Lcom/example/stomme/stomme/diagnostic/Position;I)I"⟩ : MethodName) method_3_code 3 (some .int) :: ws) ({ frames := 7, cells := 10, slots := 125, locals := 99 } : Room)) (fun a U => a = #[(.ref a1), (.ref a2), (.int p3)] ∧ Z.Warmed39 U.vm ∧ U.heap = h0 ∧ CHv Z EL U.vm h0) (fun _ _ _ _ _ => True) (fun _ U o U' => ∃ v L, o = .returned v ∧ Q10 Z a1 p3 al e9 k wD h0 n0 v U'.heap L ∧ CHr Z EL U.vm U.heap U'.vm U'.heap ∧ ReturnedEndW U o U' L ({ frames := 7, cells := 10, slots := 125, locals := 99 } : Room).cells ({ frames := 7, cells := 10, slots := 125, locals := 99 } : Room).slots) := by
  refine MetFree.of_bodySF (plainFor_of_name pn_10) hisR ?_
  intro p e s m args below meth c s₁ Bd hml0 hP hK
  obtain ⟨rfl, hZ, hh, C0⟩ := hP
  have hx := Bd.exec
  have hby := Bd.bytes
  have hml : c.maxLocals = 3 := hml0
  have hown : s.vm.findClass "com/example/stomme/stomme/diagnostic/DiagnosticsHasErrorsPinLaw" = some m.cls := findClass_of_methodNamed Bd.named
  have hnm := (name_of_methodNamed Bd.named Bd.method).1
  have X0 : Stand p l e ({ frames := 7, cells := 10, slots := 125, locals := 99 } : Room) (s.setVm s.vm) m #[(.ref a1), (.ref a2), (.int p3)] below meth c s₁ [] 0 0 := Stand.of_body Bd
  have e0 : s₁.heap = h0 := by rw [← hh, Bd.state]; rfl
  have N0 := Fr.nil n0
  have hS0 := own_since s 0
  have wS := own_strs hw
  have pre0 : ∀ t, Steps p.tables e below (s₁.setTop (mkF m 0 #[.val (.ref a1), .val (.ref a2), .val (.int p3)] [])) t → Steps p.tables e below (s₁.setTop (entryFrame m #[(.ref a1), (.ref a2), (.int p3)] 3)) t := fun t k => castTop (ef_10 m a1 a2 p3) k
  obtain ⟨b4, T4, h4, kk4, bb4, kc4, X4, e4, E4, hS4, hk4, hZ4, hown4, Ex4, Fc4, Fv4, Av4, lb4, lbb4, RQ4, -, Ne4, st4⟩ := ldcCH X0 hx hZ hown (hw _ (List.mem_of_getElem? (i := 78) rfl)) wS e0 hS0 (Nat.zero_le _) hEL (by simp [EL]) C0 (vs := [.int (109 : Int32)]) (z := (1 : Int32)) ⟨by decide, by rfl⟩ (by decide) rfl (g := (mkF m 21 #[.val (.ref a1), .val (.ref a2), .val (.int p3)] [(.ref a2), (.ref a1)])) rfl (hb hby d10_21) (n := 4) (by decide) (by decide) (by decide) (by decide)
  have C4 := RQ4.1
  have R4 := (CHr.refl C0).trans RQ4
  have K4 : Keep h0 h4 [] := (Keep.refl h0 []).ext E4
  obtain ⟨clM, ArM, -, SzM, -, HM, -⟩ := Av4
  have hatM : clM.slots[(0 : Int32).toNatClampNeg]? = some (.int (109 : Int32)) := HM.at (inb_of SzM ⟨by decide, by decide⟩) rfl
  obtain ⟨cq5, kq5, q5a, q5b, q5c⟩ := isOf hZ4 e4 (E_a1.ext E4)
  obtain ⟨_, _, ⟨T5, L5, k5, n5⟩, -, X5, hS5, gr5, ⟨Lc5, hQ5, l5, y5, z5, RQ5⟩, st5⟩ := X4.virtualBackS hx (y := (⟨"com/example/stomme/stomme/diagnostic/Diagnostics", "error", "(Lcom/example/stomme/stomme/diagnostic/Position;Ljava/lang/String;)V"⟩ : MethodName)) (z := (⟨"com/example/stomme/stomme/diagnostic/Diagnostics", "error", "(Lcom/example/stomme/stomme/diagnostic/Position;Ljava/lang/String;)V"⟩ : MethodName)) hown4 (mvT hZ4 (hw _ (List.mem_of_getElem? (i := 79) rfl))) (mvT hZ4 (hw _ (List.mem_of_getElem? (i := 80) rfl))) (notFace_of_selects (args := #[]) (mvT hZ4 (hw _ (List.mem_of_getElem? (i := 82) rfl)))) (mvT hZ4 (hw _ (List.mem_of_getElem? (i := 82) rfl))) (mvT hZ4 (hw _ (List.mem_of_getElem? (i := 81) rfl))) (by decide) (backOfSH (W := 0) (rm11L l Z a0 hw [] a1 a2 b4 w6 al e9 mc k wD clD wA pv clA wC wI bb4 clM sz ed cld hEL h4 n0 (Nat.le_trans Z0 E4.1) (E_a1.ext E4) (E_al.ext E4) Ex4 (F_reported_a1.ext E4) (F_errors_a1.ext E4) (F_modCount_al.ext E4) (F_size_al.ext E4) (F_elementData_al.ext E4) Fc4 Fv4 ArM (Ar_ed.ext E4) (O0.ext E4) S_V g_al g_ed g_a1 S_A Ar_A hinA hatA S_C hC S_I E_I hpv SzM hatM S_D Ar_D Sz_D n_dal Sz_ed n_aled n_ded O3 hb_sz hk5) hZ4 (hw _ (List.mem_of_getElem? (i := 83) rfl)) (hw _ (List.mem_of_getElem? (i := 2) rfl)) (by decide) (by decide) hEL C4) q5a q5c (g := (mkF m 23 #[.val (.ref a1), .val (.ref a2), .val (.int p3)] [(.ref b4), (.ref a2), (.ref a1)])) rfl (by rw [hml]; rfl) (Steps.refl _) (argsL := [(.ref a2), (.ref b4)]) (rest := []) (lenOf pd_10_5 rfl) rfl (by show 2 * 0 + _ ≤ _; exact Nat.le_of_eq rfl) (hb hby d10_23) (fun _ _ => ⟨rfl, e4, (by decide : 2 + 7 ≤ _), (by decide : 8 + 107 ≤ _)⟩)
  dsimp only [Pt.U, Pt.locs, Pt.cells, Pt.slots] at X5 hS5 gr5 l5 y5 z5 st5 hQ5 RQ5
  subst l5 y5 z5
  obtain ⟨rfl, N5q, O5c, D5c⟩ := hQ5
  have N5 := Fr.app N0 N5q
  obtain ⟨X5, hS5, hZ5, hown5⟩ := rebS hS4 (by rw [e4]; exact hk4) X5 hS5 gr5 hZ4 hown4
  have C5 := RQ5.1
  have R5 := R4.trans RQ5
  have RZ := R5.trans (CHv.at X5 hZ5 hEL C5)
  obtain ⟨fs, hr, hrun, hended, hREW⟩ := (X5.more (cells' := ({ frames := 7, cells := 10, slots := 125, locals := 99 } : Room).cells) (slots' := ({ frames := 7, cells := 10, slots := 125, locals := 99 } : Room).slots) (by decide) (by decide)).leaveW hS5 (Nat.le_refl _) (v := some (.int (1 : Int32))) (fun h => by rw [Bd.returns] at h; cases h)
  refine ⟨_, _, pre0 _ ?_, hrun, hended, _, _, rfl, ?_, ?_, hREW⟩
  · show Steps p.tables e below (s₁.setTop (mkF m 0 #[.val (.ref a1), .val (.ref a2), .val (.int p3)] [])) _
    refine XS.iloadN X0.here hx rfl (hb hby d10_0) rfl ?_
    show Steps p.tables e below (s₁.setTop (mkF m 1 #[.val (.ref a1), .val (.ref a2), .val (.int p3)] [(.int p3)])) _
    refine XS.iconst X0.here hx rfl (hb hby d10_1) ?_
    show Steps p.tables e below (s₁.setTop (mkF m 2 #[.val (.ref a1), .val (.ref a2), .val (.int p3)] [(.int (1 : Int32)), (.int p3)])) _
    refine XS.icmpYes X0.here hx rfl (pc0 := 2) (pc' := 14) rfl (hb hby d10_2) rfl (feq hc2).2 (by decide) (by decide) ?_
    show Steps p.tables e below (s₁.setTop (mkF m 14 #[.val (.ref a1), .val (.ref a2), .val (.int p3)] [])) _
    refine XS.iloadN X0.here hx rfl (hb hby d10_14) rfl ?_
    show Steps p.tables e below (s₁.setTop (mkF m 15 #[.val (.ref a1), .val (.ref a2), .val (.int p3)] [(.int p3)])) _
    refine XS.iconst X0.here hx rfl (hb hby d10_15) ?_
    show Steps p.tables e below (s₁.setTop (mkF m 16 #[.val (.ref a1), .val (.ref a2), .val (.int p3)] [(.int (2 : Int32)), (.int p3)])) _
    refine XS.icmpNo X0.here hx rfl (hb hby d10_16) rfl (flt hc16).1 ?_
    show Steps p.tables e below (s₁.setTop (mkF m 19 #[.val (.ref a1), .val (.ref a2), .val (.int p3)] [])) _
    refine XS.aloadN X0.here hx rfl (hb hby d10_19) rfl rfl ?_
    show Steps p.tables e below (s₁.setTop (mkF m 20 #[.val (.ref a1), .val (.ref a2), .val (.int p3)] [(.ref a1)])) _
    refine XS.aloadN X0.here hx rfl (hb hby d10_20) rfl rfl ?_
    show Steps p.tables e below (s₁.setTop (mkF m 21 #[.val (.ref a1), .val (.ref a2), .val (.int p3)] [(.ref a2), (.ref a1)])) _
    refine st4 _ ?_
    show Steps p.tables e below (T4.setTop (mkF m 23 #[.val (.ref a1), .val (.ref a2), .val (.int p3)] [(.ref b4), (.ref a2), (.ref a1)])) _
    refine st5.trans ?_
    show Steps p.tables e below (T5.setTop (mkF m 26 #[.val (.ref a1), .val (.ref a2), .val (.int p3)] [])) _
    refine XS.iconst X5.here hx rfl (hb hby d10_26) ?_
    show Steps p.tables e below (T5.setTop (mkF m 27 #[.val (.ref a1), .val (.ref a2), .val (.int p3)] [(.int (1 : Int32))])) _
    exact retI X5 hx Bd.returns (hb hby d10_27) hr
  · show Q10 Z a1 p3 al e9 k wD h0 n0 _ T5.heap _
    have er : own_r p3 = (1 : Int32) := by rw [own_r, if_neg hc2, if_neg hc16]
    refine ⟨by rw [er], N5, O5c, ?_⟩
    rw [er]
    exact D5c
  · show CHr Z EL s.vm s.heap T5.vm T5.heap
    rw [hh]
    exact RZ
theorem d10_28 : decode method_3_code 28 = .ok (.iconst 0, 1) := by decide +kernel
theorem d10_29 : decode method_3_code 29 = .ok (.ireturn, 1) := by decide +kernel
set_option maxRecDepth 65536 in
set_option maxHeartbeats 40000000 in
theorem rm10N (l : Launch) (Z : State) (a0 : Array Value) (hw : ∀ d ∈ tables_1, d.before a0 Z = true) (ws : List Jvm.Cond) (a1 : Addr) (a2 : Addr) (p3 : Int32) (al : Addr) (e9 : Int32) (k : Nat) (wD : Addr) (hEL : EW Z a0 EL) (h0 : Heap) (n0 : Nat) (Z0 : n0 ≤ h0.size) (O0 : Old Z n0 h0) (D0 : Dg Z h0 n0 wD a1 al e9 k) (hc2 : ¬ (p3 = (1 : Int32))) (hc16 : p3 < (2 : Int32)) :
    MetFree l (⟨"com/example/stomme/stomme/diagnostic/DiagnosticsHasErrorsPinLaw", "step", "(Lcom/example/stomme/stomme/diagnostic/Diagnostics;Lcom/example/stomme/stomme/diagnostic/Position;I)I"⟩ : MethodName) (head1 (Jvm.Cond.code (⟨"com/example/stomme/stomme/diagnostic/DiagnosticsHasErrorsPinLaw", "step", "(Lcom/example/stomme/stomme/diagnostic/Diagnostics;Lcom/example/stomme/stomme/diagnostic/Position;I)I"⟩ : MethodName) method_3_code 3 (some .int) :: ws) ({ frames := 7, cells := 10, slots := 125, locals := 99 } : Room)) (fun a U => a = #[(.ref a1), (.ref a2), (.int p3)] ∧ Z.Warmed39 U.vm ∧ U.heap = h0 ∧ CHv Z EL U.vm h0) (fun _ _ _ _ _ => True) (fun _ U o U' => ∃ v L, o = .returned v ∧ Q10 Z a1 p3 al e9 k wD h0 n0 v U'.heap L ∧ CHr Z EL U.vm U.heap U'.vm U'.heap ∧ ReturnedEndW U o U' L ({ frames := 7, cells := 10, slots := 125, locals := 99 } : Room).cells ({ frames := 7, cells := 10, slots := 125, locals := 99 } : Room).slots) := by
  refine MetFree.of_bodySF (plainFor_of_name pn_10) hisR ?_
  intro p e s m args below meth c s₁ Bd hml0 hP hK
  obtain ⟨rfl, hZ, hh, C0⟩ := hP
  have hx := Bd.exec
  have hby := Bd.bytes
  have hml : c.maxLocals = 3 := hml0
  have hown : s.vm.findClass "com/example/stomme/stomme/diagnostic/DiagnosticsHasErrorsPinLaw" = some m.cls := findClass_of_methodNamed Bd.named
  have hnm := (name_of_methodNamed Bd.named Bd.method).1
  have X0 : Stand p l e ({ frames := 7, cells := 10, slots := 125, locals := 99 } : Room) (s.setVm s.vm) m #[(.ref a1), (.ref a2), (.int p3)] below meth c s₁ [] 0 0 := Stand.of_body Bd
  have e0 : s₁.heap = h0 := by rw [← hh, Bd.state]; rfl
  have N0 := Fr.nil n0
  have hS0 := own_since s 0
  have wS := own_strs hw
  have pre0 : ∀ t, Steps p.tables e below (s₁.setTop (mkF m 0 #[.val (.ref a1), .val (.ref a2), .val (.int p3)] [])) t → Steps p.tables e below (s₁.setTop (entryFrame m #[(.ref a1), (.ref a2), (.int p3)] 3)) t := fun t k => castTop (ef_10 m a1 a2 p3) k
  have RZ := (CHr.refl C0).trans (CHv.at X0 hZ hEL C0)
  obtain ⟨fs, hr, hrun, hended, hREW⟩ := (X0.more (cells' := ({ frames := 7, cells := 10, slots := 125, locals := 99 } : Room).cells) (slots' := ({ frames := 7, cells := 10, slots := 125, locals := 99 } : Room).slots) (by decide) (by decide)).leaveW hS0 (by rw [e0]; exact (Nat.zero_le _)) (v := some (.int (0 : Int32))) (fun h => by rw [Bd.returns] at h; cases h)
  refine ⟨_, _, pre0 _ ?_, hrun, hended, _, _, rfl, ?_, ?_, hREW⟩
  · show Steps p.tables e below (s₁.setTop (mkF m 0 #[.val (.ref a1), .val (.ref a2), .val (.int p3)] [])) _
    refine XS.iloadN X0.here hx rfl (hb hby d10_0) rfl ?_
    show Steps p.tables e below (s₁.setTop (mkF m 1 #[.val (.ref a1), .val (.ref a2), .val (.int p3)] [(.int p3)])) _
    refine XS.iconst X0.here hx rfl (hb hby d10_1) ?_
    show Steps p.tables e below (s₁.setTop (mkF m 2 #[.val (.ref a1), .val (.ref a2), .val (.int p3)] [(.int (1 : Int32)), (.int p3)])) _
    refine XS.icmpYes X0.here hx rfl (pc0 := 2) (pc' := 14) rfl (hb hby d10_2) rfl (feq hc2).2 (by decide) (by decide) ?_
    show Steps p.tables e below (s₁.setTop (mkF m 14 #[.val (.ref a1), .val (.ref a2), .val (.int p3)] [])) _
    refine XS.iloadN X0.here hx rfl (hb hby d10_14) rfl ?_
    show Steps p.tables e below (s₁.setTop (mkF m 15 #[.val (.ref a1), .val (.ref a2), .val (.int p3)] [(.int p3)])) _
    refine XS.iconst X0.here hx rfl (hb hby d10_15) ?_
    show Steps p.tables e below (s₁.setTop (mkF m 16 #[.val (.ref a1), .val (.ref a2), .val (.int p3)] [(.int (2 : Int32)), (.int p3)])) _
    refine XS.icmpYes X0.here hx rfl (pc0 := 16) (pc' := 28) rfl (hb hby d10_16) rfl (tlt hc16).1 (by decide) (by decide) ?_
    show Steps p.tables e below (s₁.setTop (mkF m 28 #[.val (.ref a1), .val (.ref a2), .val (.int p3)] [])) _
    refine XS.iconst X0.here hx rfl (hb hby d10_28) ?_
    show Steps p.tables e below (s₁.setTop (mkF m 29 #[.val (.ref a1), .val (.ref a2), .val (.int p3)] [(.int (0 : Int32))])) _
    exact retI X0 hx Bd.returns (hb hby d10_29) hr
  · show Q10 Z a1 p3 al e9 k wD h0 n0 _ s₁.heap _
    rw [e0]
    have er : own_r p3 = (0 : Int32) := by rw [own_r, if_neg hc2, if_pos hc16]
    refine ⟨by rw [er], N0, O0, ?_⟩
    rw [er, own_add0]
    exact own_dgS D0
  · show CHr Z EL s.vm s.heap s₁.vm s₁.heap
    rw [hh, e0]
    exact RZ
def Wld (Z : State) (wD : Addr) (clD : Cell) (wA : Addr) (pv : Int32) (clA : Cell) (wC : Int32) (wI : Addr) (wE : Addr) (wW : Addr) : Prop := (Sta Z Z.heap "java/lang/CharacterDataLatin1" "A" "[I" (.ref wA)) ∧ (Arr Z Z.heap wA clA .int) ∧ (¬ (((109 : Int32).toUInt32.toUInt16.toUInt32.toInt32) < 0 ∨ clA.slots.size ≤ ((109 : Int32).toUInt32.toUInt16.toUInt32.toInt32).toNatClampNeg)) ∧ (clA.slots[((109 : Int32).toUInt32.toUInt16.toUInt32.toInt32).toNatClampNeg]? = some (.int pv)) ∧ (Sta Z Z.heap "java/lang/String" "COMPACT_STRINGS" "Z" (.int wC)) ∧ (¬ (wC = (0 : Int32))) ∧ (Sta Z Z.heap "java/lang/CharacterDataLatin1" "instance" "Ljava/lang/CharacterDataLatin1;" (.ref wI)) ∧ (Exa Z Z.heap wI "java/lang/CharacterDataLatin1") ∧ (¬ ((pv &&& (28672 : Int32)) = (16384 : Int32))) ∧ (Sta Z Z.heap "java/util/ArrayList" "DEFAULTCAPACITY_EMPTY_ELEMENTDATA" "[Ljava/lang/Object;" (.ref wD)) ∧ (Arr Z Z.heap wD clD (.object "java/lang/Object")) ∧ (clD.slots.size = (0 : Int32).toNatClampNeg) ∧ (Sta Z Z.heap "com/example/stomme/stomme/diagnostic/Diagnostic$Severity" "ERROR" "Lcom/example/stomme/stomme/diagnostic/Diagnostic$Severity;" (.ref wE)) ∧ (Sta Z Z.heap "com/example/stomme/stomme/diagnostic/Diagnostic$Severity" "WARNING" "Lcom/example/stomme/stomme/diagnostic/Diagnostic$Severity;" (.ref wW))
theorem rm10 (l : Launch) (Z : State) (a0 : Array Value) (hw : ∀ d ∈ tables_1, d.before a0 Z = true) (ws : List Jvm.Cond) (a1 : Addr) (a2 : Addr) (p3 : Int32) (al : Addr) (e9 : Int32) (k : Nat) (wD : Addr) (clD : Cell) (wA : Addr) (pv : Int32) (clA : Cell) (wC : Int32) (wI : Addr) (wE : Addr) (wW : Addr) (hEL : EW Z a0 EL) (h0 : Heap) (n0 : Nat) (Z0 : n0 ≤ h0.size) (O0 : Old Z n0 h0) (W : Wld Z wD clD wA pv clA wC wI wE wW) (D0 : Dg Z h0 n0 wD a1 al e9 k) (hk5 : k ≤ 5) :
    MetFree l (⟨"com/example/stomme/stomme/diagnostic/DiagnosticsHasErrorsPinLaw", "step", "(Lcom/example/stomme/stomme/diagnostic/Diagnostics;Lcom/example/stomme/stomme/diagnostic/Position;I)I"⟩ : MethodName) (head1 (Jvm.Cond.code (⟨"com/example/stomme/stomme/diagnostic/DiagnosticsHasErrorsPinLaw", "step", "(Lcom/example/stomme/stomme/diagnostic/Diagnostics;Lcom/example/stomme/stomme/diagnostic/Position;I)I"⟩ : MethodName) method_3_code 3 (some .int) :: ws) ({ frames := 7, cells := 10, slots := 125, locals := 99 } : Room)) (fun a U => a = #[(.ref a1), (.ref a2), (.int p3)] ∧ Z.Warmed39 U.vm ∧ U.heap = h0 ∧ CHv Z EL U.vm h0) (fun _ _ _ _ _ => True) (fun _ U o U' => ∃ v L, o = .returned v ∧ Q10 Z a1 p3 al e9 k wD h0 n0 v U'.heap L ∧ CHr Z EL U.vm U.heap U'.vm U'.heap ∧ ReturnedEndW U o U' L ({ frames := 7, cells := 10, slots := 125, locals := 99 } : Room).cells ({ frames := 7, cells := 10, slots := 125, locals := 99 } : Room).slots) := by
  obtain ⟨S_A, Ar_A, hinA, hatA, S_C, hC, S_I, E_I, hpv, S_D, Ar_D, Sz_D, S_E, S_W⟩ := W
  obtain ⟨d1, d2, d3, d4, d5, d6, d7⟩ := id D0
  have n_dal : a1 ≠ al := ne_exa d1 d4 (by decide)
  by_cases c1 : p3 = (1 : Int32)
  · rcases d7 with ⟨mc, f1, f2, f3⟩ | ⟨mc, sz, ed, cld, f1, f2, f3, hb3, g3, A3, Sz3, O3⟩
    · exact rm10WF l Z a0 hw ws a1 a2 p3 al e9 mc k wD clD wA pv clA wC wI wW hEL h0 n0 Z0 d1 d4 d2 d3 f1 f2 f3 O0 S_A Ar_A hinA hatA S_C hC S_I E_I hpv S_D Ar_D Sz_D S_W d5 d6 n_dal c1
    · exact rm10WL l Z a0 hw ws a1 a2 p3 al e9 mc k wD clD wA pv clA wC wI wW sz ed cld hEL h0 n0 Z0 d1 d4 d2 d3 f1 f2 f3 A3 O0 S_A Ar_A hinA hatA S_C hC S_I E_I hpv S_D Ar_D Sz_D S_W d5 d6 n_dal Sz3 g3 (ne_arr d4 (hw _ (List.mem_of_getElem? (i := 10) rfl)) A3) (ne_arr d1 (hw _ (List.mem_of_getElem? (i := 1) rfl)) A3) O3 hb3 hk5 c1
  by_cases c2 : p3 < (2 : Int32)
  · exact rm10N l Z a0 hw ws a1 a2 p3 al e9 k wD hEL h0 n0 Z0 O0 D0 c1 c2
  · rcases d7 with ⟨mc, f1, f2, f3⟩ | ⟨mc, sz, ed, cld, f1, f2, f3, hb3, g3, A3, Sz3, O3⟩
    · exact rm10EF l Z a0 hw ws a1 a2 p3 al e9 mc k wD clD wA pv clA wC wI wE hEL h0 n0 Z0 d1 d4 d2 d3 f1 f2 f3 O0 S_A Ar_A hinA hatA S_C hC S_I E_I hpv S_D Ar_D Sz_D S_E d5 d6 n_dal c1 c2
    · exact rm10EL l Z a0 hw ws a1 a2 p3 al e9 mc k wD clD wA pv clA wC wI wE sz ed cld hEL h0 n0 Z0 d1 d4 d2 d3 f1 f2 f3 A3 O0 S_A Ar_A hinA hatA S_C hC S_I E_I hpv S_D Ar_D Sz_D S_E d5 d6 n_dal Sz3 g3 (ne_arr d4 (hw _ (List.mem_of_getElem? (i := 10) rfl)) A3) (ne_arr d1 (hw _ (List.mem_of_getElem? (i := 1) rfl)) A3) O3 hb3 hk5 c1 c2
theorem pn_0 : plainName "com/example/stomme/stomme/diagnostic/DiagnosticsHasErrorsPinLaw" = true := by first | (simp [plainName, overriddenIn]; done) | decide +kernel
theorem pd_0_0 : parseMethodDescriptor "()V" = some ⟨[], none⟩ := by decide +kernel
theorem pd_0_1 : parseMethodDescriptor "(Ljava/lang/String;II)V" = some ⟨[(.object "java/lang/String"), .int, .int], none⟩ := by decide +kernel
theorem pd_0_3 : parseMethodDescriptor "()Z" = some ⟨[], some .boolean⟩ := by decide +kernel
theorem pd_0_4 : parseMethodDescriptor "(Lcom/example/stomme/stomme/diagnostic/Diagnostics;Lcom/example/stomme/stomme/diagnostic/Position;I)I" = some ⟨[(.object "com/example/stomme/stomme/diagnostic/Diagnostics"), (.object "com/example/stomme/stomme/diagnostic/Position"), .int], some .int⟩ := by decide +kernel
theorem ef_0 (m : MethodId) (x0 : Int32) (x1 : Int32) : entryFrame m #[(.int x0), (.int x1)] maxLocals = mkF m 0 #[.val (.int x0), .val (.int x1), .unset, .unset, .unset, .unset] [] := by first | (simp [entryFrame, mkF, argsToLocals, Value.category, maxLocals]; done) | rfl
def Q0 (Z : State) (p1 : Int32) (p2 : Int32) (h0 : Heap) (n0 : Nat) (v : Option Value) (h : Heap) (L : List Loc) : Prop := v = some (.int (1 : Int32)) ∧ Fr n0 L
set_option maxRecDepth 65536 in
set_option maxHeartbeats 40000000 in
theorem rm0A (l : Launch) (Z : State) (a0 : Array Value) (hw : ∀ d ∈ tables_1, d.before a0 Z = true) (ws : List Jvm.Cond) (p1 : Int32) (p2 : Int32) (wD : Addr) (clD : Cell) (wA : Addr) (pv : Int32) (clA : Cell) (wC : Int32) (wI : Addr) (wE : Addr) (wW : Addr) (hEL : EW Z a0 EL) (h0 : Heap) (n0 : Nat) (Z0 : n0 ≤ h0.size) (O0 : Old Z n0 h0) (Wl : Wld Z wD clD wA pv clA wC wI wE wW) (S_D : Sta Z Z.heap "java/util/ArrayList" "DEFAULTCAPACITY_EMPTY_ELEMENTDATA" "[Ljava/lang/Object;" (.ref wD)) (hp3 : ¬ (((p2 &&& (65535 : Int32)) + (1 : Int32)) < (1 : Int32))) (hp4 : ¬ (((((p2.toUInt32 >>> ((16 : Int32) &&& 31).toUInt32).toInt32) &&& (32767 : Int32)) + (1 : Int32)) < (1 : Int32))) (hc38 : (own_pos (0 : Int32)) = (0 : Int32)) (hc72 : ¬ ((0 : Int32) < ((0 : Int32) + (own_r (p1 &&& (3 : Int32)))))) (hc80 : (own_pos ((0 : Int32) + (own_r (p1 &&& (3 : Int32))))) = (0 : Int32)) (hc114 : ¬ ((0 : Int32) < (((0 : Int32) + (own_r (p1 &&& (3 : Int32)))) + (own_r (((p1.toUInt32 >>> ((2 : Int32) &&& 31).toUInt32).toInt32) &&& (3 : Int32)))))) (hc122 : (own_pos (((0 : Int32) + (own_r (p1 &&& (3 : Int32)))) + (own_r (((p1.toUInt32 >>> ((2 : Int32) &&& 31).toUInt32).toInt32) &&& (3 : Int32))))) = (0 : Int32)) (hc156 : ¬ ((0 : Int32) < ((((0 : Int32) + (own_r (p1 &&& (3 : Int32)))) + (own_r (((p1.toUInt32 >>> ((2 : Int32) &&& 31).toUInt32).toInt32) &&& (3 : Int32)))) + (own_r (((p1.toUInt32 >>> ((4 : Int32) &&& 31).toUInt32).toInt32) &&& (3 : Int32)))))) (hc164 : (own_pos ((((0 : Int32) + (own_r (p1 &&& (3 : Int32)))) + (own_r (((p1.toUInt32 >>> ((2 : Int32) &&& 31).toUInt32).toInt32) &&& (3 : Int32)))) + (own_r (((p1.toUInt32 >>> ((4 : Int32) &&& 31).toUInt32).toInt32) &&& (3 : Int32))))) = (0 : Int32)) :
    MetFree l x (head1 (Jvm.Cond.code x code maxLocals ret :: ws) room_1) (fun a U => a = #[(.int p1), (.int p2)] ∧ Z.Warmed39 U.vm ∧ U.heap = h0 ∧ CHv Z EL U.vm h0) (fun _ _ _ _ _ => True) (fun _ U o U' => ∃ v L, o = .returned v ∧ Q0 Z p1 p2 h0 n0 v U'.heap L ∧ CHr Z EL U.vm U.heap U'.vm U'.heap ∧ ReturnedEndW U o U' L room_1.cells room_1.slots) := by
  refine MetFree.of_bodySF (plainFor_of_name pn_0) hisR ?_
  intro p e s m args below meth c s₁ Bd hml0 hP hK
  obtain ⟨rfl, hZ, hh, C0⟩ := hP
  have hx := Bd.exec
  have hby := Bd.bytes
  have hml : c.maxLocals = 6 := hml0
  have hown : s.vm.findClass "com/example/stomme/stomme/diagnostic/DiagnosticsHasErrorsPinLaw" = some m.cls := findClass_of_methodNamed Bd.named
  have hnm := (name_of_methodNamed Bd.named Bd.method).1
  have X0 : Stand p l e room_1 (s.setVm s.vm) m #[(.int p1), (.int p2)] below meth c s₁ [] 0 0 := Stand.of_body Bd
  have e0 : s₁.heap = h0 := by rw [← hh, Bd.state]; rfl
  have N0 := Fr.nil n0
  have hS0 := own_since s 0
  have wS := own_strs hw
  have pre0 : ∀ t, Steps p.tables e below (s₁.setTop (mkF m 0 #[.val (.int p1), .val (.int p2), .unset, .unset, .unset, .unset] [])) t → Steps p.tables e below (s₁.setTop (entryFrame m #[(.int p1), (.int p2)] maxLocals)) t := fun t k => castTop (ef_0 m p1 p2) k
  obtain ⟨T3, h3, X3, e3, E3, A3, D3, -, st3⟩ := newO X0 hx hZ hown (hw _ (List.mem_of_getElem? (i := 0) rfl)) (hw _ (List.mem_of_getElem? (i := 1) rfl)) (hw _ (List.mem_of_getElem? (i := 2) rfl)) e0 (g := (mkF m 0 #[.val (.int p1), .val (.int p2), .unset, .unset, .unset, .unset] [])) rfl (hb hby at_0) (by decide) (by decide)
  obtain ⟨b3, g3⟩ : ∃ z, z = h0.size := ⟨_, rfl⟩
  rw [← g3] at A3 D3 st3
  have F_reported_b3 : Fld Z h3 b3 "com/example/stomme/stomme/diagnostic/Diagnostics" "reported" "Ljava/util/List;" .null := D3 (Or.inr (hw _ (List.mem_of_getElem? (i := 34) rfl))) (ty := (.object "java/util/List")) (by decide)
  have F_errors_b3 : Fld Z h3 b3 "com/example/stomme/stomme/diagnostic/Diagnostics" "errors" "I" (.int (0 : Int32)) := D3 (Or.inl (hw _ (List.mem_of_getElem? (i := 73) rfl))) (ty := .int) (by decide)
  have E_b3 := A3
  have g_b3 : n0 ≤ b3 := Nat.le_trans Z0 (Nat.le_of_eq g3.symm)
  have sz_b3 : h0.size ≤ b3 := (Nat.le_trans (Keep.refl h0 []).1 (Nat.le_of_eq g3.symm))
  have C3 := CHv.ext E3 C0
  have R3 := (CHr.refl C0).trans (CHr.ext E3 C0)
  have K3 : Keep h0 h3 [] := (Keep.refl h0 []).ext E3
  obtain ⟨_, _, ⟨T4, L4, k4, n4⟩, -, X4, ⟨Lc4, hQ4, l4, y4, z4⟩, st4⟩ := X3.specialBack hx (y := (⟨"com/example/stomme/stomme/diagnostic/Diagnostics", "<init>", "()V"⟩ : MethodName)) rfl hown (mvT hZ (hw _ (List.mem_of_getElem? (i := 3) rfl))) (mvT hZ (hw _ (List.mem_of_getElem? (i := 4) rfl))) (mvT hZ (hw _ (List.mem_of_getElem? (i := 5) rfl))) (by decide) (backOf (W := 1) (rm1 l Z a0 hw [] b3 _ wD h3 n0 (Nat.le_trans Z0 E3.1) E_b3 F_errors_b3 F_reported_b3 g_b3 (O0.ext E3) S_D) hZ (hw _ (List.mem_of_getElem? (i := 5) rfl)) (hw _ (List.mem_of_getElem? (i := 2) rfl)) (by decide) (by decide)) (g := (mkF m 4 #[.val (.int p1), .val (.int p2), .unset, .unset, .unset, .unset] [(.ref b3), (.ref b3)])) rfl (by rw [hml]; rfl) (Steps.refl _) (a := b3) (argsL := []) (rest := [(.ref b3)]) (lenOf pd_0_0 rfl) rfl (by show 2 * 0 + _ ≤ _; exact Nat.le_of_eq rfl) (hb hby at_4) (fun _ _ => ⟨rfl, e3, (by decide : 1 + 1 ≤ _), (by decide : 2 + 3 ≤ _)⟩)
  dsimp only [Pt.U, Pt.locs, Pt.cells, Pt.slots] at X4 l4 y4 z4 st4 hQ4
  subst l4 y4 z4
  obtain ⟨rfl, N4q, K4c, Ed4, Fd4, al, g_al, Fr4, Ea4, Fm4, Fe4, Fs4⟩ := hQ4
  have N4 := Fr.app N0 N4q
  have K4 : Keep h0 T4.heap [] := K3.trans K4c (allS (Or.inr sz_b3) all0)
  have C4 := CHv.keep K4c (sfS (Safe.exa hZ.alike E_b3 (by decide) (by decide)) sf0) C3
  have R4 := R3.trans (CHr.keep K4c (sfS (Safe.exa hZ.alike E_b3 (by decide) (by decide)) sf0) C3)
  obtain ⟨T5, h5, X5, e5, E5, A5, D5, -, st5⟩ := newO X4 hx hZ hown (hw _ (List.mem_of_getElem? (i := 35) rfl)) (hw _ (List.mem_of_getElem? (i := 36) rfl)) (hw _ (List.mem_of_getElem? (i := 37) rfl)) rfl (g := (mkF m 8 #[.val (.int p1), .val (.int p2), .val (.ref b3), .unset, .unset, .unset] [])) rfl (hb hby at_8) (by decide) (by decide)
  obtain ⟨b5, g5⟩ : ∃ z, z = T4.heap.size := ⟨_, rfl⟩
  rw [← g5] at A5 D5 st5
  have F_file_b5 : Fld Z h5 b5 "com/example/stomme/stomme/diagnostic/Position" "file" "Ljava/lang/String;" .null := D5 (Or.inr (hw _ (List.mem_of_getElem? (i := 62) rfl))) (ty := (.object "java/lang/String")) (by decide)
  have F_line_b5 : Fld Z h5 b5 "com/example/stomme/stomme/diagnostic/Position" "line" "I" (.int (0 : Int32)) := D5 (Or.inr (hw _ (List.mem_of_getElem? (i := 64) rfl))) (ty := .int) (by decide)
  have F_column_b5 : Fld Z h5 b5 "com/example/stomme/stomme/diagnostic/Position" "column" "I" (.int (0 : Int32)) := D5 (Or.inr (hw _ (List.mem_of_getElem? (i := 66) rfl))) (ty := .int) (by decide)
  have E_b5 := A5
  have g_b5 : n0 ≤ b5 := Nat.le_trans (Nat.le_trans (Nat.le_trans Z0 E3.1) K4c.1) (Nat.le_of_eq g5.symm)
  have sz_b5 : h0.size ≤ b5 := (Nat.le_trans K4.1 (Nat.le_of_eq g5.symm))
  have C5 := CHv.ext E5 C4
  have R5 := R4.trans (CHr.ext E5 C4)
  have K5 : Keep h0 h5 [] := K4.ext E5
  obtain ⟨b6, T6, h6, kk6, X6, e6, E6, hS6, hk6, hZ6, hown6, RQ6, -, st6⟩ := ldcOH X5 hx hZ hown (hw _ (List.mem_of_getElem? (i := 38) rfl)) wS e5 hS0 (Nat.le_trans (Nat.le_trans (Nat.le_trans (Nat.zero_le _) E3.1) K4c.1) E5.1) hEL C5 (g := (mkF m 12 #[.val (.int p1), .val (.int p2), .val (.ref b3), .unset, .unset, .unset] [(.ref b5), (.ref b5)])) rfl (hb hby at_12) (n := 4) (by decide) (by decide) (by decide) (by decide)
  have C6 := RQ6.1
  have R6 := R5.trans RQ6
  have K6 : Keep h0 h6 [] := K5.ext E6
  obtain ⟨_, _, ⟨T7, L7, k7, n7⟩, -, X7, hS7, gr7, ⟨Lc7, hQ7, l7, y7, z7, RQ7⟩, st7⟩ := X6.specialBackS hx (y := (⟨"com/example/stomme/stomme/diagnostic/Position", "<init>", "(Ljava/lang/String;II)V"⟩ : MethodName)) rfl hown6 (mvT hZ6 (hw _ (List.mem_of_getElem? (i := 47) rfl))) (mvT hZ6 (hw _ (List.mem_of_getElem? (i := 48) rfl))) (mvT hZ6 (hw _ (List.mem_of_getElem? (i := 49) rfl))) (by decide) (backOfSH (W := 1) (rm6 l Z a0 hw [] b5 b6 ((p2 &&& (65535 : Int32)) + (1 : Int32)) ((((p2.toUInt32 >>> ((16 : Int32) &&& 31).toUInt32).toInt32) &&& (32767 : Int32)) + (1 : Int32)) _ _ _ hEL h6 n0 (Nat.le_trans (Nat.le_trans (Nat.le_trans (Nat.le_trans Z0 E3.1) K4c.1) E5.1) E6.1) (E_b5.ext E6) (F_file_b5.ext E6) g_b5 (F_line_b5.ext E6) (F_column_b5.ext E6) hp3 hp4) hZ6 (hw _ (List.mem_of_getElem? (i := 49) rfl)) (hw _ (List.mem_of_getElem? (i := 37) rfl)) (by decide) (by decide) hEL C6) (g := (mkF m 30 #[.val (.int p1), .val (.int p2), .val (.ref b3), .unset, .unset, .unset] [(.int ((((p2.toUInt32 >>> ((16 : Int32) &&& 31).toUInt32).toInt32) &&& (32767 : Int32)) + (1 : Int32))), (.int ((p2 &&& (65535 : Int32)) + (1 : Int32))), (.ref b6), (.ref b5), (.ref b5)])) rfl (by rw [hml]; rfl) (Steps.refl _) (a := b5) (argsL := [(.ref b6), (.int ((p2 &&& (65535 : Int32)) + (1 : Int32))), (.int ((((p2.toUInt32 >>> ((16 : Int32) &&& 31).toUInt32).toInt32) &&& (32767 : Int32)) + (1 : Int32)))]) (rest := [(.ref b5)]) (lenOf pd_0_1 rfl) rfl (by show 2 * 0 + _ ≤ _; exact Nat.le_of_eq rfl) (hb hby at_30) (fun _ _ => ⟨rfl, e6, (by decide : 5 + 2 ≤ _), (by decide : 16 + 20 ≤ _)⟩)
  dsimp only [Pt.U, Pt.locs, Pt.cells, Pt.slots] at X7 hS7 gr7 l7 y7 z7 st7 hQ7 RQ7
  subst l7 y7 z7
  obtain ⟨rfl, N7q, K7c, Ep7⟩ := hQ7
  have N7 := Fr.app N4 N7q
  have K7 : Keep h0 T7.heap [] := K6.trans K7c (allS (Or.inr sz_b5) all0)
  obtain ⟨X7, hS7, hZ7, hown7⟩ := rebS hS6 (by rw [e6]; exact hk6) X7 hS7 gr7 hZ6 hown6
  have C7 := RQ7.1
  have R7 := R6.trans RQ7
  obtain ⟨cq8, kq8, q8a, q8b, q8c⟩ := isOf hZ7 rfl (((Ed4.ext E5).ext E6).keep K7c)
  obtain ⟨_, _, ⟨T8, L8, k8, n8⟩, -, X8, ⟨Lc8, hQ8, l8, y8, z8⟩, st8⟩ := X7.virtualBack hx (y := (⟨"com/example/stomme/stomme/diagnostic/Diagnostics", "hasErrors", "()Z"⟩ : MethodName)) (z := (⟨"com/example/stomme/stomme/diagnostic/Diagnostics", "hasErrors", "()Z"⟩ : MethodName)) hown7 (mvT hZ7 (hw _ (List.mem_of_getElem? (i := 67) rfl))) (mvT hZ7 (hw _ (List.mem_of_getElem? (i := 68) rfl))) (notFace_of_selects (args := #[]) (mvT hZ7 (hw _ (List.mem_of_getElem? (i := 70) rfl)))) (mvT hZ7 (hw _ (List.mem_of_getElem? (i := 70) rfl))) (mvT hZ7 (hw _ (List.mem_of_getElem? (i := 69) rfl))) (by decide) (backOf (W := 0) (rm9 l Z a0 hw [] b3 (0 : Int32) T7.heap n0 (Nat.le_trans (Nat.le_trans (Nat.le_trans (Nat.le_trans (Nat.le_trans Z0 E3.1) K4c.1) E5.1) E6.1) K7c.1) (((Fd4.ext E5).ext E6).keep K7c (ninS (Nat.ne_of_lt (Nat.lt_of_lt_of_le Ed4.lt (Nat.le_of_eq g5.symm))) nin0))) hZ7 (hw _ (List.mem_of_getElem? (i := 71) rfl)) (hw _ (List.mem_of_getElem? (i := 2) rfl)) (by decide) (by decide)) q8a q8c (g := (mkF m 35 #[.val (.int p1), .val (.int p2), .val (.ref b3), .val (.ref b5), .unset, .unset] [(.ref b3)])) rfl (by rw [hml]; rfl) (Steps.refl _) (argsL := []) (rest := []) (lenOf pd_0_3 rfl) rfl (by show 2 * 0 + _ ≤ _; exact Nat.le_of_eq rfl) (hb hby at_35) (fun _ _ => ⟨rfl, rfl, (by decide : 7 + 0 ≤ _), (by decide : 36 + 0 ≤ _)⟩)
  dsimp only [Pt.U, Pt.locs, Pt.cells, Pt.slots] at X8 l8 y8 z8 st8 hQ8
  subst l8 y8 z8
  obtain ⟨rfl, N8q, e8c⟩ := hQ8
  have N8 := Fr.app N7 N8q
  obtain ⟨_, _, ⟨T9, L9, k9, n9⟩, -, X9, hS9, gr9, ⟨Lc9, hQ9, l9, y9, z9, RQ9⟩, st9⟩ := callSS X8 hx (y := (⟨"com/example/stomme/stomme/diagnostic/DiagnosticsHasErrorsPinLaw", "step", "(Lcom/example/stomme/stomme/diagnostic/Diagnostics;Lcom/example/stomme/stomme/diagnostic/Position;I)I"⟩ : MethodName)) hown7 (mvT hZ7 (hw _ (List.mem_of_getElem? (i := 74) rfl))) (mvT hZ7 (hw _ (List.mem_of_getElem? (i := 75) rfl))) (mvT hZ7 (hw _ (List.mem_of_getElem? (i := 76) rfl))) (mvT hZ7 (hw _ (List.mem_of_getElem? (i := 77) rfl))) (by decide) (backOfSH (W := 1) (rm10 l Z a0 hw [] b3 b5 (p1 &&& (3 : Int32)) al (0 : Int32) 0 wD clD wA pv clA wC wI wE wW hEL T7.heap n0 (Nat.le_trans (Nat.le_trans (Nat.le_trans (Nat.le_trans (Nat.le_trans Z0 E3.1) K4c.1) E5.1) E6.1) K7c.1) (((((O0.ext E3).keep K4c (allS g_b3 all0)).ext E5).ext E6).keep K7c (allS g_b5 all0)) Wl ⟨(((Ed4.ext E5).ext E6).keep K7c), (((Fr4.ext E5).ext E6).keep K7c (ninS (Nat.ne_of_lt (Nat.lt_of_lt_of_le Ed4.lt (Nat.le_of_eq g5.symm))) nin0)), (((Fd4.ext E5).ext E6).keep K7c (ninS (Nat.ne_of_lt (Nat.lt_of_lt_of_le Ed4.lt (Nat.le_of_eq g5.symm))) nin0)), (((Ea4.ext E5).ext E6).keep K7c), g_b3, g_al, Or.inl ⟨_, (((Fm4.ext E5).ext E6).keep K7c (ninS (Nat.ne_of_lt (Nat.lt_of_lt_of_le Ea4.lt (Nat.le_of_eq g5.symm))) nin0)), (((Fs4.ext E5).ext E6).keep K7c (ninS (Nat.ne_of_lt (Nat.lt_of_lt_of_le Ea4.lt (Nat.le_of_eq g5.symm))) nin0)), (((Fe4.ext E5).ext E6).keep K7c (ninS (Nat.ne_of_lt (Nat.lt_of_lt_of_le Ea4.lt (Nat.le_of_eq g5.symm))) nin0))⟩⟩ (by decide)) hZ7 (hw _ (List.mem_of_getElem? (i := 77) rfl)) (hw _ (List.mem_of_getElem? (i := 76) rfl)) (by decide) (by decide) hEL C7) (g := (mkF m 58 #[.val (.int p1), .val (.int p2), .val (.ref b3), .val (.ref b5), .val (.int (1 : Int32)), .val (.int (0 : Int32))] [(.int (p1 &&& (3 : Int32))), (.ref b5), (.ref b3), (.int (0 : Int32))])) rfl (by rw [hml]; rfl) (argsL := [(.ref b3), (.ref b5), (.int (p1 &&& (3 : Int32)))]) (rest := [(.int (0 : Int32))]) (lenOf pd_0_4 rfl) rfl (by show 2 * 0 + _ ≤ _; exact Nat.le_of_eq rfl) (hb hby at_58) (fun _ _ => ⟨rfl, e8c, (by decide : 7 + 10 ≤ _), (by decide : 36 + 125 ≤ _)⟩)
  dsimp only [Pt.U, Pt.locs, Pt.cells, Pt.slots] at X9 hS9 gr9 l9 y9 z9 st9 hQ9 RQ9
  subst l9 y9 z9
  obtain ⟨rfl, N9q, O9c, Dz0c⟩ := hQ9
  have N9 := Fr.app N8 N9q
  obtain ⟨X9, hS9, hZ9, hown9⟩ := rebS hS7 (by rw [e8c]; exact (Nat.le_refl _)) X9 hS9 gr9 hZ7 hown7
  have C9 := RQ9.1
  have R9 := R7.trans RQ9
  obtain ⟨Daz0, Dbz0, Dcz0, Ddz0, -⟩ := id Dz0c
  obtain ⟨cq10, kq10, q10a, q10b, q10c⟩ := isOf hZ9 rfl Daz0
  obtain ⟨_, _, ⟨T10, L10, k10, n10⟩, -, X10, ⟨Lc10, hQ10, l10, y10, z10⟩, st10⟩ := X9.virtualBack hx (y := (⟨"com/example/stomme/stomme/diagnostic/Diagnostics", "hasErrors", "()Z"⟩ : MethodName)) (z := (⟨"com/example/stomme/stomme/diagnostic/Diagnostics", "hasErrors", "()Z"⟩ : MethodName)) hown9 (mvT hZ9 (hw _ (List.mem_of_getElem? (i := 67) rfl))) (mvT hZ9 (hw _ (List.mem_of_getElem? (i := 68) rfl))) (notFace_of_selects (args := #[]) (mvT hZ9 (hw _ (List.mem_of_getElem? (i := 70) rfl)))) (mvT hZ9 (hw _ (List.mem_of_getElem? (i := 70) rfl))) (mvT hZ9 (hw _ (List.mem_of_getElem? (i := 69) rfl))) (by decide) (backOf (W := 1) (rm9 l Z a0 hw [] b3 ((0 : Int32) + (own_r (p1 &&& (3 : Int32)))) T9.heap n0 (own_osz O9c) Dcz0) hZ9 (hw _ (List.mem_of_getElem? (i := 71) rfl)) (hw _ (List.mem_of_getElem? (i := 2) rfl)) (by decide) (by decide)) q10a q10c (g := (mkF m 67 #[.val (.int p1), .val (.int p2), .val (.ref b3), .val (.ref b5), .val (.int (1 : Int32)), .val (.int ((0 : Int32) + (own_r (p1 &&& (3 : Int32)))))] [(.ref b3), (.int (1 : Int32))])) rfl (by rw [hml]; rfl) (Steps.refl _) (argsL := []) (rest := [(.int (1 : Int32))]) (lenOf pd_0_3 rfl) rfl (by show 2 * 0 + _ ≤ _; exact Nat.le_of_eq rfl) (hb hby at_67) (fun _ _ => ⟨rfl, rfl, (by decide : 17 + 0 ≤ _), (by decide : 161 + 0 ≤ _)⟩)
  dsimp only [Pt.U, Pt.locs, Pt.cells, Pt.slots] at X10 l10 y10 z10 st10 hQ10
  subst l10 y10 z10
  obtain ⟨rfl, N10q, e10c⟩ := hQ10
  have N10 := Fr.app N9 N10q
  obtain ⟨_, _, ⟨T11, L11, k11, n11⟩, -, X11, hS11, gr11, ⟨Lc11, hQ11, l11, y11, z11, RQ11⟩, st11⟩ := callSS X10 hx (y := (⟨"com/example/stomme/stomme/diagnostic/DiagnosticsHasErrorsPinLaw", "step", "(Lcom/example/stomme/stomme/diagnostic/Diagnostics;Lcom/example/stomme/stomme/diagnostic/Position;I)I"⟩ : MethodName)) hown9 (mvT hZ9 (hw _ (List.mem_of_getElem? (i := 74) rfl))) (mvT hZ9 (hw _ (List.mem_of_getElem? (i := 75) rfl))) (mvT hZ9 (hw _ (List.mem_of_getElem? (i := 76) rfl))) (mvT hZ9 (hw _ (List.mem_of_getElem? (i := 77) rfl))) (by decide) (backOfSH (W := 1) (rm10 l Z a0 hw [] b3 b5 (((p1.toUInt32 >>> ((2 : Int32) &&& 31).toUInt32).toInt32) &&& (3 : Int32)) al ((0 : Int32) + (own_r (p1 &&& (3 : Int32)))) 1 wD clD wA pv clA wC wI wE wW hEL T9.heap n0 (own_osz O9c) O9c Wl Dz0c (by decide)) hZ9 (hw _ (List.mem_of_getElem? (i := 77) rfl)) (hw _ (List.mem_of_getElem? (i := 76) rfl)) (by decide) (by decide) hEL C9) (g := (mkF m 100 #[.val (.int p1), .val (.int p2), .val (.ref b3), .val (.ref b5), .val (.int ((1 : Int32) &&& (1 : Int32))), .val (.int ((0 : Int32) + (own_r (p1 &&& (3 : Int32)))))] [(.int (((p1.toUInt32 >>> ((2 : Int32) &&& 31).toUInt32).toInt32) &&& (3 : Int32))), (.ref b5), (.ref b3), (.int ((0 : Int32) + (own_r (p1 &&& (3 : Int32)))))])) rfl (by rw [hml]; rfl) (argsL := [(.ref b3), (.ref b5), (.int (((p1.toUInt32 >>> ((2 : Int32) &&& 31).toUInt32).toInt32) &&& (3 : Int32)))]) (rest := [(.int ((0 : Int32) + (own_r (p1 &&& (3 : Int32)))))]) (lenOf pd_0_4 rfl) rfl (by show 2 * 0 + _ ≤ _; exact Nat.le_of_eq rfl) (hb hby at_100) (fun _ _ => ⟨rfl, e10c, (by decide : 17 + 10 ≤ _), (by decide : 161 + 125 ≤ _)⟩)
  dsimp only [Pt.U, Pt.locs, Pt.cells, Pt.slots] at X11 hS11 gr11 l11 y11 z11 st11 hQ11 RQ11
  subst l11 y11 z11
  obtain ⟨rfl, N11q, O11c, Dz1c⟩ := hQ11
  have N11 := Fr.app N10 N11q
  obtain ⟨X11, hS11, hZ11, hown11⟩ := rebS hS9 (by rw [e10c]; exact (Nat.le_refl _)) X11 hS11 gr11 hZ9 hown9
  have C11 := RQ11.1
  have R11 := R9.trans RQ11
  obtain ⟨Daz1, Dbz1, Dcz1, Ddz1, -⟩ := id Dz1c
  obtain ⟨cq12, kq12, q12a, q12b, q12c⟩ := isOf hZ11 rfl Daz1
  obtain ⟨_, _, ⟨T12, L12, k12, n12⟩, -, X12, ⟨Lc12, hQ12, l12, y12, z12⟩, st12⟩ := X11.virtualBack hx (y := (⟨"com/example/stomme/stomme/diagnostic/Diagnostics", "hasErrors", "()Z"⟩ : MethodName)) (z := (⟨"com/example/stomme/stomme/diagnostic/Diagnostics", "hasErrors", "()Z"⟩ : MethodName)) hown11 (mvT hZ11 (hw _ (List.mem_of_getElem? (i := 67) rfl))) (mvT hZ11 (hw _ (List.mem_of_getElem? (i := 68) rfl))) (notFace_of_selects (args := #[]) (mvT hZ11 (hw _ (List.mem_of_getElem? (i := 70) rfl)))) (mvT hZ11 (hw _ (List.mem_of_getElem? (i := 70) rfl))) (mvT hZ11 (hw _ (List.mem_of_getElem? (i := 69) rfl))) (by decide) (backOf (W := 1) (rm9 l Z a0 hw [] b3 (((0 : Int32) + (own_r (p1 &&& (3 : Int32)))) + (own_r (((p1.toUInt32 >>> ((2 : Int32) &&& 31).toUInt32).toInt32) &&& (3 : Int32)))) T11.heap n0 (own_osz O11c) Dcz1) hZ11 (hw _ (List.mem_of_getElem? (i := 71) rfl)) (hw _ (List.mem_of_getElem? (i := 2) rfl)) (by decide) (by decide)) q12a q12c (g := (mkF m 109 #[.val (.int p1), .val (.int p2), .val (.ref b3), .val (.ref b5), .val (.int ((1 : Int32) &&& (1 : Int32))), .val (.int (((0 : Int32) + (own_r (p1 &&& (3 : Int32)))) + (own_r (((p1.toUInt32 >>> ((2 : Int32) &&& 31).toUInt32).toInt32) &&& (3 : Int32)))))] [(.ref b3), (.int ((1 : Int32) &&& (1 : Int32)))])) rfl (by rw [hml]; rfl) (Steps.refl _) (argsL := []) (rest := [(.int ((1 : Int32) &&& (1 : Int32)))]) (lenOf pd_0_3 rfl) rfl (by show 2 * 0 + _ ≤ _; exact Nat.le_of_eq rfl) (hb hby at_109) (fun _ _ => ⟨rfl, rfl, (by decide : 27 + 0 ≤ _), (by decide : 286 + 0 ≤ _)⟩)
  dsimp only [Pt.U, Pt.locs, Pt.cells, Pt.slots] at X12 l12 y12 z12 st12 hQ12
  subst l12 y12 z12
  obtain ⟨rfl, N12q, e12c⟩ := hQ12
  have N12 := Fr.app N11 N12q
  obtain ⟨_, _, ⟨T13, L13, k13, n13⟩, -, X13, hS13, gr13, ⟨Lc13, hQ13, l13, y13, z13, RQ13⟩, st13⟩ := callSS X12 hx (y := (⟨"com/example/stomme/stomme/diagnostic/DiagnosticsHasErrorsPinLaw", "step", "(Lcom/example/stomme/stomme/diagnostic/Diagnostics;Lcom/example/stomme/stomme/diagnostic/Position;I)I"⟩ : MethodName)) hown11 (mvT hZ11 (hw _ (List.mem_of_getElem? (i := 74) rfl))) (mvT hZ11 (hw _ (List.mem_of_getElem? (i := 75) rfl))) (mvT hZ11 (hw _ (List.mem_of_getElem? (i := 76) rfl))) (mvT hZ11 (hw _ (List.mem_of_getElem? (i := 77) rfl))) (by decide) (backOfSH (W := 1) (rm10 l Z a0 hw [] b3 b5 (((p1.toUInt32 >>> ((4 : Int32) &&& 31).toUInt32).toInt32) &&& (3 : Int32)) al (((0 : Int32) + (own_r (p1 &&& (3 : Int32)))) + (own_r (((p1.toUInt32 >>> ((2 : Int32) &&& 31).toUInt32).toInt32) &&& (3 : Int32)))) 2 wD clD wA pv clA wC wI wE wW hEL T11.heap n0 (own_osz O11c) O11c Wl Dz1c (by decide)) hZ11 (hw _ (List.mem_of_getElem? (i := 77) rfl)) (hw _ (List.mem_of_getElem? (i := 76) rfl)) (by decide) (by decide) hEL C11) (g := (mkF m 142 #[.val (.int p1), .val (.int p2), .val (.ref b3), .val (.ref b5), .val (.int (((1 : Int32) &&& (1 : Int32)) &&& (1 : Int32))), .val (.int (((0 : Int32) + (own_r (p1 &&& (3 : Int32)))) + (own_r (((p1.toUInt32 >>> ((2 : Int32) &&& 31).toUInt32).toInt32) &&& (3 : Int32)))))] [(.int (((p1.toUInt32 >>> ((4 : Int32) &&& 31).toUInt32).toInt32) &&& (3 : Int32))), (.ref b5), (.ref b3), (.int (((0 : Int32) + (own_r (p1 &&& (3 : Int32)))) + (own_r (((p1.toUInt32 >>> ((2 : Int32) &&& 31).toUInt32).toInt32) &&& (3 : Int32)))))])) rfl (by rw [hml]; rfl) (argsL := [(.ref b3), (.ref b5), (.int (((p1.toUInt32 >>> ((4 : Int32) &&& 31).toUInt32).toInt32) &&& (3 : Int32)))]) (rest := [(.int (((0 : Int32) + (own_r (p1 &&& (3 : Int32)))) + (own_r (((p1.toUInt32 >>> ((2 : Int32) &&& 31).toUInt32).toInt32) &&& (3 : Int32)))))]) (lenOf pd_0_4 rfl) rfl (by show 2 * 0 + _ ≤ _; exact Nat.le_of_eq rfl) (hb hby at_142) (fun _ _ => ⟨rfl, e12c, (by decide : 27 + 10 ≤ _), (by decide : 286 + 125 ≤ _)⟩)
  dsimp only [Pt.U, Pt.locs, Pt.cells, Pt.slots] at X13 hS13 gr13 l13 y13 z13 st13 hQ13 RQ13
  subst l13 y13 z13
  obtain ⟨rfl, N13q, O13c, Dz2c⟩ := hQ13
  have N13 := Fr.app N12 N13q
  obtain ⟨X13, hS13, hZ13, hown13⟩ := rebS hS11 (by rw [e12c]; exact (Nat.le_refl _)) X13 hS13 gr13 hZ11 hown11
  have C13 := RQ13.1
  have R13 := R11.trans RQ13
  obtain ⟨Daz2, Dbz2, Dcz2, Ddz2, -⟩ := id Dz2c
  obtain ⟨cq14, kq14, q14a, q14b, q14c⟩ := isOf hZ13 rfl Daz2
  obtain ⟨_, _, ⟨T14, L14, k14, n14⟩, -, X14, ⟨Lc14, hQ14, l14, y14, z14⟩, st14⟩ := X13.virtualBack hx (y := (⟨"com/example/stomme/stomme/diagnostic/Diagnostics", "hasErrors", "()Z"⟩ : MethodName)) (z := (⟨"com/example/stomme/stomme/diagnostic/Diagnostics", "hasErrors", "()Z"⟩ : MethodName)) hown13 (mvT hZ13 (hw _ (List.mem_of_getElem? (i := 67) rfl))) (mvT hZ13 (hw _ (List.mem_of_getElem? (i := 68) rfl))) (notFace_of_selects (args := #[]) (mvT hZ13 (hw _ (List.mem_of_getElem? (i := 70) rfl)))) (mvT hZ13 (hw _ (List.mem_of_getElem? (i := 70) rfl))) (mvT hZ13 (hw _ (List.mem_of_getElem? (i := 69) rfl))) (by decide) (backOf (W := 1) (rm9 l Z a0 hw [] b3 ((((0 : Int32) + (own_r (p1 &&& (3 : Int32)))) + (own_r (((p1.toUInt32 >>> ((2 : Int32) &&& 31).toUInt32).toInt32) &&& (3 : Int32)))) + (own_r (((p1.toUInt32 >>> ((4 : Int32) &&& 31).toUInt32).toInt32) &&& (3 : Int32)))) T13.heap n0 (own_osz O13c) Dcz2) hZ13 (hw _ (List.mem_of_getElem? (i := 71) rfl)) (hw _ (List.mem_of_getElem? (i := 2) rfl)) (by decide) (by decide)) q14a q14c (g := (mkF m 151 #[.val (.int p1), .val (.int p2), .val (.ref b3), .val (.ref b5), .val (.int (((1 : Int32) &&& (1 : Int32)) &&& (1 : Int32))), .val (.int ((((0 : Int32) + (own_r (p1 &&& (3 : Int32)))) + (own_r (((p1.toUInt32 >>> ((2 : Int32) &&& 31).toUInt32).toInt32) &&& (3 : Int32)))) + (own_r (((p1.toUInt32 >>> ((4 : Int32) &&& 31).toUInt32).toInt32) &&& (3 : Int32)))))] [(.ref b3), (.int (((1 : Int32) &&& (1 : Int32)) &&& (1 : Int32)))])) rfl (by rw [hml]; rfl) (Steps.refl _) (argsL := []) (rest := [(.int (((1 : Int32) &&& (1 : Int32)) &&& (1 : Int32)))]) (lenOf pd_0_3 rfl) rfl (by show 2 * 0 + _ ≤ _; exact Nat.le_of_eq rfl) (hb hby at_151) (fun _ _ => ⟨rfl, rfl, (by decide : 37 + 0 ≤ _), (by decide : 411 + 0 ≤ _)⟩)
  dsimp only [Pt.U, Pt.locs, Pt.cells, Pt.slots] at X14 l14 y14 z14 st14 hQ14
  subst l14 y14 z14
  obtain ⟨rfl, N14q, e14c⟩ := hQ14
  have N14 := Fr.app N13 N14q
  have RZ := R13.trans (CHv.at X14 hZ13 hEL C13)
  obtain ⟨fs, hr, hrun, hended, hREW⟩ := (X14.more (cells' := room_1.cells) (slots' := room_1.slots) (by decide) (by decide)).leaveW hS13 (by rw [e14c]; exact (Nat.le_refl _)) (v := some (.int (1 : Int32))) (fun h => by rw [Bd.returns] at h; cases h)
  refine ⟨_, _, pre0 _ ?_, hrun, hended, _, _, rfl, ?_, ?_, hREW⟩
  · show Steps p.tables e below (s₁.setTop (mkF m 0 #[.val (.int p1), .val (.int p2), .unset, .unset, .unset, .unset] [])) _
    refine st3 _ ?_
    show Steps p.tables e below (T3.setTop (mkF m 3 #[.val (.int p1), .val (.int p2), .unset, .unset, .unset, .unset] [(.ref b3)])) _
    refine XS.dup X3.here hx rfl (hb hby at_3) rfl rfl ?_
    show Steps p.tables e below (T3.setTop (mkF m 4 #[.val (.int p1), .val (.int p2), .unset, .unset, .unset, .unset] [(.ref b3), (.ref b3)])) _
    refine st4.trans ?_
    show Steps p.tables e below (T4.setTop (mkF m 7 #[.val (.int p1), .val (.int p2), .unset, .unset, .unset, .unset] [(.ref b3)])) _
    refine XS.astoreN X4.here hx rfl (hb hby at_7) rfl rfl (l' := #[.val (.int p1), .val (.int p2), .val (.ref b3), .unset, .unset, .unset]) rfl ?_
    show Steps p.tables e below (T4.setTop (mkF m 8 #[.val (.int p1), .val (.int p2), .val (.ref b3), .unset, .unset, .unset] [])) _
    refine st5 _ ?_
    show Steps p.tables e below (T5.setTop (mkF m 11 #[.val (.int p1), .val (.int p2), .val (.ref b3), .unset, .unset, .unset] [(.ref b5)])) _
    refine XS.dup X5.here hx rfl (hb hby at_11) rfl rfl ?_
    show Steps p.tables e below (T5.setTop (mkF m 12 #[.val (.int p1), .val (.int p2), .val (.ref b3), .unset, .unset, .unset] [(.ref b5), (.ref b5)])) _
    refine st6 _ ?_
    show Steps p.tables e below (T6.setTop (mkF m 14 #[.val (.int p1), .val (.int p2), .val (.ref b3), .unset, .unset, .unset] [(.ref b6), (.ref b5), (.ref b5)])) _
    refine XS.iloadN X6.here hx rfl (hb hby at_14) rfl ?_
    show Steps p.tables e below (T6.setTop (mkF m 15 #[.val (.int p1), .val (.int p2), .val (.ref b3), .unset, .unset, .unset] [(.int p2), (.ref b6), (.ref b5), (.ref b5)])) _
    refine X6.ldcInt hx hown6 (mvT hZ6 (hw _ (List.mem_of_getElem? (i := 46) rfl))) (g := (mkF m 15 #[.val (.int p1), .val (.int p2), .val (.ref b3), .unset, .unset, .unset] [(.int p2), (.ref b6), (.ref b5), (.ref b5)])) rfl (hb hby at_15) _ ?_
    show Steps p.tables e below (T6.setTop (mkF m 17 #[.val (.int p1), .val (.int p2), .val (.ref b3), .unset, .unset, .unset] [(.int (65535 : Int32)), (.int p2), (.ref b6), (.ref b5), (.ref b5)])) _
    refine XS.iand X6.here hx rfl (hb hby at_17) rfl ?_
    show Steps p.tables e below (T6.setTop (mkF m 18 #[.val (.int p1), .val (.int p2), .val (.ref b3), .unset, .unset, .unset] [(.int (p2 &&& (65535 : Int32))), (.ref b6), (.ref b5), (.ref b5)])) _
    refine XS.iconst X6.here hx rfl (hb hby at_18) ?_
    show Steps p.tables e below (T6.setTop (mkF m 19 #[.val (.int p1), .val (.int p2), .val (.ref b3), .unset, .unset, .unset] [(.int (1 : Int32)), (.int (p2 &&& (65535 : Int32))), (.ref b6), (.ref b5), (.ref b5)])) _
    refine XS.iadd X6.here hx rfl (hb hby at_19) rfl ?_
    show Steps p.tables e below (T6.setTop (mkF m 20 #[.val (.int p1), .val (.int p2), .val (.ref b3), .unset, .unset, .unset] [(.int ((p2 &&& (65535 : Int32)) + (1 : Int32))), (.ref b6), (.ref b5), (.ref b5)])) _
    refine XS.iloadN X6.here hx rfl (hb hby at_20) rfl ?_
    show Steps p.tables e below (T6.setTop (mkF m 21 #[.val (.int p1), .val (.int p2), .val (.ref b3), .unset, .unset, .unset] [(.int p2), (.int ((p2 &&& (65535 : Int32)) + (1 : Int32))), (.ref b6), (.ref b5), (.ref b5)])) _
    refine XS.bipush X6.here hx rfl (hb hby at_21) ?_
    show Steps p.tables e below (T6.setTop (mkF m 23 #[.val (.int p1), .val (.int p2), .val (.ref b3), .unset, .unset, .unset] [(.int (16 : Int32)), (.int p2), (.int ((p2 &&& (65535 : Int32)) + (1 : Int32))), (.ref b6), (.ref b5), (.ref b5)])) _
    refine XS.iushr X6.here hx rfl (hb hby at_23) rfl ?_
    show Steps p.tables e below (T6.setTop (mkF m 24 #[.val (.int p1), .val (.int p2), .val (.ref b3), .unset, .unset, .unset] [(.int ((p2.toUInt32 >>> ((16 : Int32) &&& 31).toUInt32).toInt32)), (.int ((p2 &&& (65535 : Int32)) + (1 : Int32))), (.ref b6), (.ref b5), (.ref b5)])) _
    refine XS.sipush X6.here hx rfl (hb hby at_24) ?_
    show Steps p.tables e below (T6.setTop (mkF m 27 #[.val (.int p1), .val (.int p2), .val (.ref b3), .unset, .unset, .unset] [(.int (32767 : Int32)), (.int ((p2.toUInt32 >>> ((16 : Int32) &&& 31).toUInt32).toInt32)), (.int ((p2 &&& (65535 : Int32)) + (1 : Int32))), (.ref b6), (.ref b5), (.ref b5)])) _
    refine XS.iand X6.here hx rfl (hb hby at_27) rfl ?_
    show Steps p.tables e below (T6.setTop (mkF m 28 #[.val (.int p1), .val (.int p2), .val (.ref b3), .unset, .unset, .unset] [(.int (((p2.toUInt32 >>> ((16 : Int32) &&& 31).toUInt32).toInt32) &&& (32767 : Int32))), (.int ((p2 &&& (65535 : Int32)) + (1 : Int32))), (.ref b6), (.ref b5), (.ref b5)])) _
    refine XS.iconst X6.here hx rfl (hb hby at_28) ?_
    show Steps p.tables e below (T6.setTop (mkF m 29 #[.val (.int p1), .val (.int p2), .val (.ref b3), .unset, .unset, .unset] [(.int (1 : Int32)), (.int (((p2.toUInt32 >>> ((16 : Int32) &&& 31).toUInt32).toInt32) &&& (32767 : Int32))), (.int ((p2 &&& (65535 : Int32)) + (1 : Int32))), (.ref b6), (.ref b5), (.ref b5)])) _
    refine XS.iadd X6.here hx rfl (hb hby at_29) rfl ?_
    show Steps p.tables e below (T6.setTop (mkF m 30 #[.val (.int p1), .val (.int p2), .val (.ref b3), .unset, .unset, .unset] [(.int ((((p2.toUInt32 >>> ((16 : Int32) &&& 31).toUInt32).toInt32) &&& (32767 : Int32)) + (1 : Int32))), (.int ((p2 &&& (65535 : Int32)) + (1 : Int32))), (.ref b6), (.ref b5), (.ref b5)])) _
    refine st7.trans ?_
    show Steps p.tables e below (T7.setTop (mkF m 33 #[.val (.int p1), .val (.int p2), .val (.ref b3), .unset, .unset, .unset] [(.ref b5)])) _
    refine XS.astoreN X7.here hx rfl (hb hby at_33) rfl rfl (l' := #[.val (.int p1), .val (.int p2), .val (.ref b3), .val (.ref b5), .unset, .unset]) rfl ?_
    show Steps p.tables e below (T7.setTop (mkF m 34 #[.val (.int p1), .val (.int p2), .val (.ref b3), .val (.ref b5), .unset, .unset] [])) _
    refine XS.aloadN X7.here hx rfl (hb hby at_34) rfl rfl ?_
    show Steps p.tables e below (T7.setTop (mkF m 35 #[.val (.int p1), .val (.int p2), .val (.ref b3), .val (.ref b5), .unset, .unset] [(.ref b3)])) _
    refine st8.trans ?_
    show Steps p.tables e below (T8.setTop (mkF m 38 #[.val (.int p1), .val (.int p2), .val (.ref b3), .val (.ref b5), .unset, .unset] [(.int (own_pos (0 : Int32)))])) _
    refine XS.ifNo X8.here hx rfl (hb hby at_38) rfl ((if0 _ _).trans (teq hc38).2) ?_
    show Steps p.tables e below (T8.setTop (mkF m 41 #[.val (.int p1), .val (.int p2), .val (.ref b3), .val (.ref b5), .unset, .unset] [])) _
    refine XS.iconst X8.here hx rfl (hb hby at_41) ?_
    show Steps p.tables e below (T8.setTop (mkF m 42 #[.val (.int p1), .val (.int p2), .val (.ref b3), .val (.ref b5), .unset, .unset] [(.int (1 : Int32))])) _
    refine XS.goto X8.here hx rfl (pc0 := 42) (pc' := 46) rfl (hb hby at_42) (by decide) (by decide) ?_
    show Steps p.tables e below (T8.setTop (mkF m 46 #[.val (.int p1), .val (.int p2), .val (.ref b3), .val (.ref b5), .unset, .unset] [(.int (1 : Int32))])) _
    refine XS.istore X8.here hx rfl (hb hby at_46) rfl (l' := #[.val (.int p1), .val (.int p2), .val (.ref b3), .val (.ref b5), .val (.int (1 : Int32)), .unset]) rfl ?_
    show Steps p.tables e below (T8.setTop (mkF m 48 #[.val (.int p1), .val (.int p2), .val (.ref b3), .val (.ref b5), .val (.int (1 : Int32)), .unset] [])) _
    refine XS.iconst X8.here hx rfl (hb hby at_48) ?_
    show Steps p.tables e below (T8.setTop (mkF m 49 #[.val (.int p1), .val (.int p2), .val (.ref b3), .val (.ref b5), .val (.int (1 : Int32)), .unset] [(.int (0 : Int32))])) _
    refine XS.istore X8.here hx rfl (hb hby at_49) rfl (l' := #[.val (.int p1), .val (.int p2), .val (.ref b3), .val (.ref b5), .val (.int (1 : Int32)), .val (.int (0 : Int32))]) rfl ?_
    show Steps p.tables e below (T8.setTop (mkF m 51 #[.val (.int p1), .val (.int p2), .val (.ref b3), .val (.ref b5), .val (.int (1 : Int32)), .val (.int (0 : Int32))] [])) _
    refine XS.iload X8.here hx rfl (hb hby at_51) rfl ?_
    show Steps p.tables e below (T8.setTop (mkF m 53 #[.val (.int p1), .val (.int p2), .val (.ref b3), .val (.ref b5), .val (.int (1 : Int32)), .val (.int (0 : Int32))] [(.int (0 : Int32))])) _
    refine XS.aloadN X8.here hx rfl (hb hby at_53) rfl rfl ?_
    show Steps p.tables e below (T8.setTop (mkF m 54 #[.val (.int p1), .val (.int p2), .val (.ref b3), .val (.ref b5), .val (.int (1 : Int32)), .val (.int (0 : Int32))] [(.ref b3), (.int (0 : Int32))])) _
    refine XS.aloadN X8.here hx rfl (hb hby at_54) rfl rfl ?_
    show Steps p.tables e below (T8.setTop (mkF m 55 #[.val (.int p1), .val (.int p2), .val (.ref b3), .val (.ref b5), .val (.int (1 : Int32)), .val (.int (0 : Int32))] [(.ref b5), (.ref b3), (.int (0 : Int32))])) _
    refine XS.iloadN X8.here hx rfl (hb hby at_55) rfl ?_
    show Steps p.tables e below (T8.setTop (mkF m 56 #[.val (.int p1), .val (.int p2), .val (.ref b3), .val (.ref b5), .val (.int (1 : Int32)), .val (.int (0 : Int32))] [(.int p1), (.ref b5), (.ref b3), (.int (0 : Int32))])) _
    refine XS.iconst X8.here hx rfl (hb hby at_56) ?_
    show Steps p.tables e below (T8.setTop (mkF m 57 #[.val (.int p1), .val (.int p2), .val (.ref b3), .val (.ref b5), .val (.int (1 : Int32)), .val (.int (0 : Int32))] [(.int (3 : Int32)), (.int p1), (.ref b5), (.ref b3), (.int (0 : Int32))])) _
    refine XS.iand X8.here hx rfl (hb hby at_57) rfl ?_
    show Steps p.tables e below (T8.setTop (mkF m 58 #[.val (.int p1), .val (.int p2), .val (.ref b3), .val (.ref b5), .val (.int (1 : Int32)), .val (.int (0 : Int32))] [(.int (p1 &&& (3 : Int32))), (.ref b5), (.ref b3), (.int (0 : Int32))])) _
    refine st9.trans ?_
    show Steps p.tables e below (T9.setTop (mkF m 61 #[.val (.int p1), .val (.int p2), .val (.ref b3), .val (.ref b5), .val (.int (1 : Int32)), .val (.int (0 : Int32))] [(.int (own_r (p1 &&& (3 : Int32)))), (.int (0 : Int32))])) _
    refine XS.iadd X9.here hx rfl (hb hby at_61) rfl ?_
    show Steps p.tables e below (T9.setTop (mkF m 62 #[.val (.int p1), .val (.int p2), .val (.ref b3), .val (.ref b5), .val (.int (1 : Int32)), .val (.int (0 : Int32))] [(.int ((0 : Int32) + (own_r (p1 &&& (3 : Int32)))))])) _
    refine XS.istore X9.here hx rfl (hb hby at_62) rfl (l' := #[.val (.int p1), .val (.int p2), .val (.ref b3), .val (.ref b5), .val (.int (1 : Int32)), .val (.int ((0 : Int32) + (own_r (p1 &&& (3 : Int32)))))]) rfl ?_
    show Steps p.tables e below (T9.setTop (mkF m 64 #[.val (.int p1), .val (.int p2), .val (.ref b3), .val (.ref b5), .val (.int (1 : Int32)), .val (.int ((0 : Int32) + (own_r (p1 &&& (3 : Int32)))))] [])) _
    refine XS.iload X9.here hx rfl (hb hby at_64) rfl ?_
    show Steps p.tables e below (T9.setTop (mkF m 66 #[.val (.int p1), .val (.int p2), .val (.ref b3), .val (.ref b5), .val (.int (1 : Int32)), .val (.int ((0 : Int32) + (own_r (p1 &&& (3 : Int32)))))] [(.int (1 : Int32))])) _
    refine XS.aloadN X9.here hx rfl (hb hby at_66) rfl rfl ?_
    show Steps p.tables e below (T9.setTop (mkF m 67 #[.val (.int p1), .val (.int p2), .val (.ref b3), .val (.ref b5), .val (.int (1 : Int32)), .val (.int ((0 : Int32) + (own_r (p1 &&& (3 : Int32)))))] [(.ref b3), (.int (1 : Int32))])) _
    refine st10.trans ?_
    show Steps p.tables e below (T10.setTop (mkF m 70 #[.val (.int p1), .val (.int p2), .val (.ref b3), .val (.ref b5), .val (.int (1 : Int32)), .val (.int ((0 : Int32) + (own_r (p1 &&& (3 : Int32)))))] [(.int (own_pos ((0 : Int32) + (own_r (p1 &&& (3 : Int32)))))), (.int (1 : Int32))])) _
    refine XS.iload X10.here hx rfl (hb hby at_70) rfl ?_
    show Steps p.tables e below (T10.setTop (mkF m 72 #[.val (.int p1), .val (.int p2), .val (.ref b3), .val (.ref b5), .val (.int (1 : Int32)), .val (.int ((0 : Int32) + (own_r (p1 &&& (3 : Int32)))))] [(.int ((0 : Int32) + (own_r (p1 &&& (3 : Int32))))), (.int (own_pos ((0 : Int32) + (own_r (p1 &&& (3 : Int32)))))), (.int (1 : Int32))])) _
    refine XS.ifYes X10.here hx rfl (pc0 := 72) (pc' := 79) rfl (hb hby at_72) rfl ((if0 _ _).trans (flt hc72).2.2.2) (by decide) (by decide) ?_
    show Steps p.tables e below (T10.setTop (mkF m 79 #[.val (.int p1), .val (.int p2), .val (.ref b3), .val (.ref b5), .val (.int (1 : Int32)), .val (.int ((0 : Int32) + (own_r (p1 &&& (3 : Int32)))))] [(.int (own_pos ((0 : Int32) + (own_r (p1 &&& (3 : Int32)))))), (.int (1 : Int32))])) _
    refine XS.iconst X10.here hx rfl (hb hby at_79) ?_
    show Steps p.tables e below (T10.setTop (mkF m 80 #[.val (.int p1), .val (.int p2), .val (.ref b3), .val (.ref b5), .val (.int (1 : Int32)), .val (.int ((0 : Int32) + (own_r (p1 &&& (3 : Int32)))))] [(.int (0 : Int32)), (.int (own_pos ((0 : Int32) + (own_r (p1 &&& (3 : Int32)))))), (.int (1 : Int32))])) _
    refine XS.icmpNo X10.here hx rfl (hb hby at_80) rfl (teq hc80).2 ?_
    show Steps p.tables e below (T10.setTop (mkF m 83 #[.val (.int p1), .val (.int p2), .val (.ref b3), .val (.ref b5), .val (.int (1 : Int32)), .val (.int ((0 : Int32) + (own_r (p1 &&& (3 : Int32)))))] [(.int (1 : Int32))])) _
    refine XS.iconst X10.here hx rfl (hb hby at_83) ?_
    show Steps p.tables e below (T10.setTop (mkF m 84 #[.val (.int p1), .val (.int p2), .val (.ref b3), .val (.ref b5), .val (.int (1 : Int32)), .val (.int ((0 : Int32) + (own_r (p1 &&& (3 : Int32)))))] [(.int (1 : Int32)), (.int (1 : Int32))])) _
    refine XS.goto X10.here hx rfl (pc0 := 84) (pc' := 88) rfl (hb hby at_84) (by decide) (by decide) ?_
    show Steps p.tables e below (T10.setTop (mkF m 88 #[.val (.int p1), .val (.int p2), .val (.ref b3), .val (.ref b5), .val (.int (1 : Int32)), .val (.int ((0 : Int32) + (own_r (p1 &&& (3 : Int32)))))] [(.int (1 : Int32)), (.int (1 : Int32))])) _
    refine XS.iand X10.here hx rfl (hb hby at_88) rfl ?_
    show Steps p.tables e below (T10.setTop (mkF m 89 #[.val (.int p1), .val (.int p2), .val (.ref b3), .val (.ref b5), .val (.int (1 : Int32)), .val (.int ((0 : Int32) + (own_r (p1 &&& (3 : Int32)))))] [(.int ((1 : Int32) &&& (1 : Int32)))])) _
    refine XS.istore X10.here hx rfl (hb hby at_89) rfl (l' := #[.val (.int p1), .val (.int p2), .val (.ref b3), .val (.ref b5), .val (.int ((1 : Int32) &&& (1 : Int32))), .val (.int ((0 : Int32) + (own_r (p1 &&& (3 : Int32)))))]) rfl ?_
    show Steps p.tables e below (T10.setTop (mkF m 91 #[.val (.int p1), .val (.int p2), .val (.ref b3), .val (.ref b5), .val (.int ((1 : Int32) &&& (1 : Int32))), .val (.int ((0 : Int32) + (own_r (p1 &&& (3 : Int32)))))] [])) _
    refine XS.iload X10.here hx rfl (hb hby at_91) rfl ?_
    show Steps p.tables e below (T10.setTop (mkF m 93 #[.val (.int p1), .val (.int p2), .val (.ref b3), .val (.ref b5), .val (.int ((1 : Int32) &&& (1 : Int32))), .val (.int ((0 : Int32) + (own_r (p1 &&& (3 : Int32)))))] [(.int ((0 : Int32) + (own_r (p1 &&& (3 : Int32)))))])) _
    refine XS.aloadN X10.here hx rfl (hb hby at_93) rfl rfl ?_
    show Steps p.tables e below (T10.setTop (mkF m 94 #[.val (.int p1), .val (.int p2), .val (.ref b3), .val (.ref b5), .val (.int ((1 : Int32) &&& (1 : Int32))), .val (.int ((0 : Int32) + (own_r (p1 &&& (3 : Int32)))))] [(.ref b3), (.int ((0 : Int32) + (own_r (p1 &&& (3 : Int32)))))])) _
    refine XS.aloadN X10.here hx rfl (hb hby at_94) rfl rfl ?_
    show Steps p.tables e below (T10.setTop (mkF m 95 #[.val (.int p1), .val (.int p2), .val (.ref b3), .val (.ref b5), .val (.int ((1 : Int32) &&& (1 : Int32))), .val (.int ((0 : Int32) + (own_r (p1 &&& (3 : Int32)))))] [(.ref b5), (.ref b3), (.int ((0 : Int32) + (own_r (p1 &&& (3 : Int32)))))])) _
    refine XS.iloadN X10.here hx rfl (hb hby at_95) rfl ?_
    show Steps p.tables e below (T10.setTop (mkF m 96 #[.val (.int p1), .val (.int p2), .val (.ref b3), .val (.ref b5), .val (.int ((1 : Int32) &&& (1 : Int32))), .val (.int ((0 : Int32) + (own_r (p1 &&& (3 : Int32)))))] [(.int p1), (.ref b5), (.ref b3), (.int ((0 : Int32) + (own_r (p1 &&& (3 : Int32)))))])) _
    refine XS.iconst X10.here hx rfl (hb hby at_96) ?_
    show Steps p.tables e below (T10.setTop (mkF m 97 #[.val (.int p1), .val (.int p2), .val (.ref b3), .val (.ref b5), .val (.int ((1 : Int32) &&& (1 : Int32))), .val (.int ((0 : Int32) + (own_r (p1 &&& (3 : Int32)))))] [(.int (2 : Int32)), (.int p1), (.ref b5), (.ref b3), (.int ((0 : Int32) + (own_r (p1 &&& (3 : Int32)))))])) _
    refine XS.iushr X10.here hx rfl (hb hby at_97) rfl ?_
    show Steps p.tables e below (T10.setTop (mkF m 98 #[.val (.int p1), .val (.int p2), .val (.ref b3), .val (.ref b5), .val (.int ((1 : Int32) &&& (1 : Int32))), .val (.int ((0 : Int32) + (own_r (p1 &&& (3 : Int32)))))] [(.int ((p1.toUInt32 >>> ((2 : Int32) &&& 31).toUInt32).toInt32)), (.ref b5), (.ref b3), (.int ((0 : Int32) + (own_r (p1 &&& (3 : Int32)))))])) _
    refine XS.iconst X10.here hx rfl (hb hby at_98) ?_
    show Steps p.tables e below (T10.setTop (mkF m 99 #[.val (.int p1), .val (.int p2), .val (.ref b3), .val (.ref b5), .val (.int ((1 : Int32) &&& (1 : Int32))), .val (.int ((0 : Int32) + (own_r (p1 &&& (3 : Int32)))))] [(.int (3 : Int32)), (.int ((p1.toUInt32 >>> ((2 : Int32) &&& 31).toUInt32).toInt32)), (.ref b5), (.ref b3), (.int ((0 : Int32) + (own_r (p1 &&& (3 : Int32)))))])) _
    refine XS.iand X10.here hx rfl (hb hby at_99) rfl ?_
    show Steps p.tables e below (T10.setTop (mkF m 100 #[.val (.int p1), .val (.int p2), .val (.ref b3), .val (.ref b5), .val (.int ((1 : Int32) &&& (1 : Int32))), .val (.int ((0 : Int32) + (own_r (p1 &&& (3 : Int32)))))] [(.int (((p1.toUInt32 >>> ((2 : Int32) &&& 31).toUInt32).toInt32) &&& (3 : Int32))), (.ref b5), (.ref b3), (.int ((0 : Int32) + (own_r (p1 &&& (3 : Int32)))))])) _
    refine st11.trans ?_
    show Steps p.tables e below (T11.setTop (mkF m 103 #[.val (.int p1), .val (.int p2), .val (.ref b3), .val (.ref b5), .val (.int ((1 : Int32) &&& (1 : Int32))), .val (.int ((0 : Int32) + (own_r (p1 &&& (3 : Int32)))))] [(.int (own_r (((p1.toUInt32 >>> ((2 : Int32) &&& 31).toUInt32).toInt32) &&& (3 : Int32)))), (.int ((0 : Int32) + (own_r (p1 &&& (3 : Int32)))))])) _
    refine XS.iadd X11.here hx rfl (hb hby at_103) rfl ?_
    show Steps p.tables e below (T11.setTop (mkF m 104 #[.val (.int p1), .val (.int p2), .val (.ref b3), .val (.ref b5), .val (.int ((1 : Int32) &&& (1 : Int32))), .val (.int ((0 : Int32) + (own_r (p1 &&& (3 : Int32)))))] [(.int (((0 : Int32) + (own_r (p1 &&& (3 : Int32)))) + (own_r (((p1.toUInt32 >>> ((2 : Int32) &&& 31).toUInt32).toInt32) &&& (3 : Int32)))))])) _
    refine XS.istore X11.here hx rfl (hb hby at_104) rfl (l' := #[.val (.int p1), .val (.int p2), .val (.ref b3), .val (.ref b5), .val (.int ((1 : Int32) &&& (1 : Int32))), .val (.int (((0 : Int32) + (own_r (p1 &&& (3 : Int32)))) + (own_r (((p1.toUInt32 >>> ((2 : Int32) &&& 31).toUInt32).toInt32) &&& (3 : Int32)))))]) rfl ?_
    show Steps p.tables e below (T11.setTop (mkF m 106 #[.val (.int p1), .val (.int p2), .val (.ref b3), .val (.ref b5), .val (.int ((1 : Int32) &&& (1 : Int32))), .val (.int (((0 : Int32) + (own_r (p1 &&& (3 : Int32)))) + (own_r (((p1.toUInt32 >>> ((2 : Int32) &&& 31).toUInt32).toInt32) &&& (3 : Int32)))))] [])) _
    refine XS.iload X11.here hx rfl (hb hby at_106) rfl ?_
    show Steps p.tables e below (T11.setTop (mkF m 108 #[.val (.int p1), .val (.int p2), .val (.ref b3), .val (.ref b5), .val (.int ((1 : Int32) &&& (1 : Int32))), .val (.int (((0 : Int32) + (own_r (p1 &&& (3 : Int32)))) + (own_r (((p1.toUInt32 >>> ((2 : Int32) &&& 31).toUInt32).toInt32) &&& (3 : Int32)))))] [(.int ((1 : Int32) &&& (1 : Int32)))])) _
    refine XS.aloadN X11.here hx rfl (hb hby at_108) rfl rfl ?_
    show Steps p.tables e below (T11.setTop (mkF m 109 #[.val (.int p1), .val (.int p2), .val (.ref b3), .val (.ref b5), .val (.int ((1 : Int32) &&& (1 : Int32))), .val (.int (((0 : Int32) + (own_r (p1 &&& (3 : Int32)))) + (own_r (((p1.toUInt32 >>> ((2 : Int32) &&& 31).toUInt32).toInt32) &&& (3 : Int32)))))] [(.ref b3), (.int ((1 : Int32) &&& (1 : Int32)))])) _
    refine st12.trans ?_
    show Steps p.tables e below (T12.setTop (mkF m 112 #[.val (.int p1), .val (.int p2), .val (.ref b3), .val (.ref b5), .val (.int ((1 : Int32) &&& (1 : Int32))), .val (.int (((0 : Int32) + (own_r (p1 &&& (3 : Int32)))) + (own_r (((p1.toUInt32 >>> ((2 : Int32) &&& 31).toUInt32).toInt32) &&& (3 : Int32)))))] [(.int (own_pos (((0 : Int32) + (own_r (p1 &&& (3 : Int32)))) + (own_r (((p1.toUInt32 >>> ((2 : Int32) &&& 31).toUInt32).toInt32) &&& (3 : Int32)))))), (.int ((1 : Int32) &&& (1 : Int32)))])) _
    refine XS.iload X12.here hx rfl (hb hby at_112) rfl ?_
    show Steps p.tables e below (T12.setTop (mkF m 114 #[.val (.int p1), .val (.int p2), .val (.ref b3), .val (.ref b5), .val (.int ((1 : Int32) &&& (1 : Int32))), .val (.int (((0 : Int32) + (own_r (p1 &&& (3 : Int32)))) + (own_r (((p1.toUInt32 >>> ((2 : Int32) &&& 31).toUInt32).toInt32) &&& (3 : Int32)))))] [(.int (((0 : Int32) + (own_r (p1 &&& (3 : Int32)))) + (own_r (((p1.toUInt32 >>> ((2 : Int32) &&& 31).toUInt32).toInt32) &&& (3 : Int32))))), (.int (own_pos (((0 : Int32) + (own_r (p1 &&& (3 : Int32)))) + (own_r (((p1.toUInt32 >>> ((2 : Int32) &&& 31).toUInt32).toInt32) &&& (3 : Int32)))))), (.int ((1 : Int32) &&& (1 : Int32)))])) _
    refine XS.ifYes X12.here hx rfl (pc0 := 114) (pc' := 121) rfl (hb hby at_114) rfl ((if0 _ _).trans (flt hc114).2.2.2) (by decide) (by decide) ?_
    show Steps p.tables e below (T12.setTop (mkF m 121 #[.val (.int p1), .val (.int p2), .val (.ref b3), .val (.ref b5), .val (.int ((1 : Int32) &&& (1 : Int32))), .val (.int (((0 : Int32) + (own_r (p1 &&& (3 : Int32)))) + (own_r (((p1.toUInt32 >>> ((2 : Int32) &&& 31).toUInt32).toInt32) &&& (3 : Int32)))))] [(.int (own_pos (((0 : Int32) + (own_r (p1 &&& (3 : Int32)))) + (own_r (((p1.toUInt32 >>> ((2 : Int32) &&& 31).toUInt32).toInt32) &&& (3 : Int32)))))), (.int ((1 : Int32) &&& (1 : Int32)))])) _
    refine XS.iconst X12.here hx rfl (hb hby at_121) ?_
    show Steps p.tables e below (T12.setTop (mkF m 122 #[.val (.int p1), .val (.int p2), .val (.ref b3), .val (.ref b5), .val (.int ((1 : Int32) &&& (1 : Int32))), .val (.int (((0 : Int32) + (own_r (p1 &&& (3 : Int32)))) + (own_r (((p1.toUInt32 >>> ((2 : Int32) &&& 31).toUInt32).toInt32) &&& (3 : Int32)))))] [(.int (0 : Int32)), (.int (own_pos (((0 : Int32) + (own_r (p1 &&& (3 : Int32)))) + (own_r (((p1.toUInt32 >>> ((2 : Int32) &&& 31).toUInt32).toInt32) &&& (3 : Int32)))))), (.int ((1 : Int32) &&& (1 : Int32)))])) _
    refine XS.icmpNo X12.here hx rfl (hb hby at_122) rfl (teq hc122).2 ?_
    show Steps p.tables e below (T12.setTop (mkF m 125 #[.val (.int p1), .val (.int p2), .val (.ref b3), .val (.ref b5), .val (.int ((1 : Int32) &&& (1 : Int32))), .val (.int (((0 : Int32) + (own_r (p1 &&& (3 : Int32)))) + (own_r (((p1.toUInt32 >>> ((2 : Int32) &&& 31).toUInt32).toInt32) &&& (3 : Int32)))))] [(.int ((1 : Int32) &&& (1 : Int32)))])) _
    refine XS.iconst X12.here hx rfl (hb hby at_125) ?_
    show Steps p.tables e below (T12.setTop (mkF m 126 #[.val (.int p1), .val (.int p2), .val (.ref b3), .val (.ref b5), .val (.int ((1 : Int32) &&& (1 : Int32))), .val (.int (((0 : Int32) + (own_r (p1 &&& (3 : Int32)))) + (own_r (((p1.toUInt32 >>> ((2 : Int32) &&& 31).toUInt32).toInt32) &&& (3 : Int32)))))] [(.int (1 : Int32)), (.int ((1 : Int32) &&& (1 : Int32)))])) _
    refine XS.goto X12.here hx rfl (pc0 := 126) (pc' := 130) rfl (hb hby at_126) (by decide) (by decide) ?_
    show Steps p.tables e below (T12.setTop (mkF m 130 #[.val (.int p1), .val (.int p2), .val (.ref b3), .val (.ref b5), .val (.int ((1 : Int32) &&& (1 : Int32))), .val (.int (((0 : Int32) + (own_r (p1 &&& (3 : Int32)))) + (own_r (((p1.toUInt32 >>> ((2 : Int32) &&& 31).toUInt32).toInt32) &&& (3 : Int32)))))] [(.int (1 : Int32)), (.int ((1 : Int32) &&& (1 : Int32)))])) _
    refine XS.iand X12.here hx rfl (hb hby at_130) rfl ?_
    show Steps p.tables e below (T12.setTop (mkF m 131 #[.val (.int p1), .val (.int p2), .val (.ref b3), .val (.ref b5), .val (.int ((1 : Int32) &&& (1 : Int32))), .val (.int (((0 : Int32) + (own_r (p1 &&& (3 : Int32)))) + (own_r (((p1.toUInt32 >>> ((2 : Int32) &&& 31).toUInt32).toInt32) &&& (3 : Int32)))))] [(.int (((1 : Int32) &&& (1 : Int32)) &&& (1 : Int32)))])) _
    refine XS.istore X12.here hx rfl (hb hby at_131) rfl (l' := #[.val (.int p1), .val (.int p2), .val (.ref b3), .val (.ref b5), .val (.int (((1 : Int32) &&& (1 : Int32)) &&& (1 : Int32))), .val (.int (((0 : Int32) + (own_r (p1 &&& (3 : Int32)))) + (own_r (((p1.toUInt32 >>> ((2 : Int32) &&& 31).toUInt32).toInt32) &&& (3 : Int32)))))]) rfl ?_
    show Steps p.tables e below (T12.setTop (mkF m 133 #[.val (.int p1), .val (.int p2), .val (.ref b3), .val (.ref b5), .val (.int (((1 : Int32) &&& (1 : Int32)) &&& (1 : Int32))), .val (.int (((0 : Int32) + (own_r (p1 &&& (3 : Int32)))) + (own_r (((p1.toUInt32 >>> ((2 : Int32) &&& 31).toUInt32).toInt32) &&& (3 : Int32)))))] [])) _
    refine XS.iload X12.here hx rfl (hb hby at_133) rfl ?_
    show Steps p.tables e below (T12.setTop (mkF m 135 #[.val (.int p1), .val (.int p2), .val (.ref b3), .val (.ref b5), .val (.int (((1 : Int32) &&& (1 : Int32)) &&& (1 : Int32))), .val (.int (((0 : Int32) + (own_r (p1 &&& (3 : Int32)))) + (own_r (((p1.toUInt32 >>> ((2 : Int32) &&& 31).toUInt32).toInt32) &&& (3 : Int32)))))] [(.int (((0 : Int32) + (own_r (p1 &&& (3 : Int32)))) + (own_r (((p1.toUInt32 >>> ((2 : Int32) &&& 31).toUInt32).toInt32) &&& (3 : Int32)))))])) _
    refine XS.aloadN X12.here hx rfl (hb hby at_135) rfl rfl ?_
    show Steps p.tables e below (T12.setTop (mkF m 136 #[.val (.int p1), .val (.int p2), .val (.ref b3), .val (.ref b5), .val (.int (((1 : Int32) &&& (1 : Int32)) &&& (1 : Int32))), .val (.int (((0 : Int32) + (own_r (p1 &&& (3 : Int32)))) + (own_r (((p1.toUInt32 >>> ((2 : Int32) &&& 31).toUInt32).toInt32) &&& (3 : Int32)))))] [(.ref b3), (.int (((0 : Int32) + (own_r (p1 &&& (3 : Int32)))) + (own_r (((p1.toUInt32 >>> ((2 : Int32) &&& 31).toUInt32).toInt32) &&& (3 : Int32)))))])) _
    refine XS.aloadN X12.here hx rfl (hb hby at_136) rfl rfl ?_
    show Steps p.tables e below (T12.setTop (mkF m 137 #[.val (.int p1), .val (.int p2), .val (.ref b3), .val (.ref b5), .val (.int (((1 : Int32) &&& (1 : Int32)) &&& (1 : Int32))), .val (.int (((0 : Int32) + (own_r (p1 &&& (3 : Int32)))) + (own_r (((p1.toUInt32 >>> ((2 : Int32) &&& 31).toUInt32).toInt32) &&& (3 : Int32)))))] [(.ref b5), (.ref b3), (.int (((0 : Int32) + (own_r (p1 &&& (3 : Int32)))) + (own_r (((p1.toUInt32 >>> ((2 : Int32) &&& 31).toUInt32).toInt32) &&& (3 : Int32)))))])) _
    refine XS.iloadN X12.here hx rfl (hb hby at_137) rfl ?_
    show Steps p.tables e below (T12.setTop (mkF m 138 #[.val (.int p1), .val (.int p2), .val (.ref b3), .val (.ref b5), .val (.int (((1 : Int32) &&& (1 : Int32)) &&& (1 : Int32))), .val (.int (((0 : Int32) + (own_r (p1 &&& (3 : Int32)))) + (own_r (((p1.toUInt32 >>> ((2 : Int32) &&& 31).toUInt32).toInt32) &&& (3 : Int32)))))] [(.int p1), (.ref b5), (.ref b3), (.int (((0 : Int32) + (own_r (p1 &&& (3 : Int32)))) + (own_r (((p1.toUInt32 >>> ((2 : Int32) &&& 31).toUInt32).toInt32) &&& (3 : Int32)))))])) _
    refine XS.iconst X12.here hx rfl (hb hby at_138) ?_
    show Steps p.tables e below (T12.setTop (mkF m 139 #[.val (.int p1), .val (.int p2), .val (.ref b3), .val (.ref b5), .val (.int (((1 : Int32) &&& (1 : Int32)) &&& (1 : Int32))), .val (.int (((0 : Int32) + (own_r (p1 &&& (3 : Int32)))) + (own_r (((p1.toUInt32 >>> ((2 : Int32) &&& 31).toUInt32).toInt32) &&& (3 : Int32)))))] [(.int (4 : Int32)), (.int p1), (.ref b5), (.ref b3), (.int (((0 : Int32) + (own_r (p1 &&& (3 : Int32)))) + (own_r (((p1.toUInt32 >>> ((2 : Int32) &&& 31).toUInt32).toInt32) &&& (3 : Int32)))))])) _
    refine XS.iushr X12.here hx rfl (hb hby at_139) rfl ?_
    show Steps p.tables e below (T12.setTop (mkF m 140 #[.val (.int p1), .val (.int p2), .val (.ref b3), .val (.ref b5), .val (.int (((1 : Int32) &&& (1 : Int32)) &&& (1 : Int32))), .val (.int (((0 : Int32) + (own_r (p1 &&& (3 : Int32)))) + (own_r (((p1.toUInt32 >>> ((2 : Int32) &&& 31).toUInt32).toInt32) &&& (3 : Int32)))))] [(.int ((p1.toUInt32 >>> ((4 : Int32) &&& 31).toUInt32).toInt32)), (.ref b5), (.ref b3), (.int (((0 : Int32) + (own_r (p1 &&& (3 : Int32)))) + (own_r (((p1.toUInt32 >>> ((2 : Int32) &&& 31).toUInt32).toInt32) &&& (3 : Int32)))))])) _
    refine XS.iconst X12.here hx rfl (hb hby at_140) ?_
    show Steps p.tables e below (T12.setTop (mkF m 141 #[.val (.int p1), .val (.int p2), .val (.ref b3), .val (.ref b5), .val (.int (((1 : Int32) &&& (1 : Int32)) &&& (1 : Int32))), .val (.int (((0 : Int32) + (own_r (p1 &&& (3 : Int32)))) + (own_r (((p1.toUInt32 >>> ((2 : Int32) &&& 31).toUInt32).toInt32) &&& (3 : Int32)))))] [(.int (3 : Int32)), (.int ((p1.toUInt32 >>> ((4 : Int32) &&& 31).toUInt32).toInt32)), (.ref b5), (.ref b3), (.int (((0 : Int32) + (own_r (p1 &&& (3 : Int32)))) + (own_r (((p1.toUInt32 >>> ((2 : Int32) &&& 31).toUInt32).toInt32) &&& (3 : Int32)))))])) _
    refine XS.iand X12.here hx rfl (hb hby at_141) rfl ?_
    show Steps p.tables e below (T12.setTop (mkF m 142 #[.val (.int p1), .val (.int p2), .val (.ref b3), .val (.ref b5), .val (.int (((1 : Int32) &&& (1 : Int32)) &&& (1 : Int32))), .val (.int (((0 : Int32) + (own_r (p1 &&& (3 : Int32)))) + (own_r (((p1.toUInt32 >>> ((2 : Int32) &&& 31).toUInt32).toInt32) &&& (3 : Int32)))))] [(.int (((p1.toUInt32 >>> ((4 : Int32) &&& 31).toUInt32).toInt32) &&& (3 : Int32))), (.ref b5), (.ref b3), (.int (((0 : Int32) + (own_r (p1 &&& (3 : Int32)))) + (own_r (((p1.toUInt32 >>> ((2 : Int32) &&& 31).toUInt32).toInt32) &&& (3 : Int32)))))])) _
    refine st13.trans ?_
    show Steps p.tables e below (T13.setTop (mkF m 145 #[.val (.int p1), .val (.int p2), .val (.ref b3), .val (.ref b5), .val (.int (((1 : Int32) &&& (1 : Int32)) &&& (1 : Int32))), .val (.int (((0 : Int32) + (own_r (p1 &&& (3 : Int32)))) + (own_r (((p1.toUInt32 >>> ((2 : Int32) &&& 31).toUInt32).toInt32) &&& (3 : Int32)))))] [(.int (own_r (((p1.toUInt32 >>> ((4 : Int32) &&& 31).toUInt32).toInt32) &&& (3 : Int32)))), (.int (((0 : Int32) + (own_r (p1 &&& (3 : Int32)))) + (own_r (((p1.toUInt32 >>> ((2 : Int32) &&& 31).toUInt32).toInt32) &&& (3 : Int32)))))])) _
    refine XS.iadd X13.here hx rfl (hb hby at_145) rfl ?_
    show Steps p.tables e below (T13.setTop (mkF m 146 #[.val (.int p1), .val (.int p2), .val (.ref b3), .val (.ref b5), .val (.int (((1 : Int32) &&& (1 : Int32)) &&& (1 : Int32))), .val (.int (((0 : Int32) + (own_r (p1 &&& (3 : Int32)))) + (own_r (((p1.toUInt32 >>> ((2 : Int32) &&& 31).toUInt32).toInt32) &&& (3 : Int32)))))] [(.int ((((0 : Int32) + (own_r (p1 &&& (3 : Int32)))) + (own_r (((p1.toUInt32 >>> ((2 : Int32) &&& 31).toUInt32).toInt32) &&& (3 : Int32)))) + (own_r (((p1.toUInt32 >>> ((4 : Int32) &&& 31).toUInt32).toInt32) &&& (3 : Int32)))))])) _
    refine XS.istore X13.here hx rfl (hb hby at_146) rfl (l' := #[.val (.int p1), .val (.int p2), .val (.ref b3), .val (.ref b5), .val (.int (((1 : Int32) &&& (1 : Int32)) &&& (1 : Int32))), .val (.int ((((0 : Int32) + (own_r (p1 &&& (3 : Int32)))) + (own_r (((p1.toUInt32 >>> ((2 : Int32) &&& 31).toUInt32).toInt32) &&& (3 : Int32)))) + (own_r (((p1.toUInt32 >>> ((4 : Int32) &&& 31).toUInt32).toInt32) &&& (3 : Int32)))))]) rfl ?_
    show Steps p.tables e below (T13.setTop (mkF m 148 #[.val (.int p1), .val (.int p2), .val (.ref b3), .val (.ref b5), .val (.int (((1 : Int32) &&& (1 : Int32)) &&& (1 : Int32))), .val (.int ((((0 : Int32) + (own_r (p1 &&& (3 : Int32)))) + (own_r (((p1.toUInt32 >>> ((2 : Int32) &&& 31).toUInt32).toInt32) &&& (3 : Int32)))) + (own_r (((p1.toUInt32 >>> ((4 : Int32) &&& 31).toUInt32).toInt32) &&& (3 : Int32)))))] [])) _
    refine XS.iload X13.here hx rfl (hb hby at_148) rfl ?_
    show Steps p.tables e below (T13.setTop (mkF m 150 #[.val (.int p1), .val (.int p2), .val (.ref b3), .val (.ref b5), .val (.int (((1 : Int32) &&& (1 : Int32)) &&& (1 : Int32))), .val (.int ((((0 : Int32) + (own_r (p1 &&& (3 : Int32)))) + (own_r (((p1.toUInt32 >>> ((2 : Int32) &&& 31).toUInt32).toInt32) &&& (3 : Int32)))) + (own_r (((p1.toUInt32 >>> ((4 : Int32) &&& 31).toUInt32).toInt32) &&& (3 : Int32)))))] [(.int (((1 : Int32) &&& (1 : Int32)) &&& (1 : Int32)))])) _
    refine XS.aloadN X13.here hx rfl (hb hby at_150) rfl rfl ?_
    show Steps p.tables e below (T13.setTop (mkF m 151 #[.val (.int p1), .val (.int p2), .val (.ref b3), .val (.ref b5), .val (.int (((1 : Int32) &&& (1 : Int32)) &&& (1 : Int32))), .val (.int ((((0 : Int32) + (own_r (p1 &&& (3 : Int32)))) + (own_r (((p1.toUInt32 >>> ((2 : Int32) &&& 31).toUInt32).toInt32) &&& (3 : Int32)))) + (own_r (((p1.toUInt32 >>> ((4 : Int32) &&& 31).toUInt32).toInt32) &&& (3 : Int32)))))] [(.ref b3), (.int (((1 : Int32) &&& (1 : Int32)) &&& (1 : Int32)))])) _
    refine st14.trans ?_
    show Steps p.tables e below (T14.setTop (mkF m 154 #[.val (.int p1), .val (.int p2), .val (.ref b3), .val (.ref b5), .val (.int (((1 : Int32) &&& (1 : Int32)) &&& (1 : Int32))), .val (.int ((((0 : Int32) + (own_r (p1 &&& (3 : Int32)))) + (own_r (((p1.toUInt32 >>> ((2 : Int32) &&& 31).toUInt32).toInt32) &&& (3 : Int32)))) + (own_r (((p1.toUInt32 >>> ((4 : Int32) &&& 31).toUInt32).toInt32) &&& (3 : Int32)))))] [(.int (own_pos ((((0 : Int32) + (own_r (p1 &&& (3 : Int32)))) + (own_r (((p1.toUInt32 >>> ((2 : Int32) &&& 31).toUInt32).toInt32) &&& (3 : Int32)))) + (own_r (((p1.toUInt32 >>> ((4 : Int32) &&& 31).toUInt32).toInt32) &&& (3 : Int32)))))), (.int (((1 : Int32) &&& (1 : Int32)) &&& (1 : Int32)))])) _
    refine XS.iload X14.here hx rfl (hb hby at_154) rfl ?_
    show Steps p.tables e below (T14.setTop (mkF m 156 #[.val (.int p1), .val (.int p2), .val (.ref b3), .val (.ref b5), .val (.int (((1 : Int32) &&& (1 : Int32)) &&& (1 : Int32))), .val (.int ((((0 : Int32) + (own_r (p1 &&& (3 : Int32)))) + (own_r (((p1.toUInt32 >>> ((2 : Int32) &&& 31).toUInt32).toInt32) &&& (3 : Int32)))) + (own_r (((p1.toUInt32 >>> ((4 : Int32) &&& 31).toUInt32).toInt32) &&& (3 : Int32)))))] [(.int ((((0 : Int32) + (own_r (p1 &&& (3 : Int32)))) + (own_r (((p1.toUInt32 >>> ((2 : Int32) &&& 31).toUInt32).toInt32) &&& (3 : Int32)))) + (own_r (((p1.toUInt32 >>> ((4 : Int32) &&& 31).toUInt32).toInt32) &&& (3 : Int32))))), (.int (own_pos ((((0 : Int32) + (own_r (p1 &&& (3 : Int32)))) + (own_r (((p1.toUInt32 >>> ((2 : Int32) &&& 31).toUInt32).toInt32) &&& (3 : Int32)))) + (own_r (((p1.toUInt32 >>> ((4 : Int32) &&& 31).toUInt32).toInt32) &&& (3 : Int32)))))), (.int (((1 : Int32) &&& (1 : Int32)) &&& (1 : Int32)))])) _
    refine XS.ifYes X14.here hx rfl (pc0 := 156) (pc' := 163) rfl (hb hby at_156) rfl ((if0 _ _).trans (flt hc156).2.2.2) (by decide) (by decide) ?_
    show Steps p.tables e below (T14.setTop (mkF m 163 #[.val (.int p1), .val (.int p2), .val (.ref b3), .val (.ref b5), .val (.int (((1 : Int32) &&& (1 : Int32)) &&& (1 : Int32))), .val (.int ((((0 : Int32) + (own_r (p1 &&& (3 : Int32)))) + (own_r (((p1.toUInt32 >>> ((2 : Int32) &&& 31).toUInt32).toInt32) &&& (3 : Int32)))) + (own_r (((p1.toUInt32 >>> ((4 : Int32) &&& 31).toUInt32).toInt32) &&& (3 : Int32)))))] [(.int (own_pos ((((0 : Int32) + (own_r (p1 &&& (3 : Int32)))) + (own_r (((p1.toUInt32 >>> ((2 : Int32) &&& 31).toUInt32).toInt32) &&& (3 : Int32)))) + (own_r (((p1.toUInt32 >>> ((4 : Int32) &&& 31).toUInt32).toInt32) &&& (3 : Int32)))))), (.int (((1 : Int32) &&& (1 : Int32)) &&& (1 : Int32)))])) _
    refine XS.iconst X14.here hx rfl (hb hby at_163) ?_
    show Steps p.tables e below (T14.setTop (mkF m 164 #[.val (.int p1), .val (.int p2), .val (.ref b3), .val (.ref b5), .val (.int (((1 : Int32) &&& (1 : Int32)) &&& (1 : Int32))), .val (.int ((((0 : Int32) + (own_r (p1 &&& (3 : Int32)))) + (own_r (((p1.toUInt32 >>> ((2 : Int32) &&& 31).toUInt32).toInt32) &&& (3 : Int32)))) + (own_r (((p1.toUInt32 >>> ((4 : Int32) &&& 31).toUInt32).toInt32) &&& (3 : Int32)))))] [(.int (0 : Int32)), (.int (own_pos ((((0 : Int32) + (own_r (p1 &&& (3 : Int32)))) + (own_r (((p1.toUInt32 >>> ((2 : Int32) &&& 31).toUInt32).toInt32) &&& (3 : Int32)))) + (own_r (((p1.toUInt32 >>> ((4 : Int32) &&& 31).toUInt32).toInt32) &&& (3 : Int32)))))), (.int (((1 : Int32) &&& (1 : Int32)) &&& (1 : Int32)))])) _
    refine XS.icmpNo X14.here hx rfl (hb hby at_164) rfl (teq hc164).2 ?_
    show Steps p.tables e below (T14.setTop (mkF m 167 #[.val (.int p1), .val (.int p2), .val (.ref b3), .val (.ref b5), .val (.int (((1 : Int32) &&& (1 : Int32)) &&& (1 : Int32))), .val (.int ((((0 : Int32) + (own_r (p1 &&& (3 : Int32)))) + (own_r (((p1.toUInt32 >>> ((2 : Int32) &&& 31).toUInt32).toInt32) &&& (3 : Int32)))) + (own_r (((p1.toUInt32 >>> ((4 : Int32) &&& 31).toUInt32).toInt32) &&& (3 : Int32)))))] [(.int (((1 : Int32) &&& (1 : Int32)) &&& (1 : Int32)))])) _
    refine XS.iconst X14.here hx rfl (hb hby at_167) ?_
    show Steps p.tables e below (T14.setTop (mkF m 168 #[.val (.int p1), .val (.int p2), .val (.ref b3), .val (.ref b5), .val (.int (((1 : Int32) &&& (1 : Int32)) &&& (1 : Int32))), .val (.int ((((0 : Int32) + (own_r (p1 &&& (3 : Int32)))) + (own_r (((p1.toUInt32 >>> ((2 : Int32) &&& 31).toUInt32).toInt32) &&& (3 : Int32)))) + (own_r (((p1.toUInt32 >>> ((4 : Int32) &&& 31).toUInt32).toInt32) &&& (3 : Int32)))))] [(.int (1 : Int32)), (.int (((1 : Int32) &&& (1 : Int32)) &&& (1 : Int32)))])) _
    refine XS.goto X14.here hx rfl (pc0 := 168) (pc' := 172) rfl (hb hby at_168) (by decide) (by decide) ?_
    show Steps p.tables e below (T14.setTop (mkF m 172 #[.val (.int p1), .val (.int p2), .val (.ref b3), .val (.ref b5), .val (.int (((1 : Int32) &&& (1 : Int32)) &&& (1 : Int32))), .val (.int ((((0 : Int32) + (own_r (p1 &&& (3 : Int32)))) + (own_r (((p1.toUInt32 >>> ((2 : Int32) &&& 31).toUInt32).toInt32) &&& (3 : Int32)))) + (own_r (((p1.toUInt32 >>> ((4 : Int32) &&& 31).toUInt32).toInt32) &&& (3 : Int32)))))] [(.int (1 : Int32)), (.int (((1 : Int32) &&& (1 : Int32)) &&& (1 : Int32)))])) _
    refine XS.iand X14.here hx rfl (hb hby at_172) rfl ?_
    show Steps p.tables e below (T14.setTop (mkF m 173 #[.val (.int p1), .val (.int p2), .val (.ref b3), .val (.ref b5), .val (.int (((1 : Int32) &&& (1 : Int32)) &&& (1 : Int32))), .val (.int ((((0 : Int32) + (own_r (p1 &&& (3 : Int32)))) + (own_r (((p1.toUInt32 >>> ((2 : Int32) &&& 31).toUInt32).toInt32) &&& (3 : Int32)))) + (own_r (((p1.toUInt32 >>> ((4 : Int32) &&& 31).toUInt32).toInt32) &&& (3 : Int32)))))] [(.int ((((1 : Int32) &&& (1 : Int32)) &&& (1 : Int32)) &&& (1 : Int32)))])) _
    refine XS.istore X14.here hx rfl (hb hby at_173) rfl (l' := #[.val (.int p1), .val (.int p2), .val (.ref b3), .val (.ref b5), .val (.int ((((1 : Int32) &&& (1 : Int32)) &&& (1 : Int32)) &&& (1 : Int32))), .val (.int ((((0 : Int32) + (own_r (p1 &&& (3 : Int32)))) + (own_r (((p1.toUInt32 >>> ((2 : Int32) &&& 31).toUInt32).toInt32) &&& (3 : Int32)))) + (own_r (((p1.toUInt32 >>> ((4 : Int32) &&& 31).toUInt32).toInt32) &&& (3 : Int32)))))]) rfl ?_
    show Steps p.tables e below (T14.setTop (mkF m 175 #[.val (.int p1), .val (.int p2), .val (.ref b3), .val (.ref b5), .val (.int ((((1 : Int32) &&& (1 : Int32)) &&& (1 : Int32)) &&& (1 : Int32))), .val (.int ((((0 : Int32) + (own_r (p1 &&& (3 : Int32)))) + (own_r (((p1.toUInt32 >>> ((2 : Int32) &&& 31).toUInt32).toInt32) &&& (3 : Int32)))) + (own_r (((p1.toUInt32 >>> ((4 : Int32) &&& 31).toUInt32).toInt32) &&& (3 : Int32)))))] [])) _
    refine XS.iload X14.here hx rfl (hb hby at_175) rfl ?_
    show Steps p.tables e below (T14.setTop (mkF m 177 #[.val (.int p1), .val (.int p2), .val (.ref b3), .val (.ref b5), .val (.int ((((1 : Int32) &&& (1 : Int32)) &&& (1 : Int32)) &&& (1 : Int32))), .val (.int ((((0 : Int32) + (own_r (p1 &&& (3 : Int32)))) + (own_r (((p1.toUInt32 >>> ((2 : Int32) &&& 31).toUInt32).toInt32) &&& (3 : Int32)))) + (own_r (((p1.toUInt32 >>> ((4 : Int32) &&& 31).toUInt32).toInt32) &&& (3 : Int32)))))] [(.int ((((1 : Int32) &&& (1 : Int32)) &&& (1 : Int32)) &&& (1 : Int32)))])) _
    exact retN X14 hx (t := .boolean) Bd.returns (by simp) (hb hby at_177) hr
  · show Q0 Z p1 p2 h0 n0 _ T14.heap _
    rw [e14c]
    exact ⟨rfl, N14⟩
  · show CHr Z EL s.vm s.heap T14.vm T14.heap
    rw [hh, e14c]
    exact RZ
set_option maxRecDepth 65536 in
set_option maxHeartbeats 40000000 in
theorem rm0B (l : Launch) (Z : State) (a0 : Array Value) (hw : ∀ d ∈ tables_1, d.before a0 Z = true) (ws : List Jvm.Cond) (p1 : Int32) (p2 : Int32) (wD : Addr) (clD : Cell) (wA : Addr) (pv : Int32) (clA : Cell) (wC : Int32) (wI : Addr) (wE : Addr) (wW : Addr) (hEL : EW Z a0 EL) (h0 : Heap) (n0 : Nat) (Z0 : n0 ≤ h0.size) (O0 : Old Z n0 h0) (Wl : Wld Z wD clD wA pv clA wC wI wE wW) (S_D : Sta Z Z.heap "java/util/ArrayList" "DEFAULTCAPACITY_EMPTY_ELEMENTDATA" "[Ljava/lang/Object;" (.ref wD)) (hp3 : ¬ (((p2 &&& (65535 : Int32)) + (1 : Int32)) < (1 : Int32))) (hp4 : ¬ (((((p2.toUInt32 >>> ((16 : Int32) &&& 31).toUInt32).toInt32) &&& (32767 : Int32)) + (1 : Int32)) < (1 : Int32))) (hc38 : (own_pos (0 : Int32)) = (0 : Int32)) (hc72 : ¬ ((0 : Int32) < ((0 : Int32) + (own_r (p1 &&& (3 : Int32)))))) (hc80 : (own_pos ((0 : Int32) + (own_r (p1 &&& (3 : Int32))))) = (0 : Int32)) (hc114 : ¬ ((0 : Int32) < (((0 : Int32) + (own_r (p1 &&& (3 : Int32)))) + (own_r (((p1.toUInt32 >>> ((2 : Int32) &&& 31).toUInt32).toInt32) &&& (3 : Int32)))))) (hc122 : (own_pos (((0 : Int32) + (own_r (p1 &&& (3 : Int32)))) + (own_r (((p1.toUInt32 >>> ((2 : Int32) &&& 31).toUInt32).toInt32) &&& (3 : Int32))))) = (0 : Int32)) (hc156 : (0 : Int32) < ((((0 : Int32) + (own_r (p1 &&& (3 : Int32)))) + (own_r (((p1.toUInt32 >>> ((2 : Int32) &&& 31).toUInt32).toInt32) &&& (3 : Int32)))) + (own_r (((p1.toUInt32 >>> ((4 : Int32) &&& 31).toUInt32).toInt32) &&& (3 : Int32))))) (hc164 : (own_pos ((((0 : Int32) + (own_r (p1 &&& (3 : Int32)))) + (own_r (((p1.toUInt32 >>> ((2 : Int32) &&& 31).toUInt32).toInt32) &&& (3 : Int32)))) + (own_r (((p1.toUInt32 >>> ((4 : Int32) &&& 31).toUInt32).toInt32) &&& (3 : Int32))))) = (1 : Int32)) :
    MetFree l x (head1 (Jvm.Cond.code x code maxLocals ret :: ws) room_1) (fun a U => a = #[(.int p1), (.int p2)] ∧ Z.Warmed39 U.vm ∧ U.heap = h0 ∧ CHv Z EL U.vm h0) (fun _ _ _ _ _ => True) (fun _ U o U' => ∃ v L, o = .returned v ∧ Q0 Z p1 p2 h0 n0 v U'.heap L ∧ CHr Z EL U.vm U.heap U'.vm U'.heap ∧ ReturnedEndW U o U' L room_1.cells room_1.slots) := by
  refine MetFree.of_bodySF (plainFor_of_name pn_0) hisR ?_
  intro p e s m args below meth c s₁ Bd hml0 hP hK
  obtain ⟨rfl, hZ, hh, C0⟩ := hP
  have hx := Bd.exec
  have hby := Bd.bytes
  have hml : c.maxLocals = 6 := hml0
  have hown : s.vm.findClass "com/example/stomme/stomme/diagnostic/DiagnosticsHasErrorsPinLaw" = some m.cls := findClass_of_methodNamed Bd.named
  have hnm := (name_of_methodNamed Bd.named Bd.method).1
  have X0 : Stand p l e room_1 (s.setVm s.vm) m #[(.int p1), (.int p2)] below meth c s₁ [] 0 0 := Stand.of_body Bd
  have e0 : s₁.heap = h0 := by rw [← hh, Bd.state]; rfl
  have N0 := Fr.nil n0
  have hS0 := own_since s 0
  have wS := own_strs hw
  have pre0 : ∀ t, Steps p.tables e below (s₁.setTop (mkF m 0 #[.val (.int p1), .val (.int p2), .unset, .unset, .unset, .unset] [])) t → Steps p.tables e below (s₁.setTop (entryFrame m #[(.int p1), (.int p2)] maxLocals)) t := fun t k => castTop (ef_0 m p1 p2) k
  obtain ⟨T3, h3, X3, e3, E3, A3, D3, -, st3⟩ := newO X0 hx hZ hown (hw _ (List.mem_of_getElem? (i := 0) rfl)) (hw _ (List.mem_of_getElem? (i := 1) rfl)) (hw _ (List.mem_of_getElem? (i := 2) rfl)) e0 (g := (mkF m 0 #[.val (.int p1), .val (.int p2), .unset, .unset, .unset, .unset] [])) rfl (hb hby at_0) (by decide) (by decide)
  obtain ⟨b3, g3⟩ : ∃ z, z = h0.size := ⟨_, rfl⟩
  rw [← g3] at A3 D3 st3
  have F_reported_b3 : Fld Z h3 b3 "com/example/stomme/stomme/diagnostic/Diagnostics" "reported" "Ljava/util/List;" .null := D3 (Or.inr (hw _ (List.mem_of_getElem? (i := 34) rfl))) (ty := (.object "java/util/List")) (by decide)
  have F_errors_b3 : Fld Z h3 b3 "com/example/stomme/stomme/diagnostic/Diagnostics" "errors" "I" (.int (0 : Int32)) := D3 (Or.inl (hw _ (List.mem_of_getElem? (i := 73) rfl))) (ty := .int) (by decide)
  have E_b3 := A3
  have g_b3 : n0 ≤ b3 := Nat.le_trans Z0 (Nat.le_of_eq g3.symm)
  have sz_b3 : h0.size ≤ b3 := (Nat.le_trans (Keep.refl h0 []).1 (Nat.le_of_eq g3.symm))
  have C3 := CHv.ext E3 C0
  have R3 := (CHr.refl C0).trans (CHr.ext E3 C0)
  have K3 : Keep h0 h3 [] := (Keep.refl h0 []).ext E3
  obtain ⟨_, _, ⟨T4, L4, k4, n4⟩, -, X4, ⟨Lc4, hQ4, l4, y4, z4⟩, st4⟩ := X3.specialBack hx (y := (⟨"com/example/stomme/stomme/diagnostic/Diagnostics", "<init>", "()V"⟩ : MethodName)) rfl hown (mvT hZ (hw _ (List.mem_of_getElem? (i := 3) rfl))) (mvT hZ (hw _ (List.mem_of_getElem? (i := 4) rfl))) (mvT hZ (hw _ (List.mem_of_getElem? (i := 5) rfl))) (by decide) (backOf (W := 1) (rm1 l Z a0 hw [] b3 _ wD h3 n0 (Nat.le_trans Z0 E3.1) E_b3 F_errors_b3 F_reported_b3 g_b3 (O0.ext E3) S_D) hZ (hw _ (List.mem_of_getElem? (i := 5) rfl)) (hw _ (List.mem_of_getElem? (i := 2) rfl)) (by decide) (by decide)) (g := (mkF m 4 #[.val (.int p1), .val (.int p2), .unset, .unset, .unset, .unset] [(.ref b3), (.ref b3)])) rfl (by rw [hml]; rfl) (Steps.refl _) (a := b3) (argsL := []) (rest := [(.ref b3)]) (lenOf pd_0_0 rfl) rfl (by show 2 * 0 + _ ≤ _; exact Nat.le_of_eq rfl) (hb hby at_4) (fun _ _ => ⟨rfl, e3, (by decide : 1 + 1 ≤ _), (by decide : 2 + 3 ≤ _)⟩)
  dsimp only [Pt.U, Pt.locs, Pt.cells, Pt.slots] at X4 l4 y4 z4 st4 hQ4
  subst l4 y4 z4
  obtain ⟨rfl, N4q, K4c, Ed4, Fd4, al, g_al, Fr4, Ea4, Fm4, Fe4, Fs4⟩ := hQ4
  have N4 := Fr.app N0 N4q
  have K4 : Keep h0 T4.heap [] := K3.trans K4c (allS (Or.inr sz_b3) all0)
  have C4 := CHv.keep K4c (sfS (Safe.exa hZ.alike E_b3 (by decide) (by decide)) sf0) C3
  have R4 := R3.trans (CHr.keep K4c (sfS (Safe.exa hZ.alike E_b3 (by decide) (by decide)) sf0) C3)
  obtain ⟨T5, h5, X5, e5, E5, A5, D5, -, st5⟩ := newO X4 hx hZ hown (hw _ (List.mem_of_getElem? (i := 35) rfl)) (hw _ (List.mem_of_getElem? (i := 36) rfl)) (hw _ (List.mem_of_getElem? (i := 37) rfl)) rfl (g := (mkF m 8 #[.val (.int p1), .val (.int p2), .val (.ref b3), .unset, .unset, .unset] [])) rfl (hb hby at_8) (by decide) (by decide)
  obtain ⟨b5, g5⟩ : ∃ z, z = T4.heap.size := ⟨_, rfl⟩
  rw [← g5] at A5 D5 st5
  have F_file_b5 : Fld Z h5 b5 "com/example/stomme/stomme/diagnostic/Position" "file" "Ljava/lang/String;" .null := D5 (Or.inr (hw _ (List.mem_of_getElem? (i := 62) rfl))) (ty := (.object "java/lang/String")) (by decide)
  have F_line_b5 : Fld Z h5 b5 "com/example/stomme/stomme/diagnostic/Position" "line" "I" (.int (0 : Int32)) := D5 (Or.inr (hw _ (List.mem_of_getElem? (i := 64) rfl))) (ty := .int) (by decide)
  have F_column_b5 : Fld Z h5 b5 "com/example/stomme/stomme/diagnostic/Position" "column" "I" (.int (0 : Int32)) := D5 (Or.inr (hw _ (List.mem_of_getElem? (i := 66) rfl))) (ty := .int) (by decide)
  have E_b5 := A5
  have g_b5 : n0 ≤ b5 := Nat.le_trans (Nat.le_trans (Nat.le_trans Z0 E3.1) K4c.1) (Nat.le_of_eq g5.symm)
  have sz_b5 : h0.size ≤ b5 := (Nat.le_trans K4.1 (Nat.le_of_eq g5.symm))
  have C5 := CHv.ext E5 C4
  have R5 := R4.trans (CHr.ext E5 C4)
  have K5 : Keep h0 h5 [] := K4.ext E5
  obtain ⟨b6, T6, h6, kk6, X6, e6, E6, hS6, hk6, hZ6, hown6, RQ6, -, st6⟩ := ldcOH X5 hx hZ hown (hw _ (List.mem_of_getElem? (i := 38) rfl)) wS e5 hS0 (Nat.le_trans (Nat.le_trans (Nat.le_trans (Nat.zero_le _) E3.1) K4c.1) E5.1) hEL C5 (g := (mkF m 12 #[.val (.int p1), .val (.int p2), .val (.ref b3), .unset, .unset, .unset] [(.ref b5), (.ref b5)])) rfl (hb hby at_12) (n := 4) (by decide) (by decide) (by decide) (by decide)
  have C6 := RQ6.1
  have R6 := R5.trans RQ6
  have K6 : Keep h0 h6 [] := K5.ext E6
  obtain ⟨_, _, ⟨T7, L7, k7, n7⟩, -, X7, hS7, gr7, ⟨Lc7, hQ7, l7, y7, z7, RQ7⟩, st7⟩ := X6.specialBackS hx (y := (⟨"com/example/stomme/stomme/diagnostic/Position", "<init>", "(Ljava/lang/String;II)V"⟩ : MethodName)) rfl hown6 (mvT hZ6 (hw _ (List.mem_of_getElem? (i := 47) rfl))) (mvT hZ6 (hw _ (List.mem_of_getElem? (i := 48) rfl))) (mvT hZ6 (hw _ (List.mem_of_getElem? (i := 49) rfl))) (by decide) (backOfSH (W := 1) (rm6 l Z a0 hw [] b5 b6 ((p2 &&& (65535 : Int32)) + (1 : Int32)) ((((p2.toUInt32 >>> ((16 : Int32) &&& 31).toUInt32).toInt32) &&& (32767 : Int32)) + (1 : Int32)) _ _ _ hEL h6 n0 (Nat.le_trans (Nat.le_trans (Nat.le_trans (Nat.le_trans Z0 E3.1) K4c.1) E5.1) E6.1) (E_b5.ext E6) (F_file_b5.ext E6) g_b5 (F_line_b5.ext E6) (F_column_b5.ext E6) hp3 hp4) hZ6 (hw _ (List.mem_of_getElem? (i := 49) rfl)) (hw _ (List.mem_of_getElem? (i := 37) rfl)) (by decide) (by decide) hEL C6) (g := (mkF m 30 #[.val (.int p1), .val (.int p2), .val (.ref b3), .unset, .unset, .unset] [(.int ((((p2.toUInt32 >>> ((16 : Int32) &&& 31).toUInt32).toInt32) &&& (32767 : Int32)) + (1 : Int32))), (.int ((p2 &&& (65535 : Int32)) + (1 : Int32))), (.ref b6), (.ref b5), (.ref b5)])) rfl (by rw [hml]; rfl) (Steps.refl _) (a := b5) (argsL := [(.ref b6), (.int ((p2 &&& (65535 : Int32)) + (1 : Int32))), (.int ((((p2.toUInt32 >>> ((16 : Int32) &&& 31).toUInt32).toInt32) &&& (32767 : Int32)) + (1 : Int32)))]) (rest := [(.ref b5)]) (lenOf pd_0_1 rfl) rfl (by show 2 * 0 + _ ≤ _; exact Nat.le_of_eq rfl) (hb hby at_30) (fun _ _ => ⟨rfl, e6, (by decide : 5 + 2 ≤ _), (by decide : 16 + 20 ≤ _)⟩)
  dsimp only [Pt.U, Pt.locs, Pt.cells, Pt.slots] at X7 hS7 gr7 l7 y7 z7 st7 hQ7 RQ7
  subst l7 y7 z7
  obtain ⟨rfl, N7q, K7c, Ep7⟩ := hQ7
  have N7 := Fr.app N4 N7q
  have K7 : Keep h0 T7.heap [] := K6.trans K7c (allS (Or.inr sz_b5) all0)
  obtain ⟨X7, hS7, hZ7, hown7⟩ := rebS hS6 (by rw [e6]; exact hk6) X7 hS7 gr7 hZ6 hown6
  have C7 := RQ7.1
  have R7 := R6.trans RQ7
  obtain ⟨cq8, kq8, q8a, q8b, q8c⟩ := isOf hZ7 rfl (((Ed4.ext E5).ext E6).keep K7c)
  obtain ⟨_, _, ⟨T8, L8, k8, n8⟩, -, X8, ⟨Lc8, hQ8, l8, y8, z8⟩, st8⟩ := X7.virtualBack hx (y := (⟨"com/example/stomme/stomme/diagnostic/Diagnostics", "hasErrors", "()Z"⟩ : MethodName)) (z := (⟨"com/example/stomme/stomme/diagnostic/Diagnostics", "hasErrors", "()Z"⟩ : MethodName)) hown7 (mvT hZ7 (hw _ (List.mem_of_getElem? (i := 67) rfl))) (mvT hZ7 (hw _ (List.mem_of_getElem? (i := 68) rfl))) (notFace_of_selects (args := #[]) (mvT hZ7 (hw _ (List.mem_of_getElem? (i := 70) rfl)))) (mvT hZ7 (hw _ (List.mem_of_getElem? (i := 70) rfl))) (mvT hZ7 (hw _ (List.mem_of_getElem? (i := 69) rfl))) (by decide) (backOf (W := 0) (rm9 l Z a0 hw [] b3 (0 : Int32) T7.heap n0 (Nat.le_trans (Nat.le_trans (Nat.le_trans (Nat.le_trans (Nat.le_trans Z0 E3.1) K4c.1) E5.1) E6.1) K7c.1) (((Fd4.ext E5).ext E6).keep K7c (ninS (Nat.ne_of_lt (Nat.lt_of_lt_of_le Ed4.lt (Nat.le_of_eq g5.symm))) nin0))) hZ7 (hw _ (List.mem_of_getElem? (i := 71) rfl)) (hw _ (List.mem_of_getElem? (i := 2) rfl)) (by decide) (by decide)) q8a q8c (g := (mkF m 35 #[.val (.int p1), .val (.int p2), .val (.ref b3), .val (.ref b5), .unset, .unset] [(.ref b3)])) rfl (by rw [hml]; rfl) (Steps.refl _) (argsL := []) (rest := []) (lenOf pd_0_3 rfl) rfl (by show 2 * 0 + _ ≤ _; exact Nat.le_of_eq rfl) (hb hby at_35) (fun _ _ => ⟨rfl, rfl, (by decide : 7 + 0 ≤ _), (by decide : 36 + 0 ≤ _)⟩)
  dsimp only [Pt.U, Pt.locs, Pt.cells, Pt.slots] at X8 l8 y8 z8 st8 hQ8
  subst l8 y8 z8
  obtain ⟨rfl, N8q, e8c⟩ := hQ8
  have N8 := Fr.app N7 N8q
  obtain ⟨_, _, ⟨T9, L9, k9, n9⟩, -, X9, hS9, gr9, ⟨Lc9, hQ9, l9, y9, z9, RQ9⟩, st9⟩ := callSS X8 hx (y := (⟨"com/example/stomme/stomme/diagnostic/DiagnosticsHasErrorsPinLaw", "step", "(Lcom/example/stomme/stomme/diagnostic/Diagnostics;Lcom/example/stomme/stomme/diagnostic/Position;I)I"⟩ : MethodName)) hown7 (mvT hZ7 (hw _ (List.mem_of_getElem? (i := 74) rfl))) (mvT hZ7 (hw _ (List.mem_of_getElem? (i := 75) rfl))) (mvT hZ7 (hw _ (List.mem_of_getElem? (i := 76) rfl))) (mvT hZ7 (hw _ (List.mem_of_getElem? (i := 77) rfl))) (by decide) (backOfSH (W := 1) (rm10 l Z a0 hw [] b3 b5 (p1 &&& (3 : Int32)) al (0 : Int32) 0 wD clD wA pv clA wC wI wE wW hEL T7.heap n0 (Nat.le_trans (Nat.le_trans (Nat.le_trans (Nat.le_trans (Nat.le_trans Z0 E3.1) K4c.1) E5.1) E6.1) K7c.1) (((((O0.ext E3).keep K4c (allS g_b3 all0)).ext E5).ext E6).keep K7c (allS g_b5 all0)) Wl ⟨(((Ed4.ext E5).ext E6).keep K7c), (((Fr4.ext E5).ext E6).keep K7c (ninS (Nat.ne_of_lt (Nat.lt_of_lt_of_le Ed4.lt (Nat.le_of_eq g5.symm))) nin0)), (((Fd4.ext E5).ext E6).keep K7c (ninS (Nat.ne_of_lt (Nat.lt_of_lt_of_le Ed4.lt (Nat.le_of_eq g5.symm))) nin0)), (((Ea4.ext E5).ext E6).keep K7c), g_b3, g_al, Or.inl ⟨_, (((Fm4.ext E5).ext E6).keep K7c (ninS (Nat.ne_of_lt (Nat.lt_of_lt_of_le Ea4.lt (Nat.le_of_eq g5.symm))) nin0)), (((Fs4.ext E5).ext E6).keep K7c (ninS (Nat.ne_of_lt (Nat.lt_of_lt_of_le Ea4.lt (Nat.le_of_eq g5.symm))) nin0)), (((Fe4.ext E5).ext E6).keep K7c (ninS (Nat.ne_of_lt (Nat.lt_of_lt_of_le Ea4.lt (Nat.le_of_eq g5.symm))) nin0))⟩⟩ (by decide)) hZ7 (hw _ (List.mem_of_getElem? (i := 77) rfl)) (hw _ (List.mem_of_getElem? (i := 76) rfl)) (by decide) (by decide) hEL C7) (g := (mkF m 58 #[.val (.int p1), .val (.int p2), .val (.ref b3), .val (.ref b5), .val (.int (1 : Int32)), .val (.int (0 : Int32))] [(.int (p1 &&& (3 : Int32))), (.ref b5), (.ref b3), (.int (0 : Int32))])) rfl (by rw [hml]; rfl) (argsL := [(.ref b3), (.ref b5), (.int (p1 &&& (3 : Int32)))]) (rest := [(.int (0 : Int32))]) (lenOf pd_0_4 rfl) rfl (by show 2 * 0 + _ ≤ _; exact Nat.le_of_eq rfl) (hb hby at_58) (fun _ _ => ⟨rfl, e8c, (by decide : 7 + 10 ≤ _), (by decide : 36 + 125 ≤ _)⟩)
  dsimp only [Pt.U, Pt.locs, Pt.cells, Pt.slots] at X9 hS9 gr9 l9 y9 z9 st9 hQ9 RQ9
  subst l9 y9 z9
  obtain ⟨rfl, N9q, O9c, Dz0c⟩ := hQ9
  have N9 := Fr.app N8 N9q
  obtain ⟨X9, hS9, hZ9, hown9⟩ := rebS hS7 (by rw [e8c]; exact (Nat.le_refl _)) X9 hS9 gr9 hZ7 hown7
  have C9 := RQ9.1
  have R9 := R7.trans RQ9
  obtain ⟨Daz0, Dbz0, Dcz0, Ddz0, -⟩ := id Dz0c
  obtain ⟨cq10, kq10, q10a, q10b, q10c⟩ := isOf hZ9 rfl Daz0
  obtain ⟨_, _, ⟨T10, L10, k10, n10⟩, -, X10, ⟨Lc10, hQ10, l10, y10, z10⟩, st10⟩ := X9.virtualBack hx (y := (⟨"com/example/stomme/stomme/diagnostic/Diagnostics", "hasErrors", "()Z"⟩ : MethodName)) (z := (⟨"com/example/stomme/stomme/diagnostic/Diagnostics", "hasErrors", "()Z"⟩ : MethodName)) hown9 (mvT hZ9 (hw _ (List.mem_of_getElem? (i := 67) rfl))) (mvT hZ9 (hw _ (List.mem_of_getElem? (i := 68) rfl))) (notFace_of_selects (args := #[]) (mvT hZ9 (hw _ (List.mem_of_getElem? (i := 70) rfl)))) (mvT hZ9 (hw _ (List.mem_of_getElem? (i := 70) rfl))) (mvT hZ9 (hw _ (List.mem_of_getElem? (i := 69) rfl))) (by decide) (backOf (W := 1) (rm9 l Z a0 hw [] b3 ((0 : Int32) + (own_r (p1 &&& (3 : Int32)))) T9.heap n0 (own_osz O9c) Dcz0) hZ9 (hw _ (List.mem_of_getElem? (i := 71) rfl)) (hw _ (List.mem_of_getElem? (i := 2) rfl)) (by decide) (by decide)) q10a q10c (g := (mkF m 67 #[.val (.int p1), .val (.int p2), .val (.ref b3), .val (.ref b5), .val (.int (1 : Int32)), .val (.int ((0 : Int32) + (own_r (p1 &&& (3 : Int32)))))] [(.ref b3), (.int (1 : Int32))])) rfl (by rw [hml]; rfl) (Steps.refl _) (argsL := []) (rest := [(.int (1 : Int32))]) (lenOf pd_0_3 rfl) rfl (by show 2 * 0 + _ ≤ _; exact Nat.le_of_eq rfl) (hb hby at_67) (fun _ _ => ⟨rfl, rfl, (by decide : 17 + 0 ≤ _), (by decide : 161 + 0 ≤ _)⟩)
  dsimp only [Pt.U, Pt.locs, Pt.cells, Pt.slots] at X10 l10 y10 z10 st10 hQ10
  subst l10 y10 z10
  obtain ⟨rfl, N10q, e10c⟩ := hQ10
  have N10 := Fr.app N9 N10q
  obtain ⟨_, _, ⟨T11, L11, k11, n11⟩, -, X11, hS11, gr11, ⟨Lc11, hQ11, l11, y11, z11, RQ11⟩, st11⟩ := callSS X10 hx (y := (⟨"com/example/stomme/stomme/diagnostic/DiagnosticsHasErrorsPinLaw", "step", "(Lcom/example/stomme/stomme/diagnostic/Diagnostics;Lcom/example/stomme/stomme/diagnostic/Position;I)I"⟩ : MethodName)) hown9 (mvT hZ9 (hw _ (List.mem_of_getElem? (i := 74) rfl))) (mvT hZ9 (hw _ (List.mem_of_getElem? (i := 75) rfl))) (mvT hZ9 (hw _ (List.mem_of_getElem? (i := 76) rfl))) (mvT hZ9 (hw _ (List.mem_of_getElem? (i := 77) rfl))) (by decide) (backOfSH (W := 1) (rm10 l Z a0 hw [] b3 b5 (((p1.toUInt32 >>> ((2 : Int32) &&& 31).toUInt32).toInt32) &&& (3 : Int32)) al ((0 : Int32) + (own_r (p1 &&& (3 : Int32)))) 1 wD clD wA pv clA wC wI wE wW hEL T9.heap n0 (own_osz O9c) O9c Wl Dz0c (by decide)) hZ9 (hw _ (List.mem_of_getElem? (i := 77) rfl)) (hw _ (List.mem_of_getElem? (i := 76) rfl)) (by decide) (by decide) hEL C9) (g := (mkF m 100 #[.val (.int p1), .val (.int p2), .val (.ref b3), .val (.ref b5), .val (.int ((1 : Int32) &&& (1 : Int32))), .val (.int ((0 : Int32) + (own_r (p1 &&& (3 : Int32)))))] [(.int (((p1.toUInt32 >>> ((2 : Int32) &&& 31).toUInt32).toInt32) &&& (3 : Int32))), (.ref b5), (.ref b3), (.int ((0 : Int32) + (own_r (p1 &&& (3 : Int32)))))])) rfl (by rw [hml]; rfl) (argsL := [(.ref b3), (.ref b5), (.int (((p1.toUInt32 >>> ((2 : Int32) &&& 31).toUInt32).toInt32) &&& (3 : Int32)))]) (rest := [(.int ((0 : Int32) + (own_r (p1 &&& (3 : Int32)))))]) (lenOf pd_0_4 rfl) rfl (by show 2 * 0 + _ ≤ _; exact Nat.le_of_eq rfl) (hb hby at_100) (fun _ _ => ⟨rfl, e10c, (by decide : 17 + 10 ≤ _), (by decide : 161 + 125 ≤ _)⟩)
  dsimp only [Pt.U, Pt.locs, Pt.cells, Pt.slots] at X11 hS11 gr11 l11 y11 z11 st11 hQ11 RQ11
  subst l11 y11 z11
  obtain ⟨rfl, N11q, O11c, Dz1c⟩ := hQ11
  have N11 := Fr.app N10 N11q
  obtain ⟨X11, hS11, hZ11, hown11⟩ := rebS hS9 (by rw [e10c]; exact (Nat.le_refl _)) X11 hS11 gr11 hZ9 hown9
  have C11 := RQ11.1
  have R11 := R9.trans RQ11
  obtain ⟨Daz1, Dbz1, Dcz1, Ddz1, -⟩ := id Dz1c
  obtain ⟨cq12, kq12, q12a, q12b, q12c⟩ := isOf hZ11 rfl Daz1
  obtain ⟨_, _, ⟨T12, L12, k12, n12⟩, -, X12, ⟨Lc12, hQ12, l12, y12, z12⟩, st12⟩ := X11.virtualBack hx (y := (⟨"com/example/stomme/stomme/diagnostic/Diagnostics", "hasErrors", "()Z"⟩ : MethodName)) (z := (⟨"com/example/stomme/stomme/diagnostic/Diagnostics", "hasErrors", "()Z"⟩ : MethodName)) hown11 (mvT hZ11 (hw _ (List.mem_of_getElem? (i := 67) rfl))) (mvT hZ11 (hw _ (List.mem_of_getElem? (i := 68) rfl))) (notFace_of_selects (args := #[]) (mvT hZ11 (hw _ (List.mem_of_getElem? (i := 70) rfl)))) (mvT hZ11 (hw _ (List.mem_of_getElem? (i := 70) rfl))) (mvT hZ11 (hw _ (List.mem_of_getElem? (i := 69) rfl))) (by decide) (backOf (W := 1) (rm9 l Z a0 hw [] b3 (((0 : Int32) + (own_r (p1 &&& (3 : Int32)))) + (own_r (((p1.toUInt32 >>> ((2 : Int32) &&& 31).toUInt32).toInt32) &&& (3 : Int32)))) T11.heap n0 (own_osz O11c) Dcz1) hZ11 (hw _ (List.mem_of_getElem? (i := 71) rfl)) (hw _ (List.mem_of_getElem? (i := 2) rfl)) (by decide) (by decide)) q12a q12c (g := (mkF m 109 #[.val (.int p1), .val (.int p2), .val (.ref b3), .val (.ref b5), .val (.int ((1 : Int32) &&& (1 : Int32))), .val (.int (((0 : Int32) + (own_r (p1 &&& (3 : Int32)))) + (own_r (((p1.toUInt32 >>> ((2 : Int32) &&& 31).toUInt32).toInt32) &&& (3 : Int32)))))] [(.ref b3), (.int ((1 : Int32) &&& (1 : Int32)))])) rfl (by rw [hml]; rfl) (Steps.refl _) (argsL := []) (rest := [(.int ((1 : Int32) &&& (1 : Int32)))]) (lenOf pd_0_3 rfl) rfl (by show 2 * 0 + _ ≤ _; exact Nat.le_of_eq rfl) (hb hby at_109) (fun _ _ => ⟨rfl, rfl, (by decide : 27 + 0 ≤ _), (by decide : 286 + 0 ≤ _)⟩)
  dsimp only [Pt.U, Pt.locs, Pt.cells, Pt.slots] at X12 l12 y12 z12 st12 hQ12
  subst l12 y12 z12
  obtain ⟨rfl, N12q, e12c⟩ := hQ12
  have N12 := Fr.app N11 N12q
  obtain ⟨_, _, ⟨T13, L13, k13, n13⟩, -, X13, hS13, gr13, ⟨Lc13, hQ13, l13, y13, z13, RQ13⟩, st13⟩ := callSS X12 hx (y := (⟨"com/example/stomme/stomme/diagnostic/DiagnosticsHasErrorsPinLaw", "step", "(Lcom/example/stomme/stomme/diagnostic/Diagnostics;Lcom/example/stomme/stomme/diagnostic/Position;I)I"⟩ : MethodName)) hown11 (mvT hZ11 (hw _ (List.mem_of_getElem? (i := 74) rfl))) (mvT hZ11 (hw _ (List.mem_of_getElem? (i := 75) rfl))) (mvT hZ11 (hw _ (List.mem_of_getElem? (i := 76) rfl))) (mvT hZ11 (hw _ (List.mem_of_getElem? (i := 77) rfl))) (by decide) (backOfSH (W := 1) (rm10 l Z a0 hw [] b3 b5 (((p1.toUInt32 >>> ((4 : Int32) &&& 31).toUInt32).toInt32) &&& (3 : Int32)) al (((0 : Int32) + (own_r (p1 &&& (3 : Int32)))) + (own_r (((p1.toUInt32 >>> ((2 : Int32) &&& 31).toUInt32).toInt32) &&& (3 : Int32)))) 2 wD clD wA pv clA wC wI wE wW hEL T11.heap n0 (own_osz O11c) O11c Wl Dz1c (by decide)) hZ11 (hw _ (List.mem_of_getElem? (i := 77) rfl)) (hw _ (List.mem_of_getElem? (i := 76) rfl)) (by decide) (by decide) hEL C11) (g := (mkF m 142 #[.val (.int p1), .val (.int p2), .val (.ref b3), .val (.ref b5), .val (.int (((1 : Int32) &&& (1 : Int32)) &&& (1 : Int32))), .val (.int (((0 : Int32) + (own_r (p1 &&& (3 : Int32)))) + (own_r (((p1.toUInt32 >>> ((2 : Int32) &&& 31).toUInt32).toInt32) &&& (3 : Int32)))))] [(.int (((p1.toUInt32 >>> ((4 : Int32) &&& 31).toUInt32).toInt32) &&& (3 : Int32))), (.ref b5), (.ref b3), (.int (((0 : Int32) + (own_r (p1 &&& (3 : Int32)))) + (own_r (((p1.toUInt32 >>> ((2 : Int32) &&& 31).toUInt32).toInt32) &&& (3 : Int32)))))])) rfl (by rw [hml]; rfl) (argsL := [(.ref b3), (.ref b5), (.int (((p1.toUInt32 >>> ((4 : Int32) &&& 31).toUInt32).toInt32) &&& (3 : Int32)))]) (rest := [(.int (((0 : Int32) + (own_r (p1 &&& (3 : Int32)))) + (own_r (((p1.toUInt32 >>> ((2 : Int32) &&& 31).toUInt32).toInt32) &&& (3 : Int32)))))]) (lenOf pd_0_4 rfl) rfl (by show 2 * 0 + _ ≤ _; exact Nat.le_of_eq rfl) (hb hby at_142) (fun _ _ => ⟨rfl, e12c, (by decide : 27 + 10 ≤ _), (by decide : 286 + 125 ≤ _)⟩)
  dsimp only [Pt.U, Pt.locs, Pt.cells, Pt.slots] at X13 hS13 gr13 l13 y13 z13 st13 hQ13 RQ13
  subst l13 y13 z13
  obtain ⟨rfl, N13q, O13c, Dz2c⟩ := hQ13
  have N13 := Fr.app N12 N13q
  obtain ⟨X13, hS13, hZ13, hown13⟩ := rebS hS11 (by rw [e12c]; exact (Nat.le_refl _)) X13 hS13 gr13 hZ11 hown11
  have C13 := RQ13.1
  have R13 := R11.trans RQ13
  obtain ⟨Daz2, Dbz2, Dcz2, Ddz2, -⟩ := id Dz2c
  obtain ⟨cq14, kq14, q14a, q14b, q14c⟩ := isOf hZ13 rfl Daz2
  obtain ⟨_, _, ⟨T14, L14, k14, n14⟩, -, X14, ⟨Lc14, hQ14, l14, y14, z14⟩, st14⟩ := X13.virtualBack hx (y := (⟨"com/example/stomme/stomme/diagnostic/Diagnostics", "hasErrors", "()Z"⟩ : MethodName)) (z := (⟨"com/example/stomme/stomme/diagnostic/Diagnostics", "hasErrors", "()Z"⟩ : MethodName)) hown13 (mvT hZ13 (hw _ (List.mem_of_getElem? (i := 67) rfl))) (mvT hZ13 (hw _ (List.mem_of_getElem? (i := 68) rfl))) (notFace_of_selects (args := #[]) (mvT hZ13 (hw _ (List.mem_of_getElem? (i := 70) rfl)))) (mvT hZ13 (hw _ (List.mem_of_getElem? (i := 70) rfl))) (mvT hZ13 (hw _ (List.mem_of_getElem? (i := 69) rfl))) (by decide) (backOf (W := 1) (rm9 l Z a0 hw [] b3 ((((0 : Int32) + (own_r (p1 &&& (3 : Int32)))) + (own_r (((p1.toUInt32 >>> ((2 : Int32) &&& 31).toUInt32).toInt32) &&& (3 : Int32)))) + (own_r (((p1.toUInt32 >>> ((4 : Int32) &&& 31).toUInt32).toInt32) &&& (3 : Int32)))) T13.heap n0 (own_osz O13c) Dcz2) hZ13 (hw _ (List.mem_of_getElem? (i := 71) rfl)) (hw _ (List.mem_of_getElem? (i := 2) rfl)) (by decide) (by decide)) q14a q14c (g := (mkF m 151 #[.val (.int p1), .val (.int p2), .val (.ref b3), .val (.ref b5), .val (.int (((1 : Int32) &&& (1 : Int32)) &&& (1 : Int32))), .val (.int ((((0 : Int32) + (own_r (p1 &&& (3 : Int32)))) + (own_r (((p1.toUInt32 >>> ((2 : Int32) &&& 31).toUInt32).toInt32) &&& (3 : Int32)))) + (own_r (((p1.toUInt32 >>> ((4 : Int32) &&& 31).toUInt32).toInt32) &&& (3 : Int32)))))] [(.ref b3), (.int (((1 : Int32) &&& (1 : Int32)) &&& (1 : Int32)))])) rfl (by rw [hml]; rfl) (Steps.refl _) (argsL := []) (rest := [(.int (((1 : Int32) &&& (1 : Int32)) &&& (1 : Int32)))]) (lenOf pd_0_3 rfl) rfl (by show 2 * 0 + _ ≤ _; exact Nat.le_of_eq rfl) (hb hby at_151) (fun _ _ => ⟨rfl, rfl, (by decide : 37 + 0 ≤ _), (by decide : 411 + 0 ≤ _)⟩)
  dsimp only [Pt.U, Pt.locs, Pt.cells, Pt.slots] at X14 l14 y14 z14 st14 hQ14
  subst l14 y14 z14
  obtain ⟨rfl, N14q, e14c⟩ := hQ14
  have N14 := Fr.app N13 N14q
  have RZ := R13.trans (CHv.at X14 hZ13 hEL C13)
  obtain ⟨fs, hr, hrun, hended, hREW⟩ := (X14.more (cells' := room_1.cells) (slots' := room_1.slots) (by decide) (by decide)).leaveW hS13 (by rw [e14c]; exact (Nat.le_refl _)) (v := some (.int (1 : Int32))) (fun h => by rw [Bd.returns] at h; cases h)
  refine ⟨_, _, pre0 _ ?_, hrun, hended, _, _, rfl, ?_, ?_, hREW⟩
  · show Steps p.tables e below (s₁.setTop (mkF m 0 #[.val (.int p1), .val (.int p2), .unset, .unset, .unset, .unset] [])) _
    refine st3 _ ?_
    show Steps p.tables e below (T3.setTop (mkF m 3 #[.val (.int p1), .val (.int p2), .unset, .unset, .unset, .unset] [(.ref b3)])) _
    refine XS.dup X3.here hx rfl (hb hby at_3) rfl rfl ?_
    show Steps p.tables e below (T3.setTop (mkF m 4 #[.val (.int p1), .val (.int p2), .unset, .unset, .unset, .unset] [(.ref b3), (.ref b3)])) _
    refine st4.trans ?_
    show Steps p.tables e below (T4.setTop (mkF m 7 #[.val (.int p1), .val (.int p2), .unset, .unset, .unset, .unset] [(.ref b3)])) _
    refine XS.astoreN X4.here hx rfl (hb hby at_7) rfl rfl (l' := #[.val (.int p1), .val (.int p2), .val (.ref b3), .unset, .unset, .unset]) rfl ?_
    show Steps p.tables e below (T4.setTop (mkF m 8 #[.val (.int p1), .val (.int p2), .val (.ref b3), .unset, .unset, .unset] [])) _
    refine st5 _ ?_
    show Steps p.tables e below (T5.setTop (mkF m 11 #[.val (.int p1), .val (.int p2), .val (.ref b3), .unset, .unset, .unset] [(.ref b5)])) _
    refine XS.dup X5.here hx rfl (hb hby at_11) rfl rfl ?_
    show Steps p.tables e below (T5.setTop (mkF m 12 #[.val (.int p1), .val (.int p2), .val (.ref b3), .unset, .unset, .unset] [(.ref b5), (.ref b5)])) _
    refine st6 _ ?_
    show Steps p.tables e below (T6.setTop (mkF m 14 #[.val (.int p1), .val (.int p2), .val (.ref b3), .unset, .unset, .unset] [(.ref b6), (.ref b5), (.ref b5)])) _
    refine XS.iloadN X6.here hx rfl (hb hby at_14) rfl ?_
    show Steps p.tables e below (T6.setTop (mkF m 15 #[.val (.int p1), .val (.int p2), .val (.ref b3), .unset, .unset, .unset] [(.int p2), (.ref b6), (.ref b5), (.ref b5)])) _
    refine X6.ldcInt hx hown6 (mvT hZ6 (hw _ (List.mem_of_getElem? (i := 46) rfl))) (g := (mkF m 15 #[.val (.int p1), .val (.int p2), .val (.ref b3), .unset, .unset, .unset] [(.int p2), (.ref b6), (.ref b5), (.ref b5)])) rfl (hb hby at_15) _ ?_
    show Steps p.tables e below (T6.setTop (mkF m 17 #[.val (.int p1), .val (.int p2), .val (.ref b3), .unset, .unset, .unset] [(.int (65535 : Int32)), (.int p2), (.ref b6), (.ref b5), (.ref b5)])) _
    refine XS.iand X6.here hx rfl (hb hby at_17) rfl ?_
    show Steps p.tables e below (T6.setTop (mkF m 18 #[.val (.int p1), .val (.int p2), .val (.ref b3), .unset, .unset, .unset] [(.int (p2 &&& (65535 : Int32))), (.ref b6), (.ref b5), (.ref b5)])) _
    refine XS.iconst X6.here hx rfl (hb hby at_18) ?_
    show Steps p.tables e below (T6.setTop (mkF m 19 #[.val (.int p1), .val (.int p2), .val (.ref b3), .unset, .unset, .unset] [(.int (1 : Int32)), (.int (p2 &&& (65535 : Int32))), (.ref b6), (.ref b5), (.ref b5)])) _
    refine XS.iadd X6.here hx rfl (hb hby at_19) rfl ?_
    show Steps p.tables e below (T6.setTop (mkF m 20 #[.val (.int p1), .val (.int p2), .val (.ref b3), .unset, .unset, .unset] [(.int ((p2 &&& (65535 : Int32)) + (1 : Int32))), (.ref b6), (.ref b5), (.ref b5)])) _
    refine XS.iloadN X6.here hx rfl (hb hby at_20) rfl ?_
    show Steps p.tables e below (T6.setTop (mkF m 21 #[.val (.int p1), .val (.int p2), .val (.ref b3), .unset, .unset, .unset] [(.int p2), (.int ((p2 &&& (65535 : Int32)) + (1 : Int32))), (.ref b6), (.ref b5), (.ref b5)])) _
    refine XS.bipush X6.here hx rfl (hb hby at_21) ?_
    show Steps p.tables e below (T6.setTop (mkF m 23 #[.val (.int p1), .val (.int p2), .val (.ref b3), .unset, .unset, .unset] [(.int (16 : Int32)), (.int p2), (.int ((p2 &&& (65535 : Int32)) + (1 : Int32))), (.ref b6), (.ref b5), (.ref b5)])) _
    refine XS.iushr X6.here hx rfl (hb hby at_23) rfl ?_
    show Steps p.tables e below (T6.setTop (mkF m 24 #[.val (.int p1), .val (.int p2), .val (.ref b3), .unset, .unset, .unset] [(.int ((p2.toUInt32 >>> ((16 : Int32) &&& 31).toUInt32).toInt32)), (.int ((p2 &&& (65535 : Int32)) + (1 : Int32))), (.ref b6), (.ref b5), (.ref b5)])) _
    refine XS.sipush X6.here hx rfl (hb hby at_24) ?_
    show Steps p.tables e below (T6.setTop (mkF m 27 #[.val (.int p1), .val (.int p2), .val (.ref b3), .unset, .unset, .unset] [(.int (32767 : Int32)), (.int ((p2.toUInt32 >>> ((16 : Int32) &&& 31).toUInt32).toInt32)), (.int ((p2 &&& (65535 : Int32)) + (1 : Int32))), (.ref b6), (.ref b5), (.ref b5)])) _
    refine XS.iand X6.here hx rfl (hb hby at_27) rfl ?_
    show Steps p.tables e below (T6.setTop (mkF m 28 #[.val (.int p1), .val (.int p2), .val (.ref b3), .unset, .unset, .unset] [(.int (((p2.toUInt32 >>> ((16 : Int32) &&& 31).toUInt32).toInt32) &&& (32767 : Int32))), (.int ((p2 &&& (65535 : Int32)) + (1 : Int32))), (.ref b6), (.ref b5), (.ref b5)])) _
    refine XS.iconst X6.here hx rfl (hb hby at_28) ?_
    show Steps p.tables e below (T6.setTop (mkF m 29 #[.val (.int p1), .val (.int p2), .val (.ref b3), .unset, .unset, .unset] [(.int (1 : Int32)), (.int (((p2.toUInt32 >>> ((16 : Int32) &&& 31).toUInt32).toInt32) &&& (32767 : Int32))), (.int ((p2 &&& (65535 : Int32)) + (1 : Int32))), (.ref b6), (.ref b5), (.ref b5)])) _
    refine XS.iadd X6.here hx rfl (hb hby at_29) rfl ?_
    show Steps p.tables e below (T6.setTop (mkF m 30 #[.val (.int p1), .val (.int p2), .val (.ref b3), .unset, .unset, .unset] [(.int ((((p2.toUInt32 >>> ((16 : Int32) &&& 31).toUInt32).toInt32) &&& (32767 : Int32)) + (1 : Int32))), (.int ((p2 &&& (65535 : Int32)) + (1 : Int32))), (.ref b6), (.ref b5), (.ref b5)])) _
    refine st7.trans ?_
    show Steps p.tables e below (T7.setTop (mkF m 33 #[.val (.int p1), .val (.int p2), .val (.ref b3), .unset, .unset, .unset] [(.ref b5)])) _
    refine XS.astoreN X7.here hx rfl (hb hby at_33) rfl rfl (l' := #[.val (.int p1), .val (.int p2), .val (.ref b3), .val (.ref b5), .unset, .unset]) rfl ?_
    show Steps p.tables e below (T7.setTop (mkF m 34 #[.val (.int p1), .val (.int p2), .val (.ref b3), .val (.ref b5), .unset, .unset] [])) _
    refine XS.aloadN X7.here hx rfl (hb hby at_34) rfl rfl ?_
    show Steps p.tables e below (T7.setTop (mkF m 35 #[.val (.int p1), .val (.int p2), .val (.ref b3), .val (.ref b5), .unset, .unset] [(.ref b3)])) _
    refine st8.trans ?_
    show Steps p.tables e below (T8.setTop (mkF m 38 #[.val (.int p1), .val (.int p2), .val (.ref b3), .val (.ref b5), .unset, .unset] [(.int (own_pos (0 : Int32)))])) _
    refine XS.ifNo X8.here hx rfl (hb hby at_38) rfl ((if0 _ _).trans (teq hc38).2) ?_
    show Steps p.tables e below (T8.setTop (mkF m 41 #[.val (.int p1), .val (.int p2), .val (.ref b3), .val (.ref b5), .unset, .unset] [])) _
    refine XS.iconst X8.here hx rfl (hb hby at_41) ?_
    show Steps p.tables e below (T8.setTop (mkF m 42 #[.val (.int p1), .val (.int p2), .val (.ref b3), .val (.ref b5), .unset, .unset] [(.int (1 : Int32))])) _
    refine XS.goto X8.here hx rfl (pc0 := 42) (pc' := 46) rfl (hb hby at_42) (by decide) (by decide) ?_
    show Steps p.tables e below (T8.setTop (mkF m 46 #[.val (.int p1), .val (.int p2), .val (.ref b3), .val (.ref b5), .unset, .unset] [(.int (1 : Int32))])) _
    refine XS.istore X8.here hx rfl (hb hby at_46) rfl (l' := #[.val (.int p1), .val (.int p2), .val (.ref b3), .val (.ref b5), .val (.int (1 : Int32)), .unset]) rfl ?_
    show Steps p.tables e below (T8.setTop (mkF m 48 #[.val (.int p1), .val (.int p2), .val (.ref b3), .val (.ref b5), .val (.int (1 : Int32)), .unset] [])) _
    refine XS.iconst X8.here hx rfl (hb hby at_48) ?_
    show Steps p.tables e below (T8.setTop (mkF m 49 #[.val (.int p1), .val (.int p2), .val (.ref b3), .val (.ref b5), .val (.int (1 : Int32)), .unset] [(.int (0 : Int32))])) _
    refine XS.istore X8.here hx rfl (hb hby at_49) rfl (l' := #[.val (.int p1), .val (.int p2), .val (.ref b3), .val (.ref b5), .val (.int (1 : Int32)), .val (.int (0 : Int32))]) rfl ?_
    show Steps p.tables e below (T8.setTop (mkF m 51 #[.val (.int p1), .val (.int p2), .val (.ref b3), .val (.ref b5), .val (.int (1 : Int32)), .val (.int (0 : Int32))] [])) _
    refine XS.iload X8.here hx rfl (hb hby at_51) rfl ?_
    show Steps p.tables e below (T8.setTop (mkF m 53 #[.val (.int p1), .val (.int p2), .val (.ref b3), .val (.ref b5), .val (.int (1 : Int32)), .val (.int (0 : Int32))] [(.int (0 : Int32))])) _
    refine XS.aloadN X8.here hx rfl (hb hby at_53) rfl rfl ?_
    show Steps p.tables e below (T8.setTop (mkF m 54 #[.val (.int p1), .val (.int p2), .val (.ref b3), .val (.ref b5), .val (.int (1 : Int32)), .val (.int (0 : Int32))] [(.ref b3), (.int (0 : Int32))])) _
    refine XS.aloadN X8.here hx rfl (hb hby at_54) rfl rfl ?_
    show Steps p.tables e below (T8.setTop (mkF m 55 #[.val (.int p1), .val (.int p2), .val (.ref b3), .val (.ref b5), .val (.int (1 : Int32)), .val (.int (0 : Int32))] [(.ref b5), (.ref b3), (.int (0 : Int32))])) _
    refine XS.iloadN X8.here hx rfl (hb hby at_55) rfl ?_
    show Steps p.tables e below (T8.setTop (mkF m 56 #[.val (.int p1), .val (.int p2), .val (.ref b3), .val (.ref b5), .val (.int (1 : Int32)), .val (.int (0 : Int32))] [(.int p1), (.ref b5), (.ref b3), (.int (0 : Int32))])) _
    refine XS.iconst X8.here hx rfl (hb hby at_56) ?_
    show Steps p.tables e below (T8.setTop (mkF m 57 #[.val (.int p1), .val (.int p2), .val (.ref b3), .val (.ref b5), .val (.int (1 : Int32)), .val (.int (0 : Int32))] [(.int (3 : Int32)), (.int p1), (.ref b5), (.ref b3), (.int (0 : Int32))])) _
    refine XS.iand X8.here hx rfl (hb hby at_57) rfl ?_
    show Steps p.tables e below (T8.setTop (mkF m 58 #[.val (.int p1), .val (.int p2), .val (.ref b3), .val (.ref b5), .val (.int (1 : Int32)), .val (.int (0 : Int32))] [(.int (p1 &&& (3 : Int32))), (.ref b5), (.ref b3), (.int (0 : Int32))])) _
    refine st9.trans ?_
    show Steps p.tables e below (T9.setTop (mkF m 61 #[.val (.int p1), .val (.int p2), .val (.ref b3), .val (.ref b5), .val (.int (1 : Int32)), .val (.int (0 : Int32))] [(.int (own_r (p1 &&& (3 : Int32)))), (.int (0 : Int32))])) _
    refine XS.iadd X9.here hx rfl (hb hby at_61) rfl ?_
    show Steps p.tables e below (T9.setTop (mkF m 62 #[.val (.int p1), .val (.int p2), .val (.ref b3), .val (.ref b5), .val (.int (1 : Int32)), .val (.int (0 : Int32))] [(.int ((0 : Int32) + (own_r (p1 &&& (3 : Int32)))))])) _
    refine XS.istore X9.here hx rfl (hb hby at_62) rfl (l' := #[.val (.int p1), .val (.int p2), .val (.ref b3), .val (.ref b5), .val (.int (1 : Int32)), .val (.int ((0 : Int32) + (own_r (p1 &&& (3 : Int32)))))]) rfl ?_
    show Steps p.tables e below (T9.setTop (mkF m 64 #[.val (.int p1), .val (.int p2), .val (.ref b3), .val (.ref b5), .val (.int (1 : Int32)), .val (.int ((0 : Int32) + (own_r (p1 &&& (3 : Int32)))))] [])) _
    refine XS.iload X9.here hx rfl (hb hby at_64) rfl ?_
    show Steps p.tables e below (T9.setTop (mkF m 66 #[.val (.int p1), .val (.int p2), .val (.ref b3), .val (.ref b5), .val (.int (1 : Int32)), .val (.int ((0 : Int32) + (own_r (p1 &&& (3 : Int32)))))] [(.int (1 : Int32))])) _
    refine XS.aloadN X9.here hx rfl (hb hby at_66) rfl rfl ?_
    show Steps p.tables e below (T9.setTop (mkF m 67 #[.val (.int p1), .val (.int p2), .val (.ref b3), .val (.ref b5), .val (.int (1 : Int32)), .val (.int ((0 : Int32) + (own_r (p1 &&& (3 : Int32)))))] [(.ref b3), (.int (1 : Int32))])) _
    refine st10.trans ?_
    show Steps p.tables e below (T10.setTop (mkF m 70 #[.val (.int p1), .val (.int p2), .val (.ref b3), .val (.ref b5), .val (.int (1 : Int32)), .val (.int ((0 : Int32) + (own_r (p1 &&& (3 : Int32)))))] [(.int (own_pos ((0 : Int32) + (own_r (p1 &&& (3 : Int32)))))), (.int (1 : Int32))])) _
    refine XS.iload X10.here hx rfl (hb hby at_70) rfl ?_
    show Steps p.tables e below (T10.setTop (mkF m 72 #[.val (.int p1), .val (.int p2), .val (.ref b3), .val (.ref b5), .val (.int (1 : Int32)), .val (.int ((0 : Int32) + (own_r (p1 &&& (3 : Int32)))))] [(.int ((0 : Int32) + (own_r (p1 &&& (3 : Int32))))), (.int (own_pos ((0 : Int32) + (own_r (p1 &&& (3 : Int32)))))), (.int (1 : Int32))])) _
    refine XS.ifYes X10.here hx rfl (pc0 := 72) (pc' := 79) rfl (hb hby at_72) rfl ((if0 _ _).trans (flt hc72).2.2.2) (by decide) (by decide) ?_
    show Steps p.tables e below (T10.setTop (mkF m 79 #[.val (.int p1), .val (.int p2), .val (.ref b3), .val (.ref b5), .val (.int (1 : Int32)), .val (.int ((0 : Int32) + (own_r (p1 &&& (3 : Int32)))))] [(.int (own_pos ((0 : Int32) + (own_r (p1 &&& (3 : Int32)))))), (.int (1 : Int32))])) _
    refine XS.iconst X10.here hx rfl (hb hby at_79) ?_
    show Steps p.tables e below (T10.setTop (mkF m 80 #[.val (.int p1), .val (.int p2), .val (.ref b3), .val (.ref b5), .val (.int (1 : Int32)), .val (.int ((0 : Int32) + (own_r (p1 &&& (3 : Int32)))))] [(.int (0 : Int32)), (.int (own_pos ((0 : Int32) + (own_r (p1 &&& (3 : Int32)))))), (.int (1 : Int32))])) _
    refine XS.icmpNo X10.here hx rfl (hb hby at_80) rfl (teq hc80).2 ?_
    show Steps p.tables e below (T10.setTop (mkF m 83 #[.val (.int p1), .val (.int p2), .val (.ref b3), .val (.ref b5), .val (.int (1 : Int32)), .val (.int ((0 : Int32) + (own_r (p1 &&& (3 : Int32)))))] [(.int (1 : Int32))])) _
    refine XS.iconst X10.here hx rfl (hb hby at_83) ?_
    show Steps p.tables e below (T10.setTop (mkF m 84 #[.val (.int p1), .val (.int p2), .val (.ref b3), .val (.ref b5), .val (.int (1 : Int32)), .val (.int ((0 : Int32) + (own_r (p1 &&& (3 : Int32)))))] [(.int (1 : Int32)), (.int (1 : Int32))])) _
    refine XS.goto X10.here hx rfl (pc0 := 84) (pc' := 88) rfl (hb hby at_84) (by decide) (by decide) ?_
    show Steps p.tables e below (T10.setTop (mkF m 88 #[.val (.int p1), .val (.int p2), .val (.ref b3), .val (.ref b5), .val (.int (1 : Int32)), .val (.int ((0 : Int32) + (own_r (p1 &&& (3 : Int32)))))] [(.int (1 : Int32)), (.int (1 : Int32))])) _
    refine XS.iand X10.here hx rfl (hb hby at_88) rfl ?_
    show Steps p.tables e below (T10.setTop (mkF m 89 #[.val (.int p1), .val (.int p2), .val (.ref b3), .val (.ref b5), .val (.int (1 : Int32)), .val (.int ((0 : Int32) + (own_r (p1 &&& (3 : Int32)))))] [(.int ((1 : Int32) &&& (1 : Int32)))])) _
    refine XS.istore X10.here hx rfl (hb hby at_89) rfl (l' := #[.val (.int p1), .val (.int p2), .val (.ref b3), .val (.ref b5), .val (.int ((1 : Int32) &&& (1 : Int32))), .val (.int ((0 : Int32) + (own_r (p1 &&& (3 : Int32)))))]) rfl ?_
    show Steps p.tables e below (T10.setTop (mkF m 91 #[.val (.int p1), .val (.int p2), .val (.ref b3), .val (.ref b5), .val (.int ((1 : Int32) &&& (1 : Int32))), .val (.int ((0 : Int32) + (own_r (p1 &&& (3 : Int32)))))] [])) _
    refine XS.iload X10.here hx rfl (hb hby at_91) rfl ?_
    show Steps p.tables e below (T10.setTop (mkF m 93 #[.val (.int p1), .val (.int p2), .val (.ref b3), .val (.ref b5), .val (.int ((1 : Int32) &&& (1 : Int32))), .val (.int ((0 : Int32) + (own_r (p1 &&& (3 : Int32)))))] [(.int ((0 : Int32) + (own_r (p1 &&& (3 : Int32)))))])) _
    refine XS.aloadN X10.here hx rfl (hb hby at_93) rfl rfl ?_
    show Steps p.tables e below (T10.setTop (mkF m 94 #[.val (.int p1), .val (.int p2), .val (.ref b3), .val (.ref b5), .val (.int ((1 : Int32) &&& (1 : Int32))), .val (.int ((0 : Int32) + (own_r (p1 &&& (3 : Int32)))))] [(.ref b3), (.int ((0 : Int32) + (own_r (p1 &&& (3 : Int32)))))])) _
    refine XS.aloadN X10.here hx rfl (hb hby at_94) rfl rfl ?_
    show Steps p.tables e below (T10.setTop (mkF m 95 #[.val (.int p1), .val (.int p2), .val (.ref b3), .val (.ref b5), .val (.int ((1 : Int32) &&& (1 : Int32))), .val (.int ((0 : Int32) + (own_r (p1 &&& (3 : Int32)))))] [(.ref b5), (.ref b3), (.int ((0 : Int32) + (own_r (p1 &&& (3 : Int32)))))])) _
    refine XS.iloadN X10.here hx rfl (hb hby at_95) rfl ?_
    show Steps p.tables e below (T10.setTop (mkF m 96 #[.val (.int p1), .val (.int p2), .val (.ref b3), .val (.ref b5), .val (.int ((1 : Int32) &&& (1 : Int32))), .val (.int ((0 : Int32) + (own_r (p1 &&& (3 : Int32)))))] [(.int p1), (.ref b5), (.ref b3), (.int ((0 : Int32) + (own_r (p1 &&& (3 : Int32)))))])) _
    refine XS.iconst X10.here hx rfl (hb hby at_96) ?_
    show Steps p.tables e below (T10.setTop (mkF m 97 #[.val (.int p1), .val (.int p2), .val (.ref b3), .val (.ref b5), .val (.int ((1 : Int32) &&& (1 : Int32))), .val (.int ((0 : Int32) + (own_r (p1 &&& (3 : Int32)))))] [(.int (2 : Int32)), (.int p1), (.ref b5), (.ref b3), (.int ((0 : Int32) + (own_r (p1 &&& (3 : Int32)))))])) _
    refine XS.iushr X10.here hx rfl (hb hby at_97) rfl ?_
    show Steps p.tables e below (T10.setTop (mkF m 98 #[.val (.int p1), .val (.int p2), .val (.ref b3), .val (.ref b5), .val (.int ((1 : Int32) &&& (1 : Int32))), .val (.int ((0 : Int32) + (own_r (p1 &&& (3 : Int32)))))] [(.int ((p1.toUInt32 >>> ((2 : Int32) &&& 31).toUInt32).toInt32)), (.ref b5), (.ref b3), (.int ((0 : Int32) + (own_r (p1 &&& (3 : Int32)))))])) _
    refine XS.iconst X10.here hx rfl (hb hby at_98) ?_
    show Steps p.tables e below (T10.setTop (mkF m 99 #[.val (.int p1), .val (.int p2), .val (.ref b3), .val (.ref b5), .val (.int ((1 : Int32) &&& (1 : Int32))), .val (.int ((0 : Int32) + (own_r (p1 &&& (3 : Int32)))))] [(.int (3 : Int32)), (.int ((p1.toUInt32 >>> ((2 : Int32) &&& 31).toUInt32).toInt32)), (.ref b5), (.ref b3), (.int ((0 : Int32) + (own_r (p1 &&& (3 : Int32)))))])) _
    refine XS.iand X10.here hx rfl (hb hby at_99) rfl ?_
    show Steps p.tables e below (T10.setTop (mkF m 100 #[.val (.int p1), .val (.int p2), .val (.ref b3), .val (.ref b5), .val (.int ((1 : Int32) &&& (1 : Int32))), .val (.int ((0 : Int32) + (own_r (p1 &&& (3 : Int32)))))] [(.int (((p1.toUInt32 >>> ((2 : Int32) &&& 31).toUInt32).toInt32) &&& (3 : Int32))), (.ref b5), (.ref b3), (.int ((0 : Int32) + (own_r (p1 &&& (3 : Int32)))))])) _
    refine st11.trans ?_
    show Steps p.tables e below (T11.setTop (mkF m 103 #[.val (.int p1), .val (.int p2), .val (.ref b3), .val (.ref b5), .val (.int ((1 : Int32) &&& (1 : Int32))), .val (.int ((0 : Int32) + (own_r (p1 &&& (3 : Int32)))))] [(.int (own_r (((p1.toUInt32 >>> ((2 : Int32) &&& 31).toUInt32).toInt32) &&& (3 : Int32)))), (.int ((0 : Int32) + (own_r (p1 &&& (3 : Int32)))))])) _
    refine XS.iadd X11.here hx rfl (hb hby at_103) rfl ?_
    show Steps p.tables e below (T11.setTop (mkF m 104 #[.val (.int p1), .val (.int p2), .val (.ref b3), .val (.ref b5), .val (.int ((1 : Int32) &&& (1 : Int32))), .val (.int ((0 : Int32) + (own_r (p1 &&& (3 : Int32)))))] [(.int (((0 : Int32) + (own_r (p1 &&& (3 : Int32)))) + (own_r (((p1.toUInt32 >>> ((2 : Int32) &&& 31).toUInt32).toInt32) &&& (3 : Int32)))))])) _
    refine XS.istore X11.here hx rfl (hb hby at_104) rfl (l' := #[.val (.int p1), .val (.int p2), .val (.ref b3), .val (.ref b5), .val (.int ((1 : Int32) &&& (1 : Int32))), .val (.int (((0 : Int32) + (own_r (p1 &&& (3 : Int32)))) + (own_r (((p1.toUInt32 >>> ((2 : Int32) &&& 31).toUInt32).toInt32) &&& (3 : Int32)))))]) rfl ?_
    show Steps p.tables e below (T11.setTop (mkF m 106 #[.val (.int p1), .val (.int p2), .val (.ref b3), .val (.ref b5), .val (.int ((1 : Int32) &&& (1 : Int32))), .val (.int (((0 : Int32) + (own_r (p1 &&& (3 : Int32)))) + (own_r (((p1.toUInt32 >>> ((2 : Int32) &&& 31).toUInt32).toInt32) &&& (3 : Int32)))))] [])) _
    refine XS.iload X11.here hx rfl (hb hby at_106) rfl ?_
    show Steps p.tables e below (T11.setTop (mkF m 108 #[.val (.int p1), .val (.int p2), .val (.ref b3), .val (.ref b5), .val (.int ((1 : Int32) &&& (1 : Int32))), .val (.int (((0 : Int32) + (own_r (p1 &&& (3 : Int32)))) + (own_r (((p1.toUInt32 >>> ((2 : Int32) &&& 31).toUInt32).toInt32) &&& (3 : Int32)))))] [(.int ((1 : Int32) &&& (1 : Int32)))])) _
    refine XS.aloadN X11.here hx rfl (hb hby at_108) rfl rfl ?_
    show Steps p.tables e below (T11.setTop (mkF m 109 #[.val (.int p1), .val (.int p2), .val (.ref b3), .val (.ref b5), .val (.int ((1 : Int32) &&& (1 : Int32))), .val (.int (((0 : Int32) + (own_r (p1 &&& (3 : Int32)))) + (own_r (((p1.toUInt32 >>> ((2 : Int32) &&& 31).toUInt32).toInt32) &&& (3 : Int32)))))] [(.ref b3), (.int ((1 : Int32) &&& (1 : Int32)))])) _
    refine st12.trans ?_
    show Steps p.tables e below (T12.setTop (mkF m 112 #[.val (.int p1), .val (.int p2), .val (.ref b3), .val (.ref b5), .val (.int ((1 : Int32) &&& (1 : Int32))), .val (.int (((0 : Int32) + (own_r (p1 &&& (3 : Int32)))) + (own_r (((p1.toUInt32 >>> ((2 : Int32) &&& 31).toUInt32).toInt32) &&& (3 : Int32)))))] [(.int (own_pos (((0 : Int32) + (own_r (p1 &&& (3 : Int32)))) + (own_r (((p1.toUInt32 >>> ((2 : Int32) &&& 31).toUInt32).toInt32) &&& (3 : Int32)))))), (.int ((1 : Int32) &&& (1 : Int32)))])) _
    refine XS.iload X12.here hx rfl (hb hby at_112) rfl ?_
    show Steps p.tables e below (T12.setTop (mkF m 114 #[.val (.int p1), .val (.int p2), .val (.ref b3), .val (.ref b5), .val (.int ((1 : Int32) &&& (1 : Int32))), .val (.int (((0 : Int32) + (own_r (p1 &&& (3 : Int32)))) + (own_r (((p1.toUInt32 >>> ((2 : Int32) &&& 31).toUInt32).toInt32) &&& (3 : Int32)))))] [(.int (((0 : Int32) + (own_r (p1 &&& (3 : Int32)))) + (own_r (((p1.toUInt32 >>> ((2 : Int32) &&& 31).toUInt32).toInt32) &&& (3 : Int32))))), (.int (own_pos (((0 : Int32) + (own_r (p1 &&& (3 : Int32)))) + (own_r (((p1.toUInt32 >>> ((2 : Int32) &&& 31).toUInt32).toInt32) &&& (3 : Int32)))))), (.int ((1 : Int32) &&& (1 : Int32)))])) _
    refine XS.ifYes X12.here hx rfl (pc0 := 114) (pc' := 121) rfl (hb hby at_114) rfl ((if0 _ _).trans (flt hc114).2.2.2) (by decide) (by decide) ?_
    show Steps p.tables e below (T12.setTop (mkF m 121 #[.val (.int p1), .val (.int p2), .val (.ref b3), .val (.ref b5), .val (.int ((1 : Int32) &&& (1 : Int32))), .val (.int (((0 : Int32) + (own_r (p1 &&& (3 : Int32)))) + (own_r (((p1.toUInt32 >>> ((2 : Int32) &&& 31).toUInt32).toInt32) &&& (3 : Int32)))))] [(.int (own_pos (((0 : Int32) + (own_r (p1 &&& (3 : Int32)))) + (own_r (((p1.toUInt32 >>> ((2 : Int32) &&& 31).toUInt32).toInt32) &&& (3 : Int32)))))), (.int ((1 : Int32) &&& (1 : Int32)))])) _
    refine XS.iconst X12.here hx rfl (hb hby at_121) ?_
    show Steps p.tables e below (T12.setTop (mkF m 122 #[.val (.int p1), .val (.int p2), .val (.ref b3), .val (.ref b5), .val (.int ((1 : Int32) &&& (1 : Int32))), .val (.int (((0 : Int32) + (own_r (p1 &&& (3 : Int32)))) + (own_r (((p1.toUInt32 >>> ((2 : Int32) &&& 31).toUInt32).toInt32) &&& (3 : Int32)))))] [(.int (0 : Int32)), (.int (own_pos (((0 : Int32) + (own_r (p1 &&& (3 : Int32)))) + (own_r (((p1.toUInt32 >>> ((2 : Int32) &&& 31).toUInt32).toInt32) &&& (3 : Int32)))))), (.int ((1 : Int32) &&& (1 : Int32)))])) _
    refine XS.icmpNo X12.here hx rfl (hb hby at_122) rfl (teq hc122).2 ?_
    show Steps p.tables e below (T12.setTop (mkF m 125 #[.val (.int p1), .val (.int p2), .val (.ref b3), .val (.ref b5), .val (.int ((1 : Int32) &&& (1 : Int32))), .val (.int (((0 : Int32) + (own_r (p1 &&& (3 : Int32)))) + (own_r (((p1.toUInt32 >>> ((2 : Int32) &&& 31).toUInt32).toInt32) &&& (3 : Int32)))))] [(.int ((1 : Int32) &&& (1 : Int32)))])) _
    refine XS.iconst X12.here hx rfl (hb hby at_125) ?_
    show Steps p.tables e below (T12.setTop (mkF m 126 #[.val (.int p1), .val (.int p2), .val (.ref b3), .val (.ref b5), .val (.int ((1 : Int32) &&& (1 : Int32))), .val (.int (((0 : Int32) + (own_r (p1 &&& (3 : Int32)))) + (own_r (((p1.toUInt32 >>> ((2 : Int32) &&& 31).toUInt32).toInt32) &&& (3 : Int32)))))] [(.int (1 : Int32)), (.int ((1 : Int32) &&& (1 : Int32)))])) _
    refine XS.goto X12.here hx rfl (pc0 := 126) (pc' := 130) rfl (hb hby at_126) (by decide) (by decide) ?_
    show Steps p.tables e below (T12.setTop (mkF m 130 #[.val (.int p1), .val (.int p2), .val (.ref b3), .val (.ref b5), .val (.int ((1 : Int32) &&& (1 : Int32))), .val (.int (((0 : Int32) + (own_r (p1 &&& (3 : Int32)))) + (own_r (((p1.toUInt32 >>> ((2 : Int32) &&& 31).toUInt32).toInt32) &&& (3 : Int32)))))] [(.int (1 : Int32)), (.int ((1 : Int32) &&& (1 : Int32)))])) _
    refine XS.iand X12.here hx rfl (hb hby at_130) rfl ?_
    show Steps p.tables e below (T12.setTop (mkF m 131 #[.val (.int p1), .val (.int p2), .val (.ref b3), .val (.ref b5), .val (.int ((1 : Int32) &&& (1 : Int32))), .val (.int (((0 : Int32) + (own_r (p1 &&& (3 : Int32)))) + (own_r (((p1.toUInt32 >>> ((2 : Int32) &&& 31).toUInt32).toInt32) &&& (3 : Int32)))))] [(.int (((1 : Int32) &&& (1 : Int32)) &&& (1 : Int32)))])) _
    refine XS.istore X12.here hx rfl (hb hby at_131) rfl (l' := #[.val (.int p1), .val (.int p2), .val (.ref b3), .val (.ref b5), .val (.int (((1 : Int32) &&& (1 : Int32)) &&& (1 : Int32))), .val (.int (((0 : Int32) + (own_r (p1 &&& (3 : Int32)))) + (own_r (((p1.toUInt32 >>> ((2 : Int32) &&& 31).toUInt32).toInt32) &&& (3 : Int32)))))]) rfl ?_
    show Steps p.tables e below (T12.setTop (mkF m 133 #[.val (.int p1), .val (.int p2), .val (.ref b3), .val (.ref b5), .val (.int (((1 : Int32) &&& (1 : Int32)) &&& (1 : Int32))), .val (.int (((0 : Int32) + (own_r (p1 &&& (3 : Int32)))) + (own_r (((p1.toUInt32 >>> ((2 : Int32) &&& 31).toUInt32).toInt32) &&& (3 : Int32)))))] [])) _
    refine XS.iload X12.here hx rfl (hb hby at_133) rfl ?_
    show Steps p.tables e below (T12.setTop (mkF m 135 #[.val (.int p1), .val (.int p2), .val (.ref b3), .val (.ref b5), .val (.int (((1 : Int32) &&& (1 : Int32)) &&& (1 : Int32))), .val (.int (((0 : Int32) + (own_r (p1 &&& (3 : Int32)))) + (own_r (((p1.toUInt32 >>> ((2 : Int32) &&& 31).toUInt32).toInt32) &&& (3 : Int32)))))] [(.int (((0 : Int32) + (own_r (p1 &&& (3 : Int32)))) + (own_r (((p1.toUInt32 >>> ((2 : Int32) &&& 31).toUInt32).toInt32) &&& (3 : Int32)))))])) _
    refine XS.aloadN X12.here hx rfl (hb hby at_135) rfl rfl ?_
    show Steps p.tables e below (T12.setTop (mkF m 136 #[.val (.int p1), .val (.int p2), .val (.ref b3), .val (.ref b5), .val (.int (((1 : Int32) &&& (1 : Int32)) &&& (1 : Int32))), .val (.int (((0 : Int32) + (own_r (p1 &&& (3 : Int32)))) + (own_r (((p1.toUInt32 >>> ((2 : Int32) &&& 31).toUInt32).toInt32) &&& (3 : Int32)))))] [(.ref b3), (.int (((0 : Int32) + (own_r (p1 &&& (3 : Int32)))) + (own_r (((p1.toUInt32 >>> ((2 : Int32) &&& 31).toUInt32).toInt32) &&& (3 : Int32)))))])) _
    refine XS.aloadN X12.here hx rfl (hb hby at_136) rfl rfl ?_
    show Steps p.tables e below (T12.setTop (mkF m 137 #[.val (.int p1), .val (.int p2), .val (.ref b3), .val (.ref b5), .val (.int (((1 : Int32) &&& (1 : Int32)) &&& (1 : Int32))), .val (.int (((0 : Int32) + (own_r (p1 &&& (3 : Int32)))) + (own_r (((p1.toUInt32 >>> ((2 : Int32) &&& 31).toUInt32).toInt32) &&& (3 : Int32)))))] [(.ref b5), (.ref b3), (.int (((0 : Int32) + (own_r (p1 &&& (3 : Int32)))) + (own_r (((p1.toUInt32 >>> ((2 : Int32) &&& 31).toUInt32).toInt32) &&& (3 : Int32)))))])) _
    refine XS.iloadN X12.here hx rfl (hb hby at_137) rfl ?_
    show Steps p.tables e below (T12.setTop (mkF m 138 #[.val (.int p1), .val (.int p2), .val (.ref b3), .val (.ref b5), .val (.int (((1 : Int32) &&& (1 : Int32)) &&& (1 : Int32))), .val (.int (((0 : Int32) + (own_r (p1 &&& (3 : Int32)))) + (own_r (((p1.toUInt32 >>> ((2 : Int32) &&& 31).toUInt32).toInt32) &&& (3 : Int32)))))] [(.int p1), (.ref b5), (.ref b3), (.int (((0 : Int32) + (own_r (p1 &&& (3 : Int32)))) + (own_r (((p1.toUInt32 >>> ((2 : Int32) &&& 31).toUInt32).toInt32) &&& (3 : Int32)))))])) _
    refine XS.iconst X12.here hx rfl (hb hby at_138) ?_
    show Steps p.tables e below (T12.setTop (mkF m 139 #[.val (.int p1), .val (.int p2), .val (.ref b3), .val (.ref b5), .val (.int (((1 : Int32) &&& (1 : Int32)) &&& (1 : Int32))), .val (.int (((0 : Int32) + (own_r (p1 &&& (3 : Int32)))) + (own_r (((p1.toUInt32 >>> ((2 : Int32) &&& 31).toUInt32).toInt32) &&& (3 : Int32)))))] [(.int (4 : Int32)), (.int p1), (.ref b5), (.ref b3), (.int (((0 : Int32) + (own_r (p1 &&& (3 : Int32)))) + (own_r (((p1.toUInt32 >>> ((2 : Int32) &&& 31).toUInt32).toInt32) &&& (3 : Int32)))))])) _
    refine XS.iushr X12.here hx rfl (hb hby at_139) rfl ?_
    show Steps p.tables e below (T12.setTop (mkF m 140 #[.val (.int p1), .val (.int p2), .val (.ref b3), .val (.ref b5), .val (.int (((1 : Int32) &&& (1 : Int32)) &&& (1 : Int32))), .val (.int (((0 : Int32) + (own_r (p1 &&& (3 : Int32)))) + (own_r (((p1.toUInt32 >>> ((2 : Int32) &&& 31).toUInt32).toInt32) &&& (3 : Int32)))))] [(.int ((p1.toUInt32 >>> ((4 : Int32) &&& 31).toUInt32).toInt32)), (.ref b5), (.ref b3), (.int (((0 : Int32) + (own_r (p1 &&& (3 : Int32)))) + (own_r (((p1.toUInt32 >>> ((2 : Int32) &&& 31).toUInt32).toInt32) &&& (3 : Int32)))))])) _
    refine XS.iconst X12.here hx rfl (hb hby at_140) ?_
    show Steps p.tables e below (T12.setTop (mkF m 141 #[.val (.int p1), .val (.int p2), .val (.ref b3), .val (.ref b5), .val (.int (((1 : Int32) &&& (1 : Int32)) &&& (1 : Int32))), .val (.int (((0 : Int32) + (own_r (p1 &&& (3 : Int32)))) + (own_r (((p1.toUInt32 >>> ((2 : Int32) &&& 31).toUInt32).toInt32) &&& (3 : Int32)))))] [(.int (3 : Int32)), (.int ((p1.toUInt32 >>> ((4 : Int32) &&& 31).toUInt32).toInt32)), (.ref b5), (.ref b3), (.int (((0 : Int32) + (own_r (p1 &&& (3 : Int32)))) + (own_r (((p1.toUInt32 >>> ((2 : Int32) &&& 31).toUInt32).toInt32) &&& (3 : Int32)))))])) _
    refine XS.iand X12.here hx rfl (hb hby at_141) rfl ?_
    show Steps p.tables e below (T12.setTop (mkF m 142 #[.val (.int p1), .val (.int p2), .val (.ref b3), .val (.ref b5), .val (.int (((1 : Int32) &&& (1 : Int32)) &&& (1 : Int32))), .val (.int (((0 : Int32) + (own_r (p1 &&& (3 : Int32)))) + (own_r (((p1.toUInt32 >>> ((2 : Int32) &&& 31).toUInt32).toInt32) &&& (3 : Int32)))))] [(.int (((p1.toUInt32 >>> ((4 : Int32) &&& 31).toUInt32).toInt32) &&& (3 : Int32))), (.ref b5), (.ref b3), (.int (((0 : Int32) + (own_r (p1 &&& (3 : Int32)))) + (own_r (((p1.toUInt32 >>> ((2 : Int32) &&& 31).toUInt32).toInt32) &&& (3 : Int32)))))])) _
    refine st13.trans ?_
    show Steps p.tables e below (T13.setTop (mkF m 145 #[.val (.int p1), .val (.int p2), .val (.ref b3), .val (.ref b5), .val (.int (((1 : Int32) &&& (1 : Int32)) &&& (1 : Int32))), .val (.int (((0 : Int32) + (own_r (p1 &&& (3 : Int32)))) + (own_r (((p1.toUInt32 >>> ((2 : Int32) &&& 31).toUInt32).toInt32) &&& (3 : Int32)))))] [(.int (own_r (((p1.toUInt32 >>> ((4 : Int32) &&& 31).toUInt32).toInt32) &&& (3 : Int32)))), (.int (((0 : Int32) + (own_r (p1 &&& (3 : Int32)))) + (own_r (((p1.toUInt32 >>> ((2 : Int32) &&& 31).toUInt32).toInt32) &&& (3 : Int32)))))])) _
    refine XS.iadd X13.here hx rfl (hb hby at_145) rfl ?_
    show Steps p.tables e below (T13.setTop (mkF m 146 #[.val (.int p1), .val (.int p2), .val (.ref b3), .val (.ref b5), .val (.int (((1 : Int32) &&& (1 : Int32)) &&& (1 : Int32))), .val (.int (((0 : Int32) + (own_r (p1 &&& (3 : Int32)))) + (own_r (((p1.toUInt32 >>> ((2 : Int32) &&& 31).toUInt32).toInt32) &&& (3 : Int32)))))] [(.int ((((0 : Int32) + (own_r (p1 &&& (3 : Int32)))) + (own_r (((p1.toUInt32 >>> ((2 : Int32) &&& 31).toUInt32).toInt32) &&& (3 : Int32)))) + (own_r (((p1.toUInt32 >>> ((4 : Int32) &&& 31).toUInt32).toInt32) &&& (3 : Int32)))))])) _
    refine XS.istore X13.here hx rfl (hb hby at_146) rfl (l' := #[.val (.int p1), .val (.int p2), .val (.ref b3), .val (.ref b5), .val (.int (((1 : Int32) &&& (1 : Int32)) &&& (1 : Int32))), .val (.int ((((0 : Int32) + (own_r (p1 &&& (3 : Int32)))) + (own_r (((p1.toUInt32 >>> ((2 : Int32) &&& 31).toUInt32).toInt32) &&& (3 : Int32)))) + (own_r (((p1.toUInt32 >>> ((4 : Int32) &&& 31).toUInt32).toInt32) &&& (3 : Int32)))))]) rfl ?_
    show Steps p.tables e below (T13.setTop (mkF m 148 #[.val (.int p1), .val (.int p2), .val (.ref b3), .val (.ref b5), .val (.int (((1 : Int32) &&& (1 : Int32)) &&& (1 : Int32))), .val (.int ((((0 : Int32) + (own_r (p1 &&& (3 : Int32)))) + (own_r (((p1.toUInt32 >>> ((2 : Int32) &&& 31).toUInt32).toInt32) &&& (3 : Int32)))) + (own_r (((p1.toUInt32 >>> ((4 : Int32) &&& 31).toUInt32).toInt32) &&& (3 : Int32)))))] [])) _
    refine XS.iload X13.here hx rfl (hb hby at_148) rfl ?_
    show Steps p.tables e below (T13.setTop (mkF m 150 #[.val (.int p1), .val (.int p2), .val (.ref b3), .val (.ref b5), .val (.int (((1 : Int32) &&& (1 : Int32)) &&& (1 : Int32))), .val (.int ((((0 : Int32) + (own_r (p1 &&& (3 : Int32)))) + (own_r (((p1.toUInt32 >>> ((2 : Int32) &&& 31).toUInt32).toInt32) &&& (3 : Int32)))) + (own_r (((p1.toUInt32 >>> ((4 : Int32) &&& 31).toUInt32).toInt32) &&& (3 : Int32)))))] [(.int (((1 : Int32) &&& (1 : Int32)) &&& (1 : Int32)))])) _
    refine XS.aloadN X13.here hx rfl (hb hby at_150) rfl rfl ?_
    show Steps p.tables e below (T13.setTop (mkF m 151 #[.val (.int p1), .val (.int p2), .val (.ref b3), .val (.ref b5), .val (.int (((1 : Int32) &&& (1 : Int32)) &&& (1 : Int32))), .val (.int ((((0 : Int32) + (own_r (p1 &&& (3 : Int32)))) + (own_r (((p1.toUInt32 >>> ((2 : Int32) &&& 31).toUInt32).toInt32) &&& (3 : Int32)))) + (own_r (((p1.toUInt32 >>> ((4 : Int32) &&& 31).toUInt32).toInt32) &&& (3 : Int32)))))] [(.ref b3), (.int (((1 : Int32) &&& (1 : Int32)) &&& (1 : Int32)))])) _
    refine st14.trans ?_
    show Steps p.tables e below (T14.setTop (mkF m 154 #[.val (.int p1), .val (.int p2), .val (.ref b3), .val (.ref b5), .val (.int (((1 : Int32) &&& (1 : Int32)) &&& (1 : Int32))), .val (.int ((((0 : Int32) + (own_r (p1 &&& (3 : Int32)))) + (own_r (((p1.toUInt32 >>> ((2 : Int32) &&& 31).toUInt32).toInt32) &&& (3 : Int32)))) + (own_r (((p1.toUInt32 >>> ((4 : Int32) &&& 31).toUInt32).toInt32) &&& (3 : Int32)))))] [(.int (own_pos ((((0 : Int32) + (own_r (p1 &&& (3 : Int32)))) + (own_r (((p1.toUInt32 >>> ((2 : Int32) &&& 31).toUInt32).toInt32) &&& (3 : Int32)))) + (own_r (((p1.toUInt32 >>> ((4 : Int32) &&& 31).toUInt32).toInt32) &&& (3 : Int32)))))), (.int (((1 : Int32) &&& (1 : Int32)) &&& (1 : Int32)))])) _
    refine XS.iload X14.here hx rfl (hb hby at_154) rfl ?_
    show Steps p.tables e below (T14.setTop (mkF m 156 #[.val (.int p1), .val (.int p2), .val (.ref b3), .val (.ref b5), .val (.int (((1 : Int32) &&& (1 : Int32)) &&& (1 : Int32))), .val (.int ((((0 : Int32) + (own_r (p1 &&& (3 : Int32)))) + (own_r (((p1.toUInt32 >>> ((2 : Int32) &&& 31).toUInt32).toInt32) &&& (3 : Int32)))) + (own_r (((p1.toUInt32 >>> ((4 : Int32) &&& 31).toUInt32).toInt32) &&& (3 : Int32)))))] [(.int ((((0 : Int32) + (own_r (p1 &&& (3 : Int32)))) + (own_r (((p1.toUInt32 >>> ((2 : Int32) &&& 31).toUInt32).toInt32) &&& (3 : Int32)))) + (own_r (((p1.toUInt32 >>> ((4 : Int32) &&& 31).toUInt32).toInt32) &&& (3 : Int32))))), (.int (own_pos ((((0 : Int32) + (own_r (p1 &&& (3 : Int32)))) + (own_r (((p1.toUInt32 >>> ((2 : Int32) &&& 31).toUInt32).toInt32) &&& (3 : Int32)))) + (own_r (((p1.toUInt32 >>> ((4 : Int32) &&& 31).toUInt32).toInt32) &&& (3 : Int32)))))), (.int (((1 : Int32) &&& (1 : Int32)) &&& (1 : Int32)))])) _
    refine XS.ifNo X14.here hx rfl (hb hby at_156) rfl ((if0 _ _).trans (tlt hc156).2.2.2) ?_
    show Steps p.tables e below (T14.setTop (mkF m 159 #[.val (.int p1), .val (.int p2), .val (.ref b3), .val (.ref b5), .val (.int (((1 : Int32) &&& (1 : Int32)) &&& (1 : Int32))), .val (.int ((((0 : Int32) + (own_r (p1 &&& (3 : Int32)))) + (own_r (((p1.toUInt32 >>> ((2 : Int32) &&& 31).toUInt32).toInt32) &&& (3 : Int32)))) + (own_r (((p1.toUInt32 >>> ((4 : Int32) &&& 31).toUInt32).toInt32) &&& (3 : Int32)))))] [(.int (own_pos ((((0 : Int32) + (own_r (p1 &&& (3 : Int32)))) + (own_r (((p1.toUInt32 >>> ((2 : Int32) &&& 31).toUInt32).toInt32) &&& (3 : Int32)))) + (own_r (((p1.toUInt32 >>> ((4 : Int32) &&& 31).toUInt32).toInt32) &&& (3 : Int32)))))), (.int (((1 : Int32) &&& (1 : Int32)) &&& (1 : Int32)))])) _
    refine XS.iconst X14.here hx rfl (hb hby at_159) ?_
    show Steps p.tables e below (T14.setTop (mkF m 160 #[.val (.int p1), .val (.int p2), .val (.ref b3), .val (.ref b5), .val (.int (((1 : Int32) &&& (1 : Int32)) &&& (1 : Int32))), .val (.int ((((0 : Int32) + (own_r (p1 &&& (3 : Int32)))) + (own_r (((p1.toUInt32 >>> ((2 : Int32) &&& 31).toUInt32).toInt32) &&& (3 : Int32)))) + (own_r (((p1.toUInt32 >>> ((4 : Int32) &&& 31).toUInt32).toInt32) &&& (3 : Int32)))))] [(.int (1 : Int32)), (.int (own_pos ((((0 : Int32) + (own_r (p1 &&& (3 : Int32)))) + (own_r (((p1.toUInt32 >>> ((2 : Int32) &&& 31).toUInt32).toInt32) &&& (3 : Int32)))) + (own_r (((p1.toUInt32 >>> ((4 : Int32) &&& 31).toUInt32).toInt32) &&& (3 : Int32)))))), (.int (((1 : Int32) &&& (1 : Int32)) &&& (1 : Int32)))])) _
    refine XS.goto X14.here hx rfl (pc0 := 160) (pc' := 164) rfl (hb hby at_160) (by decide) (by decide) ?_
    show Steps p.tables e below (T14.setTop (mkF m 164 #[.val (.int p1), .val (.int p2), .val (.ref b3), .val (.ref b5), .val (.int (((1 : Int32) &&& (1 : Int32)) &&& (1 : Int32))), .val (.int ((((0 : Int32) + (own_r (p1 &&& (3 : Int32)))) + (own_r (((p1.toUInt32 >>> ((2 : Int32) &&& 31).toUInt32).toInt32) &&& (3 : Int32)))) + (own_r (((p1.toUInt32 >>> ((4 : Int32) &&& 31).toUInt32).toInt32) &&& (3 : Int32)))))] [(.int (1 : Int32)), (.int (own_pos ((((0 : Int32) + (own_r (p1 &&& (3 : Int32)))) + (own_r (((p1.toUInt32 >>> ((2 : Int32) &&& 31).toUInt32).toInt32) &&& (3 : Int32)))) + (own_r (((p1.toUInt32 >>> ((4 : Int32) &&& 31).toUInt32).toInt32) &&& (3 : Int32)))))), (.int (((1 : Int32) &&& (1 : Int32)) &&& (1 : Int32)))])) _
    refine XS.icmpNo X14.here hx rfl (hb hby at_164) rfl (teq hc164).2 ?_
    show Steps p.tables e below (T14.setTop (mkF m 167 #[.val (.int p1), .val (.int p2), .val (.ref b3), .val (.ref b5), .val (.int (((1 : Int32) &&& (1 : Int32)) &&& (1 : Int32))), .val (.int ((((0 : Int32) + (own_r (p1 &&& (3 : Int32)))) + (own_r (((p1.toUInt32 >>> ((2 : Int32) &&& 31).toUInt32).toInt32) &&& (3 : Int32)))) + (own_r (((p1.toUInt32 >>> ((4 : Int32) &&& 31).toUInt32).toInt32) &&& (3 : Int32)))))] [(.int (((1 : Int32) &&& (1 : Int32)) &&& (1 : Int32)))])) _
    refine XS.iconst X14.here hx rfl (hb hby at_167) ?_
    show Steps p.tables e below (T14.setTop (mkF m 168 #[.val (.int p1), .val (.int p2), .val (.ref b3), .val (.ref b5), .val (.int (((1 : Int32) &&& (1 : Int32)) &&& (1 : Int32))), .val (.int ((((0 : Int32) + (own_r (p1 &&& (3 : Int32)))) + (own_r (((p1.toUInt32 >>> ((2 : Int32) &&& 31).toUInt32).toInt32) &&& (3 : Int32)))) + (own_r (((p1.toUInt32 >>> ((4 : Int32) &&& 31).toUInt32).toInt32) &&& (3 : Int32)))))] [(.int (1 : Int32)), (.int (((1 : Int32) &&& (1 : Int32)) &&& (1 : Int32)))])) _
    refine XS.goto X14.here hx rfl (pc0 := 168) (pc' := 172) rfl (hb hby at_168) (by decide) (by decide) ?_
    show Steps p.tables e below (T14.setTop (mkF m 172 #[.val (.int p1), .val (.int p2), .val (.ref b3), .val (.ref b5), .val (.int (((1 : Int32) &&& (1 : Int32)) &&& (1 : Int32))), .val (.int ((((0 : Int32) + (own_r (p1 &&& (3 : Int32)))) + (own_r (((p1.toUInt32 >>> ((2 : Int32) &&& 31).toUInt32).toInt32) &&& (3 : Int32)))) + (own_r (((p1.toUInt32 >>> ((4 : Int32) &&& 31).toUInt32).toInt32) &&& (3 : Int32)))))] [(.int (1 : Int32)), (.int (((1 : Int32) &&& (1 : Int32)) &&& (1 : Int32)))])) _
    refine XS.iand X14.here hx rfl (hb hby at_172) rfl ?_
    show Steps p.tables e below (T14.setTop (mkF m 173 #[.val (.int p1), .val (.int p2), .val (.ref b3), .val (.ref b5), .val (.int (((1 : Int32) &&& (1 : Int32)) &&& (1 : Int32))), .val (.int ((((0 : Int32) + (own_r (p1 &&& (3 : Int32)))) + (own_r (((p1.toUInt32 >>> ((2 : Int32) &&& 31).toUInt32).toInt32) &&& (3 : Int32)))) + (own_r (((p1.toUInt32 >>> ((4 : Int32) &&& 31).toUInt32).toInt32) &&& (3 : Int32)))))] [(.int ((((1 : Int32) &&& (1 : Int32)) &&& (1 : Int32)) &&& (1 : Int32)))])) _
    refine XS.istore X14.here hx rfl (hb hby at_173) rfl (l' := #[.val (.int p1), .val (.int p2), .val (.ref b3), .val (.ref b5), .val (.int ((((1 : Int32) &&& (1 : Int32)) &&& (1 : Int32)) &&& (1 : Int32))), .val (.int ((((0 : Int32) + (own_r (p1 &&& (3 : Int32)))) + (own_r (((p1.toUInt32 >>> ((2 : Int32) &&& 31).toUInt32).toInt32) &&& (3 : Int32)))) + (own_r (((p1.toUInt32 >>> ((4 : Int32) &&& 31).toUInt32).toInt32) &&& (3 : Int32)))))]) rfl ?_
    show Steps p.tables e below (T14.setTop (mkF m 175 #[.val (.int p1), .val (.int p2), .val (.ref b3), .val (.ref b5), .val (.int ((((1 : Int32) &&& (1 : Int32)) &&& (1 : Int32)) &&& (1 : Int32))), .val (.int ((((0 : Int32) + (own_r (p1 &&& (3 : Int32)))) + (own_r (((p1.toUInt32 >>> ((2 : Int32) &&& 31).toUInt32).toInt32) &&& (3 : Int32)))) + (own_r (((p1.toUInt32 >>> ((4 : Int32) &&& 31).toUInt32).toInt32) &&& (3 : Int32)))))] [])) _
    refine XS.iload X14.here hx rfl (hb hby at_175) rfl ?_
    show Steps p.tables e below (T14.setTop (mkF m 177 #[.val (.int p1), .val (.int p2), .val (.ref b3), .val (.ref b5), .val (.int ((((1 : Int32) &&& (1 : Int32)) &&& (1 : Int32)) &&& (1 : Int32))), .val (.int ((((0 : Int32) + (own_r (p1 &&& (3 : Int32)))) + (own_r (((p1.toUInt32 >>> ((2 : Int32) &&& 31).toUInt32).toInt32) &&& (3 : Int32)))) + (own_r (((p1.toUInt32 >>> ((4 : Int32) &&& 31).toUInt32).toInt32) &&& (3 : Int32)))))] [(.int ((((1 : Int32) &&& (1 : Int32)) &&& (1 : Int32)) &&& (1 : Int32)))])) _
    exact retN X14 hx (t := .boolean) Bd.returns (by simp) (hb hby at_177) hr
  · show Q0 Z p1 p2 h0 n0 _ T14.heap _
    rw [e14c]
    exact ⟨rfl, N14⟩
  · show CHr Z EL s.vm s.heap T14.vm T14.heap
    rw [hh, e14c]
    exact RZ
set_option maxRecDepth 65536 in
set_option maxHeartbeats 40000000 in
theorem rm0C (l : Launch) (Z : State) (a0 : Array Value) (hw : ∀ d ∈ tables_1, d.before a0 Z = true) (ws : List Jvm.Cond) (p1 : Int32) (p2 : Int32) (wD : Addr) (clD : Cell) (wA : Addr) (pv : Int32) (clA : Cell) (wC : Int32) (wI : Addr) (wE : Addr) (wW : Addr) (hEL : EW Z a0 EL) (h0 : Heap) (n0 : Nat) (Z0 : n0 ≤ h0.size) (O0 : Old Z n0 h0) (Wl : Wld Z wD clD wA pv clA wC wI wE wW) (S_D : Sta Z Z.heap "java/util/ArrayList" "DEFAULTCAPACITY_EMPTY_ELEMENTDATA" "[Ljava/lang/Object;" (.ref wD)) (hp3 : ¬ (((p2 &&& (65535 : Int32)) + (1 : Int32)) < (1 : Int32))) (hp4 : ¬ (((((p2.toUInt32 >>> ((16 : Int32) &&& 31).toUInt32).toInt32) &&& (32767 : Int32)) + (1 : Int32)) < (1 : Int32))) (hc38 : (own_pos (0 : Int32)) = (0 : Int32)) (hc72 : ¬ ((0 : Int32) < ((0 : Int32) + (own_r (p1 &&& (3 : Int32)))))) (hc80 : (own_pos ((0 : Int32) + (own_r (p1 &&& (3 : Int32))))) = (0 : Int32)) (hc114 : (0 : Int32) < (((0 : Int32) + (own_r (p1 &&& (3 : Int32)))) + (own_r (((p1.toUInt32 >>> ((2 : Int32) &&& 31).toUInt32).toInt32) &&& (3 : Int32))))) (hc122 : (own_pos (((0 : Int32) + (own_r (p1 &&& (3 : Int32)))) + (own_r (((p1.toUInt32 >>> ((2 : Int32) &&& 31).toUInt32).toInt32) &&& (3 : Int32))))) = (1 : Int32)) (hc156 : (0 : Int32) < ((((0 : Int32) + (own_r (p1 &&& (3 : Int32)))) + (own_r (((p1.toUInt32 >>> ((2 : Int32) &&& 31).toUInt32).toInt32) &&& (3 : Int32)))) + (own_r (((p1.toUInt32 >>> ((4 : Int32) &&& 31).toUInt32).toInt32) &&& (3 : Int32))))) (hc164 : (own_pos ((((0 : Int32) + (own_r (p1 &&& (3 : Int32)))) + (own_r (((p1.toUInt32 >>> ((2 : Int32) &&& 31).toUInt32).toInt32) &&& (3 : Int32)))) + (own_r (((p1.toUInt32 >>> ((4 : Int32) &&& 31).toUInt32).toInt32) &&& (3 : Int32))))) = (1 : Int32)) :
    MetFree l x (head1 (Jvm.Cond.code x code maxLocals ret :: ws) room_1) (fun a U => a = #[(.int p1), (.int p2)] ∧ Z.Warmed39 U.vm ∧ U.heap = h0 ∧ CHv Z EL U.vm h0) (fun _ _ _ _ _ => True) (fun _ U o U' => ∃ v L, o = .returned v ∧ Q0 Z p1 p2 h0 n0 v U'.heap L ∧ CHr Z EL U.vm U.heap U'.vm U'.heap ∧ ReturnedEndW U o U' L room_1.cells room_1.slots) := by
  refine MetFree.of_bodySF (plainFor_of_name pn_0) hisR ?_
  intro p e s m args below meth c s₁ Bd hml0 hP hK
  obtain ⟨rfl, hZ, hh, C0⟩ := hP
  have hx := Bd.exec
  have hby := Bd.bytes
  have hml : c.maxLocals = 6 := hml0
  have hown : s.vm.findClass "com/example/stomme/stomme/diagnostic/DiagnosticsHasErrorsPinLaw" = some m.cls := findClass_of_methodNamed Bd.named
  have hnm := (name_of_methodNamed Bd.named Bd.method).1
  have X0 : Stand p l e room_1 (s.setVm s.vm) m #[(.int p1), (.int p2)] below meth c s₁ [] 0 0 := Stand.of_body Bd
  have e0 : s₁.heap = h0 := by rw [← hh, Bd.state]; rfl
  have N0 := Fr.nil n0
  have hS0 := own_since s 0
  have wS := own_strs hw
  have pre0 : ∀ t, Steps p.tables e below (s₁.setTop (mkF m 0 #[.val (.int p1), .val (.int p2), .unset, .unset, .unset, .unset] [])) t → Steps p.tables e below (s₁.setTop (entryFrame m #[(.int p1), (.int p2)] maxLocals)) t := fun t k => castTop (ef_0 m p1 p2) k
  obtain ⟨T3, h3, X3, e3, E3, A3, D3, -, st3⟩ := newO X0 hx hZ hown (hw _ (List.mem_of_getElem? (i := 0) rfl)) (hw _ (List.mem_of_getElem? (i := 1) rfl)) (hw _ (List.mem_of_getElem? (i := 2) rfl)) e0 (g := (mkF m 0 #[.val (.int p1), .val (.int p2), .unset, .unset, .unset, .unset] [])) rfl (hb hby at_0) (by decide) (by decide)
  obtain ⟨b3, g3⟩ : ∃ z, z = h0.size := ⟨_, rfl⟩
  rw [← g3] at A3 D3 st3
  have F_reported_b3 : Fld Z h3 b3 "com/example/stomme/stomme/diagnostic/Diagnostics" "reported" "Ljava/util/List;" .null := D3 (Or.inr (hw _ (List.mem_of_getElem? (i := 34) rfl))) (ty := (.object "java/util/List")) (by decide)
  have F_errors_b3 : Fld Z h3 b3 "com/example/stomme/stomme/diagnostic/Diagnostics" "errors" "I" (.int (0 : Int32)) := D3 (Or.inl (hw _ (List.mem_of_getElem? (i := 73) rfl))) (ty := .int) (by decide)
  have E_b3 := A3
  have g_b3 : n0 ≤ b3 := Nat.le_trans Z0 (Nat.le_of_eq g3.symm)
  have sz_b3 : h0.size ≤ b3 := (Nat.le_trans (Keep.refl h0 []).1 (Nat.le_of_eq g3.symm))
  have C3 := CHv.ext E3 C0
  have R3 := (CHr.refl C0).trans (CHr.ext E3 C0)
  have K3 : Keep h0 h3 [] := (Keep.refl h0 []).ext E3
  obtain ⟨_, _, ⟨T4, L4, k4, n4⟩, -, X4, ⟨Lc4, hQ4, l4, y4, z4⟩, st4⟩ := X3.specialBack hx (y := (⟨"com/example/stomme/stomme/diagnostic/Diagnostics", "<init>", "()V"⟩ : MethodName)) rfl hown (mvT hZ (hw _ (List.mem_of_getElem? (i := 3) rfl))) (mvT hZ (hw _ (List.mem_of_getElem? (i := 4) rfl))) (mvT hZ (hw _ (List.mem_of_getElem? (i := 5) rfl))) (by decide) (backOf (W := 1) (rm1 l Z a0 hw [] b3 _ wD h3 n0 (Nat.le_trans Z0 E3.1) E_b3 F_errors_b3 F_reported_b3 g_b3 (O0.ext E3) S_D) hZ (hw _ (List.mem_of_getElem? (i := 5) rfl)) (hw _ (List.mem_of_getElem? (i := 2) rfl)) (by decide) (by decide)) (g := (mkF m 4 #[.val (.int p1), .val (.int p2), .unset, .unset, .unset, .unset] [(.ref b3), (.ref b3)])) rfl (by rw [hml]; rfl) (Steps.refl _) (a := b3) (argsL := []) (rest := [(.ref b3)]) (lenOf pd_0_0 rfl) rfl (by show 2 * 0 + _ ≤ _; exact Nat.le_of_eq rfl) (hb hby at_4) (fun _ _ => ⟨rfl, e3, (by decide : 1 + 1 ≤ _), (by decide : 2 + 3 ≤ _)⟩)
  dsimp only [Pt.U, Pt.locs, Pt.cells, Pt.slots] at X4 l4 y4 z4 st4 hQ4
  subst l4 y4 z4
  obtain ⟨rfl, N4q, K4c, Ed4, Fd4, al, g_al, Fr4, Ea4, Fm4, Fe4, Fs4⟩ := hQ4
  have N4 := Fr.app N0 N4q
  have K4 : Keep h0 T4.heap [] := K3.trans K4c (allS (Or.inr sz_b3) all0)
  have C4 := CHv.keep K4c (sfS (Safe.exa hZ.alike E_b3 (by decide) (by decide)) sf0) C3
  have R4 := R3.trans (CHr.keep K4c (sfS (Safe.exa hZ.alike E_b3 (by decide) (by decide)) sf0) C3)
  obtain ⟨T5, h5, X5, e5, E5, A5, D5, -, st5⟩ := newO X4 hx hZ hown (hw _ (List.mem_of_getElem? (i := 35) rfl)) (hw _ (List.mem_of_getElem? (i := 36) rfl)) (hw _ (List.mem_of_getElem? (i := 37) rfl)) rfl (g := (mkF m 8 #[.val (.int p1), .val (.int p2), .val (.ref b3), .unset, .unset, .unset] [])) rfl (hb hby at_8) (by decide) (by decide)
  obtain ⟨b5, g5⟩ : ∃ z, z = T4.heap.size := ⟨_, rfl⟩
  rw [← g5] at A5 D5 st5
  have F_file_b5 : Fld Z h5 b5 "com/example/stomme/stomme/diagnostic/Position" "file" "Ljava/lang/String;" .null := D5 (Or.inr (hw _ (List.mem_of_getElem? (i := 62) rfl))) (ty := (.object "java/lang/String")) (by decide)
  have F_line_b5 : Fld Z h5 b5 "com/example/stomme/stomme/diagnostic/Position" "line" "I" (.int (0 : Int32)) := D5 (Or.inr (hw _ (List.mem_of_getElem? (i := 64) rfl))) (ty := .int) (by decide)
  have F_column_b5 : Fld Z h5 b5 "com/example/stomme/stomme/diagnostic/Position" "column" "I" (.int (0 : Int32)) := D5 (Or.inr (hw _ (List.mem_of_getElem? (i := 66) rfl))) (ty := .int) (by decide)
  have E_b5 := A5
  have g_b5 : n0 ≤ b5 := Nat.le_trans (Nat.le_trans (Nat.le_trans Z0 E3.1) K4c.1) (Nat.le_of_eq g5.symm)
  have sz_b5 : h0.size ≤ b5 := (Nat.le_trans K4.1 (Nat.le_of_eq g5.symm))
  have C5 := CHv.ext E5 C4
  have R5 := R4.trans (CHr.ext E5 C4)
  have K5 : Keep h0 h5 [] := K4.ext E5
  obtain ⟨b6, T6, h6, kk6, X6, e6, E6, hS6, hk6, hZ6, hown6, RQ6, -, st6⟩ := ldcOH X5 hx hZ hown (hw _ (List.mem_of_getElem? (i := 38) rfl)) wS e5 hS0 (Nat.le_trans (Nat.le_trans (Nat.le_trans (Nat.zero_le _) E3.1) K4c.1) E5.1) hEL C5 (g := (mkF m 12 #[.val (.int p1), .val (.int p2), .val (.ref b3), .unset, .unset, .unset] [(.ref b5), (.ref b5)])) rfl (hb hby at_12) (n := 4) (by decide) (by decide) (by decide) (by decide)
  have C6 := RQ6.1
  have R6 := R5.trans RQ6
  have K6 : Keep h0 h6 [] := K5.ext E6
  obtain ⟨_, _, ⟨T7, L7, k7, n7⟩, -, X7, hS7, gr7, ⟨Lc7, hQ7, l7, y7, z7, RQ7⟩, st7⟩ := X6.specialBackS hx (y := (⟨"com/example/stomme/stomme/diagnostic/Position", "<init>", "(Ljava/lang/String;II)V"⟩ : MethodName)) rfl hown6 (mvT hZ6 (hw _ (List.mem_of_getElem? (i := 47) rfl))) (mvT hZ6 (hw _ (List.mem_of_getElem? (i := 48) rfl))) (mvT hZ6 (hw _ (List.mem_of_getElem? (i := 49) rfl))) (by decide) (backOfSH (W := 1) (rm6 l Z a0 hw [] b5 b6 ((p2 &&& (65535 : Int32)) + (1 : Int32)) ((((p2.toUInt32 >>> ((16 : Int32) &&& 31).toUInt32).toInt32) &&& (32767 : Int32)) + (1 : Int32)) _ _ _ hEL h6 n0 (Nat.le_trans (Nat.le_trans (Nat.le_trans (Nat.le_trans Z0 E3.1) K4c.1) E5.1) E6.1) (E_b5.ext E6) (F_file_b5.ext E6) g_b5 (F_line_b5.ext E6) (F_column_b5.ext E6) hp3 hp4) hZ6 (hw _ (List.mem_of_getElem? (i := 49) rfl)) (hw _ (List.mem_of_getElem? (i := 37) rfl)) (by decide) (by decide) hEL C6) (g := (mkF m 30 #[.val (.int p1), .val (.int p2), .val (.ref b3), .unset, .unset, .unset] [(.int ((((p2.toUInt32 >>> ((16 : Int32) &&& 31).toUInt32).toInt32) &&& (32767 : Int32)) + (1 : Int32))), (.int ((p2 &&& (65535 : Int32)) + (1 : Int32))), (.ref b6), (.ref b5), (.ref b5)])) rfl (by rw [hml]; rfl) (Steps.refl _) (a := b5) (argsL := [(.ref b6), (.int ((p2 &&& (65535 : Int32)) + (1 : Int32))), (.int ((((p2.toUInt32 >>> ((16 : Int32) &&& 31).toUInt32).toInt32) &&& (32767 : Int32)) + (1 : Int32)))]) (rest := [(.ref b5)]) (lenOf pd_0_1 rfl) rfl (by show 2 * 0 + _ ≤ _; exact Nat.le_of_eq rfl) (hb hby at_30) (fun _ _ => ⟨rfl, e6, (by decide : 5 + 2 ≤ _), (by decide : 16 + 20 ≤ _)⟩)
  dsimp only [Pt.U, Pt.locs, Pt.cells, Pt.slots] at X7 hS7 gr7 l7 y7 z7 st7 hQ7 RQ7
  subst l7 y7 z7
  obtain ⟨rfl, N7q, K7c, Ep7⟩ := hQ7
  have N7 := Fr.app N4 N7q
  have K7 : Keep h0 T7.heap [] := K6.trans K7c (allS (Or.inr sz_b5) all0)
  obtain ⟨X7, hS7, hZ7, hown7⟩ := rebS hS6 (by rw [e6]; exact hk6) X7 hS7 gr7 hZ6 hown6
  have C7 := RQ7.1
  have R7 := R6.trans RQ7
  obtain ⟨cq8, kq8, q8a, q8b, q8c⟩ := isOf hZ7 rfl (((Ed4.ext E5).ext E6).keep K7c)
  obtain ⟨_, _, ⟨T8, L8, k8, n8⟩, -, X8, ⟨Lc8, hQ8, l8, y8, z8⟩, st8⟩ := X7.virtualBack hx (y := (⟨"com/example/stomme/stomme/diagnostic/Diagnostics", "hasErrors", "()Z"⟩ : MethodName)) (z := (⟨"com/example/stomme/stomme/diagnostic/Diagnostics", "hasErrors", "()Z"⟩ : MethodName)) hown7 (mvT hZ7 (hw _ (List.mem_of_getElem? (i := 67) rfl))) (mvT hZ7 (hw _ (List.mem_of_getElem? (i := 68) rfl))) (notFace_of_selects (args := #[]) (mvT hZ7 (hw _ (List.mem_of_getElem? (i := 70) rfl)))) (mvT hZ7 (hw _ (List.mem_of_getElem? (i := 70) rfl))) (mvT hZ7 (hw _ (List.mem_of_getElem? (i := 69) rfl))) (by decide) (backOf (W := 0) (rm9 l Z a0 hw [] b3 (0 : Int32) T7.heap n0 (Nat.le_trans (Nat.le_trans (Nat.le_trans (Nat.le_trans (Nat.le_trans Z0 E3.1) K4c.1) E5.1) E6.1) K7c.1) (((Fd4.ext E5).ext E6).keep K7c (ninS (Nat.ne_of_lt (Nat.lt_of_lt_of_le Ed4.lt (Nat.le_of_eq g5.symm))) nin0))) hZ7 (hw _ (List.mem_of_getElem? (i := 71) rfl)) (hw _ (List.mem_of_getElem? (i := 2) rfl)) (by decide) (by decide)) q8a q8c (g := (mkF m 35 #[.val (.int p1), .val (.int p2), .val (.ref b3), .val (.ref b5), .unset, .unset] [(.ref b3)])) rfl (by rw [hml]; rfl) (Steps.refl _) (argsL := []) (rest := []) (lenOf pd_0_3 rfl) rfl (by show 2 * 0 + _ ≤ _; exact Nat.le_of_eq rfl) (hb hby at_35) (fun _ _ => ⟨rfl, rfl, (by decide : 7 + 0 ≤ _), (by decide : 36 + 0 ≤ _)⟩)
  dsimp only [Pt.U, Pt.locs, Pt.cells, Pt.slots] at X8 l8 y8 z8 st8 hQ8
  subst l8 y8 z8
  obtain ⟨rfl, N8q, e8c⟩ := hQ8
  have N8 := Fr.app N7 N8q
  obtain ⟨_, _, ⟨T9, L9, k9, n9⟩, -, X9, hS9, gr9, ⟨Lc9, hQ9, l9, y9, z9, RQ9⟩, st9⟩ := callSS X8 hx (y := (⟨"com/example/stomme/stomme/diagnostic/DiagnosticsHasErrorsPinLaw", "step", "(Lcom/example/stomme/stomme/diagnostic/Diagnostics;Lcom/example/stomme/stomme/diagnostic/Position;I)I"⟩ : MethodName)) hown7 (mvT hZ7 (hw _ (List.mem_of_getElem? (i := 74) rfl))) (mvT hZ7 (hw _ (List.mem_of_getElem? (i := 75) rfl))) (mvT hZ7 (hw _ (List.mem_of_getElem? (i := 76) rfl))) (mvT hZ7 (hw _ (List.mem_of_getElem? (i := 77) rfl))) (by decide) (backOfSH (W := 1) (rm10 l Z a0 hw [] b3 b5 (p1 &&& (3 : Int32)) al (0 : Int32) 0 wD clD wA pv clA wC wI wE wW hEL T7.heap n0 (Nat.le_trans (Nat.le_trans (Nat.le_trans (Nat.le_trans (Nat.le_trans Z0 E3.1) K4c.1) E5.1) E6.1) K7c.1) (((((O0.ext E3).keep K4c (allS g_b3 all0)).ext E5).ext E6).keep K7c (allS g_b5 all0)) Wl ⟨(((Ed4.ext E5).ext E6).keep K7c), (((Fr4.ext E5).ext E6).keep K7c (ninS (Nat.ne_of_lt (Nat.lt_of_lt_of_le Ed4.lt (Nat.le_of_eq g5.symm))) nin0)), (((Fd4.ext E5).ext E6).keep K7c (ninS (Nat.ne_of_lt (Nat.lt_of_lt_of_le Ed4.lt (Nat.le_of_eq g5.symm))) nin0)), (((Ea4.ext E5).ext E6).keep K7c), g_b3, g_al, Or.inl ⟨_, (((Fm4.ext E5).ext E6).keep K7c (ninS (Nat.ne_of_lt (Nat.lt_of_lt_of_le Ea4.lt (Nat.le_of_eq g5.symm))) nin0)), (((Fs4.ext E5).ext E6).keep K7c (ninS (Nat.ne_of_lt (Nat.lt_of_lt_of_le Ea4.lt (Nat.le_of_eq g5.symm))) nin0)), (((Fe4.ext E5).ext E6).keep K7c (ninS (Nat.ne_of_lt (Nat.lt_of_lt_of_le Ea4.lt (Nat.le_of_eq g5.symm))) nin0))⟩⟩ (by decide)) hZ7 (hw _ (List.mem_of_getElem? (i := 77) rfl)) (hw _ (List.mem_of_getElem? (i := 76) rfl)) (by decide) (by decide) hEL C7) (g := (mkF m 58 #[.val (.int p1), .val (.int p2), .val (.ref b3), .val (.ref b5), .val (.int (1 : Int32)), .val (.int (0 : Int32))] [(.int (p1 &&& (3 : Int32))), (.ref b5), (.ref b3), (.int (0 : Int32))])) rfl (by rw [hml]; rfl) (argsL := [(.ref b3), (.ref b5), (.int (p1 &&& (3 : Int32)))]) (rest := [(.int (0 : Int32))]) (lenOf pd_0_4 rfl) rfl (by show 2 * 0 + _ ≤ _; exact Nat.le_of_eq rfl) (hb hby at_58) (fun _ _ => ⟨rfl, e8c, (by decide : 7 + 10 ≤ _), (by decide : 36 + 125 ≤ _)⟩)
  dsimp only [Pt.U, Pt.locs, Pt.cells, Pt.slots] at X9 hS9 gr9 l9 y9 z9 st9 hQ9 RQ9
  subst l9 y9 z9
  obtain ⟨rfl, N9q, O9c, Dz0c⟩ := hQ9
  have N9 := Fr.app N8 N9q
  obtain ⟨X9, hS9, hZ9, hown9⟩ := rebS hS7 (by rw [e8c]; exact (Nat.le_refl _)) X9 hS9 gr9 hZ7 hown7
  have C9 := RQ9.1
  have R9 := R7.trans RQ9
  obtain ⟨Daz0, Dbz0, Dcz0, Ddz0, -⟩ := id Dz0c
  obtain ⟨cq10, kq10, q10a, q10b, q10c⟩ := isOf hZ9 rfl Daz0
  obtain ⟨_, _, ⟨T10, L10, k10, n10⟩, -, X10, ⟨Lc10, hQ10, l10, y10, z10⟩, st10⟩ := X9.virtualBack hx (y := (⟨"com/example/stomme/stomme/diagnostic/Diagnostics", "hasErrors", "()Z"⟩ : MethodName)) (z := (⟨"com/example/stomme/stomme/diagnostic/Diagnostics", "hasErrors", "()Z"⟩ : MethodName)) hown9 (mvT hZ9 (hw _ (List.mem_of_getElem? (i := 67) rfl))) (mvT hZ9 (hw _ (List.mem_of_getElem? (i := 68) rfl))) (notFace_of_selects (args := #[]) (mvT hZ9 (hw _ (List.mem_of_getElem? (i := 70) rfl)))) (mvT hZ9 (hw _ (List.mem_of_getElem? (i := 70) rfl))) (mvT hZ9 (hw _ (List.mem_of_getElem? (i := 69) rfl))) (by decide) (backOf (W := 1) (rm9 l Z a0 hw [] b3 ((0 : Int32) + (own_r (p1 &&& (3 : Int32)))) T9.heap n0 (own_osz O9c) Dcz0) hZ9 (hw _ (List.mem_of_getElem? (i := 71) rfl)) (hw _ (List.mem_of_getElem? (i := 2) rfl)) (by decide) (by decide)) q10a q10c (g := (mkF m 67 #[.val (.int p1), .val (.int p2), .val (.ref b3), .val (.ref b5), .val (.int (1 : Int32)), .val (.int ((0 : Int32) + (own_r (p1 &&& (3 : Int32)))))] [(.ref b3), (.int (1 : Int32))])) rfl (by rw [hml]; rfl) (Steps.refl _) (argsL := []) (rest := [(.int (1 : Int32))]) (lenOf pd_0_3 rfl) rfl (by show 2 * 0 + _ ≤ _; exact Nat.le_of_eq rfl) (hb hby at_67) (fun _ _ => ⟨rfl, rfl, (by decide : 17 + 0 ≤ _), (by decide : 161 + 0 ≤ _)⟩)
  dsimp only [Pt.U, Pt.locs, Pt.cells, Pt.slots] at X10 l10 y10 z10 st10 hQ10
  subst l10 y10 z10
  obtain ⟨rfl, N10q, e10c⟩ := hQ10
  have N10 := Fr.app N9 N10q
  obtain ⟨_, _, ⟨T11, L11, k11, n11⟩, -, X11, hS11, gr11, ⟨Lc11, hQ11, l11, y11, z11, RQ11⟩, st11⟩ := callSS X10 hx (y := (⟨"com/example/stomme/stomme/diagnostic/DiagnosticsHasErrorsPinLaw", "step", "(Lcom/example/stomme/stomme/diagnostic/Diagnostics;Lcom/example/stomme/stomme/diagnostic/Position;I)I"⟩ : MethodName)) hown9 (mvT hZ9 (hw _ (List.mem_of_getElem? (i := 74) rfl))) (mvT hZ9 (hw _ (List.mem_of_getElem? (i := 75) rfl))) (mvT hZ9 (hw _ (List.mem_of_getElem? (i := 76) rfl))) (mvT hZ9 (hw _ (List.mem_of_getElem? (i := 77) rfl))) (by decide) (backOfSH (W := 1) (rm10 l Z a0 hw [] b3 b5 (((p1.toUInt32 >>> ((2 : Int32) &&& 31).toUInt32).toInt32) &&& (3 : Int32)) al ((0 : Int32) + (own_r (p1 &&& (3 : Int32)))) 1 wD clD wA pv clA wC wI wE wW hEL T9.heap n0 (own_osz O9c) O9c Wl Dz0c (by decide)) hZ9 (hw _ (List.mem_of_getElem? (i := 77) rfl)) (hw _ (List.mem_of_getElem? (i := 76) rfl)) (by decide) (by decide) hEL C9) (g := (mkF m 100 #[.val (.int p1), .val (.int p2), .val (.ref b3), .val (.ref b5), .val (.int ((1 : Int32) &&& (1 : Int32))), .val (.int ((0 : Int32) + (own_r (p1 &&& (3 : Int32)))))] [(.int (((p1.toUInt32 >>> ((2 : Int32) &&& 31).toUInt32).toInt32) &&& (3 : Int32))), (.ref b5), (.ref b3), (.int ((0 : Int32) + (own_r (p1 &&& (3 : Int32)))))])) rfl (by rw [hml]; rfl) (argsL := [(.ref b3), (.ref b5), (.int (((p1.toUInt32 >>> ((2 : Int32) &&& 31).toUInt32).toInt32) &&& (3 : Int32)))]) (rest := [(.int ((0 : Int32) + (own_r (p1 &&& (3 : Int32)))))]) (lenOf pd_0_4 rfl) rfl (by show 2 * 0 + _ ≤ _; exact Nat.le_of_eq rfl) (hb hby at_100) (fun _ _ => ⟨rfl, e10c, (by decide : 17 + 10 ≤ _), (by decide : 161 + 125 ≤ _)⟩)
  dsimp only [Pt.U, Pt.locs, Pt.cells, Pt.slots] at X11 hS11 gr11 l11 y11 z11 st11 hQ11 RQ11
  subst l11 y11 z11
  obtain ⟨rfl, N11q, O11c, Dz1c⟩ := hQ11
  have N11 := Fr.app N10 N11q
  obtain ⟨X11, hS11, hZ11, hown11⟩ := rebS hS9 (by rw [e10c]; exact (Nat.le_refl _)) X11 hS11 gr11 hZ9 hown9
  have C11 := RQ11.1
  have R11 := R9.trans RQ11
  obtain ⟨Daz1, Dbz1, Dcz1, Ddz1, -⟩ := id Dz1c
  obtain ⟨cq12, kq12, q12a, q12b, q12c⟩ := isOf hZ11 rfl Daz1
  obtain ⟨_, _, ⟨T12, L12, k12, n12⟩, -, X12, ⟨Lc12, hQ12, l12, y12, z12⟩, st12⟩ := X11.virtualBack hx (y := (⟨"com/example/stomme/stomme/diagnostic/Diagnostics", "hasErrors", "()Z"⟩ : MethodName)) (z := (⟨"com/example/stomme/stomme/diagnostic/Diagnostics", "hasErrors", "()Z"⟩ : MethodName)) hown11 (mvT hZ11 (hw _ (List.mem_of_getElem? (i := 67) rfl))) (mvT hZ11 (hw _ (List.mem_of_getElem? (i := 68) rfl))) (notFace_of_selects (args := #[]) (mvT hZ11 (hw _ (List.mem_of_getElem? (i := 70) rfl)))) (mvT hZ11 (hw _ (List.mem_of_getElem? (i := 70) rfl))) (mvT hZ11 (hw _ (List.mem_of_getElem? (i := 69) rfl))) (by decide) (backOf (W := 1) (rm9 l Z a0 hw [] b3 (((0 : Int32) + (own_r (p1 &&& (3 : Int32)))) + (own_r (((p1.toUInt32 >>> ((2 : Int32) &&& 31).toUInt32).toInt32) &&& (3 : Int32)))) T11.heap n0 (own_osz O11c) Dcz1) hZ11 (hw _ (List.mem_of_getElem? (i := 71) rfl)) (hw _ (List.mem_of_getElem? (i := 2) rfl)) (by decide) (by decide)) q12a q12c (g := (mkF m 109 #[.val (.int p1), .val (.int p2), .val (.ref b3), .val (.ref b5), .val (.int ((1 : Int32) &&& (1 : Int32))), .val (.int (((0 : Int32) + (own_r (p1 &&& (3 : Int32)))) + (own_r (((p1.toUInt32 >>> ((2 : Int32) &&& 31).toUInt32).toInt32) &&& (3 : Int32)))))] [(.ref b3), (.int ((1 : Int32) &&& (1 : Int32)))])) rfl (by rw [hml]; rfl) (Steps.refl _) (argsL := []) (rest := [(.int ((1 : Int32) &&& (1 : Int32)))]) (lenOf pd_0_3 rfl) rfl (by show 2 * 0 + _ ≤ _; exact Nat.le_of_eq rfl) (hb hby at_109) (fun _ _ => ⟨rfl, rfl, (by decide : 27 + 0 ≤ _), (by decide : 286 + 0 ≤ _)⟩)
  dsimp only [Pt.U, Pt.locs, Pt.cells, Pt.slots] at X12 l12 y12 z12 st12 hQ12
  subst l12 y12 z12
  obtain ⟨rfl, N12q, e12c⟩ := hQ12
  have N12 := Fr.app N11 N12q
  obtain ⟨_, _, ⟨T13, L13, k13, n13⟩, -, X13, hS13, gr13, ⟨Lc13, hQ13, l13, y13, z13, RQ13⟩, st13⟩ := callSS X12 hx (y := (⟨"com/example/stomme/stomme/diagnostic/DiagnosticsHasErrorsPinLaw", "step", "(Lcom/example/stomme/stomme/diagnostic/Diagnostics;Lcom/example/stomme/stomme/diagnostic/Position;I)I"⟩ : MethodName)) hown11 (mvT hZ11 (hw _ (List.mem_of_getElem? (i := 74) rfl))) (mvT hZ11 (hw _ (List.mem_of_getElem? (i := 75) rfl))) (mvT hZ11 (hw _ (List.mem_of_getElem? (i := 76) rfl))) (mvT hZ11 (hw _ (List.mem_of_getElem? (i := 77) rfl))) (by decide) (backOfSH (W := 1) (rm10 l Z a0 hw [] b3 b5 (((p1.toUInt32 >>> ((4 : Int32) &&& 31).toUInt32).toInt32) &&& (3 : Int32)) al (((0 : Int32) + (own_r (p1 &&& (3 : Int32)))) + (own_r (((p1.toUInt32 >>> ((2 : Int32) &&& 31).toUInt32).toInt32) &&& (3 : Int32)))) 2 wD clD wA pv clA wC wI wE wW hEL T11.heap n0 (own_osz O11c) O11c Wl Dz1c (by decide)) hZ11 (hw _ (List.mem_of_getElem? (i := 77) rfl)) (hw _ (List.mem_of_getElem? (i := 76) rfl)) (by decide) (by decide) hEL C11) (g := (mkF m 142 #[.val (.int p1), .val (.int p2), .val (.ref b3), .val (.ref b5), .val (.int (((1 : Int32) &&& (1 : Int32)) &&& (1 : Int32))), .val (.int (((0 : Int32) + (own_r (p1 &&& (3 : Int32)))) + (own_r (((p1.toUInt32 >>> ((2 : Int32) &&& 31).toUInt32).toInt32) &&& (3 : Int32)))))] [(.int (((p1.toUInt32 >>> ((4 : Int32) &&& 31).toUInt32).toInt32) &&& (3 : Int32))), (.ref b5), (.ref b3), (.int (((0 : Int32) + (own_r (p1 &&& (3 : Int32)))) + (own_r (((p1.toUInt32 >>> ((2 : Int32) &&& 31).toUInt32).toInt32) &&& (3 : Int32)))))])) rfl (by rw [hml]; rfl) (argsL := [(.ref b3), (.ref b5), (.int (((p1.toUInt32 >>> ((4 : Int32) &&& 31).toUInt32).toInt32) &&& (3 : Int32)))]) (rest := [(.int (((0 : Int32) + (own_r (p1 &&& (3 : Int32)))) + (own_r (((p1.toUInt32 >>> ((2 : Int32) &&& 31).toUInt32).toInt32) &&& (3 : Int32)))))]) (lenOf pd_0_4 rfl) rfl (by show 2 * 0 + _ ≤ _; exact Nat.le_of_eq rfl) (hb hby at_142) (fun _ _ => ⟨rfl, e12c, (by decide : 27 + 10 ≤ _), (by decide : 286 + 125 ≤ _)⟩)
  dsimp only [Pt.U, Pt.locs, Pt.cells, Pt.slots] at X13 hS13 gr13 l13 y13 z13 st13 hQ13 RQ13
  subst l13 y13 z13
  obtain ⟨rfl, N13q, O13c, Dz2c⟩ := hQ13
  have N13 := Fr.app N12 N13q
  obtain ⟨X13, hS13, hZ13, hown13⟩ := rebS hS11 (by rw [e12c]; exact (Nat.le_refl _)) X13 hS13 gr13 hZ11 hown11
  have C13 := RQ13.1
  have R13 := R11.trans RQ13
  obtain ⟨Daz2, Dbz2, Dcz2, Ddz2, -⟩ := id Dz2c
  obtain ⟨cq14, kq14, q14a, q14b, q14c⟩ := isOf hZ13 rfl Daz2
  obtain ⟨_, _, ⟨T14, L14, k14, n14⟩, -, X14, ⟨Lc14, hQ14, l14, y14, z14⟩, st14⟩ := X13.virtualBack hx (y := (⟨"com/example/stomme/stomme/diagnostic/Diagnostics", "hasErrors", "()Z"⟩ : MethodName)) (z := (⟨"com/example/stomme/stomme/diagnostic/Diagnostics", "hasErrors", "()Z"⟩ : MethodName)) hown13 (mvT hZ13 (hw _ (List.mem_of_getElem? (i := 67) rfl))) (mvT hZ13 (hw _ (List.mem_of_getElem? (i := 68) rfl))) (notFace_of_selects (args := #[]) (mvT hZ13 (hw _ (List.mem_of_getElem? (i := 70) rfl)))) (mvT hZ13 (hw _ (List.mem_of_getElem? (i := 70) rfl))) (mvT hZ13 (hw _ (List.mem_of_getElem? (i := 69) rfl))) (by decide) (backOf (W := 1) (rm9 l Z a0 hw [] b3 ((((0 : Int32) + (own_r (p1 &&& (3 : Int32)))) + (own_r (((p1.toUInt32 >>> ((2 : Int32) &&& 31).toUInt32).toInt32) &&& (3 : Int32)))) + (own_r (((p1.toUInt32 >>> ((4 : Int32) &&& 31).toUInt32).toInt32) &&& (3 : Int32)))) T13.heap n0 (own_osz O13c) Dcz2) hZ13 (hw _ (List.mem_of_getElem? (i := 71) rfl)) (hw _ (List.mem_of_getElem? (i := 2) rfl)) (by decide) (by decide)) q14a q14c (g := (mkF m 151 #[.val (.int p1), .val (.int p2), .val (.ref b3), .val (.ref b5), .val (.int (((1 : Int32) &&& (1 : Int32)) &&& (1 : Int32))), .val (.int ((((0 : Int32) + (own_r (p1 &&& (3 : Int32)))) + (own_r (((p1.toUInt32 >>> ((2 : Int32) &&& 31).toUInt32).toInt32) &&& (3 : Int32)))) + (own_r (((p1.toUInt32 >>> ((4 : Int32) &&& 31).toUInt32).toInt32) &&& (3 : Int32)))))] [(.ref b3), (.int (((1 : Int32) &&& (1 : Int32)) &&& (1 : Int32)))])) rfl (by rw [hml]; rfl) (Steps.refl _) (argsL := []) (rest := [(.int (((1 : Int32) &&& (1 : Int32)) &&& (1 : Int32)))]) (lenOf pd_0_3 rfl) rfl (by show 2 * 0 + _ ≤ _; exact Nat.le_of_eq rfl) (hb hby at_151) (fun _ _ => ⟨rfl, rfl, (by decide : 37 + 0 ≤ _), (by decide : 411 + 0 ≤ _)⟩)
  dsimp only [Pt.U, Pt.locs, Pt.cells, Pt.slots] at X14 l14 y14 z14 st14 hQ14
  subst l14 y14 z14
  obtain ⟨rfl, N14q, e14c⟩ := hQ14
  have N14 := Fr.app N13 N14q
  have RZ := R13.trans (CHv.at X14 hZ13 hEL C13)
  obtain ⟨fs, hr, hrun, hended, hREW⟩ := (X14.more (cells' := room_1.cells) (slots' := room_1.slots) (by decide) (by decide)).leaveW hS13 (by rw [e14c]; exact (Nat.le_refl _)) (v := some (.int (1 : Int32))) (fun h => by rw [Bd.returns] at h; cases h)
  refine ⟨_, _, pre0 _ ?_, hrun, hended, _, _, rfl, ?_, ?_, hREW⟩
  · show Steps p.tables e below (s₁.setTop (mkF m 0 #[.val (.int p1), .val (.int p2), .unset, .unset, .unset, .unset] [])) _
    refine st3 _ ?_
    show Steps p.tables e below (T3.setTop (mkF m 3 #[.val (.int p1), .val (.int p2), .unset, .unset, .unset, .unset] [(.ref b3)])) _
    refine XS.dup X3.here hx rfl (hb hby at_3) rfl rfl ?_
    show Steps p.tables e below (T3.setTop (mkF m 4 #[.val (.int p1), .val (.int p2), .unset, .unset, .unset, .unset] [(.ref b3), (.ref b3)])) _
    refine st4.trans ?_
    show Steps p.tables e below (T4.setTop (mkF m 7 #[.val (.int p1), .val (.int p2), .unset, .unset, .unset, .unset] [(.ref b3)])) _
    refine XS.astoreN X4.here hx rfl (hb hby at_7) rfl rfl (l' := #[.val (.int p1), .val (.int p2), .val (.ref b3), .unset, .unset, .unset]) rfl ?_
    show Steps p.tables e below (T4.setTop (mkF m 8 #[.val (.int p1), .val (.int p2), .val (.ref b3), .unset, .unset, .unset] [])) _
    refine st5 _ ?_
    show Steps p.tables e below (T5.setTop (mkF m 11 #[.val (.int p1), .val (.int p2), .val (.ref b3), .unset, .unset, .unset] [(.ref b5)])) _
    refine XS.dup X5.here hx rfl (hb hby at_11) rfl rfl ?_
    show Steps p.tables e below (T5.setTop (mkF m 12 #[.val (.int p1), .val (.int p2), .val (.ref b3), .unset, .unset, .unset] [(.ref b5), (.ref b5)])) _
    refine st6 _ ?_
    show Steps p.tables e below (T6.setTop (mkF m 14 #[.val (.int p1), .val (.int p2), .val (.ref b3), .unset, .unset, .unset] [(.ref b6), (.ref b5), (.ref b5)])) _
    refine XS.iloadN X6.here hx rfl (hb hby at_14) rfl ?_
    show Steps p.tables e below (T6.setTop (mkF m 15 #[.val (.int p1), .val (.int p2), .val (.ref b3), .unset, .unset, .unset] [(.int p2), (.ref b6), (.ref b5), (.ref b5)])) _
    refine X6.ldcInt hx hown6 (mvT hZ6 (hw _ (List.mem_of_getElem? (i := 46) rfl))) (g := (mkF m 15 #[.val (.int p1), .val (.int p2), .val (.ref b3), .unset, .unset, .unset] [(.int p2), (.ref b6), (.ref b5), (.ref b5)])) rfl (hb hby at_15) _ ?_
    show Steps p.tables e below (T6.setTop (mkF m 17 #[.val (.int p1), .val (.int p2), .val (.ref b3), .unset, .unset, .unset] [(.int (65535 : Int32)), (.int p2), (.ref b6), (.ref b5), (.ref b5)])) _
    refine XS.iand X6.here hx rfl (hb hby at_17) rfl ?_
    show Steps p.tables e below (T6.setTop (mkF m 18 #[.val (.int p1), .val (.int p2), .val (.ref b3), .unset, .unset, .unset] [(.int (p2 &&& (65535 : Int32))), (.ref b6), (.ref b5), (.ref b5)])) _
    refine XS.iconst X6.here hx rfl (hb hby at_18) ?_
    show Steps p.tables e below (T6.setTop (mkF m 19 #[.val (.int p1), .val (.int p2), .val (.ref b3), .unset, .unset, .unset] [(.int (1 : Int32)), (.int (p2 &&& (65535 : Int32))), (.ref b6), (.ref b5), (.ref b5)])) _
    refine XS.iadd X6.here hx rfl (hb hby at_19) rfl ?_
    show Steps p.tables e below (T6.setTop (mkF m 20 #[.val (.int p1), .val (.int p2), .val (.ref b3), .unset, .unset, .unset] [(.int ((p2 &&& (65535 : Int32)) + (1 : Int32))), (.ref b6), (.ref b5), (.ref b5)])) _
    refine XS.iloadN X6.here hx rfl (hb hby at_20) rfl ?_
    show Steps p.tables e below (T6.setTop (mkF m 21 #[.val (.int p1), .val (.int p2), .val (.ref b3), .unset, .unset, .unset] [(.int p2), (.int ((p2 &&& (65535 : Int32)) + (1 : Int32))), (.ref b6), (.ref b5), (.ref b5)])) _
    refine XS.bipush X6.here hx rfl (hb hby at_21) ?_
    show Steps p.tables e below (T6.setTop (mkF m 23 #[.val (.int p1), .val (.int p2), .val (.ref b3), .unset, .unset, .unset] [(.int (16 : Int32)), (.int p2), (.int ((p2 &&& (65535 : Int32)) + (1 : Int32))), (.ref b6), (.ref b5), (.ref b5)])) _
    refine XS.iushr X6.here hx rfl (hb hby at_23) rfl ?_
    show Steps p.tables e below (T6.setTop (mkF m 24 #[.val (.int p1), .val (.int p2), .val (.ref b3), .unset, .unset, .unset] [(.int ((p2.toUInt32 >>> ((16 : Int32) &&& 31).toUInt32).toInt32)), (.int ((p2 &&& (65535 : Int32)) + (1 : Int32))), (.ref b6), (.ref b5), (.ref b5)])) _
    refine XS.sipush X6.here hx rfl (hb hby at_24) ?_
    show Steps p.tables e below (T6.setTop (mkF m 27 #[.val (.int p1), .val (.int p2), .val (.ref b3), .unset, .unset, .unset] [(.int (32767 : Int32)), (.int ((p2.toUInt32 >>> ((16 : Int32) &&& 31).toUInt32).toInt32)), (.int ((p2 &&& (65535 : Int32)) + (1 : Int32))), (.ref b6), (.ref b5), (.ref b5)])) _
    refine XS.iand X6.here hx rfl (hb hby at_27) rfl ?_
    show Steps p.tables e below (T6.setTop (mkF m 28 #[.val (.int p1), .val (.int p2), .val (.ref b3), .unset, .unset, .unset] [(.int (((p2.toUInt32 >>> ((16 : Int32) &&& 31).toUInt32).toInt32) &&& (32767 : Int32))), (.int ((p2 &&& (65535 : Int32)) + (1 : Int32))), (.ref b6), (.ref b5), (.ref b5)])) _
    refine XS.iconst X6.here hx rfl (hb hby at_28) ?_
    show Steps p.tables e below (T6.setTop (mkF m 29 #[.val (.int p1), .val (.int p2), .val (.ref b3), .unset, .unset, .unset] [(.int (1 : Int32)), (.int (((p2.toUInt32 >>> ((16 : Int32) &&& 31).toUInt32).toInt32) &&& (32767 : Int32))), (.int ((p2 &&& (65535 : Int32)) + (1 : Int32))), (.ref b6), (.ref b5), (.ref b5)])) _
    refine XS.iadd X6.here hx rfl (hb hby at_29) rfl ?_
    show Steps p.tables e below (T6.setTop (mkF m 30 #[.val (.int p1), .val (.int p2), .val (.ref b3), .unset, .unset, .unset] [(.int ((((p2.toUInt32 >>> ((16 : Int32) &&& 31).toUInt32).toInt32) &&& (32767 : Int32)) + (1 : Int32))), (.int ((p2 &&& (65535 : Int32)) + (1 : Int32))), (.ref b6), (.ref b5), (.ref b5)])) _
    refine st7.trans ?_
    show Steps p.tables e below (T7.setTop (mkF m 33 #[.val (.int p1), .val (.int p2), .val (.ref b3), .unset, .unset, .unset] [(.ref b5)])) _
    refine XS.astoreN X7.here hx rfl (hb hby at_33) rfl rfl (l' := #[.val (.int p1), .val (.int p2), .val (.ref b3), .val (.ref b5), .unset, .unset]) rfl ?_
    show Steps p.tables e below (T7.setTop (mkF m 34 #[.val (.int p1), .val (.int p2), .val (.ref b3), .val (.ref b5), .unset, .unset] [])) _
    refine XS.aloadN X7.here hx rfl (hb hby at_34) rfl rfl ?_
    show Steps p.tables e below (T7.setTop (mkF m 35 #[.val (.int p1), .val (.int p2), .val (.ref b3), .val (.ref b5), .unset, .unset] [(.ref b3)])) _
    refine st8.trans ?_
    show Steps p.tables e below (T8.setTop (mkF m 38 #[.val (.int p1), .val (.int p2), .val (.ref b3), .val (.ref b5), .unset, .unset] [(.int (own_pos (0 : Int32)))])) _
    refine XS.ifNo X8.here hx rfl (hb hby at_38) rfl ((if0 _ _).trans (teq hc38).2) ?_
    show Steps p.tables e below (T8.setTop (mkF m 41 #[.val (.int p1), .val (.int p2), .val (.ref b3), .val (.ref b5), .unset, .unset] [])) _
    refine XS.iconst X8.here hx rfl (hb hby at_41) ?_
    show Steps p.tables e below (T8.setTop (mkF m 42 #[.val (.int p1), .val (.int p2), .val (.ref b3), .val (.ref b5), .unset, .unset] [(.int (1 : Int32))])) _
    refine XS.goto X8.here hx rfl (pc0 := 42) (pc' := 46) rfl (hb hby at_42) (by decide) (by decide) ?_
    show Steps p.tables e below (T8.setTop (mkF m 46 #[.val (.int p1), .val (.int p2), .val (.ref b3), .val (.ref b5), .unset, .unset] [(.int (1 : Int32))])) _
    refine XS.istore X8.here hx rfl (hb hby at_46) rfl (l' := #[.val (.int p1), .val (.int p2), .val (.ref b3), .val (.ref b5), .val (.int (1 : Int32)), .unset]) rfl ?_
    show Steps p.tables e below (T8.setTop (mkF m 48 #[.val (.int p1), .val (.int p2), .val (.ref b3), .val (.ref b5), .val (.int (1 : Int32)), .unset] [])) _
    refine XS.iconst X8.here hx rfl (hb hby at_48) ?_
    show Steps p.tables e below (T8.setTop (mkF m 49 #[.val (.int p1), .val (.int p2), .val (.ref b3), .val (.ref b5), .val (.int (1 : Int32)), .unset] [(.int (0 : Int32))])) _
    refine XS.istore X8.here hx rfl (hb hby at_49) rfl (l' := #[.val (.int p1), .val (.int p2), .val (.ref b3), .val (.ref b5), .val (.int (1 : Int32)), .val (.int (0 : Int32))]) rfl ?_
    show Steps p.tables e below (T8.setTop (mkF m 51 #[.val (.int p1), .val (.int p2), .val (.ref b3), .val (.ref b5), .val (.int (1 : Int32)), .val (.int (0 : Int32))] [])) _
    refine XS.iload X8.here hx rfl (hb hby at_51) rfl ?_
    show Steps p.tables e below (T8.setTop (mkF m 53 #[.val (.int p1), .val (.int p2), .val (.ref b3), .val (.ref b5), .val (.int (1 : Int32)), .val (.int (0 : Int32))] [(.int (0 : Int32))])) _
    refine XS.aloadN X8.here hx rfl (hb hby at_53) rfl rfl ?_
    show Steps p.tables e below (T8.setTop (mkF m 54 #[.val (.int p1), .val (.int p2), .val (.ref b3), .val (.ref b5), .val (.int (1 : Int32)), .val (.int (0 : Int32))] [(.ref b3), (.int (0 : Int32))])) _
    refine XS.aloadN X8.here hx rfl (hb hby at_54) rfl rfl ?_
    show Steps p.tables e below (T8.setTop (mkF m 55 #[.val (.int p1), .val (.int p2), .val (.ref b3), .val (.ref b5), .val (.int (1 : Int32)), .val (.int (0 : Int32))] [(.ref b5), (.ref b3), (.int (0 : Int32))])) _
    refine XS.iloadN X8.here hx rfl (hb hby at_55) rfl ?_
    show Steps p.tables e below (T8.setTop (mkF m 56 #[.val (.int p1), .val (.int p2), .val (.ref b3), .val (.ref b5), .val (.int (1 : Int32)), .val (.int (0 : Int32))] [(.int p1), (.ref b5), (.ref b3), (.int (0 : Int32))])) _
    refine XS.iconst X8.here hx rfl (hb hby at_56) ?_
    show Steps p.tables e below (T8.setTop (mkF m 57 #[.val (.int p1), .val (.int p2), .val (.ref b3), .val (.ref b5), .val (.int (1 : Int32)), .val (.int (0 : Int32))] [(.int (3 : Int32)), (.int p1), (.ref b5), (.ref b3), (.int (0 : Int32))])) _
    refine XS.iand X8.here hx rfl (hb hby at_57) rfl ?_
    show Steps p.tables e below (T8.setTop (mkF m 58 #[.val (.int p1), .val (.int p2), .val (.ref b3), .val (.ref b5), .val (.int (1 : Int32)), .val (.int (0 : Int32))] [(.int (p1 &&& (3 : Int32))), (.ref b5), (.ref b3), (.int (0 : Int32))])) _
    refine st9.trans ?_
    show Steps p.tables e below (T9.setTop (mkF m 61 #[.val (.int p1), .val (.int p2), .val (.ref b3), .val (.ref b5), .val (.int (1 : Int32)), .val (.int (0 : Int32))] [(.int (own_r (p1 &&& (3 : Int32)))), (.int (0 : Int32))])) _
    refine XS.iadd X9.here hx rfl (hb hby at_61) rfl ?_
    show Steps p.tables e below (T9.setTop (mkF m 62 #[.val (.int p1), .val (.int p2), .val (.ref b3), .val (.ref b5), .val (.int (1 : Int32)), .val (.int (0 : Int32))] [(.int ((0 : Int32) + (own_r (p1 &&& (3 : Int32)))))])) _
    refine XS.istore X9.here hx rfl (hb hby at_62) rfl (l' := #[.val (.int p1), .val (.int p2), .val (.ref b3), .val (.ref b5), .val (.int (1 : Int32)), .val (.int ((0 : Int32) + (own_r (p1 &&& (3 : Int32)))))]) rfl ?_
    show Steps p.tables e below (T9.setTop (mkF m 64 #[.val (.int p1), .val (.int p2), .val (.ref b3), .val (.ref b5), .val (.int (1 : Int32)), .val (.int ((0 : Int32) + (own_r (p1 &&& (3 : Int32)))))] [])) _
    refine XS.iload X9.here hx rfl (hb hby at_64) rfl ?_
    show Steps p.tables e below (T9.setTop (mkF m 66 #[.val (.int p1), .val (.int p2), .val (.ref b3), .val (.ref b5), .val (.int (1 : Int32)), .val (.int ((0 : Int32) + (own_r (p1 &&& (3 : Int32)))))] [(.int (1 : Int32))])) _
    refine XS.aloadN X9.here hx rfl (hb hby at_66) rfl rfl ?_
    show Steps p.tables e below (T9.setTop (mkF m 67 #[.val (.int p1), .val (.int p2), .val (.ref b3), .val (.ref b5), .val (.int (1 : Int32)), .val (.int ((0 : Int32) + (own_r (p1 &&& (3 : Int32)))))] [(.ref b3), (.int (1 : Int32))])) _
    refine st10.trans ?_
    show Steps p.tables e below (T10.setTop (mkF m 70 #[.val (.int p1), .val (.int p2), .val (.ref b3), .val (.ref b5), .val (.int (1 : Int32)), .val (.int ((0 : Int32) + (own_r (p1 &&& (3 : Int32)))))] [(.int (own_pos ((0 : Int32) + (own_r (p1 &&& (3 : Int32)))))), (.int (1 : Int32))])) _
    refine XS.iload X10.here hx rfl (hb hby at_70) rfl ?_
    show Steps p.tables e below (T10.setTop (mkF m 72 #[.val (.int p1), .val (.int p2), .val (.ref b3), .val (.ref b5), .val (.int (1 : Int32)), .val (.int ((0 : Int32) + (own_r (p1 &&& (3 : Int32)))))] [(.int ((0 : Int32) + (own_r (p1 &&& (3 : Int32))))), (.int (own_pos ((0 : Int32) + (own_r (p1 &&& (3 : Int32)))))), (.int (1 : Int32))])) _
    refine XS.ifYes X10.here hx rfl (pc0 := 72) (pc' := 79) rfl (hb hby at_72) rfl ((if0 _ _).trans (flt hc72).2.2.2) (by decide) (by decide) ?_
    show Steps p.tables e below (T10.setTop (mkF m 79 #[.val (.int p1), .val (.int p2), .val (.ref b3), .val (.ref b5), .val (.int (1 : Int32)), .val (.int ((0 : Int32) + (own_r (p1 &&& (3 : Int32)))))] [(.int (own_pos ((0 : Int32) + (own_r (p1 &&& (3 : Int32)))))), (.int (1 : Int32))])) _
    refine XS.iconst X10.here hx rfl (hb hby at_79) ?_
    show Steps p.tables e below (T10.setTop (mkF m 80 #[.val (.int p1), .val (.int p2), .val (.ref b3), .val (.ref b5), .val (.int (1 : Int32)), .val (.int ((0 : Int32) + (own_r (p1 &&& (3 : Int32)))))] [(.int (0 : Int32)), (.int (own_pos ((0 : Int32) + (own_r (p1 &&& (3 : Int32)))))), (.int (1 : Int32))])) _
    refine XS.icmpNo X10.here hx rfl (hb hby at_80) rfl (teq hc80).2 ?_
    show Steps p.tables e below (T10.setTop (mkF m 83 #[.val (.int p1), .val (.int p2), .val (.ref b3), .val (.ref b5), .val (.int (1 : Int32)), .val (.int ((0 : Int32) + (own_r (p1 &&& (3 : Int32)))))] [(.int (1 : Int32))])) _
    refine XS.iconst X10.here hx rfl (hb hby at_83) ?_
    show Steps p.tables e below (T10.setTop (mkF m 84 #[.val (.int p1), .val (.int p2), .val (.ref b3), .val (.ref b5), .val (.int (1 : Int32)), .val (.int ((0 : Int32) + (own_r (p1 &&& (3 : Int32)))))] [(.int (1 : Int32)), (.int (1 : Int32))])) _
    refine XS.goto X10.here hx rfl (pc0 := 84) (pc' := 88) rfl (hb hby at_84) (by decide) (by decide) ?_
    show Steps p.tables e below (T10.setTop (mkF m 88 #[.val (.int p1), .val (.int p2), .val (.ref b3), .val (.ref b5), .val (.int (1 : Int32)), .val (.int ((0 : Int32) + (own_r (p1 &&& (3 : Int32)))))] [(.int (1 : Int32)), (.int (1 : Int32))])) _
    refine XS.iand X10.here hx rfl (hb hby at_88) rfl ?_
    show Steps p.tables e below (T10.setTop (mkF m 89 #[.val (.int p1), .val (.int p2), .val (.ref b3), .val (.ref b5), .val (.int (1 : Int32)), .val (.int ((0 : Int32) + (own_r (p1 &&& (3 : Int32)))))] [(.int ((1 : Int32) &&& (1 : Int32)))])) _
    refine XS.istore X10.here hx rfl (hb hby at_89) rfl (l' := #[.val (.int p1), .val (.int p2), .val (.ref b3), .val (.ref b5), .val (.int ((1 : Int32) &&& (1 : Int32))), .val (.int ((0 : Int32) + (own_r (p1 &&& (3 : Int32)))))]) rfl ?_
    show Steps p.tables e below (T10.setTop (mkF m 91 #[.val (.int p1), .val (.int p2), .val (.ref b3), .val (.ref b5), .val (.int ((1 : Int32) &&& (1 : Int32))), .val (.int ((0 : Int32) + (own_r (p1 &&& (3 : Int32)))))] [])) _
    refine XS.iload X10.here hx rfl (hb hby at_91) rfl ?_
    show Steps p.tables e below (T10.setTop (mkF m 93 #[.val (.int p1), .val (.int p2), .val (.ref b3), .val (.ref b5), .val (.int ((1 : Int32) &&& (1 : Int32))), .val (.int ((0 : Int32) + (own_r (p1 &&& (3 : Int32)))))] [(.int ((0 : Int32) + (own_r (p1 &&& (3 : Int32)))))])) _
    refine XS.aloadN X10.here hx rfl (hb hby at_93) rfl rfl ?_
    show Steps p.tables e below (T10.setTop (mkF m 94 #[.val (.int p1), .val (.int p2), .val (.ref b3), .val (.ref b5), .val (.int ((1 : Int32) &&& (1 : Int32))), .val (.int ((0 : Int32) + (own_r (p1 &&& (3 : Int32)))))] [(.ref b3), (.int ((0 : Int32) + (own_r (p1 &&& (3 : Int32)))))])) _
    refine XS.aloadN X10.here hx rfl (hb hby at_94) rfl rfl ?_
    show Steps p.tables e below (T10.setTop (mkF m 95 #[.val (.int p1), .val (.int p2), .val (.ref b3), .val (.ref b5), .val (.int ((1 : Int32) &&& (1 : Int32))), .val (.int ((0 : Int32) + (own_r (p1 &&& (3 : Int32)))))] [(.ref b5), (.ref b3), (.int ((0 : Int32) + (own_r (p1 &&& (3 : Int32)))))])) _
    refine XS.iloadN X10.here hx rfl (hb hby at_95) rfl ?_
    show Steps p.tables e below (T10.setTop (mkF m 96 #[.val (.int p1), .val (.int p2), .val (.ref b3), .val (.ref b5), .val (.int ((1 : Int32) &&& (1 : Int32))), .val (.int ((0 : Int32) + (own_r (p1 &&& (3 : Int32)))))] [(.int p1), (.ref b5), (.ref b3), (.int ((0 : Int32) + (own_r (p1 &&& (3 : Int32)))))])) _
    refine XS.iconst X10.here hx rfl (hb hby at_96) ?_
    show Steps p.tables e below (T10.setTop (mkF m 97 #[.val (.int p1), .val (.int p2), .val (.ref b3), .val (.ref b5), .val (.int ((1 : Int32) &&& (1 : Int32))), .val (.int ((0 : Int32) + (own_r (p1 &&& (3 : Int32)))))] [(.int (2 : Int32)), (.int p1), (.ref b5), (.ref b3), (.int ((0 : Int32) + (own_r (p1 &&& (3 : Int32)))))])) _
    refine XS.iushr X10.here hx rfl (hb hby at_97) rfl ?_
    show Steps p.tables e below (T10.setTop (mkF m 98 #[.val (.int p1), .val (.int p2), .val (.ref b3), .val (.ref b5), .val (.int ((1 : Int32) &&& (1 : Int32))), .val (.int ((0 : Int32) + (own_r (p1 &&& (3 : Int32)))))] [(.int ((p1.toUInt32 >>> ((2 : Int32) &&& 31).toUInt32).toInt32)), (.ref b5), (.ref b3), (.int ((0 : Int32) + (own_r (p1 &&& (3 : Int32)))))])) _
    refine XS.iconst X10.here hx rfl (hb hby at_98) ?_
    show Steps p.tables e below (T10.setTop (mkF m 99 #[.val (.int p1), .val (.int p2), .val (.ref b3), .val (.ref b5), .val (.int ((1 : Int32) &&& (1 : Int32))), .val (.int ((0 : Int32) + (own_r (p1 &&& (3 : Int32)))))] [(.int (3 : Int32)), (.int ((p1.toUInt32 >>> ((2 : Int32) &&& 31).toUInt32).toInt32)), (.ref b5), (.ref b3), (.int ((0 : Int32) + (own_r (p1 &&& (3 : Int32)))))])) _
    refine XS.iand X10.here hx rfl (hb hby at_99) rfl ?_
    show Steps p.tables e below (T10.setTop (mkF m 100 #[.val (.int p1), .val (.int p2), .val (.ref b3), .val (.ref b5), .val (.int ((1 : Int32) &&& (1 : Int32))), .val (.int ((0 : Int32) + (own_r (p1 &&& (3 : Int32)))))] [(.int (((p1.toUInt32 >>> ((2 : Int32) &&& 31).toUInt32).toInt32) &&& (3 : Int32))), (.ref b5), (.ref b3), (.int ((0 : Int32) + (own_r (p1 &&& (3 : Int32)))))])) _
    refine st11.trans ?_
    show Steps p.tables e below (T11.setTop (mkF m 103 #[.val (.int p1), .val (.int p2), .val (.ref b3), .val (.ref b5), .val (.int ((1 : Int32) &&& (1 : Int32))), .val (.int ((0 : Int32) + (own_r (p1 &&& (3 : Int32)))))] [(.int (own_r (((p1.toUInt32 >>> ((2 : Int32) &&& 31).toUInt32).toInt32) &&& (3 : Int32)))), (.int ((0 : Int32) + (own_r (p1 &&& (3 : Int32)))))])) _
    refine XS.iadd X11.here hx rfl (hb hby at_103) rfl ?_
    show Steps p.tables e below (T11.setTop (mkF m 104 #[.val (.int p1), .val (.int p2), .val (.ref b3), .val (.ref b5), .val (.int ((1 : Int32) &&& (1 : Int32))), .val (.int ((0 : Int32) + (own_r (p1 &&& (3 : Int32)))))] [(.int (((0 : Int32) + (own_r (p1 &&& (3 : Int32)))) + (own_r (((p1.toUInt32 >>> ((2 : Int32) &&& 31).toUInt32).toInt32) &&& (3 : Int32)))))])) _
    refine XS.istore X11.here hx rfl (hb hby at_104) rfl (l' := #[.val (.int p1), .val (.int p2), .val (.ref b3), .val (.ref b5), .val (.int ((1 : Int32) &&& (1 : Int32))), .val (.int (((0 : Int32) + (own_r (p1 &&& (3 : Int32)))) + (own_r (((p1.toUInt32 >>> ((2 : Int32) &&& 31).toUInt32).toInt32) &&& (3 : Int32)))))]) rfl ?_
    show Steps p.tables e below (T11.setTop (mkF m 106 #[.val (.int p1), .val (.int p2), .val (.ref b3), .val (.ref b5), .val (.int ((1 : Int32) &&& (1 : Int32))), .val (.int (((0 : Int32) + (own_r (p1 &&& (3 : Int32)))) + (own_r (((p1.toUInt32 >>> ((2 : Int32) &&& 31).toUInt32).toInt32) &&& (3 : Int32)))))] [])) _
    refine XS.iload X11.here hx rfl (hb hby at_106) rfl ?_
    show Steps p.tables e below (T11.setTop (mkF m 108 #[.val (.int p1), .val (.int p2), .val (.ref b3), .val (.ref b5), .val (.int ((1 : Int32) &&& (1 : Int32))), .val (.int (((0 : Int32) + (own_r (p1 &&& (3 : Int32)))) + (own_r (((p1.toUInt32 >>> ((2 : Int32) &&& 31).toUInt32).toInt32) &&& (3 : Int32)))))] [(.int ((1 : Int32) &&& (1 : Int32)))])) _
    refine XS.aloadN X11.here hx rfl (hb hby at_108) rfl rfl ?_
    show Steps p.tables e below (T11.setTop (mkF m 109 #[.val (.int p1), .val (.int p2), .val (.ref b3), .val (.ref b5), .val (.int ((1 : Int32) &&& (1 : Int32))), .val (.int (((0 : Int32) + (own_r (p1 &&& (3 : Int32)))) + (own_r (((p1.toUInt32 >>> ((2 : Int32) &&& 31).toUInt32).toInt32) &&& (3 : Int32)))))] [(.ref b3), (.int ((1 : Int32) &&& (1 : Int32)))])) _
    refine st12.trans ?_
    show Steps p.tables e below (T12.setTop (mkF m 112 #[.val (.int p1), .val (.int p2), .val (.ref b3), .val (.ref b5), .val (.int ((1 : Int32) &&& (1 : Int32))), .val (.int (((0 : Int32) + (own_r (p1 &&& (3 : Int32)))) + (own_r (((p1.toUInt32 >>> ((2 : Int32) &&& 31).toUInt32).toInt32) &&& (3 : Int32)))))] [(.int (own_pos (((0 : Int32) + (own_r (p1 &&& (3 : Int32)))) + (own_r (((p1.toUInt32 >>> ((2 : Int32) &&& 31).toUInt32).toInt32) &&& (3 : Int32)))))), (.int ((1 : Int32) &&& (1 : Int32)))])) _
    refine XS.iload X12.here hx rfl (hb hby at_112) rfl ?_
    show Steps p.tables e below (T12.setTop (mkF m 114 #[.val (.int p1), .val (.int p2), .val (.ref b3), .val (.ref b5), .val (.int ((1 : Int32) &&& (1 : Int32))), .val (.int (((0 : Int32) + (own_r (p1 &&& (3 : Int32)))) + (own_r (((p1.toUInt32 >>> ((2 : Int32) &&& 31).toUInt32).toInt32) &&& (3 : Int32)))))] [(.int (((0 : Int32) + (own_r (p1 &&& (3 : Int32)))) + (own_r (((p1.toUInt32 >>> ((2 : Int32) &&& 31).toUInt32).toInt32) &&& (3 : Int32))))), (.int (own_pos (((0 : Int32) + (own_r (p1 &&& (3 : Int32)))) + (own_r (((p1.toUInt32 >>> ((2 : Int32) &&& 31).toUInt32).toInt32) &&& (3 : Int32)))))), (.int ((1 : Int32) &&& (1 : Int32)))])) _
    refine XS.ifNo X12.here hx rfl (hb hby at_114) rfl ((if0 _ _).trans (tlt hc114).2.2.2) ?_
    show Steps p.tables e below (T12.setTop (mkF m 117 #[.val (.int p1), .val (.int p2), .val (.ref b3), .val (.ref b5), .val (.int ((1 : Int32) &&& (1 : Int32))), .val (.int (((0 : Int32) + (own_r (p1 &&& (3 : Int32)))) + (own_r (((p1.toUInt32 >>> ((2 : Int32) &&& 31).toUInt32).toInt32) &&& (3 : Int32)))))] [(.int (own_pos (((0 : Int32) + (own_r (p1 &&& (3 : Int32)))) + (own_r (((p1.toUInt32 >>> ((2 : Int32) &&& 31).toUInt32).toInt32) &&& (3 : Int32)))))), (.int ((1 : Int32) &&& (1 : Int32)))])) _
    refine XS.iconst X12.here hx rfl (hb hby at_117) ?_
    show Steps p.tables e below (T12.setTop (mkF m 118 #[.val (.int p1), .val (.int p2), .val (.ref b3), .val (.ref b5), .val (.int ((1 : Int32) &&& (1 : Int32))), .val (.int (((0 : Int32) + (own_r (p1 &&& (3 : Int32)))) + (own_r (((p1.toUInt32 >>> ((2 : Int32) &&& 31).toUInt32).toInt32) &&& (3 : Int32)))))] [(.int (1 : Int32)), (.int (own_pos (((0 : Int32) + (own_r (p1 &&& (3 : Int32)))) + (own_r (((p1.toUInt32 >>> ((2 : Int32) &&& 31).toUInt32).toInt32) &&& (3 : Int32)))))), (.int ((1 : Int32) &&& (1 : Int32)))])) _
    refine XS.goto X12.here hx rfl (pc0 := 118) (pc' := 122) rfl (hb hby at_118) (by decide) (by decide) ?_
    show Steps p.tables e below (T12.setTop (mkF m 122 #[.val (.int p1), .val (.int p2), .val (.ref b3), .val (.ref b5), .val (.int ((1 : Int32) &&& (1 : Int32))), .val (.int (((0 : Int32) + (own_r (p1 &&& (3 : Int32)))) + (own_r (((p1.toUInt32 >>> ((2 : Int32) &&& 31).toUInt32).toInt32) &&& (3 : Int32)))))] [(.int (1 : Int32)), (.int (own_pos (((0 : Int32) + (own_r (p1 &&& (3 : Int32)))) + (own_r (((p1.toUInt32 >>> ((2 : Int32) &&& 31).toUInt32).toInt32) &&& (3 : Int32)))))), (.int ((1 : Int32) &&& (1 : Int32)))])) _
    refine XS.icmpNo X12.here hx rfl (hb hby at_122) rfl (teq hc122).2 ?_
    show Steps p.tables e below (T12.setTop (mkF m 125 #[.val (.int p1), .val (.int p2), .val (.ref b3), .val (.ref b5), .val (.int ((1 : Int32) &&& (1 : Int32))), .val (.int (((0 : Int32) + (own_r (p1 &&& (3 : Int32)))) + (own_r (((p1.toUInt32 >>> ((2 : Int32) &&& 31).toUInt32).toInt32) &&& (3 : Int32)))))] [(.int ((1 : Int32) &&& (1 : Int32)))])) _
    refine XS.iconst X12.here hx rfl (hb hby at_125) ?_
    show Steps p.tables e below (T12.setTop (mkF m 126 #[.val (.int p1), .val (.int p2), .val (.ref b3), .val (.ref b5), .val (.int ((1 : Int32) &&& (1 : Int32))), .val (.int (((0 : Int32) + (own_r (p1 &&& (3 : Int32)))) + (own_r (((p1.toUInt32 >>> ((2 : Int32) &&& 31).toUInt32).toInt32) &&& (3 : Int32)))))] [(.int (1 : Int32)), (.int ((1 : Int32) &&& (1 : Int32)))])) _
    refine XS.goto X12.here hx rfl (pc0 := 126) (pc' := 130) rfl (hb hby at_126) (by decide) (by decide) ?_
    show Steps p.tables e below (T12.setTop (mkF m 130 #[.val (.int p1), .val (.int p2), .val (.ref b3), .val (.ref b5), .val (.int ((1 : Int32) &&& (1 : Int32))), .val (.int (((0 : Int32) + (own_r (p1 &&& (3 : Int32)))) + (own_r (((p1.toUInt32 >>> ((2 : Int32) &&& 31).toUInt32).toInt32) &&& (3 : Int32)))))] [(.int (1 : Int32)), (.int ((1 : Int32) &&& (1 : Int32)))])) _
    refine XS.iand X12.here hx rfl (hb hby at_130) rfl ?_
    show Steps p.tables e below (T12.setTop (mkF m 131 #[.val (.int p1), .val (.int p2), .val (.ref b3), .val (.ref b5), .val (.int ((1 : Int32) &&& (1 : Int32))), .val (.int (((0 : Int32) + (own_r (p1 &&& (3 : Int32)))) + (own_r (((p1.toUInt32 >>> ((2 : Int32) &&& 31).toUInt32).toInt32) &&& (3 : Int32)))))] [(.int (((1 : Int32) &&& (1 : Int32)) &&& (1 : Int32)))])) _
    refine XS.istore X12.here hx rfl (hb hby at_131) rfl (l' := #[.val (.int p1), .val (.int p2), .val (.ref b3), .val (.ref b5), .val (.int (((1 : Int32) &&& (1 : Int32)) &&& (1 : Int32))), .val (.int (((0 : Int32) + (own_r (p1 &&& (3 : Int32)))) + (own_r (((p1.toUInt32 >>> ((2 : Int32) &&& 31).toUInt32).toInt32) &&& (3 : Int32)))))]) rfl ?_
    show Steps p.tables e below (T12.setTop (mkF m 133 #[.val (.int p1), .val (.int p2), .val (.ref b3), .val (.ref b5), .val (.int (((1 : Int32) &&& (1 : Int32)) &&& (1 : Int32))), .val (.int (((0 : Int32) + (own_r (p1 &&& (3 : Int32)))) + (own_r (((p1.toUInt32 >>> ((2 : Int32) &&& 31).toUInt32).toInt32) &&& (3 : Int32)))))] [])) _
    refine XS.iload X12.here hx rfl (hb hby at_133) rfl ?_
    show Steps p.tables e below (T12.setTop (mkF m 135 #[.val (.int p1), .val (.int p2), .val (.ref b3), .val (.ref b5), .val (.int (((1 : Int32) &&& (1 : Int32)) &&& (1 : Int32))), .val (.int (((0 : Int32) + (own_r (p1 &&& (3 : Int32)))) + (own_r (((p1.toUInt32 >>> ((2 : Int32) &&& 31).toUInt32).toInt32) &&& (3 : Int32)))))] [(.int (((0 : Int32) + (own_r (p1 &&& (3 : Int32)))) + (own_r (((p1.toUInt32 >>> ((2 : Int32) &&& 31).toUInt32).toInt32) &&& (3 : Int32)))))])) _
    refine XS.aloadN X12.here hx rfl (hb hby at_135) rfl rfl ?_
    show Steps p.tables e below (T12.setTop (mkF m 136 #[.val (.int p1), .val (.int p2), .val (.ref b3), .val (.ref b5), .val (.int (((1 : Int32) &&& (1 : Int32)) &&& (1 : Int32))), .val (.int (((0 : Int32) + (own_r (p1 &&& (3 : Int32)))) + (own_r (((p1.toUInt32 >>> ((2 : Int32) &&& 31).toUInt32).toInt32) &&& (3 : Int32)))))] [(.ref b3), (.int (((0 : Int32) + (own_r (p1 &&& (3 : Int32)))) + (own_r (((p1.toUInt32 >>> ((2 : Int32) &&& 31).toUInt32).toInt32) &&& (3 : Int32)))))])) _
    refine XS.aloadN X12.here hx rfl (hb hby at_136) rfl rfl ?_
    show Steps p.tables e below (T12.setTop (mkF m 137 #[.val (.int p1), .val (.int p2), .val (.ref b3), .val (.ref b5), .val (.int (((1 : Int32) &&& (1 : Int32)) &&& (1 : Int32))), .val (.int (((0 : Int32) + (own_r (p1 &&& (3 : Int32)))) + (own_r (((p1.toUInt32 >>> ((2 : Int32) &&& 31).toUInt32).toInt32) &&& (3 : Int32)))))] [(.ref b5), (.ref b3), (.int (((0 : Int32) + (own_r (p1 &&& (3 : Int32)))) + (own_r (((p1.toUInt32 >>> ((2 : Int32) &&& 31).toUInt32).toInt32) &&& (3 : Int32)))))])) _
    refine XS.iloadN X12.here hx rfl (hb hby at_137) rfl ?_
    show Steps p.tables e below (T12.setTop (mkF m 138 #[.val (.int p1), .val (.int p2), .val (.ref b3), .val (.ref b5), .val (.int (((1 : Int32) &&& (1 : Int32)) &&& (1 : Int32))), .val (.int (((0 : Int32) + (own_r (p1 &&& (3 : Int32)))) + (own_r (((p1.toUInt32 >>> ((2 : Int32) &&& 31).toUInt32).toInt32) &&& (3 : Int32)))))] [(.int p1), (.ref b5), (.ref b3), (.int (((0 : Int32) + (own_r (p1 &&& (3 : Int32)))) + (own_r (((p1.toUInt32 >>> ((2 : Int32) &&& 31).toUInt32).toInt32) &&& (3 : Int32)))))])) _
    refine XS.iconst X12.here hx rfl (hb hby at_138) ?_
    show Steps p.tables e below (T12.setTop (mkF m 139 #[.val (.int p1), .val (.int p2), .val (.ref b3), .val (.ref b5), .val (.int (((1 : Int32) &&& (1 : Int32)) &&& (1 : Int32))), .val (.int (((0 : Int32) + (own_r (p1 &&& (3 : Int32)))) + (own_r (((p1.toUInt32 >>> ((2 : Int32) &&& 31).toUInt32).toInt32) &&& (3 : Int32)))))] [(.int (4 : Int32)), (.int p1), (.ref b5), (.ref b3), (.int (((0 : Int32) + (own_r (p1 &&& (3 : Int32)))) + (own_r (((p1.toUInt32 >>> ((2 : Int32) &&& 31).toUInt32).toInt32) &&& (3 : Int32)))))])) _
    refine XS.iushr X12.here hx rfl (hb hby at_139) rfl ?_
    show Steps p.tables e below (T12.setTop (mkF m 140 #[.val (.int p1), .val (.int p2), .val (.ref b3), .val (.ref b5), .val (.int (((1 : Int32) &&& (1 : Int32)) &&& (1 : Int32))), .val (.int (((0 : Int32) + (own_r (p1 &&& (3 : Int32)))) + (own_r (((p1.toUInt32 >>> ((2 : Int32) &&& 31).toUInt32).toInt32) &&& (3 : Int32)))))] [(.int ((p1.toUInt32 >>> ((4 : Int32) &&& 31).toUInt32).toInt32)), (.ref b5), (.ref b3), (.int (((0 : Int32) + (own_r (p1 &&& (3 : Int32)))) + (own_r (((p1.toUInt32 >>> ((2 : Int32) &&& 31).toUInt32).toInt32) &&& (3 : Int32)))))])) _
    refine XS.iconst X12.here hx rfl (hb hby at_140) ?_
    show Steps p.tables e below (T12.setTop (mkF m 141 #[.val (.int p1), .val (.int p2), .val (.ref b3), .val (.ref b5), .val (.int (((1 : Int32) &&& (1 : Int32)) &&& (1 : Int32))), .val (.int (((0 : Int32) + (own_r (p1 &&& (3 : Int32)))) + (own_r (((p1.toUInt32 >>> ((2 : Int32) &&& 31).toUInt32).toInt32) &&& (3 : Int32)))))] [(.int (3 : Int32)), (.int ((p1.toUInt32 >>> ((4 : Int32) &&& 31).toUInt32).toInt32)), (.ref b5), (.ref b3), (.int (((0 : Int32) + (own_r (p1 &&& (3 : Int32)))) + (own_r (((p1.toUInt32 >>> ((2 : Int32) &&& 31).toUInt32).toInt32) &&& (3 : Int32)))))])) _
    refine XS.iand X12.here hx rfl (hb hby at_141) rfl ?_
    show Steps p.tables e below (T12.setTop (mkF m 142 #[.val (.int p1), .val (.int p2), .val (.ref b3), .val (.ref b5), .val (.int (((1 : Int32) &&& (1 : Int32)) &&& (1 : Int32))), .val (.int (((0 : Int32) + (own_r (p1 &&& (3 : Int32)))) + (own_r (((p1.toUInt32 >>> ((2 : Int32) &&& 31).toUInt32).toInt32) &&& (3 : Int32)))))] [(.int (((p1.toUInt32 >>> ((4 : Int32) &&& 31).toUInt32).toInt32) &&& (3 : Int32))), (.ref b5), (.ref b3), (.int (((0 : Int32) + (own_r (p1 &&& (3 : Int32)))) + (own_r (((p1.toUInt32 >>> ((2 : Int32) &&& 31).toUInt32).toInt32) &&& (3 : Int32)))))])) _
    refine st13.trans ?_
    show Steps p.tables e below (T13.setTop (mkF m 145 #[.val (.int p1), .val (.int p2), .val (.ref b3), .val (.ref b5), .val (.int (((1 : Int32) &&& (1 : Int32)) &&& (1 : Int32))), .val (.int (((0 : Int32) + (own_r (p1 &&& (3 : Int32)))) + (own_r (((p1.toUInt32 >>> ((2 : Int32) &&& 31).toUInt32).toInt32) &&& (3 : Int32)))))] [(.int (own_r (((p1.toUInt32 >>> ((4 : Int32) &&& 31).toUInt32).toInt32) &&& (3 : Int32)))), (.int (((0 : Int32) + (own_r (p1 &&& (3 : Int32)))) + (own_r (((p1.toUInt32 >>> ((2 : Int32) &&& 31).toUInt32).toInt32) &&& (3 : Int32)))))])) _
    refine XS.iadd X13.here hx rfl (hb hby at_145) rfl ?_
    show Steps p.tables e below (T13.setTop (mkF m 146 #[.val (.int p1), .val (.int p2), .val (.ref b3), .val (.ref b5), .val (.int (((1 : Int32) &&& (1 : Int32)) &&& (1 : Int32))), .val (.int (((0 : Int32) + (own_r (p1 &&& (3 : Int32)))) + (own_r (((p1.toUInt32 >>> ((2 : Int32) &&& 31).toUInt32).toInt32) &&& (3 : Int32)))))] [(.int ((((0 : Int32) + (own_r (p1 &&& (3 : Int32)))) + (own_r (((p1.toUInt32 >>> ((2 : Int32) &&& 31).toUInt32).toInt32) &&& (3 : Int32)))) + (own_r (((p1.toUInt32 >>> ((4 : Int32) &&& 31).toUInt32).toInt32) &&& (3 : Int32)))))])) _
    refine XS.istore X13.here hx rfl (hb hby at_146) rfl (l' := #[.val (.int p1), .val (.int p2), .val (.ref b3), .val (.ref b5), .val (.int (((1 : Int32) &&& (1 : Int32)) &&& (1 : Int32))), .val (.int ((((0 : Int32) + (own_r (p1 &&& (3 : Int32)))) + (own_r (((p1.toUInt32 >>> ((2 : Int32) &&& 31).toUInt32).toInt32) &&& (3 : Int32)))) + (own_r (((p1.toUInt32 >>> ((4 : Int32) &&& 31).toUInt32).toInt32) &&& (3 : Int32)))))]) rfl ?_
    show Steps p.tables e below (T13.setTop (mkF m 148 #[.val (.int p1), .val (.int p2), .val (.ref b3), .val (.ref b5), .val (.int (((1 : Int32) &&& (1 : Int32)) &&& (1 : Int32))), .val (.int ((((0 : Int32) + (own_r (p1 &&& (3 : Int32)))) + (own_r (((p1.toUInt32 >>> ((2 : Int32) &&& 31).toUInt32).toInt32) &&& (3 : Int32)))) + (own_r (((p1.toUInt32 >>> ((4 : Int32) &&& 31).toUInt32).toInt32) &&& (3 : Int32)))))] [])) _
    refine XS.iload X13.here hx rfl (hb hby at_148) rfl ?_
    show Steps p.tables e below (T13.setTop (mkF m 150 #[.val (.int p1), .val (.int p2), .val (.ref b3), .val (.ref b5), .val (.int (((1 : Int32) &&& (1 : Int32)) &&& (1 : Int32))), .val (.int ((((0 : Int32) + (own_r (p1 &&& (3 : Int32)))) + (own_r (((p1.toUInt32 >>> ((2 : Int32) &&& 31).toUInt32).toInt32) &&& (3 : Int32)))) + (own_r (((p1.toUInt32 >>> ((4 : Int32) &&& 31).toUInt32).toInt32) &&& (3 : Int32)))))] [(.int (((1 : Int32) &&& (1 : Int32)) &&& (1 : Int32)))])) _
    refine XS.aloadN X13.here hx rfl (hb hby at_150) rfl rfl ?_
    show Steps p.tables e below (T13.setTop (mkF m 151 #[.val (.int p1), .val (.int p2), .val (.ref b3), .val (.ref b5), .val (.int (((1 : Int32) &&& (1 : Int32)) &&& (1 : Int32))), .val (.int ((((0 : Int32) + (own_r (p1 &&& (3 : Int32)))) + (own_r (((p1.toUInt32 >>> ((2 : Int32) &&& 31).toUInt32).toInt32) &&& (3 : Int32)))) + (own_r (((p1.toUInt32 >>> ((4 : Int32) &&& 31).toUInt32).toInt32) &&& (3 : Int32)))))] [(.ref b3), (.int (((1 : Int32) &&& (1 : Int32)) &&& (1 : Int32)))])) _
    refine st14.trans ?_
    show Steps p.tables e below (T14.setTop (mkF m 154 #[.val (.int p1), .val (.int p2), .val (.ref b3), .val (.ref b5), .val (.int (((1 : Int32) &&& (1 : Int32)) &&& (1 : Int32))), .val (.int ((((0 : Int32) + (own_r (p1 &&& (3 : Int32)))) + (own_r (((p1.toUInt32 >>> ((2 : Int32) &&& 31).toUInt32).toInt32) &&& (3 : Int32)))) + (own_r (((p1.toUInt32 >>> ((4 : Int32) &&& 31).toUInt32).toInt32) &&& (3 : Int32)))))] [(.int (own_pos ((((0 : Int32) + (own_r (p1 &&& (3 : Int32)))) + (own_r (((p1.toUInt32 >>> ((2 : Int32) &&& 31).toUInt32).toInt32) &&& (3 : Int32)))) + (own_r (((p1.toUInt32 >>> ((4 : Int32) &&& 31).toUInt32).toInt32) &&& (3 : Int32)))))), (.int (((1 : Int32) &&& (1 : Int32)) &&& (1 : Int32)))])) _
    refine XS.iload X14.here hx rfl (hb hby at_154) rfl ?_
    show Steps p.tables e below (T14.setTop (mkF m 156 #[.val (.int p1), .val (.int p2), .val (.ref b3), .val (.ref b5), .val (.int (((1 : Int32) &&& (1 : Int32)) &&& (1 : Int32))), .val (.int ((((0 : Int32) + (own_r (p1 &&& (3 : Int32)))) + (own_r (((p1.toUInt32 >>> ((2 : Int32) &&& 31).toUInt32).toInt32) &&& (3 : Int32)))) + (own_r (((p1.toUInt32 >>> ((4 : Int32) &&& 31).toUInt32).toInt32) &&& (3 : Int32)))))] [(.int ((((0 : Int32) + (own_r (p1 &&& (3 : Int32)))) + (own_r (((p1.toUInt32 >>> ((2 : Int32) &&& 31).toUInt32).toInt32) &&& (3 : Int32)))) + (own_r (((p1.toUInt32 >>> ((4 : Int32) &&& 31).toUInt32).toInt32) &&& (3 : Int32))))), (.int (own_pos ((((0 : Int32) + (own_r (p1 &&& (3 : Int32)))) + (own_r (((p1.toUInt32 >>> ((2 : Int32) &&& 31).toUInt32).toInt32) &&& (3 : Int32)))) + (own_r (((p1.toUInt32 >>> ((4 : Int32) &&& 31).toUInt32).toInt32) &&& (3 : Int32)))))), (.int (((1 : Int32) &&& (1 : Int32)) &&& (1 : Int32)))])) _
    refine XS.ifNo X14.here hx rfl (hb hby at_156) rfl ((if0 _ _).trans (tlt hc156).2.2.2) ?_
    show Steps p.tables e below (T14.setTop (mkF m 159 #[.val (.int p1), .val (.int p2), .val (.ref b3), .val (.ref b5), .val (.int (((1 : Int32) &&& (1 : Int32)) &&& (1 : Int32))), .val (.int ((((0 : Int32) + (own_r (p1 &&& (3 : Int32)))) + (own_r (((p1.toUInt32 >>> ((2 : Int32) &&& 31).toUInt32).toInt32) &&& (3 : Int32)))) + (own_r (((p1.toUInt32 >>> ((4 : Int32) &&& 31).toUInt32).toInt32) &&& (3 : Int32)))))] [(.int (own_pos ((((0 : Int32) + (own_r (p1 &&& (3 : Int32)))) + (own_r (((p1.toUInt32 >>> ((2 : Int32) &&& 31).toUInt32).toInt32) &&& (3 : Int32)))) + (own_r (((p1.toUInt32 >>> ((4 : Int32) &&& 31).toUInt32).toInt32) &&& (3 : Int32)))))), (.int (((1 : Int32) &&& (1 : Int32)) &&& (1 : Int32)))])) _
    refine XS.iconst X14.here hx rfl (hb hby at_159) ?_
    show Steps p.tables e below (T14.setTop (mkF m 160 #[.val (.int p1), .val (.int p2), .val (.ref b3), .val (.ref b5), .val (.int (((1 : Int32) &&& (1 : Int32)) &&& (1 : Int32))), .val (.int ((((0 : Int32) + (own_r (p1 &&& (3 : Int32)))) + (own_r (((p1.toUInt32 >>> ((2 : Int32) &&& 31).toUInt32).toInt32) &&& (3 : Int32)))) + (own_r (((p1.toUInt32 >>> ((4 : Int32) &&& 31).toUInt32).toInt32) &&& (3 : Int32)))))] [(.int (1 : Int32)), (.int (own_pos ((((0 : Int32) + (own_r (p1 &&& (3 : Int32)))) + (own_r (((p1.toUInt32 >>> ((2 : Int32) &&& 31).toUInt32).toInt32) &&& (3 : Int32)))) + (own_r (((p1.toUInt32 >>> ((4 : Int32) &&& 31).toUInt32).toInt32) &&& (3 : Int32)))))), (.int (((1 : Int32) &&& (1 : Int32)) &&& (1 : Int32)))])) _
    refine XS.goto X14.here hx rfl (pc0 := 160) (pc' := 164) rfl (hb hby at_160) (by decide) (by decide) ?_
    show Steps p.tables e below (T14.setTop (mkF m 164 #[.val (.int p1), .val (.int p2), .val (.ref b3), .val (.ref b5), .val (.int (((1 : Int32) &&& (1 : Int32)) &&& (1 : Int32))), .val (.int ((((0 : Int32) + (own_r (p1 &&& (3 : Int32)))) + (own_r (((p1.toUInt32 >>> ((2 : Int32) &&& 31).toUInt32).toInt32) &&& (3 : Int32)))) + (own_r (((p1.toUInt32 >>> ((4 : Int32) &&& 31).toUInt32).toInt32) &&& (3 : Int32)))))] [(.int (1 : Int32)), (.int (own_pos ((((0 : Int32) + (own_r (p1 &&& (3 : Int32)))) + (own_r (((p1.toUInt32 >>> ((2 : Int32) &&& 31).toUInt32).toInt32) &&& (3 : Int32)))) + (own_r (((p1.toUInt32 >>> ((4 : Int32) &&& 31).toUInt32).toInt32) &&& (3 : Int32)))))), (.int (((1 : Int32) &&& (1 : Int32)) &&& (1 : Int32)))])) _
    refine XS.icmpNo X14.here hx rfl (hb hby at_164) rfl (teq hc164).2 ?_
    show Steps p.tables e below (T14.setTop (mkF m 167 #[.val (.int p1), .val (.int p2), .val (.ref b3), .val (.ref b5), .val (.int (((1 : Int32) &&& (1 : Int32)) &&& (1 : Int32))), .val (.int ((((0 : Int32) + (own_r (p1 &&& (3 : Int32)))) + (own_r (((p1.toUInt32 >>> ((2 : Int32) &&& 31).toUInt32).toInt32) &&& (3 : Int32)))) + (own_r (((p1.toUInt32 >>> ((4 : Int32) &&& 31).toUInt32).toInt32) &&& (3 : Int32)))))] [(.int (((1 : Int32) &&& (1 : Int32)) &&& (1 : Int32)))])) _
    refine XS.iconst X14.here hx rfl (hb hby at_167) ?_
    show Steps p.tables e below (T14.setTop (mkF m 168 #[.val (.int p1), .val (.int p2), .val (.ref b3), .val (.ref b5), .val (.int (((1 : Int32) &&& (1 : Int32)) &&& (1 : Int32))), .val (.int ((((0 : Int32) + (own_r (p1 &&& (3 : Int32)))) + (own_r (((p1.toUInt32 >>> ((2 : Int32) &&& 31).toUInt32).toInt32) &&& (3 : Int32)))) + (own_r (((p1.toUInt32 >>> ((4 : Int32) &&& 31).toUInt32).toInt32) &&& (3 : Int32)))))] [(.int (1 : Int32)), (.int (((1 : Int32) &&& (1 : Int32)) &&& (1 : Int32)))])) _
    refine XS.goto X14.here hx rfl (pc0 := 168) (pc' := 172) rfl (hb hby at_168) (by decide) (by decide) ?_
    show Steps p.tables e below (T14.setTop (mkF m 172 #[.val (.int p1), .val (.int p2), .val (.ref b3), .val (.ref b5), .val (.int (((1 : Int32) &&& (1 : Int32)) &&& (1 : Int32))), .val (.int ((((0 : Int32) + (own_r (p1 &&& (3 : Int32)))) + (own_r (((p1.toUInt32 >>> ((2 : Int32) &&& 31).toUInt32).toInt32) &&& (3 : Int32)))) + (own_r (((p1.toUInt32 >>> ((4 : Int32) &&& 31).toUInt32).toInt32) &&& (3 : Int32)))))] [(.int (1 : Int32)), (.int (((1 : Int32) &&& (1 : Int32)) &&& (1 : Int32)))])) _
    refine XS.iand X14.here hx rfl (hb hby at_172) rfl ?_
    show Steps p.tables e below (T14.setTop (mkF m 173 #[.val (.int p1), .val (.int p2), .val (.ref b3), .val (.ref b5), .val (.int (((1 : Int32) &&& (1 : Int32)) &&& (1 : Int32))), .val (.int ((((0 : Int32) + (own_r (p1 &&& (3 : Int32)))) + (own_r (((p1.toUInt32 >>> ((2 : Int32) &&& 31).toUInt32).toInt32) &&& (3 : Int32)))) + (own_r (((p1.toUInt32 >>> ((4 : Int32) &&& 31).toUInt32).toInt32) &&& (3 : Int32)))))] [(.int ((((1 : Int32) &&& (1 : Int32)) &&& (1 : Int32)) &&& (1 : Int32)))])) _
    refine XS.istore X14.here hx rfl (hb hby at_173) rfl (l' := #[.val (.int p1), .val (.int p2), .val (.ref b3), .val (.ref b5), .val (.int ((((1 : Int32) &&& (1 : Int32)) &&& (1 : Int32)) &&& (1 : Int32))), .val (.int ((((0 : Int32) + (own_r (p1 &&& (3 : Int32)))) + (own_r (((p1.toUInt32 >>> ((2 : Int32) &&& 31).toUInt32).toInt32) &&& (3 : Int32)))) + (own_r (((p1.toUInt32 >>> ((4 : Int32) &&& 31).toUInt32).toInt32) &&& (3 : Int32)))))]) rfl ?_
    show Steps p.tables e below (T14.setTop (mkF m 175 #[.val (.int p1), .val (.int p2), .val (.ref b3), .val (.ref b5), .val (.int ((((1 : Int32) &&& (1 : Int32)) &&& (1 : Int32)) &&& (1 : Int32))), .val (.int ((((0 : Int32) + (own_r (p1 &&& (3 : Int32)))) + (own_r (((p1.toUInt32 >>> ((2 : Int32) &&& 31).toUInt32).toInt32) &&& (3 : Int32)))) + (own_r (((p1.toUInt32 >>> ((4 : Int32) &&& 31).toUInt32).toInt32) &&& (3 : Int32)))))] [])) _
    refine XS.iload X14.here hx rfl (hb hby at_175) rfl ?_
    show Steps p.tables e below (T14.setTop (mkF m 177 #[.val (.int p1), .val (.int p2), .val (.ref b3), .val (.ref b5), .val (.int ((((1 : Int32) &&& (1 : Int32)) &&& (1 : Int32)) &&& (1 : Int32))), .val (.int ((((0 : Int32) + (own_r (p1 &&& (3 : Int32)))) + (own_r (((p1.toUInt32 >>> ((2 : Int32) &&& 31).toUInt32).toInt32) &&& (3 : Int32)))) + (own_r (((p1.toUInt32 >>> ((4 : Int32) &&& 31).toUInt32).toInt32) &&& (3 : Int32)))))] [(.int ((((1 : Int32) &&& (1 : Int32)) &&& (1 : Int32)) &&& (1 : Int32)))])) _
    exact retN X14 hx (t := .boolean) Bd.returns (by simp) (hb hby at_177) hr
  · show Q0 Z p1 p2 h0 n0 _ T14.heap _
    rw [e14c]
    exact ⟨rfl, N14⟩
  · show CHr Z EL s.vm s.heap T14.vm T14.heap
    rw [hh, e14c]
    exact RZ
set_option maxRecDepth 65536 in
set_option maxHeartbeats 40000000 in
theorem rm0D (l : Launch) (Z : State) (a0 : Array Value) (hw : ∀ d ∈ tables_1, d.before a0 Z = true) (ws : List Jvm.Cond) (p1 : Int32) (p2 : Int32) (wD : Addr) (clD : Cell) (wA : Addr) (pv : Int32) (clA : Cell) (wC : Int32) (wI : Addr) (wE : Addr) (wW : Addr) (hEL : EW Z a0 EL) (h0 : Heap) (n0 : Nat) (Z0 : n0 ≤ h0.size) (O0 : Old Z n0 h0) (Wl : Wld Z wD clD wA pv clA wC wI wE wW) (S_D : Sta Z Z.heap "java/util/ArrayList" "DEFAULTCAPACITY_EMPTY_ELEMENTDATA" "[Ljava/lang/Object;" (.ref wD)) (hp3 : ¬ (((p2 &&& (65535 : Int32)) + (1 : Int32)) < (1 : Int32))) (hp4 : ¬ (((((p2.toUInt32 >>> ((16 : Int32) &&& 31).toUInt32).toInt32) &&& (32767 : Int32)) + (1 : Int32)) < (1 : Int32))) (hc38 : (own_pos (0 : Int32)) = (0 : Int32)) (hc72 : (0 : Int32) < ((0 : Int32) + (own_r (p1 &&& (3 : Int32))))) (hc80 : (own_pos ((0 : Int32) + (own_r (p1 &&& (3 : Int32))))) = (1 : Int32)) (hc114 : (0 : Int32) < (((0 : Int32) + (own_r (p1 &&& (3 : Int32)))) + (own_r (((p1.toUInt32 >>> ((2 : Int32) &&& 31).toUInt32).toInt32) &&& (3 : Int32))))) (hc122 : (own_pos (((0 : Int32) + (own_r (p1 &&& (3 : Int32)))) + (own_r (((p1.toUInt32 >>> ((2 : Int32) &&& 31).toUInt32).toInt32) &&& (3 : Int32))))) = (1 : Int32)) (hc156 : (0 : Int32) < ((((0 : Int32) + (own_r (p1 &&& (3 : Int32)))) + (own_r (((p1.toUInt32 >>> ((2 : Int32) &&& 31).toUInt32).toInt32) &&& (3 : Int32)))) + (own_r (((p1.toUInt32 >>> ((4 : Int32) &&& 31).toUInt32).toInt32) &&& (3 : Int32))))) (hc164 : (own_pos ((((0 : Int32) + (own_r (p1 &&& (3 : Int32)))) + (own_r (((p1.toUInt32 >>> ((2 : Int32) &&& 31).toUInt32).toInt32) &&& (3 : Int32)))) + (own_r (((p1.toUInt32 >>> ((4 : Int32) &&& 31).toUInt32).toInt32) &&& (3 : Int32))))) = (1 : Int32)) :
    MetFree l x (head1 (Jvm.Cond.code x code maxLocals ret :: ws) room_1) (fun a U => a = #[(.int p1), (.int p2)] ∧ Z.Warmed39 U.vm ∧ U.heap = h0 ∧ CHv Z EL U.vm h0) (fun _ _ _ _ _ => True) (fun _ U o U' => ∃ v L, o = .returned v ∧ Q0 Z p1 p2 h0 n0 v U'.heap L ∧ CHr Z EL U.vm U.heap U'.vm U'.heap ∧ ReturnedEndW U o U' L room_1.cells room_1.slots) := by
  refine MetFree.of_bodySF (plainFor_of_name pn_0) hisR ?_
  intro p e s m args below meth c s₁ Bd hml0 hP hK
  obtain ⟨rfl, hZ, hh, C0⟩ := hP
  have hx := Bd.exec
  have hby := Bd.bytes
  have hml : c.maxLocals = 6 := hml0
  have hown : s.vm.findClass "com/example/stomme/stomme/diagnostic/DiagnosticsHasErrorsPinLaw" = some m.cls := findClass_of_methodNamed Bd.named
  have hnm := (name_of_methodNamed Bd.named Bd.method).1
  have X0 : Stand p l e room_1 (s.setVm s.vm) m #[(.int p1), (.int p2)] below meth c s₁ [] 0 0 := Stand.of_body Bd
  have e0 : s₁.heap = h0 := by rw [← hh, Bd.state]; rfl
  have N0 := Fr.nil n0
  have hS0 := own_since s 0
  have wS := own_strs hw
  have pre0 : ∀ t, Steps p.tables e below (s₁.setTop (mkF m 0 #[.val (.int p1), .val (.int p2), .unset, .unset, .unset, .unset] [])) t → Steps p.tables e below (s₁.setTop (entryFrame m #[(.int p1), (.int p2)] maxLocals)) t := fun t k => castTop (ef_0 m p1 p2) k
  obtain ⟨T3, h3, X3, e3, E3, A3, D3, -, st3⟩ := newO X0 hx hZ hown (hw _ (List.mem_of_getElem? (i := 0) rfl)) (hw _ (List.mem_of_getElem? (i := 1) rfl)) (hw _ (List.mem_of_getElem? (i := 2) rfl)) e0 (g := (mkF m 0 #[.val (.int p1), .val (.int p2), .unset, .unset, .unset, .unset] [])) rfl (hb hby at_0) (by decide) (by decide)
  obtain ⟨b3, g3⟩ : ∃ z, z = h0.size := ⟨_, rfl⟩
  rw [← g3] at A3 D3 st3
  have F_reported_b3 : Fld Z h3 b3 "com/example/stomme/stomme/diagnostic/Diagnostics" "reported" "Ljava/util/List;" .null := D3 (Or.inr (hw _ (List.mem_of_getElem? (i := 34) rfl))) (ty := (.object "java/util/List")) (by decide)
  have F_errors_b3 : Fld Z h3 b3 "com/example/stomme/stomme/diagnostic/Diagnostics" "errors" "I" (.int (0 : Int32)) := D3 (Or.inl (hw _ (List.mem_of_getElem? (i := 73) rfl))) (ty := .int) (by decide)
  have E_b3 := A3
  have g_b3 : n0 ≤ b3 := Nat.le_trans Z0 (Nat.le_of_eq g3.symm)
  have sz_b3 : h0.size ≤ b3 := (Nat.le_trans (Keep.refl h0 []).1 (Nat.le_of_eq g3.symm))
  have C3 := CHv.ext E3 C0
  have R3 := (CHr.refl C0).trans (CHr.ext E3 C0)
  have K3 : Keep h0 h3 [] := (Keep.refl h0 []).ext E3
  obtain ⟨_, _, ⟨T4, L4, k4, n4⟩, -, X4, ⟨Lc4, hQ4, l4, y4, z4⟩, st4⟩ := X3.specialBack hx (y := (⟨"com/example/stomme/stomme/diagnostic/Diagnostics", "<init>", "()V"⟩ : MethodName)) rfl hown (mvT hZ (hw _ (List.mem_of_getElem? (i := 3) rfl))) (mvT hZ (hw _ (List.mem_of_getElem? (i := 4) rfl))) (mvT hZ (hw _ (List.mem_of_getElem? (i := 5) rfl))) (by decide) (backOf (W := 1) (rm1 l Z a0 hw [] b3 _ wD h3 n0 (Nat.le_trans Z0 E3.1) E_b3 F_errors_b3 F_reported_b3 g_b3 (O0.ext E3) S_D) hZ (hw _ (List.mem_of_getElem? (i := 5) rfl)) (hw _ (List.mem_of_getElem? (i := 2) rfl)) (by decide) (by decide)) (g := (mkF m 4 #[.val (.int p1), .val (.int p2), .unset, .unset, .unset, .unset] [(.ref b3), (.ref b3)])) rfl (by rw [hml]; rfl) (Steps.refl _) (a := b3) (argsL := []) (rest := [(.ref b3)]) (lenOf pd_0_0 rfl) rfl (by show 2 * 0 + _ ≤ _; exact Nat.le_of_eq rfl) (hb hby at_4) (fun _ _ => ⟨rfl, e3, (by decide : 1 + 1 ≤ _), (by decide : 2 + 3 ≤ _)⟩)
  dsimp only [Pt.U, Pt.locs, Pt.cells, Pt.slots] at X4 l4 y4 z4 st4 hQ4
  subst l4 y4 z4
  obtain ⟨rfl, N4q, K4c, Ed4, Fd4, al, g_al, Fr4, Ea4, Fm4, Fe4, Fs4⟩ := hQ4
  have N4 := Fr.app N0 N4q
  have K4 : Keep h0 T4.heap [] := K3.trans K4c (allS (Or.inr sz_b3) all0)
  have C4 := CHv.keep K4c (sfS (Safe.exa hZ.alike E_b3 (by decide) (by decide)) sf0) C3
  have R4 := R3.trans (CHr.keep K4c (sfS (Safe.exa hZ.alike E_b3 (by decide) (by decide)) sf0) C3)
  obtain ⟨T5, h5, X5, e5, E5, A5, D5, -, st5⟩ := newO X4 hx hZ hown (hw _ (List.mem_of_getElem? (i := 35) rfl)) (hw _ (List.mem_of_getElem? (i := 36) rfl)) (hw _ (List.mem_of_getElem? (i := 37) rfl)) rfl (g := (mkF m 8 #[.val (.int p1), .val (.int p2), .val (.ref b3), .unset, .unset, .unset] [])) rfl (hb hby at_8) (by decide) (by decide)
  obtain ⟨b5, g5⟩ : ∃ z, z = T4.heap.size := ⟨_, rfl⟩
  rw [← g5] at A5 D5 st5
  have F_file_b5 : Fld Z h5 b5 "com/example/stomme/stomme/diagnostic/Position" "file" "Ljava/lang/String;" .null := D5 (Or.inr (hw _ (List.mem_of_getElem? (i := 62) rfl))) (ty := (.object "java/lang/String")) (by decide)
  have F_line_b5 : Fld Z h5 b5 "com/example/stomme/stomme/diagnostic/Position" "line" "I" (.int (0 : Int32)) := D5 (Or.inr (hw _ (List.mem_of_getElem? (i := 64) rfl))) (ty := .int) (by decide)
  have F_column_b5 : Fld Z h5 b5 "com/example/stomme/stomme/diagnostic/Position" "column" "I" (.int (0 : Int32)) := D5 (Or.inr (hw _ (List.mem_of_getElem? (i := 66) rfl))) (ty := .int) (by decide)
  have E_b5 := A5
  have g_b5 : n0 ≤ b5 := Nat.le_trans (Nat.le_trans (Nat.le_trans Z0 E3.1) K4c.1) (Nat.le_of_eq g5.symm)
  have sz_b5 : h0.size ≤ b5 := (Nat.le_trans K4.1 (Nat.le_of_eq g5.symm))
  have C5 := CHv.ext E5 C4
  have R5 := R4.trans (CHr.ext E5 C4)
  have K5 : Keep h0 h5 [] := K4.ext E5
  obtain ⟨b6, T6, h6, kk6, X6, e6, E6, hS6, hk6, hZ6, hown6, RQ6, -, st6⟩ := ldcOH X5 hx hZ hown (hw _ (List.mem_of_getElem? (i := 38) rfl)) wS e5 hS0 (Nat.le_trans (Nat.le_trans (Nat.le_trans (Nat.zero_le _) E3.1) K4c.1) E5.1) hEL C5 (g := (mkF m 12 #[.val (.int p1), .val (.int p2), .val (.ref b3), .unset, .unset, .unset] [(.ref b5), (.ref b5)])) rfl (hb hby at_12) (n := 4) (by decide) (by decide) (by decide) (by decide)
  have C6 := RQ6.1
  have R6 := R5.trans RQ6
  have K6 : Keep h0 h6 [] := K5.ext E6
  obtain ⟨_, _, ⟨T7, L7, k7, n7⟩, -, X7, hS7, gr7, ⟨Lc7, hQ7, l7, y7, z7, RQ7⟩, st7⟩ := X6.specialBackS hx (y := (⟨"com/example/stomme/stomme/diagnostic/Position", "<init>", "(Ljava/lang/String;II)V"⟩ : MethodName)) rfl hown6 (mvT hZ6 (hw _ (List.mem_of_getElem? (i := 47) rfl))) (mvT hZ6 (hw _ (List.mem_of_getElem? (i := 48) rfl))) (mvT hZ6 (hw _ (List.mem_of_getElem? (i := 49) rfl))) (by decide) (backOfSH (W := 1) (rm6 l Z a0 hw [] b5 b6 ((p2 &&& (65535 : Int32)) + (1 : Int32)) ((((p2.toUInt32 >>> ((16 : Int32) &&& 31).toUInt32).toInt32) &&& (32767 : Int32)) + (1 : Int32)) _ _ _ hEL h6 n0 (Nat.le_trans (Nat.le_trans (Nat.le_trans (Nat.le_trans Z0 E3.1) K4c.1) E5.1) E6.1) (E_b5.ext E6) (F_file_b5.ext E6) g_b5 (F_line_b5.ext E6) (F_column_b5.ext E6) hp3 hp4) hZ6 (hw _ (List.mem_of_getElem? (i := 49) rfl)) (hw _ (List.mem_of_getElem? (i := 37) rfl)) (by decide) (by decide) hEL C6) (g := (mkF m 30 #[.val (.int p1), .val (.int p2), .val (.ref b3), .unset, .unset, .unset] [(.int ((((p2.toUInt32 >>> ((16 : Int32) &&& 31).toUInt32).toInt32) &&& (32767 : Int32)) + (1 : Int32))), (.int ((p2 &&& (65535 : Int32)) + (1 : Int32))), (.ref b6), (.ref b5), (.ref b5)])) rfl (by rw [hml]; rfl) (Steps.refl _) (a := b5) (argsL := [(.ref b6), (.int ((p2 &&& (65535 : Int32)) + (1 : Int32))), (.int ((((p2.toUInt32 >>> ((16 : Int32) &&& 31).toUInt32).toInt32) &&& (32767 : Int32)) + (1 : Int32)))]) (rest := [(.ref b5)]) (lenOf pd_0_1 rfl) rfl (by show 2 * 0 + _ ≤ _; exact Nat.le_of_eq rfl) (hb hby at_30) (fun _ _ => ⟨rfl, e6, (by decide : 5 + 2 ≤ _), (by decide : 16 + 20 ≤ _)⟩)
  dsimp only [Pt.U, Pt.locs, Pt.cells, Pt.slots] at X7 hS7 gr7 l7 y7 z7 st7 hQ7 RQ7
  subst l7 y7 z7
  obtain ⟨rfl, N7q, K7c, Ep7⟩ := hQ7
  have N7 := Fr.app N4 N7q
  have K7 : Keep h0 T7.heap [] := K6.trans K7c (allS (Or.inr sz_b5) all0)
  obtain ⟨X7, hS7, hZ7, hown7⟩ := rebS hS6 (by rw [e6]; exact hk6) X7 hS7 gr7 hZ6 hown6
  have C7 := RQ7.1
  have R7 := R6.trans RQ7
  obtain ⟨cq8, kq8, q8a, q8b, q8c⟩ := isOf hZ7 rfl (((Ed4.ext E5).ext E6).keep K7c)
  obtain ⟨_, _, ⟨T8, L8, k8, n8⟩, -, X8, ⟨Lc8, hQ8, l8, y8, z8⟩, st8⟩ := X7.virtualBack hx (y := (⟨"com/example/stomme/stomme/diagnostic/Diagnostics", "hasErrors", "()Z"⟩ : MethodName)) (z := (⟨"com/example/stomme/stomme/diagnostic/Diagnostics", "hasErrors", "()Z"⟩ : MethodName)) hown7 (mvT hZ7 (hw _ (List.mem_of_getElem? (i := 67) rfl))) (mvT hZ7 (hw _ (List.mem_of_getElem? (i := 68) rfl))) (notFace_of_selects (args := #[]) (mvT hZ7 (hw _ (List.mem_of_getElem? (i := 70) rfl)))) (mvT hZ7 (hw _ (List.mem_of_getElem? (i := 70) rfl))) (mvT hZ7 (hw _ (List.mem_of_getElem? (i := 69) rfl))) (by decide) (backOf (W := 0) (rm9 l Z a0 hw [] b3 (0 : Int32) T7.heap n0 (Nat.le_trans (Nat.le_trans (Nat.le_trans (Nat.le_trans (Nat.le_trans Z0 E3.1) K4c.1) E5.1) E6.1) K7c.1) (((Fd4.ext E5).ext E6).keep K7c (ninS (Nat.ne_of_lt (Nat.lt_of_lt_of_le Ed4.lt (Nat.le_of_eq g5.symm))) nin0))) hZ7 (hw _ (List.mem_of_getElem? (i := 71) rfl)) (hw _ (List.mem_of_getElem? (i := 2) rfl)) (by decide) (by decide)) q8a q8c (g := (mkF m 35 #[.val (.int p1), .val (.int p2), .val (.ref b3), .val (.ref b5), .unset, .unset] [(.ref b3)])) rfl (by rw [hml]; rfl) (Steps.refl _) (argsL := []) (rest := []) (lenOf pd_0_3 rfl) rfl (by show 2 * 0 + _ ≤ _; exact Nat.le_of_eq rfl) (hb hby at_35) (fun _ _ => ⟨rfl, rfl, (by decide : 7 + 0 ≤ _), (by decide : 36 + 0 ≤ _)⟩)
  dsimp only [Pt.U, Pt.locs, Pt.cells, Pt.slots] at X8 l8 y8 z8 st8 hQ8
  subst l8 y8 z8
  obtain ⟨rfl, N8q, e8c⟩ := hQ8
  have N8 := Fr.app N7 N8q
  obtain ⟨_, _, ⟨T9, L9, k9, n9⟩, -, X9, hS9, gr9, ⟨Lc9, hQ9, l9, y9, z9, RQ9⟩, st9⟩ := callSS X8 hx (y := (⟨"com/example/stomme/stomme/diagnostic/DiagnosticsHasErrorsPinLaw", "step", "(Lcom/example/stomme/stomme/diagnostic/Diagnostics;Lcom/example/stomme/stomme/diagnostic/Position;I)I"⟩ : MethodName)) hown7 (mvT hZ7 (hw _ (List.mem_of_getElem? (i := 74) rfl))) (mvT hZ7 (hw _ (List.mem_of_getElem? (i := 75) rfl))) (mvT hZ7 (hw _ (List.mem_of_getElem? (i := 76) rfl))) (mvT hZ7 (hw _ (List.mem_of_getElem? (i := 77) rfl))) (by decide) (backOfSH (W := 1) (rm10 l Z a0 hw [] b3 b5 (p1 &&& (3 : Int32)) al (0 : Int32) 0 wD clD wA pv clA wC wI wE wW hEL T7.heap n0 (Nat.le_trans (Nat.le_trans (Nat.le_trans (Nat.le_trans (Nat.le_trans Z0 E3.1) K4c.1) E5.1) E6.1) K7c.1) (((((O0.ext E3).keep K4c (allS g_b3 all0)).ext E5).ext E6).keep K7c (allS g_b5 all0)) Wl ⟨(((Ed4.ext E5).ext E6).keep K7c), (((Fr4.ext E5).ext E6).keep K7c (ninS (Nat.ne_of_lt (Nat.lt_of_lt_of_le Ed4.lt (Nat.le_of_eq g5.symm))) nin0)), (((Fd4.ext E5).ext E6).keep K7c (ninS (Nat.ne_of_lt (Nat.lt_of_lt_of_le Ed4.lt (Nat.le_of_eq g5.symm))) nin0)), (((Ea4.ext E5).ext E6).keep K7c), g_b3, g_al, Or.inl ⟨_, (((Fm4.ext E5).ext E6).keep K7c (ninS (Nat.ne_of_lt (Nat.lt_of_lt_of_le Ea4.lt (Nat.le_of_eq g5.symm))) nin0)), (((Fs4.ext E5).ext E6).keep K7c (ninS (Nat.ne_of_lt (Nat.lt_of_lt_of_le Ea4.lt (Nat.le_of_eq g5.symm))) nin0)), (((Fe4.ext E5).ext E6).keep K7c (ninS (Nat.ne_of_lt (Nat.lt_of_lt_of_le Ea4.lt (Nat.le_of_eq g5.symm))) nin0))⟩⟩ (by decide)) hZ7 (hw _ (List.mem_of_getElem? (i := 77) rfl)) (hw _ (List.mem_of_getElem? (i := 76) rfl)) (by decide) (by decide) hEL C7) (g := (mkF m 58 #[.val (.int p1), .val (.int p2), .val (.ref b3), .val (.ref b5), .val (.int (1 : Int32)), .val (.int (0 : Int32))] [(.int (p1 &&& (3 : Int32))), (.ref b5), (.ref b3), (.int (0 : Int32))])) rfl (by rw [hml]; rfl) (argsL := [(.ref b3), (.ref b5), (.int (p1 &&& (3 : Int32)))]) (rest := [(.int (0 : Int32))]) (lenOf pd_0_4 rfl) rfl (by show 2 * 0 + _ ≤ _; exact Nat.le_of_eq rfl) (hb hby at_58) (fun _ _ => ⟨rfl, e8c, (by decide : 7 + 10 ≤ _), (by decide : 36 + 125 ≤ _)⟩)
  dsimp only [Pt.U, Pt.locs, Pt.cells, Pt.slots] at X9 hS9 gr9 l9 y9 z9 st9 hQ9 RQ9
  subst l9 y9 z9
  obtain ⟨rfl, N9q, O9c, Dz0c⟩ := hQ9
  have N9 := Fr.app N8 N9q
  obtain ⟨X9, hS9, hZ9, hown9⟩ := rebS hS7 (by rw [e8c]; exact (Nat.le_refl _)) X9 hS9 gr9 hZ7 hown7
  have C9 := RQ9.1
  have R9 := R7.trans RQ9
  obtain ⟨Daz0, Dbz0, Dcz0, Ddz0, -⟩ := id Dz0c
  obtain ⟨cq10, kq10, q10a, q10b, q10c⟩ := isOf hZ9 rfl Daz0
  obtain ⟨_, _, ⟨T10, L10, k10, n10⟩, -, X10, ⟨Lc10, hQ10, l10, y10, z10⟩, st10⟩ := X9.virtualBack hx (y := (⟨"com/example/stomme/stomme/diagnostic/Diagnostics", "hasErrors", "()Z"⟩ : MethodName)) (z := (⟨"com/example/stomme/stomme/diagnostic/Diagnostics", "hasErrors", "()Z"⟩ : MethodName)) hown9 (mvT hZ9 (hw _ (List.mem_of_getElem? (i := 67) rfl))) (mvT hZ9 (hw _ (List.mem_of_getElem? (i := 68) rfl))) (notFace_of_selects (args := #[]) (mvT hZ9 (hw _ (List.mem_of_getElem? (i := 70) rfl)))) (mvT hZ9 (hw _ (List.mem_of_getElem? (i := 70) rfl))) (mvT hZ9 (hw _ (List.mem_of_getElem? (i := 69) rfl))) (by decide) (backOf (W := 1) (rm9 l Z a0 hw [] b3 ((0 : Int32) + (own_r (p1 &&& (3 : Int32)))) T9.heap n0 (own_osz O9c) Dcz0) hZ9 (hw _ (List.mem_of_getElem? (i := 71) rfl)) (hw _ (List.mem_of_getElem? (i := 2) rfl)) (by decide) (by decide)) q10a q10c (g := (mkF m 67 #[.val (.int p1), .val (.int p2), .val (.ref b3), .val (.ref b5), .val (.int (1 : Int32)), .val (.int ((0 : Int32) + (own_r (p1 &&& (3 : Int32)))))] [(.ref b3), (.int (1 : Int32))])) rfl (by rw [hml]; rfl) (Steps.refl _) (argsL := []) (rest := [(.int (1 : Int32))]) (lenOf pd_0_3 rfl) rfl (by show 2 * 0 + _ ≤ _; exact Nat.le_of_eq rfl) (hb hby at_67) (fun _ _ => ⟨rfl, rfl, (by decide : 17 + 0 ≤ _), (by decide : 161 + 0 ≤ _)⟩)
  dsimp only [Pt.U, Pt.locs, Pt.cells, Pt.slots] at X10 l10 y10 z10 st10 hQ10
  subst l10 y10 z10
  obtain ⟨rfl, N10q, e10c⟩ := hQ10
  have N10 := Fr.app N9 N10q
  obtain ⟨_, _, ⟨T11, L11, k11, n11⟩, -, X11, hS11, gr11, ⟨Lc11, hQ11, l11, y11, z11, RQ11⟩, st11⟩ := callSS X10 hx (y := (⟨"com/example/stomme/stomme/diagnostic/DiagnosticsHasErrorsPinLaw", "step", "(Lcom/example/stomme/stomme/diagnostic/Diagnostics;Lcom/example/stomme/stomme/diagnostic/Position;I)I"⟩ : MethodName)) hown9 (mvT hZ9 (hw _ (List.mem_of_getElem? (i := 74) rfl))) (mvT hZ9 (hw _ (List.mem_of_getElem? (i := 75) rfl))) (mvT hZ9 (hw _ (List.mem_of_getElem? (i := 76) rfl))) (mvT hZ9 (hw _ (List.mem_of_getElem? (i := 77) rfl))) (by decide) (backOfSH (W := 1) (rm10 l Z a0 hw [] b3 b5 (((p1.toUInt32 >>> ((2 : Int32) &&& 31).toUInt32).toInt32) &&& (3 : Int32)) al ((0 : Int32) + (own_r (p1 &&& (3 : Int32)))) 1 wD clD wA pv clA wC wI wE wW hEL T9.heap n0 (own_osz O9c) O9c Wl Dz0c (by decide)) hZ9 (hw _ (List.mem_of_getElem? (i := 77) rfl)) (hw _ (List.mem_of_getElem? (i := 76) rfl)) (by decide) (by decide) hEL C9) (g := (mkF m 100 #[.val (.int p1), .val (.int p2), .val (.ref b3), .val (.ref b5), .val (.int ((1 : Int32) &&& (1 : Int32))), .val (.int ((0 : Int32) + (own_r (p1 &&& (3 : Int32)))))] [(.int (((p1.toUInt32 >>> ((2 : Int32) &&& 31).toUInt32).toInt32) &&& (3 : Int32))), (.ref b5), (.ref b3), (.int ((0 : Int32) + (own_r (p1 &&& (3 : Int32)))))])) rfl (by rw [hml]; rfl) (argsL := [(.ref b3), (.ref b5), (.int (((p1.toUInt32 >>> ((2 : Int32) &&& 31).toUInt32).toInt32) &&& (3 : Int32)))]) (rest := [(.int ((0 : Int32) + (own_r (p1 &&& (3 : Int32)))))]) (lenOf pd_0_4 rfl) rfl (by show 2 * 0 + _ ≤ _; exact Nat.le_of_eq rfl) (hb hby at_100) (fun _ _ => ⟨rfl, e10c, (by decide : 17 + 10 ≤ _), (by decide : 161 + 125 ≤ _)⟩)
  dsimp only [Pt.U, Pt.locs, Pt.cells, Pt.slots] at X11 hS11 gr11 l11 y11 z11 st11 hQ11 RQ11
  subst l11 y11 z11
  obtain ⟨rfl, N11q, O11c, Dz1c⟩ := hQ11
  have N11 := Fr.app N10 N11q
  obtain ⟨X11, hS11, hZ11, hown11⟩ := rebS hS9 (by rw [e10c]; exact (Nat.le_refl _)) X11 hS11 gr11 hZ9 hown9
  have C11 := RQ11.1
  have R11 := R9.trans RQ11
  obtain ⟨Daz1, Dbz1, Dcz1, Ddz1, -⟩ := id Dz1c
  obtain ⟨cq12, kq12, q12a, q12b, q12c⟩ := isOf hZ11 rfl Daz1
  obtain ⟨_, _, ⟨T12, L12, k12, n12⟩, -, X12, ⟨Lc12, hQ12, l12, y12, z12⟩, st12⟩ := X11.virtualBack hx (y := (⟨"com/example/stomme/stomme/diagnostic/Diagnostics", "hasErrors", "()Z"⟩ : MethodName)) (z := (⟨"com/example/stomme/stomme/diagnostic/Diagnostics", "hasErrors", "()Z"⟩ : MethodName)) hown11 (mvT hZ11 (hw _ (List.mem_of_getElem? (i := 67) rfl))) (mvT hZ11 (hw _ (List.mem_of_getElem? (i := 68) rfl))) (notFace_of_selects (args := #[]) (mvT hZ11 (hw _ (List.mem_of_getElem? (i := 70) rfl)))) (mvT hZ11 (hw _ (List.mem_of_getElem? (i := 70) rfl))) (mvT hZ11 (hw _ (List.mem_of_getElem? (i := 69) rfl))) (by decide) (backOf (W := 1) (rm9 l Z a0 hw [] b3 (((0 : Int32) + (own_r (p1 &&& (3 : Int32)))) + (own_r (((p1.toUInt32 >>> ((2 : Int32) &&& 31).toUInt32).toInt32) &&& (3 : Int32)))) T11.heap n0 (own_osz O11c) Dcz1) hZ11 (hw _ (List.mem_of_getElem? (i := 71) rfl)) (hw _ (List.mem_of_getElem? (i := 2) rfl)) (by decide) (by decide)) q12a q12c (g := (mkF m 109 #[.val (.int p1), .val (.int p2), .val (.ref b3), .val (.ref b5), .val (.int ((1 : Int32) &&& (1 : Int32))), .val (.int (((0 : Int32) + (own_r (p1 &&& (3 : Int32)))) + (own_r (((p1.toUInt32 >>> ((2 : Int32) &&& 31).toUInt32).toInt32) &&& (3 : Int32)))))] [(.ref b3), (.int ((1 : Int32) &&& (1 : Int32)))])) rfl (by rw [hml]; rfl) (Steps.refl _) (argsL := []) (rest := [(.int ((1 : Int32) &&& (1 : Int32)))]) (lenOf pd_0_3 rfl) rfl (by show 2 * 0 + _ ≤ _; exact Nat.le_of_eq rfl) (hb hby at_109) (fun _ _ => ⟨rfl, rfl, (by decide : 27 + 0 ≤ _), (by decide : 286 + 0 ≤ _)⟩)
  dsimp only [Pt.U, Pt.locs, Pt.cells, Pt.slots] at X12 l12 y12 z12 st12 hQ12
  subst l12 y12 z12
  obtain ⟨rfl, N12q, e12c⟩ := hQ12
  have N12 := Fr.app N11 N12q
  obtain ⟨_, _, ⟨T13, L13, k13, n13⟩, -, X13, hS13, gr13, ⟨Lc13, hQ13, l13, y13, z13, RQ13⟩, st13⟩ := callSS X12 hx (y := (⟨"com/example/stomme/stomme/diagnostic/DiagnosticsHasErrorsPinLaw", "step", "(Lcom/example/stomme/stomme/diagnostic/Diagnostics;Lcom/example/stomme/stomme/diagnostic/Position;I)I"⟩ : MethodName)) hown11 (mvT hZ11 (hw _ (List.mem_of_getElem? (i := 74) rfl))) (mvT hZ11 (hw _ (List.mem_of_getElem? (i := 75) rfl))) (mvT hZ11 (hw _ (List.mem_of_getElem? (i := 76) rfl))) (mvT hZ11 (hw _ (List.mem_of_getElem? (i := 77) rfl))) (by decide) (backOfSH (W := 1) (rm10 l Z a0 hw [] b3 b5 (((p1.toUInt32 >>> ((4 : Int32) &&& 31).toUInt32).toInt32) &&& (3 : Int32)) al (((0 : Int32) + (own_r (p1 &&& (3 : Int32)))) + (own_r (((p1.toUInt32 >>> ((2 : Int32) &&& 31).toUInt32).toInt32) &&& (3 : Int32)))) 2 wD clD wA pv clA wC wI wE wW hEL T11.heap n0 (own_osz O11c) O11c Wl Dz1c (by decide)) hZ11 (hw _ (List.mem_of_getElem? (i := 77) rfl)) (hw _ (List.mem_of_getElem? (i := 76) rfl)) (by decide) (by decide) hEL C11) (g := (mkF m 142 #[.val (.int p1), .val (.int p2), .val (.ref b3), .val (.ref b5), .val (.int (((1 : Int32) &&& (1 : Int32)) &&& (1 : Int32))), .val (.int (((0 : Int32) + (own_r (p1 &&& (3 : Int32)))) + (own_r (((p1.toUInt32 >>> ((2 : Int32) &&& 31).toUInt32).toInt32) &&& (3 : Int32)))))] [(.int (((p1.toUInt32 >>> ((4 : Int32) &&& 31).toUInt32).toInt32) &&& (3 : Int32))), (.ref b5), (.ref b3), (.int (((0 : Int32) + (own_r (p1 &&& (3 : Int32)))) + (own_r (((p1.toUInt32 >>> ((2 : Int32) &&& 31).toUInt32).toInt32) &&& (3 : Int32)))))])) rfl (by rw [hml]; rfl) (argsL := [(.ref b3), (.ref b5), (.int (((p1.toUInt32 >>> ((4 : Int32) &&& 31).toUInt32).toInt32) &&& (3 : Int32)))]) (rest := [(.int (((0 : Int32) + (own_r (p1 &&& (3 : Int32)))) + (own_r (((p1.toUInt32 >>> ((2 : Int32) &&& 31).toUInt32).toInt32) &&& (3 : Int32)))))]) (lenOf pd_0_4 rfl) rfl (by show 2 * 0 + _ ≤ _; exact Nat.le_of_eq rfl) (hb hby at_142) (fun _ _ => ⟨rfl, e12c, (by decide : 27 + 10 ≤ _), (by decide : 286 + 125 ≤ _)⟩)
  dsimp only [Pt.U, Pt.locs, Pt.cells, Pt.slots] at X13 hS13 gr13 l13 y13 z13 st13 hQ13 RQ13
  subst l13 y13 z13
  obtain ⟨rfl, N13q, O13c, Dz2c⟩ := hQ13
  have N13 := Fr.app N12 N13q
  obtain ⟨X13, hS13, hZ13, hown13⟩ := rebS hS11 (by rw [e12c]; exact (Nat.le_refl _)) X13 hS13 gr13 hZ11 hown11
  have C13 := RQ13.1
  have R13 := R11.trans RQ13
  obtain ⟨Daz2, Dbz2, Dcz2, Ddz2, -⟩ := id Dz2c
  obtain ⟨cq14, kq14, q14a, q14b, q14c⟩ := isOf hZ13 rfl Daz2
  obtain ⟨_, _, ⟨T14, L14, k14, n14⟩, -, X14, ⟨Lc14, hQ14, l14, y14, z14⟩, st14⟩ := X13.virtualBack hx (y := (⟨"com/example/stomme/stomme/diagnostic/Diagnostics", "hasErrors", "()Z"⟩ : MethodName)) (z := (⟨"com/example/stomme/stomme/diagnostic/Diagnostics", "hasErrors", "()Z"⟩ : MethodName)) hown13 (mvT hZ13 (hw _ (List.mem_of_getElem? (i := 67) rfl))) (mvT hZ13 (hw _ (List.mem_of_getElem? (i := 68) rfl))) (notFace_of_selects (args := #[]) (mvT hZ13 (hw _ (List.mem_of_getElem? (i := 70) rfl)))) (mvT hZ13 (hw _ (List.mem_of_getElem? (i := 70) rfl))) (mvT hZ13 (hw _ (List.mem_of_getElem? (i := 69) rfl))) (by decide) (backOf (W := 1) (rm9 l Z a0 hw [] b3 ((((0 : Int32) + (own_r (p1 &&& (3 : Int32)))) + (own_r (((p1.toUInt32 >>> ((2 : Int32) &&& 31).toUInt32).toInt32) &&& (3 : Int32)))) + (own_r (((p1.toUInt32 >>> ((4 : Int32) &&& 31).toUInt32).toInt32) &&& (3 : Int32)))) T13.heap n0 (own_osz O13c) Dcz2) hZ13 (hw _ (List.mem_of_getElem? (i := 71) rfl)) (hw _ (List.mem_of_getElem? (i := 2) rfl)) (by decide) (by decide)) q14a q14c (g := (mkF m 151 #[.val (.int p1), .val (.int p2), .val (.ref b3), .val (.ref b5), .val (.int (((1 : Int32) &&& (1 : Int32)) &&& (1 : Int32))), .val (.int ((((0 : Int32) + (own_r (p1 &&& (3 : Int32)))) + (own_r (((p1.toUInt32 >>> ((2 : Int32) &&& 31).toUInt32).toInt32) &&& (3 : Int32)))) + (own_r (((p1.toUInt32 >>> ((4 : Int32) &&& 31).toUInt32).toInt32) &&& (3 : Int32)))))] [(.ref b3), (.int (((1 : Int32) &&& (1 : Int32)) &&& (1 : Int32)))])) rfl (by rw [hml]; rfl) (Steps.refl _) (argsL := []) (rest := [(.int (((1 : Int32) &&& (1 : Int32)) &&& (1 : Int32)))]) (lenOf pd_0_3 rfl) rfl (by show 2 * 0 + _ ≤ _; exact Nat.le_of_eq rfl) (hb hby at_151) (fun _ _ => ⟨rfl, rfl, (by decide : 37 + 0 ≤ _), (by decide : 411 + 0 ≤ _)⟩)
  dsimp only [Pt.U, Pt.locs, Pt.cells, Pt.slots] at X14 l14 y14 z14 st14 hQ14
  subst l14 y14 z14
  obtain ⟨rfl, N14q, e14c⟩ := hQ14
  have N14 := Fr.app N13 N14q
  have RZ := R13.trans (CHv.at X14 hZ13 hEL C13)
  obtain ⟨fs, hr, hrun, hended, hREW⟩ := (X14.more (cells' := room_1.cells) (slots' := room_1.slots) (by decide) (by decide)).leaveW hS13 (by rw [e14c]; exact (Nat.le_refl _)) (v := some (.int (1 : Int32))) (fun h => by rw [Bd.returns] at h; cases h)
  refine ⟨_, _, pre0 _ ?_, hrun, hended, _, _, rfl, ?_, ?_, hREW⟩
  · show Steps p.tables e below (s₁.setTop (mkF m 0 #[.val (.int p1), .val (.int p2), .unset, .unset, .unset, .unset] [])) _
    refine st3 _ ?_
    show Steps p.tables e below (T3.setTop (mkF m 3 #[.val (.int p1), .val (.int p2), .unset, .unset, .unset, .unset] [(.ref b3)])) _
    refine XS.dup X3.here hx rfl (hb hby at_3) rfl rfl ?_
    show Steps p.tables e below (T3.setTop (mkF m 4 #[.val (.int p1), .val (.int p2), .unset, .unset, .unset, .unset] [(.ref b3), (.ref b3)])) _
    refine st4.trans ?_
    show Steps p.tables e below (T4.setTop (mkF m 7 #[.val (.int p1), .val (.int p2), .unset, .unset, .unset, .unset] [(.ref b3)])) _
    refine XS.astoreN X4.here hx rfl (hb hby at_7) rfl rfl (l' := #[.val (.int p1), .val (.int p2), .val (.ref b3), .unset, .unset, .unset]) rfl ?_
    show Steps p.tables e below (T4.setTop (mkF m 8 #[.val (.int p1), .val (.int p2), .val (.ref b3), .unset, .unset, .unset] [])) _
    refine st5 _ ?_
    show Steps p.tables e below (T5.setTop (mkF m 11 #[.val (.int p1), .val (.int p2), .val (.ref b3), .unset, .unset, .unset] [(.ref b5)])) _
    refine XS.dup X5.here hx rfl (hb hby at_11) rfl rfl ?_
    show Steps p.tables e below (T5.setTop (mkF m 12 #[.val (.int p1), .val (.int p2), .val (.ref b3), .unset, .unset, .unset] [(.ref b5), (.ref b5)])) _
    refine st6 _ ?_
    show Steps p.tables e below (T6.setTop (mkF m 14 #[.val (.int p1), .val (.int p2), .val (.ref b3), .unset, .unset, .unset] [(.ref b6), (.ref b5), (.ref b5)])) _
    refine XS.iloadN X6.here hx rfl (hb hby at_14) rfl ?_
    show Steps p.tables e below (T6.setTop (mkF m 15 #[.val (.int p1), .val (.int p2), .val (.ref b3), .unset, .unset, .unset] [(.int p2), (.ref b6), (.ref b5), (.ref b5)])) _
    refine X6.ldcInt hx hown6 (mvT hZ6 (hw _ (List.mem_of_getElem? (i := 46) rfl))) (g := (mkF m 15 #[.val (.int p1), .val (.int p2), .val (.ref b3), .unset, .unset, .unset] [(.int p2), (.ref b6), (.ref b5), (.ref b5)])) rfl (hb hby at_15) _ ?_
    show Steps p.tables e below (T6.setTop (mkF m 17 #[.val (.int p1), .val (.int p2), .val (.ref b3), .unset, .unset, .unset] [(.int (65535 : Int32)), (.int p2), (.ref b6), (.ref b5), (.ref b5)])) _
    refine XS.iand X6.here hx rfl (hb hby at_17) rfl ?_
    show Steps p.tables e below (T6.setTop (mkF m 18 #[.val (.int p1), .val (.int p2), .val (.ref b3), .unset, .unset, .unset] [(.int (p2 &&& (65535 : Int32))), (.ref b6), (.ref b5), (.ref b5)])) _
    refine XS.iconst X6.here hx rfl (hb hby at_18) ?_
    show Steps p.tables e below (T6.setTop (mkF m 19 #[.val (.int p1), .val (.int p2), .val (.ref b3), .unset, .unset, .unset] [(.int (1 : Int32)), (.int (p2 &&& (65535 : Int32))), (.ref b6), (.ref b5), (.ref b5)])) _
    refine XS.iadd X6.here hx rfl (hb hby at_19) rfl ?_
    show Steps p.tables e below (T6.setTop (mkF m 20 #[.val (.int p1), .val (.int p2), .val (.ref b3), .unset, .unset, .unset] [(.int ((p2 &&& (65535 : Int32)) + (1 : Int32))), (.ref b6), (.ref b5), (.ref b5)])) _
    refine XS.iloadN X6.here hx rfl (hb hby at_20) rfl ?_
    show Steps p.tables e below (T6.setTop (mkF m 21 #[.val (.int p1), .val (.int p2), .val (.ref b3), .unset, .unset, .unset] [(.int p2), (.int ((p2 &&& (65535 : Int32)) + (1 : Int32))), (.ref b6), (.ref b5), (.ref b5)])) _
    refine XS.bipush X6.here hx rfl (hb hby at_21) ?_
    show Steps p.tables e below (T6.setTop (mkF m 23 #[.val (.int p1), .val (.int p2), .val (.ref b3), .unset, .unset, .unset] [(.int (16 : Int32)), (.int p2), (.int ((p2 &&& (65535 : Int32)) + (1 : Int32))), (.ref b6), (.ref b5), (.ref b5)])) _
    refine XS.iushr X6.here hx rfl (hb hby at_23) rfl ?_
    show Steps p.tables e below (T6.setTop (mkF m 24 #[.val (.int p1), .val (.int p2), .val (.ref b3), .unset, .unset, .unset] [(.int ((p2.toUInt32 >>> ((16 : Int32) &&& 31).toUInt32).toInt32)), (.int ((p2 &&& (65535 : Int32)) + (1 : Int32))), (.ref b6), (.ref b5), (.ref b5)])) _
    refine XS.sipush X6.here hx rfl (hb hby at_24) ?_
    show Steps p.tables e below (T6.setTop (mkF m 27 #[.val (.int p1), .val (.int p2), .val (.ref b3), .unset, .unset, .unset] [(.int (32767 : Int32)), (.int ((p2.toUInt32 >>> ((16 : Int32) &&& 31).toUInt32).toInt32)), (.int ((p2 &&& (65535 : Int32)) + (1 : Int32))), (.ref b6), (.ref b5), (.ref b5)])) _
    refine XS.iand X6.here hx rfl (hb hby at_27) rfl ?_
    show Steps p.tables e below (T6.setTop (mkF m 28 #[.val (.int p1), .val (.int p2), .val (.ref b3), .unset, .unset, .unset] [(.int (((p2.toUInt32 >>> ((16 : Int32) &&& 31).toUInt32).toInt32) &&& (32767 : Int32))), (.int ((p2 &&& (65535 : Int32)) + (1 : Int32))), (.ref b6), (.ref b5), (.ref b5)])) _
    refine XS.iconst X6.here hx rfl (hb hby at_28) ?_
    show Steps p.tables e below (T6.setTop (mkF m 29 #[.val (.int p1), .val (.int p2), .val (.ref b3), .unset, .unset, .unset] [(.int (1 : Int32)), (.int (((p2.toUInt32 >>> ((16 : Int32) &&& 31).toUInt32).toInt32) &&& (32767 : Int32))), (.int ((p2 &&& (65535 : Int32)) + (1 : Int32))), (.ref b6), (.ref b5), (.ref b5)])) _
    refine XS.iadd X6.here hx rfl (hb hby at_29) rfl ?_
    show Steps p.tables e below (T6.setTop (mkF m 30 #[.val (.int p1), .val (.int p2), .val (.ref b3), .unset, .unset, .unset] [(.int ((((p2.toUInt32 >>> ((16 : Int32) &&& 31).toUInt32).toInt32) &&& (32767 : Int32)) + (1 : Int32))), (.int ((p2 &&& (65535 : Int32)) + (1 : Int32))), (.ref b6), (.ref b5), (.ref b5)])) _
    refine st7.trans ?_
    show Steps p.tables e below (T7.setTop (mkF m 33 #[.val (.int p1), .val (.int p2), .val (.ref b3), .unset, .unset, .unset] [(.ref b5)])) _
    refine XS.astoreN X7.here hx rfl (hb hby at_33) rfl rfl (l' := #[.val (.int p1), .val (.int p2), .val (.ref b3), .val (.ref b5), .unset, .unset]) rfl ?_
    show Steps p.tables e below (T7.setTop (mkF m 34 #[.val (.int p1), .val (.int p2), .val (.ref b3), .val (.ref b5), .unset, .unset] [])) _
    refine XS.aloadN X7.here hx rfl (hb hby at_34) rfl rfl ?_
    show Steps p.tables e below (T7.setTop (mkF m 35 #[.val (.int p1), .val (.int p2), .val (.ref b3), .val (.ref b5), .unset, .unset] [(.ref b3)])) _
    refine st8.trans ?_
    show Steps p.tables e below (T8.setTop (mkF m 38 #[.val (.int p1), .val (.int p2), .val (.ref b3), .val (.ref b5), .unset, .unset] [(.int (own_pos (0 : Int32)))])) _
    refine XS.ifNo X8.here hx rfl (hb hby at_38) rfl ((if0 _ _).trans (teq hc38).2) ?_
    show Steps p.tables e below (T8.setTop (mkF m 41 #[.val (.int p1), .val (.int p2), .val (.ref b3), .val (.ref b5), .unset, .unset] [])) _
    refine XS.iconst X8.here hx rfl (hb hby at_41) ?_
    show Steps p.tables e below (T8.setTop (mkF m 42 #[.val (.int p1), .val (.int p2), .val (.ref b3), .val (.ref b5), .unset, .unset] [(.int (1 : Int32))])) _
    refine XS.goto X8.here hx rfl (pc0 := 42) (pc' := 46) rfl (hb hby at_42) (by decide) (by decide) ?_
    show Steps p.tables e below (T8.setTop (mkF m 46 #[.val (.int p1), .val (.int p2), .val (.ref b3), .val (.ref b5), .unset, .unset] [(.int (1 : Int32))])) _
    refine XS.istore X8.here hx rfl (hb hby at_46) rfl (l' := #[.val (.int p1), .val (.int p2), .val (.ref b3), .val (.ref b5), .val (.int (1 : Int32)), .unset]) rfl ?_
    show Steps p.tables e below (T8.setTop (mkF m 48 #[.val (.int p1), .val (.int p2), .val (.ref b3), .val (.ref b5), .val (.int (1 : Int32)), .unset] [])) _
    refine XS.iconst X8.here hx rfl (hb hby at_48) ?_
    show Steps p.tables e below (T8.setTop (mkF m 49 #[.val (.int p1), .val (.int p2), .val (.ref b3), .val (.ref b5), .val (.int (1 : Int32)), .unset] [(.int (0 : Int32))])) _
    refine XS.istore X8.here hx rfl (hb hby at_49) rfl (l' := #[.val (.int p1), .val (.int p2), .val (.ref b3), .val (.ref b5), .val (.int (1 : Int32)), .val (.int (0 : Int32))]) rfl ?_
    show Steps p.tables e below (T8.setTop (mkF m 51 #[.val (.int p1), .val (.int p2), .val (.ref b3), .val (.ref b5), .val (.int (1 : Int32)), .val (.int (0 : Int32))] [])) _
    refine XS.iload X8.here hx rfl (hb hby at_51) rfl ?_
    show Steps p.tables e below (T8.setTop (mkF m 53 #[.val (.int p1), .val (.int p2), .val (.ref b3), .val (.ref b5), .val (.int (1 : Int32)), .val (.int (0 : Int32))] [(.int (0 : Int32))])) _
    refine XS.aloadN X8.here hx rfl (hb hby at_53) rfl rfl ?_
    show Steps p.tables e below (T8.setTop (mkF m 54 #[.val (.int p1), .val (.int p2), .val (.ref b3), .val (.ref b5), .val (.int (1 : Int32)), .val (.int (0 : Int32))] [(.ref b3), (.int (0 : Int32))])) _
    refine XS.aloadN X8.here hx rfl (hb hby at_54) rfl rfl ?_
    show Steps p.tables e below (T8.setTop (mkF m 55 #[.val (.int p1), .val (.int p2), .val (.ref b3), .val (.ref b5), .val (.int (1 : Int32)), .val (.int (0 : Int32))] [(.ref b5), (.ref b3), (.int (0 : Int32))])) _
    refine XS.iloadN X8.here hx rfl (hb hby at_55) rfl ?_
    show Steps p.tables e below (T8.setTop (mkF m 56 #[.val (.int p1), .val (.int p2), .val (.ref b3), .val (.ref b5), .val (.int (1 : Int32)), .val (.int (0 : Int32))] [(.int p1), (.ref b5), (.ref b3), (.int (0 : Int32))])) _
    refine XS.iconst X8.here hx rfl (hb hby at_56) ?_
    show Steps p.tables e below (T8.setTop (mkF m 57 #[.val (.int p1), .val (.int p2), .val (.ref b3), .val (.ref b5), .val (.int (1 : Int32)), .val (.int (0 : Int32))] [(.int (3 : Int32)), (.int p1), (.ref b5), (.ref b3), (.int (0 : Int32))])) _
    refine XS.iand X8.here hx rfl (hb hby at_57) rfl ?_
    show Steps p.tables e below (T8.setTop (mkF m 58 #[.val (.int p1), .val (.int p2), .val (.ref b3), .val (.ref b5), .val (.int (1 : Int32)), .val (.int (0 : Int32))] [(.int (p1 &&& (3 : Int32))), (.ref b5), (.ref b3), (.int (0 : Int32))])) _
    refine st9.trans ?_
    show Steps p.tables e below (T9.setTop (mkF m 61 #[.val (.int p1), .val (.int p2), .val (.ref b3), .val (.ref b5), .val (.int (1 : Int32)), .val (.int (0 : Int32))] [(.int (own_r (p1 &&& (3 : Int32)))), (.int (0 : Int32))])) _
    refine XS.iadd X9.here hx rfl (hb hby at_61) rfl ?_
    show Steps p.tables e below (T9.setTop (mkF m 62 #[.val (.int p1), .val (.int p2), .val (.ref b3), .val (.ref b5), .val (.int (1 : Int32)), .val (.int (0 : Int32))] [(.int ((0 : Int32) + (own_r (p1 &&& (3 : Int32)))))])) _
    refine XS.istore X9.here hx rfl (hb hby at_62) rfl (l' := #[.val (.int p1), .val (.int p2), .val (.ref b3), .val (.ref b5), .val (.int (1 : Int32)), .val (.int ((0 : Int32) + (own_r (p1 &&& (3 : Int32)))))]) rfl ?_
    show Steps p.tables e below (T9.setTop (mkF m 64 #[.val (.int p1), .val (.int p2), .val (.ref b3), .val (.ref b5), .val (.int (1 : Int32)), .val (.int ((0 : Int32) + (own_r (p1 &&& (3 : Int32)))))] [])) _
    refine XS.iload X9.here hx rfl (hb hby at_64) rfl ?_
    show Steps p.tables e below (T9.setTop (mkF m 66 #[.val (.int p1), .val (.int p2), .val (.ref b3), .val (.ref b5), .val (.int (1 : Int32)), .val (.int ((0 : Int32) + (own_r (p1 &&& (3 : Int32)))))] [(.int (1 : Int32))])) _
    refine XS.aloadN X9.here hx rfl (hb hby at_66) rfl rfl ?_
    show Steps p.tables e below (T9.setTop (mkF m 67 #[.val (.int p1), .val (.int p2), .val (.ref b3), .val (.ref b5), .val (.int (1 : Int32)), .val (.int ((0 : Int32) + (own_r (p1 &&& (3 : Int32)))))] [(.ref b3), (.int (1 : Int32))])) _
    refine st10.trans ?_
    show Steps p.tables e below (T10.setTop (mkF m 70 #[.val (.int p1), .val (.int p2), .val (.ref b3), .val (.ref b5), .val (.int (1 : Int32)), .val (.int ((0 : Int32) + (own_r (p1 &&& (3 : Int32)))))] [(.int (own_pos ((0 : Int32) + (own_r (p1 &&& (3 : Int32)))))), (.int (1 : Int32))])) _
    refine XS.iload X10.here hx rfl (hb hby at_70) rfl ?_
    show Steps p.tables e below (T10.setTop (mkF m 72 #[.val (.int p1), .val (.int p2), .val (.ref b3), .val (.ref b5), .val (.int (1 : Int32)), .val (.int ((0 : Int32) + (own_r (p1 &&& (3 : Int32)))))] [(.int ((0 : Int32) + (own_r (p1 &&& (3 : Int32))))), (.int (own_pos ((0 : Int32) + (own_r (p1 &&& (3 : Int32)))))), (.int (1 : Int32))])) _
    refine XS.ifNo X10.here hx rfl (hb hby at_72) rfl ((if0 _ _).trans (tlt hc72).2.2.2) ?_
    show Steps p.tables e below (T10.setTop (mkF m 75 #[.val (.int p1), .val (.int p2), .val (.ref b3), .val (.ref b5), .val (.int (1 : Int32)), .val (.int ((0 : Int32) + (own_r (p1 &&& (3 : Int32)))))] [(.int (own_pos ((0 : Int32) + (own_r (p1 &&& (3 : Int32)))))), (.int (1 : Int32))])) _
    refine XS.iconst X10.here hx rfl (hb hby at_75) ?_
    show Steps p.tables e below (T10.setTop (mkF m 76 #[.val (.int p1), .val (.int p2), .val (.ref b3), .val (.ref b5), .val (.int (1 : Int32)), .val (.int ((0 : Int32) + (own_r (p1 &&& (3 : Int32)))))] [(.int (1 : Int32)), (.int (own_pos ((0 : Int32) + (own_r (p1 &&& (3 : Int32)))))), (.int (1 : Int32))])) _
    refine XS.goto X10.here hx rfl (pc0 := 76) (pc' := 80) rfl (hb hby at_76) (by decide) (by decide) ?_
    show Steps p.tables e below (T10.setTop (mkF m 80 #[.val (.int p1), .val (.int p2), .val (.ref b3), .val (.ref b5), .val (.int (1 : Int32)), .val (.int ((0 : Int32) + (own_r (p1 &&& (3 : Int32)))))] [(.int (1 : Int32)), (.int (own_pos ((0 : Int32) + (own_r (p1 &&& (3 : Int32)))))), (.int (1 : Int32))])) _
    refine XS.icmpNo X10.here hx rfl (hb hby at_80) rfl (teq hc80).2 ?_
    show Steps p.tables e below (T10.setTop (mkF m 83 #[.val (.int p1), .val (.int p2), .val (.ref b3), .val (.ref b5), .val (.int (1 : Int32)), .val (.int ((0 : Int32) + (own_r (p1 &&& (3 : Int32)))))] [(.int (1 : Int32))])) _
    refine XS.iconst X10.here hx rfl (hb hby at_83) ?_
    show Steps p.tables e below (T10.setTop (mkF m 84 #[.val (.int p1), .val (.int p2), .val (.ref b3), .val (.ref b5), .val (.int (1 : Int32)), .val (.int ((0 : Int32) + (own_r (p1 &&& (3 : Int32)))))] [(.int (1 : Int32)), (.int (1 : Int32))])) _
    refine XS.goto X10.here hx rfl (pc0 := 84) (pc' := 88) rfl (hb hby at_84) (by decide) (by decide) ?_
    show Steps p.tables e below (T10.setTop (mkF m 88 #[.val (.int p1), .val (.int p2), .val (.ref b3), .val (.ref b5), .val (.int (1 : Int32)), .val (.int ((0 : Int32) + (own_r (p1 &&& (3 : Int32)))))] [(.int (1 : Int32)), (.int (1 : Int32))])) _
    refine XS.iand X10.here hx rfl (hb hby at_88) rfl ?_
    show Steps p.tables e below (T10.setTop (mkF m 89 #[.val (.int p1), .val (.int p2), .val (.ref b3), .val (.ref b5), .val (.int (1 : Int32)), .val (.int ((0 : Int32) + (own_r (p1 &&& (3 : Int32)))))] [(.int ((1 : Int32) &&& (1 : Int32)))])) _
    refine XS.istore X10.here hx rfl (hb hby at_89) rfl (l' := #[.val (.int p1), .val (.int p2), .val (.ref b3), .val (.ref b5), .val (.int ((1 : Int32) &&& (1 : Int32))), .val (.int ((0 : Int32) + (own_r (p1 &&& (3 : Int32)))))]) rfl ?_
    show Steps p.tables e below (T10.setTop (mkF m 91 #[.val (.int p1), .val (.int p2), .val (.ref b3), .val (.ref b5), .val (.int ((1 : Int32) &&& (1 : Int32))), .val (.int ((0 : Int32) + (own_r (p1 &&& (3 : Int32)))))] [])) _
    refine XS.iload X10.here hx rfl (hb hby at_91) rfl ?_
    show Steps p.tables e below (T10.setTop (mkF m 93 #[.val (.int p1), .val (.int p2), .val (.ref b3), .val (.ref b5), .val (.int ((1 : Int32) &&& (1 : Int32))), .val (.int ((0 : Int32) + (own_r (p1 &&& (3 : Int32)))))] [(.int ((0 : Int32) + (own_r (p1 &&& (3 : Int32)))))])) _
    refine XS.aloadN X10.here hx rfl (hb hby at_93) rfl rfl ?_
    show Steps p.tables e below (T10.setTop (mkF m 94 #[.val (.int p1), .val (.int p2), .val (.ref b3), .val (.ref b5), .val (.int ((1 : Int32) &&& (1 : Int32))), .val (.int ((0 : Int32) + (own_r (p1 &&& (3 : Int32)))))] [(.ref b3), (.int ((0 : Int32) + (own_r (p1 &&& (3 : Int32)))))])) _
    refine XS.aloadN X10.here hx rfl (hb hby at_94) rfl rfl ?_
    show Steps p.tables e below (T10.setTop (mkF m 95 #[.val (.int p1), .val (.int p2), .val (.ref b3), .val (.ref b5), .val (.int ((1 : Int32) &&& (1 : Int32))), .val (.int ((0 : Int32) + (own_r (p1 &&& (3 : Int32)))))] [(.ref b5), (.ref b3), (.int ((0 : Int32) + (own_r (p1 &&& (3 : Int32)))))])) _
    refine XS.iloadN X10.here hx rfl (hb hby at_95) rfl ?_
    show Steps p.tables e below (T10.setTop (mkF m 96 #[.val (.int p1), .val (.int p2), .val (.ref b3), .val (.ref b5), .val (.int ((1 : Int32) &&& (1 : Int32))), .val (.int ((0 : Int32) + (own_r (p1 &&& (3 : Int32)))))] [(.int p1), (.ref b5), (.ref b3), (.int ((0 : Int32) + (own_r (p1 &&& (3 : Int32)))))])) _
    refine XS.iconst X10.here hx rfl (hb hby at_96) ?_
    show Steps p.tables e below (T10.setTop (mkF m 97 #[.val (.int p1), .val (.int p2), .val (.ref b3), .val (.ref b5), .val (.int ((1 : Int32) &&& (1 : Int32))), .val (.int ((0 : Int32) + (own_r (p1 &&& (3 : Int32)))))] [(.int (2 : Int32)), (.int p1), (.ref b5), (.ref b3), (.int ((0 : Int32) + (own_r (p1 &&& (3 : Int32)))))])) _
    refine XS.iushr X10.here hx rfl (hb hby at_97) rfl ?_
    show Steps p.tables e below (T10.setTop (mkF m 98 #[.val (.int p1), .val (.int p2), .val (.ref b3), .val (.ref b5), .val (.int ((1 : Int32) &&& (1 : Int32))), .val (.int ((0 : Int32) + (own_r (p1 &&& (3 : Int32)))))] [(.int ((p1.toUInt32 >>> ((2 : Int32) &&& 31).toUInt32).toInt32)), (.ref b5), (.ref b3), (.int ((0 : Int32) + (own_r (p1 &&& (3 : Int32)))))])) _
    refine XS.iconst X10.here hx rfl (hb hby at_98) ?_
    show Steps p.tables e below (T10.setTop (mkF m 99 #[.val (.int p1), .val (.int p2), .val (.ref b3), .val (.ref b5), .val (.int ((1 : Int32) &&& (1 : Int32))), .val (.int ((0 : Int32) + (own_r (p1 &&& (3 : Int32)))))] [(.int (3 : Int32)), (.int ((p1.toUInt32 >>> ((2 : Int32) &&& 31).toUInt32).toInt32)), (.ref b5), (.ref b3), (.int ((0 : Int32) + (own_r (p1 &&& (3 : Int32)))))])) _
    refine XS.iand X10.here hx rfl (hb hby at_99) rfl ?_
    show Steps p.tables e below (T10.setTop (mkF m 100 #[.val (.int p1), .val (.int p2), .val (.ref b3), .val (.ref b5), .val (.int ((1 : Int32) &&& (1 : Int32))), .val (.int ((0 : Int32) + (own_r (p1 &&& (3 : Int32)))))] [(.int (((p1.toUInt32 >>> ((2 : Int32) &&& 31).toUInt32).toInt32) &&& (3 : Int32))), (.ref b5), (.ref b3), (.int ((0 : Int32) + (own_r (p1 &&& (3 : Int32)))))])) _
    refine st11.trans ?_
    show Steps p.tables e below (T11.setTop (mkF m 103 #[.val (.int p1), .val (.int p2), .val (.ref b3), .val (.ref b5), .val (.int ((1 : Int32) &&& (1 : Int32))), .val (.int ((0 : Int32) + (own_r (p1 &&& (3 : Int32)))))] [(.int (own_r (((p1.toUInt32 >>> ((2 : Int32) &&& 31).toUInt32).toInt32) &&& (3 : Int32)))), (.int ((0 : Int32) + (own_r (p1 &&& (3 : Int32)))))])) _
    refine XS.iadd X11.here hx rfl (hb hby at_103) rfl ?_
    show Steps p.tables e below (T11.setTop (mkF m 104 #[.val (.int p1), .val (.int p2), .val (.ref b3), .val (.ref b5), .val (.int ((1 : Int32) &&& (1 : Int32))), .val (.int ((0 : Int32) + (own_r (p1 &&& (3 : Int32)))))] [(.int (((0 : Int32) + (own_r (p1 &&& (3 : Int32)))) + (own_r (((p1.toUInt32 >>> ((2 : Int32) &&& 31).toUInt32).toInt32) &&& (3 : Int32)))))])) _
    refine XS.istore X11.here hx rfl (hb hby at_104) rfl (l' := #[.val (.int p1), .val (.int p2), .val (.ref b3), .val (.ref b5), .val (.int ((1 : Int32) &&& (1 : Int32))), .val (.int (((0 : Int32) + (own_r (p1 &&& (3 : Int32)))) + (own_r (((p1.toUInt32 >>> ((2 : Int32) &&& 31).toUInt32).toInt32) &&& (3 : Int32)))))]) rfl ?_
    show Steps p.tables e below (T11.setTop (mkF m 106 #[.val (.int p1), .val (.int p2), .val (.ref b3), .val (.ref b5), .val (.int ((1 : Int32) &&& (1 : Int32))), .val (.int (((0 : Int32) + (own_r (p1 &&& (3 : Int32)))) + (own_r (((p1.toUInt32 >>> ((2 : Int32) &&& 31).toUInt32).toInt32) &&& (3 : Int32)))))] [])) _
    refine XS.iload X11.here hx rfl (hb hby at_106) rfl ?_
    show Steps p.tables e below (T11.setTop (mkF m 108 #[.val (.int p1), .val (.int p2), .val (.ref b3), .val (.ref b5), .val (.int ((1 : Int32) &&& (1 : Int32))), .val (.int (((0 : Int32) + (own_r (p1 &&& (3 : Int32)))) + (own_r (((p1.toUInt32 >>> ((2 : Int32) &&& 31).toUInt32).toInt32) &&& (3 : Int32)))))] [(.int ((1 : Int32) &&& (1 : Int32)))])) _
    refine XS.aloadN X11.here hx rfl (hb hby at_108) rfl rfl ?_
    show Steps p.tables e below (T11.setTop (mkF m 109 #[.val (.int p1), .val (.int p2), .val (.ref b3), .val (.ref b5), .val (.int ((1 : Int32) &&& (1 : Int32))), .val (.int (((0 : Int32) + (own_r (p1 &&& (3 : Int32)))) + (own_r (((p1.toUInt32 >>> ((2 : Int32) &&& 31).toUInt32).toInt32) &&& (3 : Int32)))))] [(.ref b3), (.int ((1 : Int32) &&& (1 : Int32)))])) _
    refine st12.trans ?_
    show Steps p.tables e below (T12.setTop (mkF m 112 #[.val (.int p1), .val (.int p2), .val (.ref b3), .val (.ref b5), .val (.int ((1 : Int32) &&& (1 : Int32))), .val (.int (((0 : Int32) + (own_r (p1 &&& (3 : Int32)))) + (own_r (((p1.toUInt32 >>> ((2 : Int32) &&& 31).toUInt32).toInt32) &&& (3 : Int32)))))] [(.int (own_pos (((0 : Int32) + (own_r (p1 &&& (3 : Int32)))) + (own_r (((p1.toUInt32 >>> ((2 : Int32) &&& 31).toUInt32).toInt32) &&& (3 : Int32)))))), (.int ((1 : Int32) &&& (1 : Int32)))])) _
    refine XS.iload X12.here hx rfl (hb hby at_112) rfl ?_
    show Steps p.tables e below (T12.setTop (mkF m 114 #[.val (.int p1), .val (.int p2), .val (.ref b3), .val (.ref b5), .val (.int ((1 : Int32) &&& (1 : Int32))), .val (.int (((0 : Int32) + (own_r (p1 &&& (3 : Int32)))) + (own_r (((p1.toUInt32 >>> ((2 : Int32) &&& 31).toUInt32).toInt32) &&& (3 : Int32)))))] [(.int (((0 : Int32) + (own_r (p1 &&& (3 : Int32)))) + (own_r (((p1.toUInt32 >>> ((2 : Int32) &&& 31).toUInt32).toInt32) &&& (3 : Int32))))), (.int (own_pos (((0 : Int32) + (own_r (p1 &&& (3 : Int32)))) + (own_r (((p1.toUInt32 >>> ((2 : Int32) &&& 31).toUInt32).toInt32) &&& (3 : Int32)))))), (.int ((1 : Int32) &&& (1 : Int32)))])) _
    refine XS.ifNo X12.here hx rfl (hb hby at_114) rfl ((if0 _ _).trans (tlt hc114).2.2.2) ?_
    show Steps p.tables e below (T12.setTop (mkF m 117 #[.val (.int p1), .val (.int p2), .val (.ref b3), .val (.ref b5), .val (.int ((1 : Int32) &&& (1 : Int32))), .val (.int (((0 : Int32) + (own_r (p1 &&& (3 : Int32)))) + (own_r (((p1.toUInt32 >>> ((2 : Int32) &&& 31).toUInt32).toInt32) &&& (3 : Int32)))))] [(.int (own_pos (((0 : Int32) + (own_r (p1 &&& (3 : Int32)))) + (own_r (((p1.toUInt32 >>> ((2 : Int32) &&& 31).toUInt32).toInt32) &&& (3 : Int32)))))), (.int ((1 : Int32) &&& (1 : Int32)))])) _
    refine XS.iconst X12.here hx rfl (hb hby at_117) ?_
    show Steps p.tables e below (T12.setTop (mkF m 118 #[.val (.int p1), .val (.int p2), .val (.ref b3), .val (.ref b5), .val (.int ((1 : Int32) &&& (1 : Int32))), .val (.int (((0 : Int32) + (own_r (p1 &&& (3 : Int32)))) + (own_r (((p1.toUInt32 >>> ((2 : Int32) &&& 31).toUInt32).toInt32) &&& (3 : Int32)))))] [(.int (1 : Int32)), (.int (own_pos (((0 : Int32) + (own_r (p1 &&& (3 : Int32)))) + (own_r (((p1.toUInt32 >>> ((2 : Int32) &&& 31).toUInt32).toInt32) &&& (3 : Int32)))))), (.int ((1 : Int32) &&& (1 : Int32)))])) _
    refine XS.goto X12.here hx rfl (pc0 := 118) (pc' := 122) rfl (hb hby at_118) (by decide) (by decide) ?_
    show Steps p.tables e below (T12.setTop (mkF m 122 #[.val (.int p1), .val (.int p2), .val (.ref b3), .val (.ref b5), .val (.int ((1 : Int32) &&& (1 : Int32))), .val (.int (((0 : Int32) + (own_r (p1 &&& (3 : Int32)))) + (own_r (((p1.toUInt32 >>> ((2 : Int32) &&& 31).toUInt32).toInt32) &&& (3 : Int32)))))] [(.int (1 : Int32)), (.int (own_pos (((0 : Int32) + (own_r (p1 &&& (3 : Int32)))) + (own_r (((p1.toUInt32 >>> ((2 : Int32) &&& 31).toUInt32).toInt32) &&& (3 : Int32)))))), (.int ((1 : Int32) &&& (1 : Int32)))])) _
    refine XS.icmpNo X12.here hx rfl (hb hby at_122) rfl (teq hc122).2 ?_
    show Steps p.tables e below (T12.setTop (mkF m 125 #[.val (.int p1), .val (.int p2), .val (.ref b3), .val (.ref b5), .val (.int ((1 : Int32) &&& (1 : Int32))), .val (.int (((0 : Int32) + (own_r (p1 &&& (3 : Int32)))) + (own_r (((p1.toUInt32 >>> ((2 : Int32) &&& 31).toUInt32).toInt32) &&& (3 : Int32)))))] [(.int ((1 : Int32) &&& (1 : Int32)))])) _
    refine XS.iconst X12.here hx rfl (hb hby at_125) ?_
    show Steps p.tables e below (T12.setTop (mkF m 126 #[.val (.int p1), .val (.int p2), .val (.ref b3), .val (.ref b5), .val (.int ((1 : Int32) &&& (1 : Int32))), .val (.int (((0 : Int32) + (own_r (p1 &&& (3 : Int32)))) + (own_r (((p1.toUInt32 >>> ((2 : Int32) &&& 31).toUInt32).toInt32) &&& (3 : Int32)))))] [(.int (1 : Int32)), (.int ((1 : Int32) &&& (1 : Int32)))])) _
    refine XS.goto X12.here hx rfl (pc0 := 126) (pc' := 130) rfl (hb hby at_126) (by decide) (by decide) ?_
    show Steps p.tables e below (T12.setTop (mkF m 130 #[.val (.int p1), .val (.int p2), .val (.ref b3), .val (.ref b5), .val (.int ((1 : Int32) &&& (1 : Int32))), .val (.int (((0 : Int32) + (own_r (p1 &&& (3 : Int32)))) + (own_r (((p1.toUInt32 >>> ((2 : Int32) &&& 31).toUInt32).toInt32) &&& (3 : Int32)))))] [(.int (1 : Int32)), (.int ((1 : Int32) &&& (1 : Int32)))])) _
    refine XS.iand X12.here hx rfl (hb hby at_130) rfl ?_
    show Steps p.tables e below (T12.setTop (mkF m 131 #[.val (.int p1), .val (.int p2), .val (.ref b3), .val (.ref b5), .val (.int ((1 : Int32) &&& (1 : Int32))), .val (.int (((0 : Int32) + (own_r (p1 &&& (3 : Int32)))) + (own_r (((p1.toUInt32 >>> ((2 : Int32) &&& 31).toUInt32).toInt32) &&& (3 : Int32)))))] [(.int (((1 : Int32) &&& (1 : Int32)) &&& (1 : Int32)))])) _
    refine XS.istore X12.here hx rfl (hb hby at_131) rfl (l' := #[.val (.int p1), .val (.int p2), .val (.ref b3), .val (.ref b5), .val (.int (((1 : Int32) &&& (1 : Int32)) &&& (1 : Int32))), .val (.int (((0 : Int32) + (own_r (p1 &&& (3 : Int32)))) + (own_r (((p1.toUInt32 >>> ((2 : Int32) &&& 31).toUInt32).toInt32) &&& (3 : Int32)))))]) rfl ?_
    show Steps p.tables e below (T12.setTop (mkF m 133 #[.val (.int p1), .val (.int p2), .val (.ref b3), .val (.ref b5), .val (.int (((1 : Int32) &&& (1 : Int32)) &&& (1 : Int32))), .val (.int (((0 : Int32) + (own_r (p1 &&& (3 : Int32)))) + (own_r (((p1.toUInt32 >>> ((2 : Int32) &&& 31).toUInt32).toInt32) &&& (3 : Int32)))))] [])) _
    refine XS.iload X12.here hx rfl (hb hby at_133) rfl ?_
    show Steps p.tables e below (T12.setTop (mkF m 135 #[.val (.int p1), .val (.int p2), .val (.ref b3), .val (.ref b5), .val (.int (((1 : Int32) &&& (1 : Int32)) &&& (1 : Int32))), .val (.int (((0 : Int32) + (own_r (p1 &&& (3 : Int32)))) + (own_r (((p1.toUInt32 >>> ((2 : Int32) &&& 31).toUInt32).toInt32) &&& (3 : Int32)))))] [(.int (((0 : Int32) + (own_r (p1 &&& (3 : Int32)))) + (own_r (((p1.toUInt32 >>> ((2 : Int32) &&& 31).toUInt32).toInt32) &&& (3 : Int32)))))])) _
    refine XS.aloadN X12.here hx rfl (hb hby at_135) rfl rfl ?_
    show Steps p.tables e below (T12.setTop (mkF m 136 #[.val (.int p1), .val (.int p2), .val (.ref b3), .val (.ref b5), .val (.int (((1 : Int32) &&& (1 : Int32)) &&& (1 : Int32))), .val (.int (((0 : Int32) + (own_r (p1 &&& (3 : Int32)))) + (own_r (((p1.toUInt32 >>> ((2 : Int32) &&& 31).toUInt32).toInt32) &&& (3 : Int32)))))] [(.ref b3), (.int (((0 : Int32) + (own_r (p1 &&& (3 : Int32)))) + (own_r (((p1.toUInt32 >>> ((2 : Int32) &&& 31).toUInt32).toInt32) &&& (3 : Int32)))))])) _
    refine XS.aloadN X12.here hx rfl (hb hby at_136) rfl rfl ?_
    show Steps p.tables e below (T12.setTop (mkF m 137 #[.val (.int p1), .val (.int p2), .val (.ref b3), .val (.ref b5), .val (.int (((1 : Int32) &&& (1 : Int32)) &&& (1 : Int32))), .val (.int (((0 : Int32) + (own_r (p1 &&& (3 : Int32)))) + (own_r (((p1.toUInt32 >>> ((2 : Int32) &&& 31).toUInt32).toInt32) &&& (3 : Int32)))))] [(.ref b5), (.ref b3), (.int (((0 : Int32) + (own_r (p1 &&& (3 : Int32)))) + (own_r (((p1.toUInt32 >>> ((2 : Int32) &&& 31).toUInt32).toInt32) &&& (3 : Int32)))))])) _
    refine XS.iloadN X12.here hx rfl (hb hby at_137) rfl ?_
    show Steps p.tables e below (T12.setTop (mkF m 138 #[.val (.int p1), .val (.int p2), .val (.ref b3), .val (.ref b5), .val (.int (((1 : Int32) &&& (1 : Int32)) &&& (1 : Int32))), .val (.int (((0 : Int32) + (own_r (p1 &&& (3 : Int32)))) + (own_r (((p1.toUInt32 >>> ((2 : Int32) &&& 31).toUInt32).toInt32) &&& (3 : Int32)))))] [(.int p1), (.ref b5), (.ref b3), (.int (((0 : Int32) + (own_r (p1 &&& (3 : Int32)))) + (own_r (((p1.toUInt32 >>> ((2 : Int32) &&& 31).toUInt32).toInt32) &&& (3 : Int32)))))])) _
    refine XS.iconst X12.here hx rfl (hb hby at_138) ?_
    show Steps p.tables e below (T12.setTop (mkF m 139 #[.val (.int p1), .val (.int p2), .val (.ref b3), .val (.ref b5), .val (.int (((1 : Int32) &&& (1 : Int32)) &&& (1 : Int32))), .val (.int (((0 : Int32) + (own_r (p1 &&& (3 : Int32)))) + (own_r (((p1.toUInt32 >>> ((2 : Int32) &&& 31).toUInt32).toInt32) &&& (3 : Int32)))))] [(.int (4 : Int32)), (.int p1), (.ref b5), (.ref b3), (.int (((0 : Int32) + (own_r (p1 &&& (3 : Int32)))) + (own_r (((p1.toUInt32 >>> ((2 : Int32) &&& 31).toUInt32).toInt32) &&& (3 : Int32)))))])) _
    refine XS.iushr X12.here hx rfl (hb hby at_139) rfl ?_
    show Steps p.tables e below (T12.setTop (mkF m 140 #[.val (.int p1), .val (.int p2), .val (.ref b3), .val (.ref b5), .val (.int (((1 : Int32) &&& (1 : Int32)) &&& (1 : Int32))), .val (.int (((0 : Int32) + (own_r (p1 &&& (3 : Int32)))) + (own_r (((p1.toUInt32 >>> ((2 : Int32) &&& 31).toUInt32).toInt32) &&& (3 : Int32)))))] [(.int ((p1.toUInt32 >>> ((4 : Int32) &&& 31).toUInt32).toInt32)), (.ref b5), (.ref b3), (.int (((0 : Int32) + (own_r (p1 &&& (3 : Int32)))) + (own_r (((p1.toUInt32 >>> ((2 : Int32) &&& 31).toUInt32).toInt32) &&& (3 : Int32)))))])) _
    refine XS.iconst X12.here hx rfl (hb hby at_140) ?_
    show Steps p.tables e below (T12.setTop (mkF m 141 #[.val (.int p1), .val (.int p2), .val (.ref b3), .val (.ref b5), .val (.int (((1 : Int32) &&& (1 : Int32)) &&& (1 : Int32))), .val (.int (((0 : Int32) + (own_r (p1 &&& (3 : Int32)))) + (own_r (((p1.toUInt32 >>> ((2 : Int32) &&& 31).toUInt32).toInt32) &&& (3 : Int32)))))] [(.int (3 : Int32)), (.int ((p1.toUInt32 >>> ((4 : Int32) &&& 31).toUInt32).toInt32)), (.ref b5), (.ref b3), (.int (((0 : Int32) + (own_r (p1 &&& (3 : Int32)))) + (own_r (((p1.toUInt32 >>> ((2 : Int32) &&& 31).toUInt32).toInt32) &&& (3 : Int32)))))])) _
    refine XS.iand X12.here hx rfl (hb hby at_141) rfl ?_
    show Steps p.tables e below (T12.setTop (mkF m 142 #[.val (.int p1), .val (.int p2), .val (.ref b3), .val (.ref b5), .val (.int (((1 : Int32) &&& (1 : Int32)) &&& (1 : Int32))), .val (.int (((0 : Int32) + (own_r (p1 &&& (3 : Int32)))) + (own_r (((p1.toUInt32 >>> ((2 : Int32) &&& 31).toUInt32).toInt32) &&& (3 : Int32)))))] [(.int (((p1.toUInt32 >>> ((4 : Int32) &&& 31).toUInt32).toInt32) &&& (3 : Int32))), (.ref b5), (.ref b3), (.int (((0 : Int32) + (own_r (p1 &&& (3 : Int32)))) + (own_r (((p1.toUInt32 >>> ((2 : Int32) &&& 31).toUInt32).toInt32) &&& (3 : Int32)))))])) _
    refine st13.trans ?_
    show Steps p.tables e below (T13.setTop (mkF m 145 #[.val (.int p1), .val (.int p2), .val (.ref b3), .val (.ref b5), .val (.int (((1 : Int32) &&& (1 : Int32)) &&& (1 : Int32))), .val (.int (((0 : Int32) + (own_r (p1 &&& (3 : Int32)))) + (own_r (((p1.toUInt32 >>> ((2 : Int32) &&& 31).toUInt32).toInt32) &&& (3 : Int32)))))] [(.int (own_r (((p1.toUInt32 >>> ((4 : Int32) &&& 31).toUInt32).toInt32) &&& (3 : Int32)))), (.int (((0 : Int32) + (own_r (p1 &&& (3 : Int32)))) + (own_r (((p1.toUInt32 >>> ((2 : Int32) &&& 31).toUInt32).toInt32) &&& (3 : Int32)))))])) _
    refine XS.iadd X13.here hx rfl (hb hby at_145) rfl ?_
    show Steps p.tables e below (T13.setTop (mkF m 146 #[.val (.int p1), .val (.int p2), .val (.ref b3), .val (.ref b5), .val (.int (((1 : Int32) &&& (1 : Int32)) &&& (1 : Int32))), .val (.int (((0 : Int32) + (own_r (p1 &&& (3 : Int32)))) + (own_r (((p1.toUInt32 >>> ((2 : Int32) &&& 31).toUInt32).toInt32) &&& (3 : Int32)))))] [(.int ((((0 : Int32) + (own_r (p1 &&& (3 : Int32)))) + (own_r (((p1.toUInt32 >>> ((2 : Int32) &&& 31).toUInt32).toInt32) &&& (3 : Int32)))) + (own_r (((p1.toUInt32 >>> ((4 : Int32) &&& 31).toUInt32).toInt32) &&& (3 : Int32)))))])) _
    refine XS.istore X13.here hx rfl (hb hby at_146) rfl (l' := #[.val (.int p1), .val (.int p2), .val (.ref b3), .val (.ref b5), .val (.int (((1 : Int32) &&& (1 : Int32)) &&& (1 : Int32))), .val (.int ((((0 : Int32) + (own_r (p1 &&& (3 : Int32)))) + (own_r (((p1.toUInt32 >>> ((2 : Int32) &&& 31).toUInt32).toInt32) &&& (3 : Int32)))) + (own_r (((p1.toUInt32 >>> ((4 : Int32) &&& 31).toUInt32).toInt32) &&& (3 : Int32)))))]) rfl ?_
    show Steps p.tables e below (T13.setTop (mkF m 148 #[.val (.int p1), .val (.int p2), .val (.ref b3), .val (.ref b5), .val (.int (((1 : Int32) &&& (1 : Int32)) &&& (1 : Int32))), .val (.int ((((0 : Int32) + (own_r (p1 &&& (3 : Int32)))) + (own_r (((p1.toUInt32 >>> ((2 : Int32) &&& 31).toUInt32).toInt32) &&& (3 : Int32)))) + (own_r (((p1.toUInt32 >>> ((4 : Int32) &&& 31).toUInt32).toInt32) &&& (3 : Int32)))))] [])) _
    refine XS.iload X13.here hx rfl (hb hby at_148) rfl ?_
    show Steps p.tables e below (T13.setTop (mkF m 150 #[.val (.int p1), .val (.int p2), .val (.ref b3), .val (.ref b5), .val (.int (((1 : Int32) &&& (1 : Int32)) &&& (1 : Int32))), .val (.int ((((0 : Int32) + (own_r (p1 &&& (3 : Int32)))) + (own_r (((p1.toUInt32 >>> ((2 : Int32) &&& 31).toUInt32).toInt32) &&& (3 : Int32)))) + (own_r (((p1.toUInt32 >>> ((4 : Int32) &&& 31).toUInt32).toInt32) &&& (3 : Int32)))))] [(.int (((1 : Int32) &&& (1 : Int32)) &&& (1 : Int32)))])) _
    refine XS.aloadN X13.here hx rfl (hb hby at_150) rfl rfl ?_
    show Steps p.tables e below (T13.setTop (mkF m 151 #[.val (.int p1), .val (.int p2), .val (.ref b3), .val (.ref b5), .val (.int (((1 : Int32) &&& (1 : Int32)) &&& (1 : Int32))), .val (.int ((((0 : Int32) + (own_r (p1 &&& (3 : Int32)))) + (own_r (((p1.toUInt32 >>> ((2 : Int32) &&& 31).toUInt32).toInt32) &&& (3 : Int32)))) + (own_r (((p1.toUInt32 >>> ((4 : Int32) &&& 31).toUInt32).toInt32) &&& (3 : Int32)))))] [(.ref b3), (.int (((1 : Int32) &&& (1 : Int32)) &&& (1 : Int32)))])) _
    refine st14.trans ?_
    show Steps p.tables e below (T14.setTop (mkF m 154 #[.val (.int p1), .val (.int p2), .val (.ref b3), .val (.ref b5), .val (.int (((1 : Int32) &&& (1 : Int32)) &&& (1 : Int32))), .val (.int ((((0 : Int32) + (own_r (p1 &&& (3 : Int32)))) + (own_r (((p1.toUInt32 >>> ((2 : Int32) &&& 31).toUInt32).toInt32) &&& (3 : Int32)))) + (own_r (((p1.toUInt32 >>> ((4 : Int32) &&& 31).toUInt32).toInt32) &&& (3 : Int32)))))] [(.int (own_pos ((((0 : Int32) + (own_r (p1 &&& (3 : Int32)))) + (own_r (((p1.toUInt32 >>> ((2 : Int32) &&& 31).toUInt32).toInt32) &&& (3 : Int32)))) + (own_r (((p1.toUInt32 >>> ((4 : Int32) &&& 31).toUInt32).toInt32) &&& (3 : Int32)))))), (.int (((1 : Int32) &&& (1 : Int32)) &&& (1 : Int32)))])) _
    refine XS.iload X14.here hx rfl (hb hby at_154) rfl ?_
    show Steps p.tables e below (T14.setTop (mkF m 156 #[.val (.int p1), .val (.int p2), .val (.ref b3), .val (.ref b5), .val (.int (((1 : Int32) &&& (1 : Int32)) &&& (1 : Int32))), .val (.int ((((0 : Int32) + (own_r (p1 &&& (3 : Int32)))) + (own_r (((p1.toUInt32 >>> ((2 : Int32) &&& 31).toUInt32).toInt32) &&& (3 : Int32)))) + (own_r (((p1.toUInt32 >>> ((4 : Int32) &&& 31).toUInt32).toInt32) &&& (3 : Int32)))))] [(.int ((((0 : Int32) + (own_r (p1 &&& (3 : Int32)))) + (own_r (((p1.toUInt32 >>> ((2 : Int32) &&& 31).toUInt32).toInt32) &&& (3 : Int32)))) + (own_r (((p1.toUInt32 >>> ((4 : Int32) &&& 31).toUInt32).toInt32) &&& (3 : Int32))))), (.int (own_pos ((((0 : Int32) + (own_r (p1 &&& (3 : Int32)))) + (own_r (((p1.toUInt32 >>> ((2 : Int32) &&& 31).toUInt32).toInt32) &&& (3 : Int32)))) + (own_r (((p1.toUInt32 >>> ((4 : Int32) &&& 31).toUInt32).toInt32) &&& (3 : Int32)))))), (.int (((1 : Int32) &&& (1 : Int32)) &&& (1 : Int32)))])) _
    refine XS.ifNo X14.here hx rfl (hb hby at_156) rfl ((if0 _ _).trans (tlt hc156).2.2.2) ?_
    show Steps p.tables e below (T14.setTop (mkF m 159 #[.val (.int p1), .val (.int p2), .val (.ref b3), .val (.ref b5), .val (.int (((1 : Int32) &&& (1 : Int32)) &&& (1 : Int32))), .val (.int ((((0 : Int32) + (own_r (p1 &&& (3 : Int32)))) + (own_r (((p1.toUInt32 >>> ((2 : Int32) &&& 31).toUInt32).toInt32) &&& (3 : Int32)))) + (own_r (((p1.toUInt32 >>> ((4 : Int32) &&& 31).toUInt32).toInt32) &&& (3 : Int32)))))] [(.int (own_pos ((((0 : Int32) + (own_r (p1 &&& (3 : Int32)))) + (own_r (((p1.toUInt32 >>> ((2 : Int32) &&& 31).toUInt32).toInt32) &&& (3 : Int32)))) + (own_r (((p1.toUInt32 >>> ((4 : Int32) &&& 31).toUInt32).toInt32) &&& (3 : Int32)))))), (.int (((1 : Int32) &&& (1 : Int32)) &&& (1 : Int32)))])) _
    refine XS.iconst X14.here hx rfl (hb hby at_159) ?_
    show Steps p.tables e below (T14.setTop (mkF m 160 #[.val (.int p1), .val (.int p2), .val (.ref b3), .val (.ref b5), .val (.int (((1 : Int32) &&& (1 : Int32)) &&& (1 : Int32))), .val (.int ((((0 : Int32) + (own_r (p1 &&& (3 : Int32)))) + (own_r (((p1.toUInt32 >>> ((2 : Int32) &&& 31).toUInt32).toInt32) &&& (3 : Int32)))) + (own_r (((p1.toUInt32 >>> ((4 : Int32) &&& 31).toUInt32).toInt32) &&& (3 : Int32)))))] [(.int (1 : Int32)), (.int (own_pos ((((0 : Int32) + (own_r (p1 &&& (3 : Int32)))) + (own_r (((p1.toUInt32 >>> ((2 : Int32) &&& 31).toUInt32).toInt32) &&& (3 : Int32)))) + (own_r (((p1.toUInt32 >>> ((4 : Int32) &&& 31).toUInt32).toInt32) &&& (3 : Int32)))))), (.int (((1 : Int32) &&& (1 : Int32)) &&& (1 : Int32)))])) _
    refine XS.goto X14.here hx rfl (pc0 := 160) (pc' := 164) rfl (hb hby at_160) (by decide) (by decide) ?_
    show Steps p.tables e below (T14.setTop (mkF m 164 #[.val (.int p1), .val (.int p2), .val (.ref b3), .val (.ref b5), .val (.int (((1 : Int32) &&& (1 : Int32)) &&& (1 : Int32))), .val (.int ((((0 : Int32) + (own_r (p1 &&& (3 : Int32)))) + (own_r (((p1.toUInt32 >>> ((2 : Int32) &&& 31).toUInt32).toInt32) &&& (3 : Int32)))) + (own_r (((p1.toUInt32 >>> ((4 : Int32) &&& 31).toUInt32).toInt32) &&& (3 : Int32)))))] [(.int (1 : Int32)), (.int (own_pos ((((0 : Int32) + (own_r (p1 &&& (3 : Int32)))) + (own_r (((p1.toUInt32 >>> ((2 : Int32) &&& 31).toUInt32).toInt32) &&& (3 : Int32)))) + (own_r (((p1.toUInt32 >>> ((4 : Int32) &&& 31).toUInt32).toInt32) &&& (3 : Int32)))))), (.int (((1 : Int32) &&& (1 : Int32)) &&& (1 : Int32)))])) _
    refine XS.icmpNo X14.here hx rfl (hb hby at_164) rfl (teq hc164).2 ?_
    show Steps p.tables e below (T14.setTop (mkF m 167 #[.val (.int p1), .val (.int p2), .val (.ref b3), .val (.ref b5), .val (.int (((1 : Int32) &&& (1 : Int32)) &&& (1 : Int32))), .val (.int ((((0 : Int32) + (own_r (p1 &&& (3 : Int32)))) + (own_r (((p1.toUInt32 >>> ((2 : Int32) &&& 31).toUInt32).toInt32) &&& (3 : Int32)))) + (own_r (((p1.toUInt32 >>> ((4 : Int32) &&& 31).toUInt32).toInt32) &&& (3 : Int32)))))] [(.int (((1 : Int32) &&& (1 : Int32)) &&& (1 : Int32)))])) _
    refine XS.iconst X14.here hx rfl (hb hby at_167) ?_
    show Steps p.tables e below (T14.setTop (mkF m 168 #[.val (.int p1), .val (.int p2), .val (.ref b3), .val (.ref b5), .val (.int (((1 : Int32) &&& (1 : Int32)) &&& (1 : Int32))), .val (.int ((((0 : Int32) + (own_r (p1 &&& (3 : Int32)))) + (own_r (((p1.toUInt32 >>> ((2 : Int32) &&& 31).toUInt32).toInt32) &&& (3 : Int32)))) + (own_r (((p1.toUInt32 >>> ((4 : Int32) &&& 31).toUInt32).toInt32) &&& (3 : Int32)))))] [(.int (1 : Int32)), (.int (((1 : Int32) &&& (1 : Int32)) &&& (1 : Int32)))])) _
    refine XS.goto X14.here hx rfl (pc0 := 168) (pc' := 172) rfl (hb hby at_168) (by decide) (by decide) ?_
    show Steps p.tables e below (T14.setTop (mkF m 172 #[.val (.int p1), .val (.int p2), .val (.ref b3), .val (.ref b5), .val (.int (((1 : Int32) &&& (1 : Int32)) &&& (1 : Int32))), .val (.int ((((0 : Int32) + (own_r (p1 &&& (3 : Int32)))) + (own_r (((p1.toUInt32 >>> ((2 : Int32) &&& 31).toUInt32).toInt32) &&& (3 : Int32)))) + (own_r (((p1.toUInt32 >>> ((4 : Int32) &&& 31).toUInt32).toInt32) &&& (3 : Int32)))))] [(.int (1 : Int32)), (.int (((1 : Int32) &&& (1 : Int32)) &&& (1 : Int32)))])) _
    refine XS.iand X14.here hx rfl (hb hby at_172) rfl ?_
    show Steps p.tables e below (T14.setTop (mkF m 173 #[.val (.int p1), .val (.int p2), .val (.ref b3), .val (.ref b5), .val (.int (((1 : Int32) &&& (1 : Int32)) &&& (1 : Int32))), .val (.int ((((0 : Int32) + (own_r (p1 &&& (3 : Int32)))) + (own_r (((p1.toUInt32 >>> ((2 : Int32) &&& 31).toUInt32).toInt32) &&& (3 : Int32)))) + (own_r (((p1.toUInt32 >>> ((4 : Int32) &&& 31).toUInt32).toInt32) &&& (3 : Int32)))))] [(.int ((((1 : Int32) &&& (1 : Int32)) &&& (1 : Int32)) &&& (1 : Int32)))])) _
    refine XS.istore X14.here hx rfl (hb hby at_173) rfl (l' := #[.val (.int p1), .val (.int p2), .val (.ref b3), .val (.ref b5), .val (.int ((((1 : Int32) &&& (1 : Int32)) &&& (1 : Int32)) &&& (1 : Int32))), .val (.int ((((0 : Int32) + (own_r (p1 &&& (3 : Int32)))) + (own_r (((p1.toUInt32 >>> ((2 : Int32) &&& 31).toUInt32).toInt32) &&& (3 : Int32)))) + (own_r (((p1.toUInt32 >>> ((4 : Int32) &&& 31).toUInt32).toInt32) &&& (3 : Int32)))))]) rfl ?_
    show Steps p.tables e below (T14.setTop (mkF m 175 #[.val (.int p1), .val (.int p2), .val (.ref b3), .val (.ref b5), .val (.int ((((1 : Int32) &&& (1 : Int32)) &&& (1 : Int32)) &&& (1 : Int32))), .val (.int ((((0 : Int32) + (own_r (p1 &&& (3 : Int32)))) + (own_r (((p1.toUInt32 >>> ((2 : Int32) &&& 31).toUInt32).toInt32) &&& (3 : Int32)))) + (own_r (((p1.toUInt32 >>> ((4 : Int32) &&& 31).toUInt32).toInt32) &&& (3 : Int32)))))] [])) _
    refine XS.iload X14.here hx rfl (hb hby at_175) rfl ?_
    show Steps p.tables e below (T14.setTop (mkF m 177 #[.val (.int p1), .val (.int p2), .val (.ref b3), .val (.ref b5), .val (.int ((((1 : Int32) &&& (1 : Int32)) &&& (1 : Int32)) &&& (1 : Int32))), .val (.int ((((0 : Int32) + (own_r (p1 &&& (3 : Int32)))) + (own_r (((p1.toUInt32 >>> ((2 : Int32) &&& 31).toUInt32).toInt32) &&& (3 : Int32)))) + (own_r (((p1.toUInt32 >>> ((4 : Int32) &&& 31).toUInt32).toInt32) &&& (3 : Int32)))))] [(.int ((((1 : Int32) &&& (1 : Int32)) &&& (1 : Int32)) &&& (1 : Int32)))])) _
    exact retN X14 hx (t := .boolean) Bd.returns (by simp) (hb hby at_177) hr
  · show Q0 Z p1 p2 h0 n0 _ T14.heap _
    rw [e14c]
    exact ⟨rfl, N14⟩
  · show CHr Z EL s.vm s.heap T14.vm T14.heap
    rw [hh, e14c]
    exact RZ
theorem own_len {Z : State} {args : Array Value} {t : Term} {a : Addr} {cl : Cell} {ty : FieldType} {n : Int32} (et : t.eval args Z none [] Z = some (.ref a)) (A : Arr Z Z.heap a cl ty) (h : (Cond.eq (Term.length t) (Term.int n)).value args Z none Z [] = some true) :
    cl.slots.size.toInt32 = n ∧ cl.slots.size < 2 ^ 31 ∧ cl.slots.size = n.toNatClampNeg ∧ ¬ n < 0 := by
  have q := eqv_i (Term.int_eval n) h
  have ha : Z.arrayAt? a = some cl := A.fin (Vm.Alike.refl _)
  by_cases hl : cl.slots.size < 2 ^ 31
  · have e := Value.int.inj (Option.some.inj ((len_f et ha hl).symm.trans q))
    have r := len_toInt hl
    rw [e] at r
    refine ⟨e, hl, ?_, ?_⟩
    · show _ = n.toInt.toNat
      rw [r]; rfl
    · rw [Int32.lt_iff_toInt_lt, r]; simp
  · exfalso
    simp [Term.eval, et, ha, hl] at q
theorem own_r01 (k : Int32) : own_r k = 0 ∨ own_r k = 1 := by
  unfold own_r
  split
  · exact Or.inl rfl
  · split
    · exact Or.inl rfl
    · exact Or.inr rfl
theorem own_p3 (x : Int32) : ¬ (((x &&& (65535 : Int32)) + (1 : Int32)) < (1 : Int32)) := by
  have h := c_and x (65535 : Int32) (by decide)
  have z : (65535 : Int32).toInt = 65535 := by decide
  have z1 : (1 : Int32).toInt = 1 := by decide
  have a := c_iadd (x &&& (65535 : Int32)) (1 : Int32)
  have r := rng32 ((x &&& (65535 : Int32)) + (1 : Int32))
  rw [Int32.lt_iff_toInt_lt]; omega
theorem own_p4 (y : Int32) : ¬ (((y &&& (32767 : Int32)) + (1 : Int32)) < (1 : Int32)) := by
  have h := c_and y (32767 : Int32) (by decide)
  have z : (32767 : Int32).toInt = 32767 := by decide
  have z1 : (1 : Int32).toInt = 1 := by decide
  have a := c_iadd (y &&& (32767 : Int32)) (1 : Int32)
  have r := rng32 ((y &&& (32767 : Int32)) + (1 : Int32))
  rw [Int32.lt_iff_toInt_lt]; omega
set_option maxRecDepth 65536 in
set_option maxHeartbeats 40000000 in
theorem comes_1 {Post : Tables → Env → Array Value → State → Outcome → State → Prop} (hpost : ∀ tb e args s v u, (limb_1_1.after args s (.returned v) u = true ∧ limb_1_2.after args s (.returned v) u = true ∧ True) → ReturnedEndW s (.returned v) u (Jvm.fieldLocs frame_1_writes args s ++ Jvm.arrayLocs frame_1_arrays args s ++ Jvm.staticLocs frame_1_statics s) 40 6336 → Post tb e args s (.returned v) u) :
    ArmFor flags0 classFile x code maxLocals ret World_1 tables_1 room_1 Calls_1 rest_1 Pre_1 Post := by
  intro l hfl _ _ p e ha hc hk s m args below hf hA hF happ hP
  obtain ⟨hcalls, hrest, hpre⟩ := hP
  obtain ⟨-, -, -, hnamed, -, -, -, hat⟩ := (Spec.applies_iff hf).mp happ
  obtain ⟨hg, hn⟩ := and_e (Cond.before_iff.mp (show (Jvm.Cond.and given_1 narrow_1).before args s = true from hpre))
  obtain ⟨g1, g2⟩ := and_e hg
  obtain ⟨v0, c0⟩ := and_e g2
  obtain ⟨w0, w1, rfl⟩ : ∃ w0 w1 : Value, args = #[w0, w1] := by
    have hs : args.size = 2 := by simpa [Cond.value, given_1] using g1
    obtain ⟨L⟩ := args
    match L, hs with
    | [w0, w1], _ => exact ⟨w0, w1, rfl⟩
  have hw := fun d (hd : d ∈ tables_1) => atoms_spec (ws := Jvm.Cond.code x code maxLocals ret :: tables_1) hat d (List.mem_cons_of_mem _ hd)
  have hfit : Fit s := fun {y c} hc i hi => by
    obtain ⟨ha, rfl⟩ := Array.getElem?_eq_some_iff.mp hc
    have q := List.all_eq_true.mp ((Array.all_eq_true_iff_forall_mem.mp hF) _ (Array.getElem_mem ha)) i (List.mem_range.mpr hi)
    simpa [Array.getElem?_eq_getElem hi] using q
  obtain ⟨hsets, hown0⟩ := atoms_of _ (rest_1_c_eq ▸ (show rest_1_c.before _ s = true from hrest))
  have hr0 := Cond.before_iff.mp hown0
  obtain ⟨i0, ei0⟩ := is_v v0
  obtain rfl : w0 = (.int i0) := Option.some.inj ei0
  obtain ⟨i1, ei1⟩ := is_v c0
  obtain rfl : w1 = (.int i1) := Option.some.inj ei1
  have hEL : EW s _ EL := EW.cons (hw _ (List.mem_of_getElem? (i := 78) rfl)) (by decide) EW.nil
  have hC0 : CHv s EL s.vm s.heap := CHv.start hEL (fun p hp => by
    obtain rfl : p = ("com/example/stomme/stomme/diagnostic/DiagnosticsHasErrorsPinLaw", 28) := List.mem_singleton.mp hp
    exact hcalls.1 _ (List.mem_of_getElem? (i := 4) rfl)) (hsets _ (List.mem_of_getElem? (i := 11) rfl)) (hw _ (List.mem_of_getElem? (i := 41) rfl)) (hw _ (List.mem_of_getElem? (i := 40) rfl))
  suffices M : MetFree l x (head1 (Jvm.Cond.code x code maxLocals ret :: tables_1) room_1) (fun a U => a = #[(.int i0), (.int i1)] ∧ s.Warmed39 U.vm ∧ U.heap = s.heap ∧ CHv s EL U.vm s.heap) (fun _ _ _ _ _ => True) (fun _ U o U' => ∃ v L, o = .returned v ∧ Q0 s i0 i1 s.heap s.heap.size v U'.heap L ∧ CHr s EL U.vm U.heap U'.vm U'.heap ∧ ReturnedEndW U o U' L room_1.cells room_1.slots) by
    obtain ⟨n, o, h1, h2, h3, _, L, rfl, ⟨rfl, N⟩, -, hq⟩ := M p e ha hc hk s m _ below hf ((Spec.applies_iff_loose hf).mp happ).1 ⟨rfl, State.Warmed39.refl s, rfl, hC0⟩ trivial
    exact ⟨n, _, h1, h2, h3, hpost _ _ _ _ _ _ ⟨Cond.after_iff.mpr rfl, Cond.after_iff.mpr (eq_i res_at (Term.int_eval (1)) rfl), trivial⟩ ⟨hq.1, hq.2.1, hq.2.2.1, (hq.2.2.2.sift fun y hy => Or.inr (N y hy)).mono (by decide) (by decide)⟩⟩
  obtain ⟨a0, a1⟩ := and_e hn
  obtain ⟨uE, eE⟩ := exa_v a0
  obtain ⟨uW, eW⟩ := exa_v a1
  have S_E := Sta.start eE (Or.inr ⟨(hw _ (List.mem_of_getElem? (i := 88) rfl)), (hw _ (List.mem_of_getElem? (i := 89) rfl))⟩)
  have S_W := Sta.start eW (Or.inr ⟨(hw _ (List.mem_of_getElem? (i := 88) rfl)), (hw _ (List.mem_of_getElem? (i := 193) rfl))⟩)
  obtain ⟨wD, eD⟩ := arr_v (Cond.before_iff.mp (hsets _ (List.mem_of_getElem? (i := 6) rfl)))
  obtain ⟨clD, A_D⟩ := Arr.start eD (Cond.before_iff.mp (hsets _ (List.mem_of_getElem? (i := 6) rfl)))
  obtain ⟨-, -, Sz_D, -⟩ := own_len eD A_D (Cond.before_iff.mp (hsets _ (List.mem_of_getElem? (i := 8) rfl)))
  have S_D := Sta.start eD (Or.inr ⟨(hw _ (List.mem_of_getElem? (i := 11) rfl)), (hsets _ (List.mem_of_getElem? (i := 2) rfl))⟩)
  obtain ⟨wC, eC⟩ := is_v (Cond.before_iff.mp (hsets _ (List.mem_of_getElem? (i := 10) rfl)))
  have S_C := Sta.start eC (Or.inl (hsets _ (List.mem_of_getElem? (i := 9) rfl)))
  have hC : ¬ (wC = (0 : Int32)) := gotF (Cond.eq_ints eC (Term.int_eval (0))) (not_v (Cond.before_iff.mp (hsets _ (List.mem_of_getElem? (i := 11) rfl))))
  obtain ⟨wI, eI⟩ := exa_v (Cond.before_iff.mp (hsets _ (List.mem_of_getElem? (i := 20) rfl)))
  have E_I := Exa.start eI (Cond.before_iff.mp (hsets _ (List.mem_of_getElem? (i := 20) rfl)))
  have S_I := Sta.start eI (Or.inl (hsets _ (List.mem_of_getElem? (i := 19) rfl)))
  obtain ⟨wA, eA⟩ := arr_v (Cond.before_iff.mp (hsets _ (List.mem_of_getElem? (i := 23) rfl)))
  obtain ⟨clA, A_A⟩ := Arr.start eA (Cond.before_iff.mp (hsets _ (List.mem_of_getElem? (i := 23) rfl)))
  have S_A := Sta.start eA (Or.inl (hsets _ (List.mem_of_getElem? (i := 22) rfl)))
  have qA := elem_in (eqv_i (Term.int_eval _) (Cond.before_iff.mp (hsets _ (List.mem_of_getElem? (i := 135) rfl)))) eA (Term.int_eval _) A_A.1
  have Wl : Wld s wD clD wA (8486882 : Int32) clA wC wI uE uW := ⟨S_A, A_A, qA.1, qA.2, S_C, hC, S_I, E_I, (by decide), S_D, A_D, Sz_D, S_E, S_W⟩
  have hp3 := own_p3 i1
  have hp4 := own_p4 ((i1.toUInt32 >>> ((16 : Int32) &&& 31).toUInt32).toInt32)
  rcases own_r01 (i0 &&& (3 : Int32)) with h0 | h0
  · rcases own_r01 (((i0.toUInt32 >>> ((2 : Int32) &&& 31).toUInt32).toInt32) &&& (3 : Int32)) with h1 | h1
    · rcases own_r01 (((i0.toUInt32 >>> ((4 : Int32) &&& 31).toUInt32).toInt32) &&& (3 : Int32)) with h2 | h2
      · exact rm0A l s _ hw tables_1 i0 i1 wD clD wA (8486882 : Int32) clA wC wI uE uW hEL s.heap s.heap.size (Nat.le_refl _) (Old.start s) Wl S_D hp3 hp4 (by decide) (by rw [h0]; decide) (by rw [h0]; decide) (by rw [h0, h1]; decide) (by rw [h0, h1]; decide) (by rw [h0, h1, h2]; decide) (by rw [h0, h1, h2]; decide)
      · exact rm0B l s _ hw tables_1 i0 i1 wD clD wA (8486882 : Int32) clA wC wI uE uW hEL s.heap s.heap.size (Nat.le_refl _) (Old.start s) Wl S_D hp3 hp4 (by decide) (by rw [h0]; decide) (by rw [h0]; decide) (by rw [h0, h1]; decide) (by rw [h0, h1]; decide) (by rw [h0, h1, h2]; decide) (by rw [h0, h1, h2]; decide)
    · rcases own_r01 (((i0.toUInt32 >>> ((4 : Int32) &&& 31).toUInt32).toInt32) &&& (3 : Int32)) with h2 | h2
      · exact rm0C l s _ hw tables_1 i0 i1 wD clD wA (8486882 : Int32) clA wC wI uE uW hEL s.heap s.heap.size (Nat.le_refl _) (Old.start s) Wl S_D hp3 hp4 (by decide) (by rw [h0]; decide) (by rw [h0]; decide) (by rw [h0, h1]; decide) (by rw [h0, h1]; decide) (by rw [h0, h1, h2]; decide) (by rw [h0, h1, h2]; decide)
      · exact rm0C l s _ hw tables_1 i0 i1 wD clD wA (8486882 : Int32) clA wC wI uE uW hEL s.heap s.heap.size (Nat.le_refl _) (Old.start s) Wl S_D hp3 hp4 (by decide) (by rw [h0]; decide) (by rw [h0]; decide) (by rw [h0, h1]; decide) (by rw [h0, h1]; decide) (by rw [h0, h1, h2]; decide) (by rw [h0, h1, h2]; decide)
  · rcases own_r01 (((i0.toUInt32 >>> ((2 : Int32) &&& 31).toUInt32).toInt32) &&& (3 : Int32)) with h1 | h1
    · rcases own_r01 (((i0.toUInt32 >>> ((4 : Int32) &&& 31).toUInt32).toInt32) &&& (3 : Int32)) with h2 | h2
      · exact rm0D l s _ hw tables_1 i0 i1 wD clD wA (8486882 : Int32) clA wC wI uE uW hEL s.heap s.heap.size (Nat.le_refl _) (Old.start s) Wl S_D hp3 hp4 (by decide) (by rw [h0]; decide) (by rw [h0]; decide) (by rw [h0, h1]; decide) (by rw [h0, h1]; decide) (by rw [h0, h1, h2]; decide) (by rw [h0, h1, h2]; decide)
      · exact rm0D l s _ hw tables_1 i0 i1 wD clD wA (8486882 : Int32) clA wC wI uE uW hEL s.heap s.heap.size (Nat.le_refl _) (Old.start s) Wl S_D hp3 hp4 (by decide) (by rw [h0]; decide) (by rw [h0]; decide) (by rw [h0, h1]; decide) (by rw [h0, h1]; decide) (by rw [h0, h1, h2]; decide) (by rw [h0, h1, h2]; decide)
    · rcases own_r01 (((i0.toUInt32 >>> ((4 : Int32) &&& 31).toUInt32).toInt32) &&& (3 : Int32)) with h2 | h2
      · exact rm0D l s _ hw tables_1 i0 i1 wD clD wA (8486882 : Int32) clA wC wI uE uW hEL s.heap s.heap.size (Nat.le_refl _) (Old.start s) Wl S_D hp3 hp4 (by decide) (by rw [h0]; decide) (by rw [h0]; decide) (by rw [h0, h1]; decide) (by rw [h0, h1]; decide) (by rw [h0, h1, h2]; decide) (by rw [h0, h1, h2]; decide)
      · exact rm0D l s _ hw tables_1 i0 i1 wD clD wA (8486882 : Int32) clA wC wI uE uW hEL s.heap s.heap.size (Nat.le_refl _) (Old.start s) Wl S_D hp3 hp4 (by decide) (by rw [h0]; decide) (by rw [h0]; decide) (by rw [h0, h1]; decide) (by rw [h0, h1]; decide) (by rw [h0, h1, h2]; decide) (by rw [h0, h1, h2]; decide)
theorem main_1_1 : Claimed_1_1 := comes_1 fun _ _ _ _ _ _ h hF => ⟨h.1, hF⟩
theorem main_1_2 : Claimed_1_2 := comes_1 fun _ _ _ _ _ _ h hF => ⟨h.2.1, hF⟩
end Jvm.Pilot.@@N@@
namespace Jvm.Pilot.@@N@@
open Jvm Jvm.ClassFile Sem Op Lib Jvm.Free Jvm.Stand Jvm.Pilot.@@N@@.Jvm.D
/-! MADE BY PROGRAM (witnessworld.py) out of the Statement's table words and the real class files: 34 classes; the members and pool entries that the words name. The judged class is class 1, her method 1. -/
namespace start1
open Jvm.ClassFile
def u (s : String) : CpInfo := .utf8 (stringToUtf16 s)
/-- a pool by its gaps: so many unusable entries, then the entry; so many at the end -/
def gap : Nat → List CpInfo → List CpInfo
  | 0, r => r
  | n + 1, r => .unusable :: gap n r
def poolList (es : List (Nat × CpInfo)) (last : Nat) : List CpInfo := es.foldr (fun e r => gap e.1 (e.2 :: r)) (gap last [])
def pool (es : List (Nat × CpInfo)) (last : Nat) : Array CpInfo := ⟨poolList es last⟩
def fileOf (pool : Array CpInfo) (this : Nat) (attrs : Array Attribute := #[]) (ms : Array MethodInfo := #[]) (fl : Nat := 33) (sup : Nat := 0) (ifs : Array Nat := #[]) (fds : Array FieldInfo := #[]) : ClassFile where
  minorVersion := 0
  majorVersion := 65
  constantPool := pool
  accessFlags := fl
  thisClass := this
  superClass := sup
  interfaces := ifs
  fields := fds
  methods := ms
  attributes := attrs
def plain (name : String) (sup : Option ClassId) : Class where
  name := name
  kind := .ordinary
  loader := none
  accessFlags := 33
  super := sup
  interfaces := #[]
  cf := none
  fields := #[]
  methods := #[]
  instanceTypes := #[]
  staticTypes := #[]
  resolved := #[]
  callSites := []
  init := .initialized
  statics := none
  mirror := none

def pool0 : Array CpInfo := pool [(5, u "<init>"), (0, u "()V"), (1, .class_ 10), (1, u "java/lang/Object")] 113

def k0c0 : Code := { maxStack := 0, maxLocals := 1, code := object_method_1_code, exceptionTable := #[], attributes := #[] }
def k0m0 : Method := { name := "<init>", desc := "()V", sig := { parameters := [], returnType := none }, accessFlags := 1, code := some k0c0 }
/-- java/lang/Object -/
def k0 : Class := { plain "java/lang/Object" none with
  accessFlags := 33
  interfaces := #[]
  cf := some (fileOf pool0 8 #[] #[{ accessFlags := 1, nameIndex := 5, descriptorIndex := 6, attributes := #[] }] 33 0 #[] #[])
  fields := #[]
  methods := #[k0m0]
  instanceTypes := #[]
  staticTypes := #[]
  resolved := Array.replicate 124 none
  statics := none }

def pool1 : Array CpInfo := pool [(2, .class_ 4), (0, .nameAndType 5 6), (0, u "java/lang/Object"), (0, u "<init>"), (0, u "()V"), (0, .class_ 8), (0, u "com/example/stomme/stomme/diagnostic/Diagnostics"), (0, .methodref 7 3), (0, .class_ 11), (0, u "com/example/stomme/stomme/diagnostic/Position"), (0, .string 13), (0, u "f"), (0, .integer 65535), (0, .methodref 10 16), (0, .nameAndType 5 17), (0, u "(Ljava/lang/String;II)V"), (0, .methodref 7 19), (0, .nameAndType 20 21), (0, u "hasErrors"), (0, u "()Z"), (0, .methodref 23 24), (0, .class_ 25), (0, .nameAndType 26 27), (0, u "com/example/stomme/stomme/diagnostic/DiagnosticsHasErrorsPinLaw"), (0, u "step"), (0, u "(Lcom/example/stomme/stomme/diagnostic/Diagnostics;Lcom/example/stomme/stomme/diagnostic/Position;I)I"), (0, .string 29), (0, u "m"), (0, .methodref 7 31), (0, .nameAndType 32 33), (0, u "warning"), (0, u "(Lcom/example/stomme/stomme/diagnostic/Position;Ljava/lang/String;)V"), (0, .methodref 7 35), (0, .nameAndType 36 33), (0, u "error"), (2, u "law"), (0, u "(II)Z")] 3

def k1m0 : Method := { name := "<init>", desc := "()V", sig := { parameters := [], returnType := none }, accessFlags := 1, code := none }
def k1c1 : Code := { maxStack := 6, maxLocals := 6, code := code, exceptionTable := #[], attributes := #[] }
def k1m1 : Method := { name := "law", desc := "(II)Z", sig := { parameters := [.int, .int], returnType := some .boolean }, accessFlags := 9, code := some k1c1 }
def k1c2 : Code := { maxStack := 3, maxLocals := 3, code := method_3_code, exceptionTable := #[], attributes := #[] }
def k1m2 : Method := { name := "step", desc := "(Lcom/example/stomme/stomme/diagnostic/Diagnostics;Lcom/example/stomme/stomme/diagnostic/Position;I)I", sig := { parameters := [(.object "com/example/stomme/stomme/diagnostic/Diagnostics"), (.object "com/example/stomme/stomme/diagnostic/Position"), .int], returnType := some .int }, accessFlags := 10, code := some k1c2 }
/-- com/example/stomme/stomme/diagnostic/DiagnosticsHasErrorsPinLaw -/
def k1 : Class := { plain "com/example/stomme/stomme/diagnostic/DiagnosticsHasErrorsPinLaw" (some 0) with
  accessFlags := 49
  interfaces := #[]
  cf := some (fileOf pool1 23 #[] #[{ accessFlags := 1, nameIndex := 5, descriptorIndex := 6, attributes := #[] }, { accessFlags := 9, nameIndex := 39, descriptorIndex := 40, attributes := #[] }, { accessFlags := 10, nameIndex := 26, descriptorIndex := 27, attributes := #[] }] 49 2 #[] #[])
  fields := #[]
  methods := #[k1m0, k1m1, k1m2]
  instanceTypes := #[]
  staticTypes := #[]
  resolved := Array.replicate 44 none
  statics := none }

def pool2 : Array CpInfo := pool [(1, .methodref 2 3), (0, .class_ 4), (0, .nameAndType 5 6), (0, u "java/lang/Object"), (0, u "<init>"), (0, u "()V"), (0, .class_ 8), (0, u "java/util/ArrayList"), (0, .methodref 7 3), (0, .fieldref 11 12), (0, .class_ 13), (0, .nameAndType 14 15), (0, u "com/example/stomme/stomme/diagnostic/Diagnostics"), (0, u "reported"), (0, u "Ljava/util/List;"), (0, .class_ 17), (0, u "com/example/stomme/stomme/diagnostic/Diagnostic"), (0, .fieldref 19 20), (0, .class_ 21), (0, .nameAndType 22 23), (0, u "com/example/stomme/stomme/diagnostic/Diagnostic$Severity"), (0, u "ERROR"), (0, u "Lcom/example/stomme/stomme/diagnostic/Diagnostic$Severity;"), (0, .methodref 16 25), (0, .nameAndType 5 26), (0, u "(Lcom/example/stomme/stomme/diagnostic/Diagnostic$Severity;Lcom/example/stomme/stomme/diagnostic/Position;Ljava/lang/String;)V"), (0, .interfaceMethodref 28 29), (0, .class_ 30), (0, .nameAndType 31 32), (0, u "java/util/List"), (0, u "add"), (0, u "(Ljava/lang/Object;)Z"), (0, .fieldref 11 34), (0, .nameAndType 35 36), (0, u "errors"), (0, u "I"), (0, .fieldref 19 38), (0, .nameAndType 39 23), (0, u "WARNING"), (12, u "()Z"), (70, u "error"), (0, u "(Lcom/example/stomme/stomme/diagnostic/Position;Ljava/lang/String;)V"), (0, u "warning"), (0, u "hasErrors")] 42

def k2c0 : Code := { maxStack := 3, maxLocals := 1, code := prog_9_method_1_code, exceptionTable := #[], attributes := #[] }
def k2m0 : Method := { name := "<init>", desc := "()V", sig := { parameters := [], returnType := none }, accessFlags := 1, code := some k2c0 }
def k2c1 : Code := { maxStack := 6, maxLocals := 3, code := prog_9_method_2_code, exceptionTable := #[], attributes := #[] }
def k2m1 : Method := { name := "error", desc := "(Lcom/example/stomme/stomme/diagnostic/Position;Ljava/lang/String;)V", sig := { parameters := [(.object "com/example/stomme/stomme/diagnostic/Position"), (.object "java/lang/String")], returnType := none }, accessFlags := 1, code := some k2c1 }
def k2c2 : Code := { maxStack := 6, maxLocals := 3, code := prog_9_method_3_code, exceptionTable := #[], attributes := #[] }
def k2m2 : Method := { name := "warning", desc := "(Lcom/example/stomme/stomme/diagnostic/Position;Ljava/lang/String;)V", sig := { parameters := [(.object "com/example/stomme/stomme/diagnostic/Position"), (.object "java/lang/String")], returnType := none }, accessFlags := 1, code := some k2c2 }
def k2c3 : Code := { maxStack := 1, maxLocals := 1, code := prog_9_method_4_code, exceptionTable := #[], attributes := #[] }
def k2m3 : Method := { name := "hasErrors", desc := "()Z", sig := { parameters := [], returnType := some .boolean }, accessFlags := 1, code := some k2c3 }
/-- com/example/stomme/stomme/diagnostic/Diagnostics -/
def k2 : Class := { plain "com/example/stomme/stomme/diagnostic/Diagnostics" (some 0) with
  accessFlags := 49
  interfaces := #[]
  cf := some (fileOf pool2 11 #[] #[{ accessFlags := 1, nameIndex := 5, descriptorIndex := 6, attributes := #[] }, { accessFlags := 1, nameIndex := 123, descriptorIndex := 124, attributes := #[] }, { accessFlags := 1, nameIndex := 125, descriptorIndex := 124, attributes := #[] }, { accessFlags := 1, nameIndex := 126, descriptorIndex := 52, attributes := #[] }] 49 2 #[] #[{ accessFlags := 18, nameIndex := 14, descriptorIndex := 15, attributes := #[] }, { accessFlags := 2, nameIndex := 35, descriptorIndex := 36, attributes := #[] }])
  fields := #[{ name := "reported", type := (.object "java/util/List"), accessFlags := 18, slot := 0, constantValue := 0 }, { name := "errors", type := .int, accessFlags := 2, slot := 1, constantValue := 0 }]
  methods := #[k2m0, k2m1, k2m2, k2m3]
  instanceTypes := #[(.object "java/util/List"), .int]
  staticTypes := #[]
  resolved := Array.replicate 169 none
  statics := none }

def pool3 : Array CpInfo := pool [(8, .class_ 10), (1, u "java/lang/Iterable"), (24, .class_ 36), (0, u "java/lang/Object")] 25

/-- java/lang/Iterable -/
def k3 : Class := { plain "java/lang/Iterable" (some 0) with
  accessFlags := 1537
  interfaces := #[]
  cf := some (fileOf pool3 8 #[] #[] 1537 35 #[] #[])
  fields := #[]
  methods := #[]
  instanceTypes := #[]
  staticTypes := #[]
  resolved := Array.replicate 62 none
  statics := none }

def pool4 : Array CpInfo := pool [(10, .class_ 12), (1, u "java/util/Collection"), (47, .class_ 61), (0, u "java/lang/Object"), (0, .class_ 63), (0, u "java/lang/Iterable")] 51

/-- java/util/Collection -/
def k4 : Class := { plain "java/util/Collection" (some 0) with
  accessFlags := 1537
  interfaces := #[3]
  cf := some (fileOf pool4 10 #[] #[] 1537 60 #[62] #[])
  fields := #[]
  methods := #[]
  instanceTypes := #[]
  staticTypes := #[]
  resolved := Array.replicate 115 none
  statics := none }

def pool5 : Array CpInfo := pool [(1, .methodref 2 3), (0, .class_ 4), (0, .nameAndType 5 6), (0, u "java/lang/Object"), (0, u "<init>"), (0, u "()V"), (1, .class_ 10), (1, u "java/util/AbstractCollection"), (66, .class_ 78), (0, u "java/util/Collection")] 81

def k5c0 : Code := { maxStack := 1, maxLocals := 1, code := jdk_22_method_1_code, exceptionTable := #[], attributes := #[] }
def k5m0 : Method := { name := "<init>", desc := "()V", sig := { parameters := [], returnType := none }, accessFlags := 4, code := some k5c0 }
/-- java/util/AbstractCollection -/
def k5 : Class := { plain "java/util/AbstractCollection" (some 0) with
  accessFlags := 1057
  interfaces := #[4]
  cf := some (fileOf pool5 8 #[] #[{ accessFlags := 4, nameIndex := 5, descriptorIndex := 6, attributes := #[] }] 1057 2 #[77] #[])
  fields := #[]
  methods := #[k5m0]
  instanceTypes := #[]
  staticTypes := #[]
  resolved := Array.replicate 160 none
  statics := none }

def pool6 : Array CpInfo := pool [(8, .class_ 10), (1, u "java/util/SequencedCollection"), (15, .class_ 27), (0, u "java/lang/Object"), (0, .class_ 29), (0, u "java/util/Collection")] 27

/-- java/util/SequencedCollection -/
def k6 : Class := { plain "java/util/SequencedCollection" (some 0) with
  accessFlags := 1537
  interfaces := #[4]
  cf := some (fileOf pool6 8 #[] #[] 1537 26 #[28] #[])
  fields := #[]
  methods := #[]
  instanceTypes := #[]
  staticTypes := #[]
  resolved := Array.replicate 57 none
  statics := none }

def pool7 : Array CpInfo := pool [(8, .class_ 10), (1, u "java/util/List"), (49, u "add"), (3, u "(Ljava/lang/Object;)Z"), (38, .class_ 104), (0, u "java/lang/Object"), (15, .class_ 121), (0, u "java/util/SequencedCollection")] 129

def k7m0 : Method := { name := "add", desc := "(Ljava/lang/Object;)Z", sig := { parameters := [(.object "java/lang/Object")], returnType := some .boolean }, accessFlags := 1025, code := none }
/-- java/util/List -/
def k7 : Class := { plain "java/util/List" (some 0) with
  accessFlags := 1537
  interfaces := #[6]
  cf := some (fileOf pool7 8 #[] #[{ accessFlags := 1025, nameIndex := 60, descriptorIndex := 64, attributes := #[] }] 1537 103 #[120] #[])
  fields := #[]
  methods := #[k7m0]
  instanceTypes := #[]
  staticTypes := #[]
  resolved := Array.replicate 251 none
  statics := none }

def pool8 : Array CpInfo := pool [(1, .methodref 2 3), (0, .class_ 4), (0, .nameAndType 5 6), (0, u "java/util/AbstractCollection"), (0, u "<init>"), (0, u "()V"), (0, .fieldref 8 9), (0, .class_ 10), (0, .nameAndType 11 12), (0, u "java/util/AbstractList"), (0, u "modCount"), (0, u "I"), (64, .class_ 78), (0, u "java/util/AbstractList$Itr"), (3, .class_ 83), (0, u "java/util/AbstractList$ListItr"), (9, .class_ 94), (0, u "java/util/AbstractList$RandomAccessSubList"), (3, .class_ 99), (0, u "java/util/AbstractList$SubList"), (33, .class_ 134), (0, u "java/util/List"), (73, .class_ 209), (0, u "java/util/AbstractList$SubList$1"), (0, .class_ 211), (0, u "java/util/AbstractList$RandomAccessSpliterator")] 6

def k8c0 : Code := { maxStack := 2, maxLocals := 1, code := jdk_39_method_1_code, exceptionTable := #[], attributes := #[] }
def k8m0 : Method := { name := "<init>", desc := "()V", sig := { parameters := [], returnType := none }, accessFlags := 4, code := some k8c0 }
/-- java/util/AbstractList -/
def k8 : Class := { plain "java/util/AbstractList" (some 5) with
  accessFlags := 1057
  interfaces := #[7]
  cf := some (fileOf pool8 8 #[.nestMembers #[93, 98, 208, 210, 82, 77]] #[{ accessFlags := 4, nameIndex := 5, descriptorIndex := 6, attributes := #[] }] 1057 2 #[133] #[{ accessFlags := 132, nameIndex := 11, descriptorIndex := 12, attributes := #[] }])
  fields := #[{ name := "modCount", type := .int, accessFlags := 132, slot := 0, constantValue := 0 }]
  methods := #[k8m0]
  instanceTypes := #[.int]
  staticTypes := #[]
  resolved := Array.replicate 218 none
  statics := none }

def pool9 : Array CpInfo := pool [(1, .class_ 2), (0, u "java/util/RandomAccess"), (0, .class_ 4), (0, u "java/lang/Object")] 2

/-- java/util/RandomAccess -/
def k9 : Class := { plain "java/util/RandomAccess" (some 0) with
  accessFlags := 1537
  interfaces := #[]
  cf := some (fileOf pool9 1 #[] #[] 1537 3 #[] #[])
  fields := #[]
  methods := #[]
  instanceTypes := #[]
  staticTypes := #[]
  resolved := Array.replicate 7 none
  statics := none }

def pool10 : Array CpInfo := pool [(1, .class_ 2), (0, u "java/lang/Cloneable"), (0, .class_ 4), (0, u "java/lang/Object")] 2

/-- java/lang/Cloneable -/
def k10 : Class := { plain "java/lang/Cloneable" (some 0) with
  accessFlags := 1537
  interfaces := #[]
  cf := some (fileOf pool10 1 #[] #[] 1537 3 #[] #[])
  fields := #[]
  methods := #[]
  instanceTypes := #[]
  staticTypes := #[]
  resolved := Array.replicate 7 none
  statics := none }

def pool11 : Array CpInfo := pool [(1, .class_ 2), (0, u "java/io/Serializable"), (0, .class_ 4), (0, u "java/lang/Object")] 2

/-- java/io/Serializable -/
def k11 : Class := { plain "java/io/Serializable" (some 0) with
  accessFlags := 1537
  interfaces := #[]
  cf := some (fileOf pool11 1 #[] #[] 1537 3 #[] #[])
  fields := #[]
  methods := #[]
  instanceTypes := #[]
  staticTypes := #[]
  resolved := Array.replicate 7 none
  statics := none }

def pool12 : Array CpInfo := pool [(1, .methodref 2 3), (0, .class_ 4), (0, .nameAndType 5 6), (0, u "java/util/AbstractList"), (0, u "<init>"), (0, u "()V"), (0, .class_ 8), (0, u "java/lang/Object"), (0, .fieldref 10 11), (0, .class_ 12), (0, .nameAndType 13 14), (0, u "java/util/ArrayList"), (0, u "elementData"), (0, u "[Ljava/lang/Object;"), (2, u "EMPTY_ELEMENTDATA"), (21, .fieldref 10 40), (0, .nameAndType 41 14), (0, u "DEFAULTCAPACITY_EMPTY_ELEMENTDATA"), (5, u "()[Ljava/lang/Object;"), (0, .fieldref 10 49), (0, .nameAndType 50 51), (0, u "size"), (0, u "I"), (11, .fieldref 10 64), (0, .nameAndType 65 51), (0, u "modCount"), (3, .methodref 10 70), (0, .nameAndType 71 72), (0, u "grow"), (0, u "(I)[Ljava/lang/Object;"), (6, .methodref 80 81), (0, .class_ 82), (0, .nameAndType 83 84), (0, u "java/lang/Math"), (0, u "max"), (0, u "(II)I"), (11, u "(Ljava/lang/Object;)Z"), (32, .methodref 10 130), (0, .nameAndType 71 47), (0, .methodref 10 132), (0, .nameAndType 133 134), (0, u "add"), (0, u "(Ljava/lang/Object;[Ljava/lang/Object;I)V"), (13, .class_ 149), (0, u "java/util/List"), (112, .class_ 263), (0, u "java/util/ArrayList$ListItr"), (3, .class_ 268), (0, u "java/util/ArrayList$Itr"), (7, .class_ 277), (0, u "java/util/ArrayList$SubList"), (12, .class_ 291), (0, u "java/util/ArrayList$ArrayListSpliterator"), (37, .class_ 330), (0, u "java/util/RandomAccess"), (0, .class_ 332), (0, u "java/lang/Cloneable"), (0, .class_ 334), (0, u "java/io/Serializable"), (0, u "serialVersionUID"), (0, u "J"), (3, u "DEFAULT_CAPACITY"), (159, .class_ 501), (0, u "java/util/ArrayList$SubList$2"), (0, .class_ 503), (0, u "java/util/ArrayList$SubList$1")] 5

def k12c0 : Code := { maxStack := 2, maxLocals := 1, code := jdk_38_method_2_code, exceptionTable := #[], attributes := #[] }
def k12m0 : Method := { name := "<init>", desc := "()V", sig := { parameters := [], returnType := none }, accessFlags := 1, code := some k12c0 }
def k12c1 : Code := { maxStack := 4, maxLocals := 4, code := jdk_38_method_6_code, exceptionTable := #[], attributes := #[] }
def k12m1 : Method := { name := "grow", desc := "(I)[Ljava/lang/Object;", sig := { parameters := [.int], returnType := some (.array (.object "java/lang/Object")) }, accessFlags := 2, code := some k12c1 }
def k12c2 : Code := { maxStack := 3, maxLocals := 1, code := jdk_38_method_7_code, exceptionTable := #[], attributes := #[] }
def k12m2 : Method := { name := "grow", desc := "()[Ljava/lang/Object;", sig := { parameters := [], returnType := some (.array (.object "java/lang/Object")) }, accessFlags := 2, code := some k12c2 }
def k12c3 : Code := { maxStack := 3, maxLocals := 4, code := jdk_38_method_24_code, exceptionTable := #[], attributes := #[] }
def k12m3 : Method := { name := "add", desc := "(Ljava/lang/Object;[Ljava/lang/Object;I)V", sig := { parameters := [(.object "java/lang/Object"), (.array (.object "java/lang/Object")), .int], returnType := none }, accessFlags := 2, code := some k12c3 }
def k12c4 : Code := { maxStack := 4, maxLocals := 2, code := jdk_38_method_25_code, exceptionTable := #[], attributes := #[] }
def k12m4 : Method := { name := "add", desc := "(Ljava/lang/Object;)Z", sig := { parameters := [(.object "java/lang/Object")], returnType := some .boolean }, accessFlags := 1, code := some k12c4 }
/-- java/util/ArrayList -/
def k12 : Class := { plain "java/util/ArrayList" (some 8) with
  accessFlags := 33
  interfaces := #[7, 9, 10, 11]
  cf := some (fileOf pool12 10 #[.nestMembers #[290, 276, 500, 502, 262, 267]] #[{ accessFlags := 1, nameIndex := 5, descriptorIndex := 6, attributes := #[] }, { accessFlags := 2, nameIndex := 71, descriptorIndex := 72, attributes := #[] }, { accessFlags := 2, nameIndex := 71, descriptorIndex := 47, attributes := #[] }, { accessFlags := 2, nameIndex := 133, descriptorIndex := 134, attributes := #[] }, { accessFlags := 1, nameIndex := 133, descriptorIndex := 96, attributes := #[] }] 33 2 #[148, 329, 331, 333] #[{ accessFlags := 26, nameIndex := 335, descriptorIndex := 336, attributes := #[] }, { accessFlags := 26, nameIndex := 340, descriptorIndex := 51, attributes := #[] }, { accessFlags := 26, nameIndex := 17, descriptorIndex := 14, attributes := #[] }, { accessFlags := 26, nameIndex := 41, descriptorIndex := 14, attributes := #[] }, { accessFlags := 128, nameIndex := 13, descriptorIndex := 14, attributes := #[] }, { accessFlags := 2, nameIndex := 50, descriptorIndex := 51, attributes := #[] }])
  fields := #[{ name := "serialVersionUID", type := .long, accessFlags := 26, slot := 0, constantValue := 0 }, { name := "DEFAULT_CAPACITY", type := .int, accessFlags := 26, slot := 1, constantValue := 0 }, { name := "EMPTY_ELEMENTDATA", type := (.array (.object "java/lang/Object")), accessFlags := 26, slot := 2, constantValue := 0 }, { name := "DEFAULTCAPACITY_EMPTY_ELEMENTDATA", type := (.array (.object "java/lang/Object")), accessFlags := 26, slot := 3, constantValue := 0 }, { name := "elementData", type := (.array (.object "java/lang/Object")), accessFlags := 128, slot := 1, constantValue := 0 }, { name := "size", type := .int, accessFlags := 2, slot := 2, constantValue := 0 }]
  methods := #[k12m0, k12m1, k12m2, k12m3, k12m4]
  instanceTypes := #[.int, (.array (.object "java/lang/Object")), .int]
  staticTypes := #[.long, .int, (.array (.object "java/lang/Object")), (.array (.object "java/lang/Object"))]
  resolved := Array.replicate 509 none
  statics := some 0 }

def pool13 : Array CpInfo := pool [(1, .methodref 2 3), (0, .class_ 4), (0, .nameAndType 5 6), (0, u "java/lang/Object"), (0, u "<init>"), (0, u "()V"), (0, .class_ 8), (0, u "java/lang/Record")] 13

def k13c0 : Code := { maxStack := 1, maxLocals := 1, code := jdk_30_method_1_code, exceptionTable := #[], attributes := #[] }
def k13m0 : Method := { name := "<init>", desc := "()V", sig := { parameters := [], returnType := none }, accessFlags := 4, code := some k13c0 }
/-- java/lang/Record -/
def k13 : Class := { plain "java/lang/Record" (some 0) with
  accessFlags := 1057
  interfaces := #[]
  cf := some (fileOf pool13 7 #[] #[{ accessFlags := 4, nameIndex := 5, descriptorIndex := 6, attributes := #[] }] 1057 2 #[] #[])
  fields := #[]
  methods := #[k13m0]
  instanceTypes := #[]
  staticTypes := #[]
  resolved := Array.replicate 22 none
  statics := none }

def pool14 : Array CpInfo := pool [(1, .methodref 2 3), (0, .class_ 4), (0, .nameAndType 5 6), (0, u "java/lang/Record"), (0, u "<init>"), (0, u "()V"), (0, .string 8), (0, u "file"), (0, .methodref 10 11), (0, .class_ 12), (0, .nameAndType 13 14), (0, u "java/util/Objects"), (0, u "requireNonNull"), (0, u "(Ljava/lang/Object;Ljava/lang/String;)Ljava/lang/Object;"), (9, .fieldref 25 26), (0, .class_ 27), (0, .nameAndType 8 28), (0, u "com/example/stomme/stomme/diagnostic/Position"), (0, u "Ljava/lang/String;"), (0, .fieldref 25 30), (0, .nameAndType 31 32), (0, u "line"), (0, u "I"), (0, .fieldref 25 34), (0, .nameAndType 35 32), (0, u "column"), (12, u "(Ljava/lang/String;II)V")] 39

def k14c0 : Code := { maxStack := 4, maxLocals := 4, code := prog_11_method_1_code, exceptionTable := #[], attributes := #[] }
def k14m0 : Method := { name := "<init>", desc := "(Ljava/lang/String;II)V", sig := { parameters := [(.object "java/lang/String"), .int, .int], returnType := none }, accessFlags := 1, code := some k14c0 }
/-- com/example/stomme/stomme/diagnostic/Position -/
def k14 : Class := { plain "com/example/stomme/stomme/diagnostic/Position" (some 13) with
  accessFlags := 49
  interfaces := #[]
  cf := some (fileOf pool14 25 #[] #[{ accessFlags := 1, nameIndex := 5, descriptorIndex := 48, attributes := #[] }] 49 2 #[] #[{ accessFlags := 18, nameIndex := 8, descriptorIndex := 28, attributes := #[] }, { accessFlags := 18, nameIndex := 31, descriptorIndex := 32, attributes := #[] }, { accessFlags := 18, nameIndex := 35, descriptorIndex := 32, attributes := #[] }])
  fields := #[{ name := "file", type := (.object "java/lang/String"), accessFlags := 18, slot := 0, constantValue := 0 }, { name := "line", type := .int, accessFlags := 18, slot := 1, constantValue := 0 }, { name := "column", type := .int, accessFlags := 18, slot := 2, constantValue := 0 }]
  methods := #[k14m0]
  instanceTypes := #[(.object "java/lang/String"), .int, .int]
  staticTypes := #[]
  resolved := Array.replicate 88 none
  statics := none }

def pool15 : Array CpInfo := pool [(1, .class_ 2), (0, u "java/lang/Comparable"), (0, .class_ 4), (0, u "java/lang/Object")] 7

/-- java/lang/Comparable -/
def k15 : Class := { plain "java/lang/Comparable" (some 0) with
  accessFlags := 1537
  interfaces := #[]
  cf := some (fileOf pool15 1 #[] #[] 1537 3 #[] #[])
  fields := #[]
  methods := #[]
  instanceTypes := #[]
  staticTypes := #[]
  resolved := Array.replicate 12 none
  statics := none }

def pool16 : Array CpInfo := pool [(2, .class_ 4), (1, u "java/lang/CharSequence"), (42, .class_ 48), (0, u "java/lang/CharSequence$1CodePointIterator"), (10, .class_ 60), (0, u "java/lang/CharSequence$1CharIterator"), (5, .class_ 67), (0, u "java/lang/Object")] 63

/-- java/lang/CharSequence -/
def k16 : Class := { plain "java/lang/CharSequence" (some 0) with
  accessFlags := 1537
  interfaces := #[]
  cf := some (fileOf pool16 2 #[.nestMembers #[47, 59]] #[] 1537 66 #[] #[])
  fields := #[]
  methods := #[]
  instanceTypes := #[]
  staticTypes := #[]
  resolved := Array.replicate 131 none
  statics := none }

def pool17 : Array CpInfo := pool [(1, .class_ 2), (0, u "java/lang/constant/Constable"), (0, .class_ 4), (0, u "java/lang/Object")] 6

/-- java/lang/constant/Constable -/
def k17 : Class := { plain "java/lang/constant/Constable" (some 0) with
  accessFlags := 1537
  interfaces := #[]
  cf := some (fileOf pool17 1 #[] #[] 1537 3 #[] #[])
  fields := #[]
  methods := #[]
  instanceTypes := #[]
  staticTypes := #[]
  resolved := Array.replicate 11 none
  statics := none }

def pool18 : Array CpInfo := pool [(1, .class_ 2), (0, u "java/lang/constant/ConstantDesc"), (0, .class_ 4), (0, u "java/lang/Object")] 32

/-- java/lang/constant/ConstantDesc -/
def k18 : Class := { plain "java/lang/constant/ConstantDesc" (some 0) with
  accessFlags := 1537
  interfaces := #[]
  cf := some (fileOf pool18 1 #[] #[] 1537 3 #[] #[])
  fields := #[]
  methods := #[]
  instanceTypes := #[]
  staticTypes := #[]
  resolved := Array.replicate 37 none
  statics := none }

def pool19 : Array CpInfo := pool [(2, .class_ 4), (1, u "java/lang/Object"), (0, u "<init>"), (0, u "()V"), (2, .fieldref 10 11), (0, .class_ 12), (0, .nameAndType 13 14), (0, u "java/lang/String"), (0, u "value"), (0, u "[B"), (0, .fieldref 10 16), (0, .nameAndType 17 18), (0, u "coder"), (0, u "B"), (2, u "hash"), (0, u "I"), (2, u "hashIsZero"), (0, u "Z"), (11, .fieldref 10 39), (0, .nameAndType 40 26), (0, u "COMPACT_STRINGS"), (66, .class_ 109), (1, u "java/lang/StringLatin1"), (32, u "()Z"), (191, u "()I"), (0, .methodref 10 336), (0, .nameAndType 17 337), (0, u "()B"), (154, .methodref 10 493), (0, .nameAndType 494 142), (0, u "isLatin1"), (10, .methodref 10 506), (0, .nameAndType 507 334), (0, u "length"), (67, .class_ 576), (0, u "java/lang/CharSequence"), (22, u "CASE_INSENSITIVE_ORDER"), (0, u "Ljava/util/Comparator;"), (30, u "([B)I"), (244, .methodref 10 877), (0, .nameAndType 878 334), (0, u "indexOfNonWhitespace"), (45, .methodref 107 925), (0, .nameAndType 878 631), (26, u "isBlank"), (148, u "serialPersistentFields"), (0, u "[Ljava/io/ObjectStreamField;"), (0, .class_ 1104), (0, u "java/lang/String$CaseInsensitiveComparator"), (1, .class_ 1107), (0, u "java/io/Serializable"), (0, .class_ 1109), (0, u "java/lang/Comparable"), (0, .class_ 1111), (0, u "java/lang/constant/Constable"), (0, .class_ 1113), (0, u "java/lang/constant/ConstantDesc"), (2, u "serialVersionUID"), (0, u "J"), (3, u "REPL"), (0, u "C"), (2, u "LATIN1"), (1, u "UTF16")] 323

def k19m0 : Method := { name := "<init>", desc := "()V", sig := { parameters := [], returnType := none }, accessFlags := 1, code := none }
def k19c1 : Code := { maxStack := 2, maxLocals := 1, code := jdk_42_method_54_code, exceptionTable := #[], attributes := #[] }
def k19m1 : Method := { name := "length", desc := "()I", sig := { parameters := [], returnType := some .int }, accessFlags := 1, code := some k19c1 }
def k19c2 : Code := { maxStack := 2, maxLocals := 1, code := jdk_42_method_117_code, exceptionTable := #[], attributes := #[] }
def k19m2 : Method := { name := "isBlank", desc := "()Z", sig := { parameters := [], returnType := some .boolean }, accessFlags := 1, code := some k19c2 }
def k19c3 : Code := { maxStack := 1, maxLocals := 1, code := jdk_42_method_120_code, exceptionTable := #[], attributes := #[] }
def k19m3 : Method := { name := "indexOfNonWhitespace", desc := "()I", sig := { parameters := [], returnType := some .int }, accessFlags := 2, code := some k19c3 }
def k19c4 : Code := { maxStack := 1, maxLocals := 1, code := jdk_42_method_152_code, exceptionTable := #[], attributes := #[] }
def k19m4 : Method := { name := "coder", desc := "()B", sig := { parameters := [], returnType := some .byte }, accessFlags := 0, code := some k19c4 }
def k19c5 : Code := { maxStack := 1, maxLocals := 1, code := jdk_42_method_154_code, exceptionTable := #[], attributes := #[] }
def k19m5 : Method := { name := "isLatin1", desc := "()Z", sig := { parameters := [], returnType := some .boolean }, accessFlags := 0, code := some k19c5 }
/-- java/lang/String -/
def k19 : Class := { plain "java/lang/String" (some 0) with
  accessFlags := 49
  interfaces := #[11, 15, 16, 17, 18]
  cf := some (fileOf pool19 10 #[.nestMembers #[1103]] #[{ accessFlags := 1, nameIndex := 5, descriptorIndex := 6, attributes := #[] }, { accessFlags := 1, nameIndex := 507, descriptorIndex := 334, attributes := #[] }, { accessFlags := 1, nameIndex := 952, descriptorIndex := 142, attributes := #[] }, { accessFlags := 2, nameIndex := 878, descriptorIndex := 334, attributes := #[] }, { accessFlags := 0, nameIndex := 17, descriptorIndex := 337, attributes := #[] }, { accessFlags := 0, nameIndex := 494, descriptorIndex := 142, attributes := #[] }] 49 2 #[1106, 1108, 575, 1110, 1112] #[{ accessFlags := 18, nameIndex := 13, descriptorIndex := 14, attributes := #[] }, { accessFlags := 18, nameIndex := 17, descriptorIndex := 18, attributes := #[] }, { accessFlags := 2, nameIndex := 21, descriptorIndex := 22, attributes := #[] }, { accessFlags := 2, nameIndex := 25, descriptorIndex := 26, attributes := #[] }, { accessFlags := 26, nameIndex := 1116, descriptorIndex := 1117, attributes := #[] }, { accessFlags := 24, nameIndex := 40, descriptorIndex := 26, attributes := #[] }, { accessFlags := 26, nameIndex := 1101, descriptorIndex := 1102, attributes := #[] }, { accessFlags := 26, nameIndex := 1121, descriptorIndex := 1122, attributes := #[] }, { accessFlags := 25, nameIndex := 599, descriptorIndex := 600, attributes := #[] }, { accessFlags := 24, nameIndex := 1125, descriptorIndex := 18, attributes := #[] }, { accessFlags := 24, nameIndex := 1127, descriptorIndex := 18, attributes := #[] }])
  fields := #[{ name := "value", type := (.array .byte), accessFlags := 18, slot := 0, constantValue := 0 }, { name := "coder", type := .byte, accessFlags := 18, slot := 1, constantValue := 0 }, { name := "hash", type := .int, accessFlags := 2, slot := 2, constantValue := 0 }, { name := "hashIsZero", type := .boolean, accessFlags := 2, slot := 3, constantValue := 0 }, { name := "serialVersionUID", type := .long, accessFlags := 26, slot := 0, constantValue := 0 }, { name := "COMPACT_STRINGS", type := .boolean, accessFlags := 24, slot := 1, constantValue := 0 }, { name := "serialPersistentFields", type := (.array (.object "java/io/ObjectStreamField")), accessFlags := 26, slot := 2, constantValue := 0 }, { name := "REPL", type := .char, accessFlags := 26, slot := 3, constantValue := 0 }, { name := "CASE_INSENSITIVE_ORDER", type := (.object "java/util/Comparator"), accessFlags := 25, slot := 4, constantValue := 0 }, { name := "LATIN1", type := .byte, accessFlags := 24, slot := 5, constantValue := 0 }, { name := "UTF16", type := .byte, accessFlags := 24, slot := 6, constantValue := 0 }]
  methods := #[k19m0, k19m1, k19m2, k19m3, k19m4, k19m5]
  instanceTypes := #[(.array .byte), .byte, .int, .boolean]
  staticTypes := #[.long, .boolean, (.array (.object "java/io/ObjectStreamField")), .char, (.object "java/util/Comparator"), .byte, .byte]
  resolved := Array.replicate 1451 none
  statics := some 1 }

def pool20 : Array CpInfo := pool [(2, .class_ 4), (1, u "java/lang/Object"), (0, u "<init>"), (0, u "()V"), (35, .class_ 44), (1, u "java/util/Objects"), (0, u "requireNonNull"), (48, u "(Ljava/lang/Object;Ljava/lang/String;)Ljava/lang/Object;")] 89

def k20m0 : Method := { name := "<init>", desc := "()V", sig := { parameters := [], returnType := none }, accessFlags := 2, code := none }
def k20c1 : Code := { maxStack := 3, maxLocals := 2, code := jdk_31_method_11_code, exceptionTable := #[], attributes := #[] }
def k20m1 : Method := { name := "requireNonNull", desc := "(Ljava/lang/Object;Ljava/lang/String;)Ljava/lang/Object;", sig := { parameters := [(.object "java/lang/Object"), (.object "java/lang/String")], returnType := some (.object "java/lang/Object") }, accessFlags := 9, code := some k20c1 }
/-- java/util/Objects -/
def k20 : Class := { plain "java/util/Objects" (some 0) with
  accessFlags := 49
  interfaces := #[]
  cf := some (fileOf pool20 42 #[] #[{ accessFlags := 2, nameIndex := 5, descriptorIndex := 6, attributes := #[] }, { accessFlags := 9, nameIndex := 45, descriptorIndex := 94, attributes := #[] }] 49 2 #[] #[])
  fields := #[]
  methods := #[k20m0, k20m1]
  instanceTypes := #[]
  staticTypes := #[]
  resolved := Array.replicate 184 none
  statics := none }

def pool21 : Array CpInfo := pool [(1, .methodref 2 3), (0, .class_ 4), (0, .nameAndType 5 6), (0, u "java/lang/Record"), (0, u "<init>"), (0, u "()V"), (0, .string 8), (0, u "severity"), (0, .methodref 10 11), (0, .class_ 12), (0, .nameAndType 13 14), (0, u "java/util/Objects"), (0, u "requireNonNull"), (0, u "(Ljava/lang/Object;Ljava/lang/String;)Ljava/lang/Object;"), (0, .string 16), (0, u "position"), (0, .string 18), (0, u "message"), (0, .methodref 20 21), (0, .class_ 22), (0, .nameAndType 23 24), (0, u "java/lang/String"), (0, u "isBlank"), (0, u "()Z"), (7, .fieldref 33 34), (0, .class_ 35), (0, .nameAndType 8 36), (0, u "com/example/stomme/stomme/diagnostic/Diagnostic"), (0, u "Lcom/example/stomme/stomme/diagnostic/Diagnostic$Severity;"), (0, .fieldref 33 38), (0, .nameAndType 16 39), (0, u "Lcom/example/stomme/stomme/diagnostic/Position;"), (0, .fieldref 33 41), (0, .nameAndType 18 42), (0, u "Ljava/lang/String;"), (7, u "(Lcom/example/stomme/stomme/diagnostic/Diagnostic$Severity;Lcom/example/stomme/stomme/diagnostic/Position;Ljava/lang/String;)V"), (31, .class_ 84), (1, u "com/example/stomme/stomme/diagnostic/Diagnostic$Severity")] 95

def k21c0 : Code := { maxStack := 3, maxLocals := 4, code := prog_7_method_1_code, exceptionTable := #[], attributes := #[] }
def k21m0 : Method := { name := "<init>", desc := "(Lcom/example/stomme/stomme/diagnostic/Diagnostic$Severity;Lcom/example/stomme/stomme/diagnostic/Position;Ljava/lang/String;)V", sig := { parameters := [(.object "com/example/stomme/stomme/diagnostic/Diagnostic$Severity"), (.object "com/example/stomme/stomme/diagnostic/Position"), (.object "java/lang/String")], returnType := none }, accessFlags := 1, code := some k21c0 }
/-- com/example/stomme/stomme/diagnostic/Diagnostic -/
def k21 : Class := { plain "com/example/stomme/stomme/diagnostic/Diagnostic" (some 13) with
  accessFlags := 49
  interfaces := #[]
  cf := some (fileOf pool21 33 #[.nestMembers #[82]] #[{ accessFlags := 1, nameIndex := 5, descriptorIndex := 50, attributes := #[] }] 49 2 #[] #[{ accessFlags := 18, nameIndex := 8, descriptorIndex := 36, attributes := #[] }, { accessFlags := 18, nameIndex := 16, descriptorIndex := 39, attributes := #[] }, { accessFlags := 18, nameIndex := 18, descriptorIndex := 42, attributes := #[] }])
  fields := #[{ name := "severity", type := (.object "com/example/stomme/stomme/diagnostic/Diagnostic$Severity"), accessFlags := 18, slot := 0, constantValue := 0 }, { name := "position", type := (.object "com/example/stomme/stomme/diagnostic/Position"), accessFlags := 18, slot := 1, constantValue := 0 }, { name := "message", type := (.object "java/lang/String"), accessFlags := 18, slot := 2, constantValue := 0 }]
  methods := #[k21m0]
  instanceTypes := #[(.object "com/example/stomme/stomme/diagnostic/Diagnostic$Severity"), (.object "com/example/stomme/stomme/diagnostic/Position"), (.object "java/lang/String")]
  staticTypes := #[]
  resolved := Array.replicate 180 none
  statics := none }

def pool22 : Array CpInfo := pool [(2, .class_ 4), (1, u "java/lang/Enum"), (0, u "name"), (0, u "Ljava/lang/String;"), (2, u "ordinal"), (0, u "I"), (1, .class_ 14), (1, u "java/lang/Object"), (4, u "hash"), (86, .class_ 108), (1, u "java/lang/Enum$EnumDesc"), (2, .class_ 112), (0, u "java/lang/constant/Constable"), (0, .class_ 114), (0, u "java/lang/Comparable"), (0, .class_ 116), (0, u "java/io/Serializable")] 87

/-- java/lang/Enum -/
def k22 : Class := { plain "java/lang/Enum" (some 0) with
  accessFlags := 1057
  interfaces := #[17, 15, 11]
  cf := some (fileOf pool22 2 #[.nestMembers #[106]] #[] 1057 12 #[111, 113, 115] #[{ accessFlags := 18, nameIndex := 5, descriptorIndex := 6, attributes := #[] }, { accessFlags := 18, nameIndex := 9, descriptorIndex := 10, attributes := #[] }, { accessFlags := 2, nameIndex := 19, descriptorIndex := 10, attributes := #[] }])
  fields := #[{ name := "name", type := (.object "java/lang/String"), accessFlags := 18, slot := 0, constantValue := 0 }, { name := "ordinal", type := .int, accessFlags := 18, slot := 1, constantValue := 0 }, { name := "hash", type := .int, accessFlags := 2, slot := 2, constantValue := 0 }]
  methods := #[]
  instanceTypes := #[(.object "java/lang/String"), .int, .int]
  staticTypes := #[]
  resolved := Array.replicate 204 none
  statics := none }

def pool23 : Array CpInfo := pool [(1, .class_ 2), (0, u "com/example/stomme/stomme/diagnostic/Diagnostic$Severity"), (2, u "ERROR"), (0, u "Lcom/example/stomme/stomme/diagnostic/Diagnostic$Severity;"), (2, u "WARNING"), (2, u "$VALUES"), (0, u "[Lcom/example/stomme/stomme/diagnostic/Diagnostic$Severity;"), (6, .class_ 22), (1, u "java/lang/Enum"), (25, .class_ 49), (0, u "com/example/stomme/stomme/diagnostic/Diagnostic")] 2

/-- com/example/stomme/stomme/diagnostic/Diagnostic$Severity -/
def k23 : Class := { plain "com/example/stomme/stomme/diagnostic/Diagnostic$Severity" (some 22) with
  accessFlags := 16433
  interfaces := #[]
  cf := some (fileOf pool23 1 #[.nestHost 48] #[] 16433 20 #[] #[{ accessFlags := 16409, nameIndex := 5, descriptorIndex := 6, attributes := #[] }, { accessFlags := 16409, nameIndex := 9, descriptorIndex := 6, attributes := #[] }, { accessFlags := 4122, nameIndex := 12, descriptorIndex := 13, attributes := #[] }])
  fields := #[{ name := "ERROR", type := (.object "com/example/stomme/stomme/diagnostic/Diagnostic$Severity"), accessFlags := 16409, slot := 0, constantValue := 0 }, { name := "WARNING", type := (.object "com/example/stomme/stomme/diagnostic/Diagnostic$Severity"), accessFlags := 16409, slot := 1, constantValue := 0 }, { name := "$VALUES", type := (.array (.object "com/example/stomme/stomme/diagnostic/Diagnostic$Severity")), accessFlags := 4122, slot := 2, constantValue := 0 }]
  methods := #[]
  instanceTypes := #[(.object "java/lang/String"), .int, .int]
  staticTypes := #[(.object "com/example/stomme/stomme/diagnostic/Diagnostic$Severity"), (.object "com/example/stomme/stomme/diagnostic/Diagnostic$Severity"), (.array (.object "com/example/stomme/stomme/diagnostic/Diagnostic$Severity"))]
  resolved := Array.replicate 52 none
  statics := some 2 }

def pool24 : Array CpInfo := pool [(4, .class_ 6), (1, u "java/lang/Object"), (0, u "<init>"), (0, u "()V"), (5, .class_ 16), (1, u "java/lang/StringLatin1"), (33, .methodref 14 51), (0, .nameAndType 52 53), (0, u "getChar"), (0, u "([BI)C"), (3, u "([B)I"), (8, .fieldref 67 68), (0, .class_ 69), (0, .nameAndType 70 71), (0, u "java/lang/CharacterDataLatin1"), (0, u "instance"), (0, u "Ljava/lang/CharacterDataLatin1;"), (19, u "(I)Z"), (29, u "$assertionsDisabled"), (0, u "Z"), (88, .methodref 67 212), (0, .nameAndType 213 91), (0, u "isWhitespace"), (2, u "indexOfNonWhitespace"), (4, .class_ 223), (1, u "java/lang/StringLatin1$LinesSpliterator"), (166, .class_ 391), (0, u "java/lang/StringLatin1$CharsSpliterator")] 3

def k24m0 : Method := { name := "<init>", desc := "()V", sig := { parameters := [], returnType := none }, accessFlags := 0, code := none }
def k24c1 : Code := { maxStack := 2, maxLocals := 4, code := jdk_43_method_37_code, exceptionTable := #[], attributes := #[] }
def k24m1 : Method := { name := "indexOfNonWhitespace", desc := "([B)I", sig := { parameters := [(.array .byte)], returnType := some .int }, accessFlags := 9, code := some k24c1 }
def k24c2 : Code := { maxStack := 2, maxLocals := 2, code := jdk_43_method_44_code, exceptionTable := #[], attributes := #[] }
def k24m2 : Method := { name := "getChar", desc := "([BI)C", sig := { parameters := [(.array .byte), .int], returnType := some .char }, accessFlags := 9, code := some k24c2 }
/-- java/lang/StringLatin1 -/
def k24 : Class := { plain "java/lang/StringLatin1" (some 0) with
  accessFlags := 48
  interfaces := #[]
  cf := some (fileOf pool24 14 #[.nestMembers #[390, 221]] #[{ accessFlags := 0, nameIndex := 7, descriptorIndex := 8, attributes := #[] }, { accessFlags := 9, nameIndex := 216, descriptorIndex := 57, attributes := #[] }, { accessFlags := 9, nameIndex := 52, descriptorIndex := 53, attributes := #[] }] 48 4 #[] #[{ accessFlags := 4120, nameIndex := 121, descriptorIndex := 122, attributes := #[] }])
  fields := #[{ name := "$assertionsDisabled", type := .boolean, accessFlags := 4120, slot := 0, constantValue := 0 }]
  methods := #[k24m0, k24m1, k24m2]
  instanceTypes := #[]
  staticTypes := #[.boolean]
  resolved := Array.replicate 395 none
  statics := none }

def pool25 : Array CpInfo := pool [(2, .class_ 4), (1, u "java/lang/Object"), (0, u "<init>"), (0, u "()V"), (1, .class_ 10), (1, u "java/lang/CharacterData")] 75

def k25m0 : Method := { name := "<init>", desc := "()V", sig := { parameters := [], returnType := none }, accessFlags := 0, code := none }
/-- java/lang/CharacterData -/
def k25 : Class := { plain "java/lang/CharacterData" (some 0) with
  accessFlags := 1056
  interfaces := #[]
  cf := some (fileOf pool25 8 #[] #[{ accessFlags := 0, nameIndex := 5, descriptorIndex := 6, attributes := #[] }] 1056 2 #[] #[])
  fields := #[]
  methods := #[k25m0]
  instanceTypes := #[]
  staticTypes := #[]
  resolved := Array.replicate 86 none
  statics := none }

def pool26 : Array CpInfo := pool [(1, .fieldref 2 3), (0, .class_ 4), (0, .nameAndType 5 6), (0, u "java/lang/CharacterDataLatin1"), (0, u "A"), (0, u "[I"), (2, u "B"), (0, u "[C"), (3, u "(I)I"), (0, .methodref 2 16), (0, .nameAndType 17 14), (0, u "getProperties"), (3, u "(I)Z"), (5, u "DIGITS"), (0, u "[B"), (8, u "sharpsMap"), (1, .class_ 41), (1, u "java/lang/CharacterData"), (0, u "<init>"), (0, u "()V"), (3, u "instance"), (0, u "Ljava/lang/CharacterDataLatin1;"), (78, u "isWhitespace")] 13

def k26c0 : Code := { maxStack := 2, maxLocals := 4, code := jdk_116_method_1_code, exceptionTable := #[], attributes := #[] }
def k26m0 : Method := { name := "getProperties", desc := "(I)I", sig := { parameters := [.int], returnType := some .int }, accessFlags := 0, code := some k26c0 }
def k26c1 : Code := { maxStack := 2, maxLocals := 3, code := jdk_116_method_26_code, exceptionTable := #[], attributes := #[] }
def k26m1 : Method := { name := "isWhitespace", desc := "(I)Z", sig := { parameters := [.int], returnType := some .boolean }, accessFlags := 0, code := some k26c1 }
def k26m2 : Method := { name := "<init>", desc := "()V", sig := { parameters := [], returnType := none }, accessFlags := 2, code := none }
/-- java/lang/CharacterDataLatin1 -/
def k26 : Class := { plain "java/lang/CharacterDataLatin1" (some 25) with
  accessFlags := 32
  interfaces := #[]
  cf := some (fileOf pool26 2 #[] #[{ accessFlags := 0, nameIndex := 17, descriptorIndex := 14, attributes := #[] }, { accessFlags := 0, nameIndex := 127, descriptorIndex := 21, attributes := #[] }, { accessFlags := 2, nameIndex := 42, descriptorIndex := 43, attributes := #[] }] 32 39 #[] #[{ accessFlags := 26, nameIndex := 27, descriptorIndex := 28, attributes := #[] }, { accessFlags := 8, nameIndex := 37, descriptorIndex := 10, attributes := #[] }, { accessFlags := 24, nameIndex := 47, descriptorIndex := 48, attributes := #[] }, { accessFlags := 24, nameIndex := 5, descriptorIndex := 6, attributes := #[] }, { accessFlags := 24, nameIndex := 9, descriptorIndex := 10, attributes := #[] }])
  fields := #[{ name := "DIGITS", type := (.array .byte), accessFlags := 26, slot := 0, constantValue := 0 }, { name := "sharpsMap", type := (.array .char), accessFlags := 8, slot := 1, constantValue := 0 }, { name := "instance", type := (.object "java/lang/CharacterDataLatin1"), accessFlags := 24, slot := 2, constantValue := 0 }, { name := "A", type := (.array .int), accessFlags := 24, slot := 3, constantValue := 0 }, { name := "B", type := (.array .char), accessFlags := 24, slot := 4, constantValue := 0 }]
  methods := #[k26m0, k26m1, k26m2]
  instanceTypes := #[]
  staticTypes := #[(.array .byte), (.array .char), (.object "java/lang/CharacterDataLatin1"), (.array .int), (.array .char)]
  resolved := Array.replicate 141 none
  statics := some 3 }

def pool27 : Array CpInfo := pool [(1, .class_ 2), (0, u "java/lang/Math"), (1, .class_ 6), (1, u "java/lang/Object"), (0, u "<init>"), (0, u "()V"), (89, .class_ 100), (1, u "java/lang/Math$RandomNumberGeneratorHolder"), (71, u "negativeZeroFloatBits"), (0, u "J"), (2, u "negativeZeroDoubleBits"), (21, u "max"), (46, u "$assertionsDisabled"), (0, u "Z"), (88, u "(II)I"), (2, u "twoToTheDoubleScaleDown"), (0, u "D"), (4, u "twoToTheDoubleScaleUp"), (9, u "E"), (3, u "PI"), (2, u "TAU"), (2, u "DEGREES_TO_RADIANS"), (0, u "RADIANS_TO_DEGREES")] 94

def k27m0 : Method := { name := "<init>", desc := "()V", sig := { parameters := [], returnType := none }, accessFlags := 2, code := none }
def k27c1 : Code := { maxStack := 2, maxLocals := 2, code := jdk_29_method_65_code, exceptionTable := #[], attributes := #[] }
def k27m1 : Method := { name := "max", desc := "(II)I", sig := { parameters := [.int, .int], returnType := some .int }, accessFlags := 9, code := some k27c1 }
/-- java/lang/Math -/
def k27 : Class := { plain "java/lang/Math" (some 0) with
  accessFlags := 49
  interfaces := #[]
  cf := some (fileOf pool27 1 #[.nestMembers #[98]] #[{ accessFlags := 2, nameIndex := 7, descriptorIndex := 8, attributes := #[] }, { accessFlags := 9, nameIndex := 198, descriptorIndex := 335, attributes := #[] }] 49 4 #[] #[{ accessFlags := 25, nameIndex := 354, descriptorIndex := 339, attributes := #[] }, { accessFlags := 25, nameIndex := 358, descriptorIndex := 339, attributes := #[] }, { accessFlags := 25, nameIndex := 361, descriptorIndex := 339, attributes := #[] }, { accessFlags := 26, nameIndex := 364, descriptorIndex := 339, attributes := #[] }, { accessFlags := 26, nameIndex := 365, descriptorIndex := 339, attributes := #[] }, { accessFlags := 26, nameIndex := 172, descriptorIndex := 173, attributes := #[] }, { accessFlags := 26, nameIndex := 176, descriptorIndex := 173, attributes := #[] }, { accessFlags := 8, nameIndex := 344, descriptorIndex := 339, attributes := #[] }, { accessFlags := 8, nameIndex := 338, descriptorIndex := 339, attributes := #[] }, { accessFlags := 4120, nameIndex := 245, descriptorIndex := 246, attributes := #[] }])
  fields := #[{ name := "E", type := .double, accessFlags := 25, slot := 0, constantValue := 0 }, { name := "PI", type := .double, accessFlags := 25, slot := 1, constantValue := 0 }, { name := "TAU", type := .double, accessFlags := 25, slot := 2, constantValue := 0 }, { name := "DEGREES_TO_RADIANS", type := .double, accessFlags := 26, slot := 3, constantValue := 0 }, { name := "RADIANS_TO_DEGREES", type := .double, accessFlags := 26, slot := 4, constantValue := 0 }, { name := "negativeZeroFloatBits", type := .long, accessFlags := 26, slot := 5, constantValue := 0 }, { name := "negativeZeroDoubleBits", type := .long, accessFlags := 26, slot := 6, constantValue := 0 }, { name := "twoToTheDoubleScaleUp", type := .double, accessFlags := 8, slot := 7, constantValue := 0 }, { name := "twoToTheDoubleScaleDown", type := .double, accessFlags := 8, slot := 8, constantValue := 0 }, { name := "$assertionsDisabled", type := .boolean, accessFlags := 4120, slot := 9, constantValue := 0 }]
  methods := #[k27m0, k27m1]
  instanceTypes := #[]
  staticTypes := #[.double, .double, .double, .double, .double, .long, .long, .double, .double, .boolean]
  resolved := Array.replicate 460 none
  statics := none }

def pool28 : Array CpInfo := pool [(2, .class_ 4), (1, u "java/lang/Object"), (0, u "<init>"), (0, u "()V"), (17, .class_ 26), (1, u "jdk/internal/util/Preconditions"), (28, .class_ 56), (0, u "jdk/internal/util/Preconditions$4"), (57, .class_ 115), (0, u "jdk/internal/util/Preconditions$1"), (7, u "SIOOBE_FORMATTER"), (0, u "Ljava/util/function/BiFunction;"), (0, .class_ 126), (0, u "jdk/internal/util/Preconditions$2"), (3, u "AIOOBE_FORMATTER"), (0, .class_ 132), (0, u "jdk/internal/util/Preconditions$3"), (3, u "IOOBE_FORMATTER")] 57

def k28m0 : Method := { name := "<init>", desc := "()V", sig := { parameters := [], returnType := none }, accessFlags := 1, code := none }
/-- jdk/internal/util/Preconditions -/
def k28 : Class := { plain "jdk/internal/util/Preconditions" (some 0) with
  accessFlags := 33
  interfaces := #[]
  cf := some (fileOf pool28 24 #[.nestMembers #[55, 131, 125, 114]] #[{ accessFlags := 1, nameIndex := 5, descriptorIndex := 6, attributes := #[] }] 33 2 #[] #[{ accessFlags := 25, nameIndex := 123, descriptorIndex := 124, attributes := #[] }, { accessFlags := 25, nameIndex := 130, descriptorIndex := 124, attributes := #[] }, { accessFlags := 25, nameIndex := 136, descriptorIndex := 124, attributes := #[] }])
  fields := #[{ name := "SIOOBE_FORMATTER", type := (.object "java/util/function/BiFunction"), accessFlags := 25, slot := 0, constantValue := 0 }, { name := "AIOOBE_FORMATTER", type := (.object "java/util/function/BiFunction"), accessFlags := 25, slot := 1, constantValue := 0 }, { name := "IOOBE_FORMATTER", type := (.object "java/util/function/BiFunction"), accessFlags := 25, slot := 2, constantValue := 0 }]
  methods := #[k28m0]
  instanceTypes := #[]
  staticTypes := #[(.object "java/util/function/BiFunction"), (.object "java/util/function/BiFunction"), (.object "java/util/function/BiFunction")]
  resolved := Array.replicate 194 none
  statics := some 4 }

/-- the primitive byte -/
def k29 : Class := { plain "byte" none with kind := .primitive 'B', accessFlags := 0x411 }
/-- [B -/
def k30 : Class := { plain "[B" (some 0) with kind := .array 29 .byte, interfaces := #[10, 11], accessFlags := 1041 }

/-- the primitive int -/
def k31 : Class := { plain "int" none with kind := .primitive 'I', accessFlags := 0x411 }
/-- [I -/
def k32 : Class := { plain "[I" (some 0) with kind := .array 31 .int, interfaces := #[10, 11], accessFlags := 1041 }

/-- [Ljava/lang/Object; -/
def k33 : Class := { plain "[Ljava/lang/Object;" (some 0) with kind := .array 0 (.object "java/lang/Object"), interfaces := #[10, 11], accessFlags := 1041 }

def k34 : Class := { plain "jdk/internal/util/ArraysSupport" (some 0) with accessFlags := 33 }

def heap : Heap := #[{ cls := 12, slots := #[.long 0, .int 0, .ref 7, .ref 8], vm := .statics 12 },
  { cls := 19, slots := #[.long 0, .int 1, .null, .int 0, .null, .int 0, .int 0], vm := .statics 19 },
  { cls := 23, slots := #[.ref 5, .ref 6, .null], vm := .statics 23 },
  { cls := 26, slots := #[.null, .null, .ref 9, .ref 10, .null], vm := .statics 26 },
  { cls := 28, slots := #[.null, .null, .null], vm := .statics 28 },
  { cls := 23, slots := #[.null, .int 0, .int 0], vm := .none },
  { cls := 23, slots := #[.null, .int 1, .int 0], vm := .none },
  { cls := 33, slots := #[], vm := .none },
  { cls := 33, slots := #[], vm := .none },
  { cls := 26, slots := #[], vm := .none },
  { cls := 32, slots := #[.int 1207963663, .int 1207963663, .int 1207963663, .int 1207963663, .int 1207963663, .int 1207963663, .int 1207963663, .int 1207963663, .int 1207963663, .int 1476411407, .int 1342193679, .int 1476411407, .int 1610629135, .int 1342193679, .int 1207963663, .int 1207963663, .int 1207963663, .int 1207963663, .int 1207963663, .int 1207963663, .int 1207963663, .int 1207963663, .int 1207963663, .int 1207963663, .int 1207963663, .int 1207963663, .int 1207963663, .int 1207963663, .int 1342193679, .int 1342193679, .int 1342193679, .int 1476411407, .int 1610629132, .int 1744830488, .int 1744830488, .int 671088664, .int 671113242, .int 671088664, .int 1744830488, .int 1744830488, .int (-402653163), .int (-402653162), .int 1744830488, .int 536870937, .int 939524120, .int 536870932, .int 939524120, .int 939524120, .int 402667017, .int 402667017, .int 402667017, .int 402667017, .int 402667017, .int 402667017, .int 402667017, .int 402667017, .int 402667017, .int 402667017, .int 939524120, .int 1744830488, .int (-402653159), .int 1744830489, .int (-402653159), .int 1744830488, .int 1744830488, .int 8552417, .int 8552417, .int 8552417, .int 8552417, .int 8552417, .int 8552417, .int 8552417, .int 8552417, .int 8552417, .int 8552417, .int 8552417, .int 8552417, .int 8552417, .int 8552417, .int 8552417, .int 8552417, .int 8552417, .int 8552417, .int 8552417, .int 8552417, .int 8552417, .int 8552417, .int 8552417, .int 8552417, .int 8552417, .int 8552417, .int (-402653163), .int 1744830488, .int (-402653162), .int 1744830491, .int 1744850967, .int 1744830491, .int 8486882, .int 8486882, .int 8486882, .int 8486882, .int 8486882, .int 8486882, .int 8486882, .int 8486882, .int 8486882, .int 8486882, .int 8486882, .int 8486882, .int 8486882, .int 8486882, .int 8486882, .int 8486882, .int 8486882, .int 8486882, .int 8486882, .int 8486882, .int 8486882, .int 8486882, .int 8486882, .int 8486882, .int 8486882, .int 8486882, .int (-402653163), .int 1744830489, .int (-402653162), .int 1744830489, .int 1207963663, .int 1207963663, .int 1207963663, .int 1207963663, .int 1207963663, .int 1207963663, .int 1342181391, .int 1207963663, .int 1207963663, .int 1207963663, .int 1207963663, .int 1207963663, .int 1207963663, .int 1207963663, .int 1207963663, .int 1207963663, .int 1207963663, .int 1207963663, .int 1207963663, .int 1207963663, .int 1207963663, .int 1207963663, .int 1207963663, .int 1207963663, .int 1207963663, .int 1207963663, .int 1207963663, .int 1207963663, .int 1207963663, .int 1207963663, .int 1207963663, .int 1207963663, .int 1207963663, .int 939524108, .int 1744830488, .int 671113242, .int 671113242, .int 671113242, .int 671113242, .int 1744830492, .int 1744830488, .int 1744830491, .int 1744830492, .int 28677, .int (-402653155), .int 1744830489, .int 1207963664, .int 1744830492, .int 1744830491, .int 671088668, .int 671088665, .int 402654731, .int 402654731, .int 1744830491, .int 134049794, .int 1744830488, .int 1744830488, .int 1744830491, .int 402654475, .int 28677, .int (-402653154), .int 1744832523, .int 1744832523, .int 1744832523, .int 1744830488, .int 8548353, .int 8548353, .int 8548353, .int 8548353, .int 8548353, .int 8548353, .int 8548353, .int 8548353, .int 8548353, .int 8548353, .int 8548353, .int 8548353, .int 8548353, .int 8548353, .int 8548353, .int 8548353, .int 8548353, .int 8548353, .int 8548353, .int 8548353, .int 8548353, .int 8548353, .int 8548353, .int 1744830489, .int 8548353, .int 8548353, .int 8548353, .int 8548353, .int 8548353, .int 8548353, .int 8548353, .int 134049794, .int 8482818, .int 8482818, .int 8482818, .int 8482818, .int 8482818, .int 8482818, .int 8482818, .int 8482818, .int 8482818, .int 8482818, .int 8482818, .int 8482818, .int 8482818, .int 8482818, .int 8482818, .int 8482818, .int 8482818, .int 8482818, .int 8482818, .int 8482818, .int 8482818, .int 8482818, .int 8482818, .int 1744830489, .int 8482818, .int 8482818, .int 8482818, .int 8482818, .int 8482818, .int 8482818, .int 8482818, .int 102592514], vm := .none }]
def classes : Array Class := #[k0, k1, k2, k3, k4, k5, k6, k7, k8, k9, k10, k11, k12, k13, k14, k15, k16, k17, k18, k19, k20, k21, k22, k23, k24, k25, k26, k27, k28, k29, k30, k31, k32, k33, k34]
def interned : List (Array UInt16 × Addr) := []
def slotsUsed : Nat := 284
def theMethod : MethodId := ⟨1, 1⟩
def args0 : Array Value := #[.int 5, .int 6]
def aboutOver (below : List Frame) : State where
  vm := { classes := classes, interned := interned.toArray }
  heap := heap
  slotsUsed := slotsUsed
  threads := #[{ frames := .invoking theMethod args0 :: below }]
def below0 : List Frame := [.native { method := ⟨0, 0⟩, args := #[] }]
def about1 : State := aboutOver below0
def p0 : Program := .bare "" "" ""
def e0 : Env := launch0.env 0 0 0
theorem w_frames : about1.frames = Frame.invoking theMethod args0 :: below0 := rfl
set_option maxRecDepth 65536 in
theorem w_args : argsFit about1.vm theMethod args0 = true := by decide +kernel
set_option maxRecDepth 65536 in
theorem w_heap : heapFits about1 = true := by decide +kernel
set_option maxRecDepth 65536 in
theorem w_runnable : about1.curStatus? = some .runnable := by decide +kernel
set_option maxRecDepth 65536 in
theorem w_alone : about1.alone = true := by decide +kernel
set_option maxRecDepth 65536 in
theorem w_named : about1.methodNamed? x = some theMethod := by decide +kernel
set_option maxRecDepth 65536 in
theorem w_hears : about1.hears theMethod below0 = true := by decide +kernel
set_option maxRecDepth 65536 in
theorem w_ripe : about1.ripe theMethod args0 below0 = true := by decide +kernel
theorem w_running : about1.status = .running := rfl
set_option maxRecDepth 65536 in
theorem w_room : about1.hasRoom e0.platform room_1 = true :=
  launch0.hasRoom_least _ room_1 (by decide +kernel) (by decide +kernel) (by decide +kernel) (by decide +kernel) (by decide +kernel) (by decide +kernel)
theorem allAtoms_all (ts : List Jvm.Cond) (a : Array Jvm.Value) (st : Jvm.State) : (allAtoms ts).before a st = ts.all (fun c => c.before a st) := by
  induction ts with
  | nil => rfl
  | cons c t ih =>
    show (Jvm.Cond.and c (allAtoms t)).before a st = _
    rw [Jvm.Cond.before_and, ih, List.all_cons]
def words1 : List Jvm.Cond := Jvm.Cond.code x code maxLocals ret :: tables_1
/-- a 'code' word, met by the world's own term for the bytes: nothing is compared byte by byte -/
theorem code_word {y : MethodName} {bytes : ByteArray} {mx : Nat} {rt : Option FieldType} {a : Array Value} {s : State} {m : MethodId} {meth : Method} {c : Code} (h1 : s.methodNamed? y = some m) (h2 : s.vm.method? m = some meth) (h3 : meth.code = some c) (h4 : c.code = bytes)
    (h5 : (c.maxLocals == mx && c.exceptionTable.isEmpty && decide (c.maxStack ≤ mostOperands) && decide (meth.sig.returnType = rt) && !meth.locks && decide (parseMethodDescriptor y.desc = some meth.sig)) = true) : (Jvm.Cond.code y bytes mx rt).before a s = true := by
  simp only [Bool.and_eq_true, beq_iff_eq, Bool.not_eq_true', decide_eq_true_eq] at h5
  obtain ⟨⟨⟨⟨⟨g1, g2⟩, g3⟩, g4⟩, g5⟩, g6⟩ := h5
  simp [Cond.before, Cond.holds, Cond.value, h1, h2, h3, h4, g1, g2, g3, g4, g5, g6]
def isCode : Jvm.Cond → Bool
  | .code _ _ _ _ => true
  | _ => false
theorem all_split {L : List Jvm.Cond} {P : Jvm.Cond → Bool} (h1 : L.all (fun c => isCode c || P c) = true) (h2 : ∀ c ∈ L.filter isCode, P c = true) : L.all P = true := by
  refine List.all_eq_true.mpr fun c hc => ?_
  have h := List.all_eq_true.mp h1 c hc
  rcases Bool.eq_false_or_eq_true (isCode c) with hi | hi
  · exact h2 c (List.mem_filter.mpr ⟨hc, hi⟩)
  · simpa [hi] using h
set_option maxRecDepth 65536 in
theorem w_c0 : (Jvm.Cond.code x code maxLocals ret).before args0 about1 = true := code_word (m := ⟨1, 1⟩) (meth := k1m1) (c := k1c1) (by decide +kernel) rfl rfl rfl (by decide +kernel)
set_option maxRecDepth 65536 in
theorem w_c1 : (Jvm.Cond.code ({ cls := "com/example/stomme/stomme/diagnostic/Diagnostics", name := "<init>", desc := "()V" } : Jvm.MethodName) prog_9_method_1_code (1 : Nat) (Option.none : Option Jvm.ClassFile.FieldType)).before args0 about1 = true := code_word (m := ⟨2, 0⟩) (meth := k2m0) (c := k2c0) (by decide +kernel) rfl rfl rfl (by decide +kernel)
set_option maxRecDepth 65536 in
theorem w_c2 : (Jvm.Cond.code ({ cls := "java/lang/Object", name := "<init>", desc := "()V" } : Jvm.MethodName) object_method_1_code (1 : Nat) (Option.none : Option Jvm.ClassFile.FieldType)).before args0 about1 = true := code_word (m := ⟨0, 0⟩) (meth := k0m0) (c := k0c0) (by decide +kernel) rfl rfl rfl (by decide +kernel)
set_option maxRecDepth 65536 in
theorem w_c3 : (Jvm.Cond.code ({ cls := "java/util/ArrayList", name := "<init>", desc := "()V" } : Jvm.MethodName) jdk_38_method_2_code (1 : Nat) (Option.none : Option Jvm.ClassFile.FieldType)).before args0 about1 = true := code_word (m := ⟨12, 0⟩) (meth := k12m0) (c := k12c0) (by decide +kernel) rfl rfl rfl (by decide +kernel)
set_option maxRecDepth 65536 in
theorem w_c4 : (Jvm.Cond.code ({ cls := "java/util/AbstractList", name := "<init>", desc := "()V" } : Jvm.MethodName) jdk_39_method_1_code (1 : Nat) (Option.none : Option Jvm.ClassFile.FieldType)).before args0 about1 = true := code_word (m := ⟨8, 0⟩) (meth := k8m0) (c := k8c0) (by decide +kernel) rfl rfl rfl (by decide +kernel)
set_option maxRecDepth 65536 in
theorem w_c5 : (Jvm.Cond.code ({ cls := "java/util/AbstractCollection", name := "<init>", desc := "()V" } : Jvm.MethodName) jdk_22_method_1_code (1 : Nat) (Option.none : Option Jvm.ClassFile.FieldType)).before args0 about1 = true := code_word (m := ⟨5, 0⟩) (meth := k5m0) (c := k5c0) (by decide +kernel) rfl rfl rfl (by decide +kernel)
set_option maxRecDepth 65536 in
theorem w_c6 : (Jvm.Cond.code ({ cls := "com/example/stomme/stomme/diagnostic/Position", name := "<init>", desc := "(Ljava/lang/String;II)V" } : Jvm.MethodName) prog_11_method_1_code (4 : Nat) (Option.none : Option Jvm.ClassFile.FieldType)).before args0 about1 = true := code_word (m := ⟨14, 0⟩) (meth := k14m0) (c := k14c0) (by decide +kernel) rfl rfl rfl (by decide +kernel)
set_option maxRecDepth 65536 in
theorem w_c7 : (Jvm.Cond.code ({ cls := "java/lang/Record", name := "<init>", desc := "()V" } : Jvm.MethodName) jdk_30_method_1_code (1 : Nat) (Option.none : Option Jvm.ClassFile.FieldType)).before args0 about1 = true := code_word (m := ⟨13, 0⟩) (meth := k13m0) (c := k13c0) (by decide +kernel) rfl rfl rfl (by decide +kernel)
set_option maxRecDepth 65536 in
theorem w_c8 : (Jvm.Cond.code ({ cls := "java/util/Objects", name := "requireNonNull", desc := "(Ljava/lang/Object;Ljava/lang/String;)Ljava/lang/Object;" } : Jvm.MethodName) jdk_31_method_11_code (2 : Nat) (Option.some (Jvm.ClassFile.FieldType.object "java/lang/Object"))).before args0 about1 = true := code_word (m := ⟨20, 1⟩) (meth := k20m1) (c := k20c1) (by decide +kernel) rfl rfl rfl (by decide +kernel)
set_option maxRecDepth 65536 in
theorem w_c9 : (Jvm.Cond.code ({ cls := "com/example/stomme/stomme/diagnostic/Diagnostics", name := "hasErrors", desc := "()Z" } : Jvm.MethodName) prog_9_method_4_code (1 : Nat) (Option.some Jvm.ClassFile.FieldType.boolean)).before args0 about1 = true := code_word (m := ⟨2, 3⟩) (meth := k2m3) (c := k2c3) (by decide +kernel) rfl rfl rfl (by decide +kernel)
set_option maxRecDepth 65536 in
theorem w_c10 : (Jvm.Cond.code ({ cls := "com/example/stomme/stomme/diagnostic/DiagnosticsHasErrorsPinLaw", name := "step", desc := "(Lcom/example/stomme/stomme/diagnostic/Diagnostics;Lcom/example/stomme/stomme/diagnostic/Position;I)I" } : Jvm.MethodName) method_3_code (3 : Nat) (Option.some Jvm.ClassFile.FieldType.int)).before args0 about1 = true := code_word (m := ⟨1, 2⟩) (meth := k1m2) (c := k1c2) (by decide +kernel) rfl rfl rfl (by decide +kernel)
set_option maxRecDepth 65536 in
theorem w_c11 : (Jvm.Cond.code ({ cls := "com/example/stomme/stomme/diagnostic/Diagnostics", name := "error", desc := "(Lcom/example/stomme/stomme/diagnostic/Position;Ljava/lang/String;)V" } : Jvm.MethodName) prog_9_method_2_code (3 : Nat) (Option.none : Option Jvm.ClassFile.FieldType)).before args0 about1 = true := code_word (m := ⟨2, 1⟩) (meth := k2m1) (c := k2c1) (by decide +kernel) rfl rfl rfl (by decide +kernel)
set_option maxRecDepth 65536 in
theorem w_c12 : (Jvm.Cond.code ({ cls := "com/example/stomme/stomme/diagnostic/Diagnostic", name := "<init>", desc := "(Lcom/example/stomme/stomme/diagnostic/Diagnostic$Severity;Lcom/example/stomme/stomme/diagnostic/Position;Ljava/lang/String;)V" } : Jvm.MethodName) prog_7_method_1_code (4 : Nat) (Option.none : Option Jvm.ClassFile.FieldType)).before args0 about1 = true := code_word (m := ⟨21, 0⟩) (meth := k21m0) (c := k21c0) (by decide +kernel) rfl rfl rfl (by decide +kernel)
set_option maxRecDepth 65536 in
theorem w_c13 : (Jvm.Cond.code ({ cls := "java/lang/String", name := "isBlank", desc := "()Z" } : Jvm.MethodName) jdk_42_method_117_code (1 : Nat) (Option.some Jvm.ClassFile.FieldType.boolean)).before args0 about1 = true := code_word (m := ⟨19, 2⟩) (meth := k19m2) (c := k19c2) (by decide +kernel) rfl rfl rfl (by decide +kernel)
set_option maxRecDepth 65536 in
theorem w_c14 : (Jvm.Cond.code ({ cls := "java/lang/String", name := "indexOfNonWhitespace", desc := "()I" } : Jvm.MethodName) jdk_42_method_120_code (1 : Nat) (Option.some Jvm.ClassFile.FieldType.int)).before args0 about1 = true := code_word (m := ⟨19, 3⟩) (meth := k19m3) (c := k19c3) (by decide +kernel) rfl rfl rfl (by decide +kernel)
set_option maxRecDepth 65536 in
theorem w_c15 : (Jvm.Cond.code ({ cls := "java/lang/String", name := "isLatin1", desc := "()Z" } : Jvm.MethodName) jdk_42_method_154_code (1 : Nat) (Option.some Jvm.ClassFile.FieldType.boolean)).before args0 about1 = true := code_word (m := ⟨19, 5⟩) (meth := k19m5) (c := k19c5) (by decide +kernel) rfl rfl rfl (by decide +kernel)
set_option maxRecDepth 65536 in
theorem w_c16 : (Jvm.Cond.code ({ cls := "java/lang/StringLatin1", name := "indexOfNonWhitespace", desc := "([B)I" } : Jvm.MethodName) jdk_43_method_37_code (4 : Nat) (Option.some Jvm.ClassFile.FieldType.int)).before args0 about1 = true := code_word (m := ⟨24, 1⟩) (meth := k24m1) (c := k24c1) (by decide +kernel) rfl rfl rfl (by decide +kernel)
set_option maxRecDepth 65536 in
theorem w_c17 : (Jvm.Cond.code ({ cls := "java/lang/StringLatin1", name := "getChar", desc := "([BI)C" } : Jvm.MethodName) jdk_43_method_44_code (2 : Nat) (Option.some Jvm.ClassFile.FieldType.char)).before args0 about1 = true := code_word (m := ⟨24, 2⟩) (meth := k24m2) (c := k24c2) (by decide +kernel) rfl rfl rfl (by decide +kernel)
set_option maxRecDepth 65536 in
theorem w_c18 : (Jvm.Cond.code ({ cls := "java/lang/CharacterDataLatin1", name := "isWhitespace", desc := "(I)Z" } : Jvm.MethodName) jdk_116_method_26_code (3 : Nat) (Option.some Jvm.ClassFile.FieldType.boolean)).before args0 about1 = true := code_word (m := ⟨26, 1⟩) (meth := k26m1) (c := k26c1) (by decide +kernel) rfl rfl rfl (by decide +kernel)
set_option maxRecDepth 65536 in
theorem w_c19 : (Jvm.Cond.code ({ cls := "java/lang/CharacterDataLatin1", name := "getProperties", desc := "(I)I" } : Jvm.MethodName) jdk_116_method_1_code (4 : Nat) (Option.some Jvm.ClassFile.FieldType.int)).before args0 about1 = true := code_word (m := ⟨26, 0⟩) (meth := k26m0) (c := k26c0) (by decide +kernel) rfl rfl rfl (by decide +kernel)
set_option maxRecDepth 65536 in
theorem w_c20 : (Jvm.Cond.code ({ cls := "java/lang/String", name := "length", desc := "()I" } : Jvm.MethodName) jdk_42_method_54_code (1 : Nat) (Option.some Jvm.ClassFile.FieldType.int)).before args0 about1 = true := code_word (m := ⟨19, 1⟩) (meth := k19m1) (c := k19c1) (by decide +kernel) rfl rfl rfl (by decide +kernel)
set_option maxRecDepth 65536 in
theorem w_c21 : (Jvm.Cond.code ({ cls := "java/lang/String", name := "coder", desc := "()B" } : Jvm.MethodName) jdk_42_method_152_code (1 : Nat) (Option.some Jvm.ClassFile.FieldType.byte)).before args0 about1 = true := code_word (m := ⟨19, 4⟩) (meth := k19m4) (c := k19c4) (by decide +kernel) rfl rfl rfl (by decide +kernel)
set_option maxRecDepth 65536 in
theorem w_c22 : (Jvm.Cond.code ({ cls := "java/util/ArrayList", name := "add", desc := "(Ljava/lang/Object;)Z" } : Jvm.MethodName) jdk_38_method_25_code (2 : Nat) (Option.some Jvm.ClassFile.FieldType.boolean)).before args0 about1 = true := code_word (m := ⟨12, 4⟩) (meth := k12m4) (c := k12c4) (by decide +kernel) rfl rfl rfl (by decide +kernel)
set_option maxRecDepth 65536 in
theorem w_c23 : (Jvm.Cond.code ({ cls := "java/util/ArrayList", name := "add", desc := "(Ljava/lang/Object;[Ljava/lang/Object;I)V" } : Jvm.MethodName) jdk_38_method_24_code (4 : Nat) (Option.none : Option Jvm.ClassFile.FieldType)).before args0 about1 = true := code_word (m := ⟨12, 3⟩) (meth := k12m3) (c := k12c3) (by decide +kernel) rfl rfl rfl (by decide +kernel)
set_option maxRecDepth 65536 in
theorem w_c24 : (Jvm.Cond.code ({ cls := "java/util/ArrayList", name := "grow", desc := "()[Ljava/lang/Object;" } : Jvm.MethodName) jdk_38_method_7_code (1 : Nat) (Option.some (Jvm.ClassFile.FieldType.array (Jvm.ClassFile.FieldType.object "java/lang/Object")))).before args0 about1 = true := code_word (m := ⟨12, 2⟩) (meth := k12m2) (c := k12c2) (by decide +kernel) rfl rfl rfl (by decide +kernel)
set_option maxRecDepth 65536 in
theorem w_c25 : (Jvm.Cond.code ({ cls := "java/util/ArrayList", name := "grow", desc := "(I)[Ljava/lang/Object;" } : Jvm.MethodName) jdk_38_method_6_code (4 : Nat) (Option.some (Jvm.ClassFile.FieldType.array (Jvm.ClassFile.FieldType.object "java/lang/Object")))).before args0 about1 = true := code_word (m := ⟨12, 1⟩) (meth := k12m1) (c := k12c1) (by decide +kernel) rfl rfl rfl (by decide +kernel)
set_option maxRecDepth 65536 in
theorem w_c26 : (Jvm.Cond.code ({ cls := "java/lang/Math", name := "max", desc := "(II)I" } : Jvm.MethodName) jdk_29_method_65_code (2 : Nat) (Option.some Jvm.ClassFile.FieldType.int)).before args0 about1 = true := code_word (m := ⟨27, 1⟩) (meth := k27m1) (c := k27c1) (by decide +kernel) rfl rfl rfl (by decide +kernel)
set_option maxRecDepth 65536 in
theorem w_c27 : (Jvm.Cond.code ({ cls := "com/example/stomme/stomme/diagnostic/Diagnostics", name := "warning", desc := "(Lcom/example/stomme/stomme/diagnostic/Position;Ljava/lang/String;)V" } : Jvm.MethodName) prog_9_method_3_code (3 : Nat) (Option.none : Option Jvm.ClassFile.FieldType)).before args0 about1 = true := code_word (m := ⟨2, 2⟩) (meth := k2m2) (c := k2c2) (by decide +kernel) rfl rfl rfl (by decide +kernel)
def codes1 : List Jvm.Cond := [Jvm.Cond.code x code maxLocals ret, Jvm.Cond.code ({ cls := "com/example/stomme/stomme/diagnostic/Diagnostics", name := "<init>", desc := "()V" } : Jvm.MethodName) prog_9_method_1_code (1 : Nat) (Option.none : Option Jvm.ClassFile.FieldType), Jvm.Cond.code ({ cls := "java/lang/Object", name := "<init>", desc := "()V" } : Jvm.MethodName) object_method_1_code (1 : Nat) (Option.none : Option Jvm.ClassFile.FieldType), Jvm.Cond.code ({ cls := "java/util/ArrayList", name := "<init>", desc := "()V" } : Jvm.MethodName) jdk_38_method_2_code (1 : Nat) (Option.none : Option Jvm.ClassFile.FieldType), Jvm.Cond.code ({ cls := "java/util/AbstractList", name := "<init>", desc := "()V" } : Jvm.MethodName) jdk_39_method_1_code (1 : Nat) (Option.none : Option Jvm.ClassFile.FieldType), Jvm.Cond.code ({ cls := "java/util/AbstractCollection", name := "<init>", desc := "()V" } : Jvm.MethodName) jdk_22_method_1_code (1 : Nat) (Option.none : Option Jvm.ClassFile.FieldType), Jvm.Cond.code ({ cls := "com/example/stomme/stomme/diagnostic/Position", name := "<init>", desc := "(Ljava/lang/String;II)V" } : Jvm.MethodName) prog_11_method_1_code (4 : Nat) (Option.none : Option Jvm.ClassFile.FieldType), Jvm.Cond.code ({ cls := "java/lang/Record", name := "<init>", desc := "()V" } : Jvm.MethodName) jdk_30_method_1_code (1 : Nat) (Option.none : Option Jvm.ClassFile.FieldType), Jvm.Cond.code ({ cls := "java/util/Objects", name := "requireNonNull", desc := "(Ljava/lang/Object;Ljava/lang/String;)Ljava/lang/Object;" } : Jvm.MethodName) jdk_31_method_11_code (2 : Nat) (Option.some (Jvm.ClassFile.FieldType.object "java/lang/Object")), Jvm.Cond.code ({ cls := "com/example/stomme/stomme/diagnostic/Diagnostics", name := "hasErrors", desc := "()Z" } : Jvm.MethodName) prog_9_method_4_code (1 : Nat) (Option.some Jvm.ClassFile.FieldType.boolean), Jvm.Cond.code ({ cls := "com/example/stomme/stomme/diagnostic/DiagnosticsHasErrorsPinLaw", name := "step", desc := "(Lcom/example/stomme/stomme/diagnostic/Diagnostics;Lcom/example/stomme/stomme/diagnostic/Position;I)I" } : Jvm.MethodName) method_3_code (3 : Nat) (Option.some Jvm.ClassFile.FieldType.int), Jvm.Cond.code ({ cls := "com/example/stomme/stomme/diagnostic/Diagnostics", name := "error", desc := "(Lcom/example/stomme/stomme/diagnostic/Position;Ljava/lang/String;)V" } : Jvm.MethodName) prog_9_method_2_code (3 : Nat) (Option.none : Option Jvm.ClassFile.FieldType), Jvm.Cond.code ({ cls := "com/example/stomme/stomme/diagnostic/Diagnostic", name := "<init>", desc := "(Lcom/example/stomme/stomme/diagnostic/Diagnostic$Severity;Lcom/example/stomme/stomme/diagnostic/Position;Ljava/lang/String;)V" } : Jvm.MethodName) prog_7_method_1_code (4 : Nat) (Option.none : Option Jvm.ClassFile.FieldType), Jvm.Cond.code ({ cls := "java/lang/String", name := "isBlank", desc := "()Z" } : Jvm.MethodName) jdk_42_method_117_code (1 : Nat) (Option.some Jvm.ClassFile.FieldType.boolean), Jvm.Cond.code ({ cls := "java/lang/String", name := "indexOfNonWhitespace", desc := "()I" } : Jvm.MethodName) jdk_42_method_120_code (1 : Nat) (Option.some Jvm.ClassFile.FieldType.int), Jvm.Cond.code ({ cls := "java/lang/String", name := "isLatin1", desc := "()Z" } : Jvm.MethodName) jdk_42_method_154_code (1 : Nat) (Option.some Jvm.ClassFile.FieldType.boolean), Jvm.Cond.code ({ cls := "java/lang/StringLatin1", name := "indexOfNonWhitespace", desc := "([B)I" } : Jvm.MethodName) jdk_43_method_37_code (4 : Nat) (Option.some Jvm.ClassFile.FieldType.int), Jvm.Cond.code ({ cls := "java/lang/StringLatin1", name := "getChar", desc := "([BI)C" } : Jvm.MethodName) jdk_43_method_44_code (2 : Nat) (Option.some Jvm.ClassFile.FieldType.char), Jvm.Cond.code ({ cls := "java/lang/CharacterDataLatin1", name := "isWhitespace", desc := "(I)Z" } : Jvm.MethodName) jdk_116_method_26_code (3 : Nat) (Option.some Jvm.ClassFile.FieldType.boolean), Jvm.Cond.code ({ cls := "java/lang/CharacterDataLatin1", name := "getProperties", desc := "(I)I" } : Jvm.MethodName) jdk_116_method_1_code (4 : Nat) (Option.some Jvm.ClassFile.FieldType.int), Jvm.Cond.code ({ cls := "java/lang/String", name := "length", desc := "()I" } : Jvm.MethodName) jdk_42_method_54_code (1 : Nat) (Option.some Jvm.ClassFile.FieldType.int), Jvm.Cond.code ({ cls := "java/lang/String", name := "coder", desc := "()B" } : Jvm.MethodName) jdk_42_method_152_code (1 : Nat) (Option.some Jvm.ClassFile.FieldType.byte), Jvm.Cond.code ({ cls := "java/util/ArrayList", name := "add", desc := "(Ljava/lang/Object;)Z" } : Jvm.MethodName) jdk_38_method_25_code (2 : Nat) (Option.some Jvm.ClassFile.FieldType.boolean), Jvm.Cond.code ({ cls := "java/util/ArrayList", name := "add", desc := "(Ljava/lang/Object;[Ljava/lang/Object;I)V" } : Jvm.MethodName) jdk_38_method_24_code (4 : Nat) (Option.none : Option Jvm.ClassFile.FieldType), Jvm.Cond.code ({ cls := "java/util/ArrayList", name := "grow", desc := "()[Ljava/lang/Object;" } : Jvm.MethodName) jdk_38_method_7_code (1 : Nat) (Option.some (Jvm.ClassFile.FieldType.array (Jvm.ClassFile.FieldType.object "java/lang/Object"))), Jvm.Cond.code ({ cls := "java/util/ArrayList", name := "grow", desc := "(I)[Ljava/lang/Object;" } : Jvm.MethodName) jdk_38_method_6_code (4 : Nat) (Option.some (Jvm.ClassFile.FieldType.array (Jvm.ClassFile.FieldType.object "java/lang/Object"))), Jvm.Cond.code ({ cls := "java/lang/Math", name := "max", desc := "(II)I" } : Jvm.MethodName) jdk_29_method_65_code (2 : Nat) (Option.some Jvm.ClassFile.FieldType.int), Jvm.Cond.code ({ cls := "com/example/stomme/stomme/diagnostic/Diagnostics", name := "warning", desc := "(Lcom/example/stomme/stomme/diagnostic/Position;Ljava/lang/String;)V" } : Jvm.MethodName) prog_9_method_3_code (3 : Nat) (Option.none : Option Jvm.ClassFile.FieldType)]
set_option maxRecDepth 65536 in
theorem codes_eq : words1.filter isCode = codes1 := rfl
theorem w_codes : ∀ c ∈ words1.filter isCode, c.before args0 about1 = true := by
  rw [codes_eq]
  intro c hc
  simp only [codes1, List.mem_cons, List.not_mem_nil, or_false] at hc
  rcases hc with rfl | rfl | rfl | rfl | rfl | rfl | rfl | rfl | rfl | rfl | rfl | rfl | rfl | rfl | rfl | rfl | rfl | rfl | rfl | rfl | rfl | rfl | rfl | rfl | rfl | rfl | rfl | rfl
  · exact w_c0
  · exact w_c1
  · exact w_c2
  · exact w_c3
  · exact w_c4
  · exact w_c5
  · exact w_c6
  · exact w_c7
  · exact w_c8
  · exact w_c9
  · exact w_c10
  · exact w_c11
  · exact w_c12
  · exact w_c13
  · exact w_c14
  · exact w_c15
  · exact w_c16
  · exact w_c17
  · exact w_c18
  · exact w_c19
  · exact w_c20
  · exact w_c21
  · exact w_c22
  · exact w_c23
  · exact w_c24
  · exact w_c25
  · exact w_c26
  · exact w_c27
set_option maxRecDepth 65536 in
theorem w_t1 : (words1.take 24).all (fun c => isCode c || c.before args0 about1) = true := by decide +kernel
set_option maxRecDepth 65536 in
theorem w_t2 : ((words1.drop 24).take 24).all (fun c => isCode c || c.before args0 about1) = true := by decide +kernel
set_option maxRecDepth 65536 in
theorem w_t3 : (((words1.drop 24).drop 24).take 24).all (fun c => isCode c || c.before args0 about1) = true := by decide +kernel
set_option maxRecDepth 65536 in
theorem w_t4 : ((((words1.drop 24).drop 24).drop 24).take 24).all (fun c => isCode c || c.before args0 about1) = true := by decide +kernel
set_option maxRecDepth 65536 in
theorem w_t5 : (((((words1.drop 24).drop 24).drop 24).drop 24).take 24).all (fun c => isCode c || c.before args0 about1) = true := by decide +kernel
set_option maxRecDepth 65536 in
theorem w_t6 : ((((((words1.drop 24).drop 24).drop 24).drop 24).drop 24).take 24).all (fun c => isCode c || c.before args0 about1) = true := by decide +kernel
set_option maxRecDepth 65536 in
theorem w_t7 : (((((((words1.drop 24).drop 24).drop 24).drop 24).drop 24).drop 24).take 24).all (fun c => isCode c || c.before args0 about1) = true := by decide +kernel
set_option maxRecDepth 65536 in
theorem w_t8 : ((((((((words1.drop 24).drop 24).drop 24).drop 24).drop 24).drop 24).drop 24).take 24).all (fun c => isCode c || c.before args0 about1) = true := by decide +kernel
set_option maxRecDepth 65536 in
theorem w_t9 : ((((((((words1.drop 24).drop 24).drop 24).drop 24).drop 24).drop 24).drop 24).drop 24).all (fun c => isCode c || c.before args0 about1) = true := by decide +kernel
theorem w_tables : (allAtoms (Jvm.Cond.code x code maxLocals ret :: tables_1)).before args0 about1 = true := by
  rw [allAtoms_all]
  show words1.all (fun c => c.before args0 about1) = true
  refine all_split ?_ w_codes
  rw [← List.take_append_drop 24 words1, List.all_append, w_t1, ← List.take_append_drop 24 (words1.drop 24), List.all_append, w_t2, ← List.take_append_drop 24 ((words1.drop 24).drop 24), List.all_append, w_t3, ← List.take_append_drop 24 (((words1.drop 24).drop 24).drop 24), List.all_append, w_t4, ← List.take_append_drop 24 ((((words1.drop 24).drop 24).drop 24).drop 24), List.all_append, w_t5, ← List.take_append_drop 24 (((((words1.drop 24).drop 24).drop 24).drop 24).drop 24), List.all_append, w_t6, ← List.take_append_drop 24 ((((((words1.drop 24).drop 24).drop 24).drop 24).drop 24).drop 24), List.all_append, w_t7, ← List.take_append_drop 24 (((((((words1.drop 24).drop 24).drop 24).drop 24).drop 24).drop 24).drop 24), List.all_append, w_t8, w_t9]
  rfl
set_option maxRecDepth 65536 in
theorem w_rest : rest_1_c.before args0 about1 = true := by decide +kernel
set_option maxRecDepth 65536 in
theorem w_case : (Jvm.Cond.and given_1 narrow_1).before args0 about1 = true := by decide +kernel
set_option maxRecDepth 65536 in
theorem w_consts : constsHeld consts_1 about1 := Jvm.Lit.constsHeldB_iff.mp (by decide +kernel)
theorem w_applies : (headSpec (Jvm.Cond.code x code maxLocals ret :: tables_1) room_1).applies x e0.platform about1 = true :=
  (Spec.applies_iff w_frames).mpr ⟨w_running, w_runnable, w_alone, w_named, w_hears, w_ripe, w_room, w_tables⟩
theorem atStart : AtStart classFile x code maxLocals ret World_1 tables_1 room_1 Calls_1 rest_1 Pre_1 launch0 p0 e0 about1 theMethod args0 below0 :=
  ⟨lists_1, trivial, launch0.admits_env _ _ _, launch0.least_env, fairChoices_fair.cas, fairChoices_fair.clock, w_frames, w_args, w_heap, w_applies, ⟨w_consts, trivial⟩, w_rest, w_case⟩
end start1
theorem witness_1 : WitnessClaimed_1 := ⟨start1.p0, start1.e0, start1.about1, start1.theMethod, start1.args0, start1.below0, start1.atStart⟩
end Jvm.Pilot.@@N@@
