import JvmDerived
import JvmDerived.Pilot.@@N@@Statement
import JvmDerived.Pilot.@@N@@Code
set_option linter.unusedVariables false
set_option linter.unusedSimpArgs false
namespace Jvm.RoadKit
open Sem ClassFile Op Lib Jvm.Stand Jvm.Free Jvm.LawKit
section New
variable {p : Program} {l : Launch} {e : Env} {R : Room} {s : State} {m : MethodId} {args : Array Value} {below : List Frame} {meth : Method} {c : Code} {T : State} {locs : List Loc} {cells slots : Nat}
theorem retI (X : Stand p l e R s m args below meth c T locs cells slots) (hx : p.tables.exec = Jvm.exec) {pc : Nat} {Ls : Array Slot} {z : Int32} {rest : List Value} (hret : meth.sig.returnType = some .int) (hd : decode c.code pc = .ok (.ireturn, 1)) {fs : List Frame}
    (hl : ∀ (f : JFrame) (acts : List Action), f.method = m → f.locked = none → f.entered = [] → (doReturn e (T.setTop f) acts (some (.int z))).1 = T.setFrames fs) : Steps p.tables e below (T.setTop (mkF m pc Ls (.int z :: rest))) (T.setFrames fs) := by
  have hm' : T.vm.method? m = some meth := X.method'
  have hn : narrow .int (.int z) = .int z := rfl
  show Steps p.tables e below (T.setTop { method := m, pc := pc, locals := Ls, stack := _ :: rest, locked := none }) _
  jvm_step X.here [X.here.top, hx, hd, hm', hret, hn]
  first | (intro acts; rw [hl _ acts rfl rfl rfl]) | rw [hl _ _ rfl rfl rfl]
  exact Steps.refl _
end New
end Jvm.RoadKit
namespace Jvm.Pilot.@@N@@
open Jvm Jvm.ClassFile Sem Op Lib Jvm.Free Jvm.Stand Jvm.LawKit Jvm.RoadKit Bundle Jvm.Pilot.@@N@@.Jvm.D
theorem d4_0 : decode jdk_29_method_70_code 0 = .ok (.lload_n 0, 1) := by decide +kernel
theorem d4_1 : decode jdk_29_method_70_code 1 = .ok (.lload_n 2, 1) := by decide +kernel
theorem d4_2 : decode jdk_29_method_70_code 2 = .ok (.lcmp, 1) := by decide +kernel
theorem d4_3 : decode jdk_29_method_70_code 3 = .ok (.ifCond .gt 7, 3) := by decide +kernel
theorem d4_6 : decode jdk_29_method_70_code 6 = .ok (.lload_n 0, 1) := by decide +kernel
theorem d4_7 : decode jdk_29_method_70_code 7 = .ok (.goto 4, 3) := by decide +kernel
theorem d4_11 : decode jdk_29_method_70_code 11 = .ok (.lreturn, 1) := by decide +kernel
theorem ef_4 (m : MethodId) (x0 : Int64) (x1 : Int64) : entryFrame m #[(.long x0), (.long x1)] 4 = mkF m 0 #[.val (.long x0), .second, .val (.long x1), .second] [] := by first | (simp [entryFrame, mkF, argsToLocals, Value.category]; done) | rfl
def Q4A (Z : State) (q1 : Int64) (q2 : Int64) (h0 : Heap) (n0 : Nat) (v : Option Value) (h : Heap) (L : List Loc) : Prop := v = some (.long q1) ∧ Fr n0 L ∧ h = h0
set_option maxRecDepth 65536 in
set_option maxHeartbeats 40000000 in
theorem rm4A (l : Launch) (Z : State) (a0 : Array Value) (hw : ∀ d ∈ tables_1, d.before a0 Z = true) (ws : List Jvm.Cond) (q1 : Int64) (q2 : Int64) (h0 : Heap) (n0 : Nat) (Z0 : n0 ≤ h0.size) (hc3 : ¬ ((0 : Int32) < (lcmpW q1 q2))) :
    MetFree l (⟨"java/lang/Math", "min", "(JJ)J"⟩ : MethodName) (head1 (Jvm.Cond.code (⟨"java/lang/Math", "min", "(JJ)J"⟩ : MethodName) jdk_29_method_70_code 4 (some .long) :: ws) ({ frames := 0, cells := 0, slots := 0, locals := 0 } : Room)) (fun a U => a = #[(.long q1), (.long q2)] ∧ Z.Warmed39 U.vm ∧ U.heap = h0) (fun _ _ _ _ _ => True) (fun _ U o U' => ∃ v L, o = .returned v ∧ Q4A Z q1 q2 h0 n0 v U'.heap L ∧ FrameEnd U o U' L ({ frames := 0, cells := 0, slots := 0, locals := 0 } : Room).cells ({ frames := 0, cells := 0, slots := 0, locals := 0 } : Room).slots) := by
  refine MetFree.of_bodySF (Jvm.Free.JP.mathPlain rfl (by decide +kernel)) hisR ?_
  intro p e s m args below meth c s₁ Bd hml0 hP hK
  obtain ⟨rfl, hZ, hh⟩ := hP
  have hx := Bd.exec
  have hby := Bd.bytes
  have hml : c.maxLocals = 4 := hml0
  have hown : s.vm.findClass "java/lang/Math" = some m.cls := findClass_of_methodNamed Bd.named
  have hnm := (name_of_methodNamed Bd.named Bd.method).1
  have X0 : Stand p l e ({ frames := 0, cells := 0, slots := 0, locals := 0 } : Room) s m #[(.long q1), (.long q2)] below meth c s₁ [] 0 0 := Stand.of_body Bd
  have e0 : s₁.heap = h0 := by rw [← hh, Bd.state]; rfl
  have N0 := Fr.nil n0
  have pre0 : ∀ t, Steps p.tables e below (s₁.setTop (mkF m 0 #[.val (.long q1), .second, .val (.long q2), .second] [])) t → Steps p.tables e below (s₁.setTop (entryFrame m #[(.long q1), (.long q2)] 4)) t := fun t k => castTop (ef_4 m q1 q2) k
  obtain ⟨fs, hr, hrun, hended, hW, hsame⟩ := X0.leave (v := some (.long q1)) (fun h => by rw [Bd.returns] at h; cases h)
  refine ⟨_, _, pre0 _ ?_, hrun, hended, _, _, rfl, ?_, ⟨_, rfl⟩, hW, hsame.mono (by decide) (by decide)⟩
  · show Steps p.tables e below (s₁.setTop (mkF m 0 #[.val (.long q1), .second, .val (.long q2), .second] [])) _
    refine XS.lloadN X0.here hx rfl (hb hby d4_0) rfl ?_
    show Steps p.tables e below (s₁.setTop (mkF m 1 #[.val (.long q1), .second, .val (.long q2), .second] [(.long q1)])) _
    refine XS.lloadN X0.here hx rfl (hb hby d4_1) rfl ?_
    show Steps p.tables e below (s₁.setTop (mkF m 2 #[.val (.long q1), .second, .val (.long q2), .second] [(.long q2), (.long q1)])) _
    refine XS.lcmp X0.here hx rfl (hb hby d4_2) rfl ?_
    show Steps p.tables e below (s₁.setTop (mkF m 3 #[.val (.long q1), .second, .val (.long q2), .second] [(.int (lcmpW q1 q2))])) _
    refine XS.ifNo X0.here hx rfl (hb hby d4_3) rfl ((if0 _ _).trans (flt hc3).2.2.1) ?_
    show Steps p.tables e below (s₁.setTop (mkF m 6 #[.val (.long q1), .second, .val (.long q2), .second] [])) _
    refine XS.lloadN X0.here hx rfl (hb hby d4_6) rfl ?_
    show Steps p.tables e below (s₁.setTop (mkF m 7 #[.val (.long q1), .second, .val (.long q2), .second] [(.long q1)])) _
    refine XS.goto X0.here hx rfl (pc0 := 7) (pc' := 11) rfl (hb hby d4_7) (by decide) (by decide) ?_
    show Steps p.tables e below (s₁.setTop (mkF m 11 #[.val (.long q1), .second, .val (.long q2), .second] [(.long q1)])) _
    jvm_step X0.here [X0.here.top, hx, (hb hby d4_11), X0.method', Bd.returns, narrow]
    first | (intro acts; rw [hr _ acts rfl rfl rfl]) | rw [hr _ _ rfl rfl rfl]
    exact Steps.refl _
  · show Q4A Z q1 q2 h0 n0 _ s₁.heap _
    rw [e0]
    exact ⟨rfl, N0, rfl⟩
theorem d4_10 : decode jdk_29_method_70_code 10 = .ok (.lload_n 2, 1) := by decide +kernel
def Q4B (Z : State) (q1 : Int64) (q2 : Int64) (h0 : Heap) (n0 : Nat) (v : Option Value) (h : Heap) (L : List Loc) : Prop := v = some (.long q2) ∧ Fr n0 L ∧ h = h0
set_option maxRecDepth 65536 in
set_option maxHeartbeats 40000000 in
theorem rm4B (l : Launch) (Z : State) (a0 : Array Value) (hw : ∀ d ∈ tables_1, d.before a0 Z = true) (ws : List Jvm.Cond) (q1 : Int64) (q2 : Int64) (h0 : Heap) (n0 : Nat) (Z0 : n0 ≤ h0.size) (hc3 : (0 : Int32) < (lcmpW q1 q2)) :
    MetFree l (⟨"java/lang/Math", "min", "(JJ)J"⟩ : MethodName) (head1 (Jvm.Cond.code (⟨"java/lang/Math", "min", "(JJ)J"⟩ : MethodName) jdk_29_method_70_code 4 (some .long) :: ws) ({ frames := 0, cells := 0, slots := 0, locals := 0 } : Room)) (fun a U => a = #[(.long q1), (.long q2)] ∧ Z.Warmed39 U.vm ∧ U.heap = h0) (fun _ _ _ _ _ => True) (fun _ U o U' => ∃ v L, o = .returned v ∧ Q4B Z q1 q2 h0 n0 v U'.heap L ∧ FrameEnd U o U' L ({ frames := 0, cells := 0, slots := 0, locals := 0 } : Room).cells ({ frames := 0, cells := 0, slots := 0, locals := 0 } : Room).slots) := by
  refine MetFree.of_bodySF (Jvm.Free.JP.mathPlain rfl (by decide +kernel)) hisR ?_
  intro p e s m args below meth c s₁ Bd hml0 hP hK
  obtain ⟨rfl, hZ, hh⟩ := hP
  have hx := Bd.exec
  have hby := Bd.bytes
  have hml : c.maxLocals = 4 := hml0
  have hown : s.vm.findClass "java/lang/Math" = some m.cls := findClass_of_methodNamed Bd.named
  have hnm := (name_of_methodNamed Bd.named Bd.method).1
  have X0 : Stand p l e ({ frames := 0, cells := 0, slots := 0, locals := 0 } : Room) s m #[(.long q1), (.long q2)] below meth c s₁ [] 0 0 := Stand.of_body Bd
  have e0 : s₁.heap = h0 := by rw [← hh, Bd.state]; rfl
  have N0 := Fr.nil n0
  have pre0 : ∀ t, Steps p.tables e below (s₁.setTop (mkF m 0 #[.val (.long q1), .second, .val (.long q2), .second] [])) t → Steps p.tables e below (s₁.setTop (entryFrame m #[(.long q1), (.long q2)] 4)) t := fun t k => castTop (ef_4 m q1 q2) k
  obtain ⟨fs, hr, hrun, hended, hW, hsame⟩ := X0.leave (v := some (.long q2)) (fun h => by rw [Bd.returns] at h; cases h)
  refine ⟨_, _, pre0 _ ?_, hrun, hended, _, _, rfl, ?_, ⟨_, rfl⟩, hW, hsame.mono (by decide) (by decide)⟩
  · show Steps p.tables e below (s₁.setTop (mkF m 0 #[.val (.long q1), .second, .val (.long q2), .second] [])) _
    refine XS.lloadN X0.here hx rfl (hb hby d4_0) rfl ?_
    show Steps p.tables e below (s₁.setTop (mkF m 1 #[.val (.long q1), .second, .val (.long q2), .second] [(.long q1)])) _
    refine XS.lloadN X0.here hx rfl (hb hby d4_1) rfl ?_
    show Steps p.tables e below (s₁.setTop (mkF m 2 #[.val (.long q1), .second, .val (.long q2), .second] [(.long q2), (.long q1)])) _
    refine XS.lcmp X0.here hx rfl (hb hby d4_2) rfl ?_
    show Steps p.tables e below (s₁.setTop (mkF m 3 #[.val (.long q1), .second, .val (.long q2), .second] [(.int (lcmpW q1 q2))])) _
    refine XS.ifYes X0.here hx rfl (pc0 := 3) (pc' := 10) rfl (hb hby d4_3) rfl ((if0 _ _).trans (tlt hc3).2.2.1) (by decide) (by decide) ?_
    show Steps p.tables e below (s₁.setTop (mkF m 10 #[.val (.long q1), .second, .val (.long q2), .second] [])) _
    refine XS.lloadN X0.here hx rfl (hb hby d4_10) rfl ?_
    show Steps p.tables e below (s₁.setTop (mkF m 11 #[.val (.long q1), .second, .val (.long q2), .second] [(.long q2)])) _
    jvm_step X0.here [X0.here.top, hx, (hb hby d4_11), X0.method', Bd.returns, narrow]
    first | (intro acts; rw [hr _ acts rfl rfl rfl]) | rw [hr _ _ rfl rfl rfl]
    exact Steps.refl _
  · show Q4B Z q1 q2 h0 n0 _ s₁.heap _
    rw [e0]
    exact ⟨rfl, N0, rfl⟩
theorem d1_0 : decode prog_30_method_1_code 0 = .ok (.aload_n 0, 1) := by decide +kernel
theorem d1_1 : decode prog_30_method_1_code 1 = .ok (.invokespecial 1, 3) := by decide +kernel
theorem d1_4 : decode prog_30_method_1_code 4 = .ok (.aload_n 0, 1) := by decide +kernel
theorem d1_5 : decode prog_30_method_1_code 5 = .ok (.getstatic 7, 3) := by decide +kernel
theorem d1_8 : decode prog_30_method_1_code 8 = .ok (.putfield 13, 3) := by decide +kernel
theorem d1_11 : decode prog_30_method_1_code 11 = .ok (.return_, 1) := by decide +kernel
theorem pn_1 : plainName "com/example/calm_exit/calmexit/Pauses" = true := by first | (simp [plainName, overriddenIn]; done) | decide +kernel
theorem ef_1 (m : MethodId) (x0 : Addr) : entryFrame m #[(.ref x0)] 1 = mkF m 0 #[.val (.ref x0)] [] := by first | (simp [entryFrame, mkF, argsToLocals, Value.category]; done) | rfl
def Q1 (Z : State) (a1 : Addr) (w3 : Int64) (u_next_a1 : Value) (h0 : Heap) (n0 : Nat) (v : Option Value) (h : Heap) (L : List Loc) : Prop := v = none ∧ Fr n0 L ∧ Keep h0 h [a1] ∧ Exa Z h a1 "com/example/calm_exit/calmexit/Pauses" ∧ Fld Z h a1 "com/example/calm_exit/calmexit/Pauses" "next" "J" (.long w3)
set_option maxRecDepth 65536 in
set_option maxHeartbeats 40000000 in
theorem rm1 (l : Launch) (Z : State) (a0 : Array Value) (hw : ∀ d ∈ tables_1, d.before a0 Z = true) (ws : List Jvm.Cond) (a1 : Addr) (w3 : Int64) (u_next_a1 : Value) (h0 : Heap) (n0 : Nat) (Z0 : n0 ≤ h0.size) (O0 : Old Z n0 h0) (S_FIRST_NANOS : Sta Z Z.heap "com/example/calm_exit/calmexit/Pauses" "FIRST_NANOS" "J" (.long w3)) (E_a1 : Exa Z h0 a1 "com/example/calm_exit/calmexit/Pauses") (F_next_a1 : Fld Z h0 a1 "com/example/calm_exit/calmexit/Pauses" "next" "J" u_next_a1) (g_a1 : n0 ≤ a1) :
    MetFree l (⟨"com/example/calm_exit/calmexit/Pauses", "<init>", "()V"⟩ : MethodName) (head1 (Jvm.Cond.code (⟨"com/example/calm_exit/calmexit/Pauses", "<init>", "()V"⟩ : MethodName) prog_30_method_1_code 1 none :: ws) ({ frames := 1, cells := 0, slots := 0, locals := 12 } : Room)) (fun a U => a = #[(.ref a1)] ∧ Z.Warmed39 U.vm ∧ U.heap = h0) (fun _ _ _ _ _ => True) (fun _ U o U' => ∃ v L, o = .returned v ∧ Q1 Z a1 w3 u_next_a1 h0 n0 v U'.heap L ∧ FrameEnd U o U' L ({ frames := 1, cells := 0, slots := 0, locals := 12 } : Room).cells ({ frames := 1, cells := 0, slots := 0, locals := 12 } : Room).slots) := by
  refine MetFree.of_bodySF (plainFor_of_name pn_1) hisR ?_
  intro p e s m args below meth c s₁ Bd hml0 hP hK
  obtain ⟨rfl, hZ, hh⟩ := hP
  have hx := Bd.exec
  have hby := Bd.bytes
  have hml : c.maxLocals = 1 := hml0
  have hown : s.vm.findClass "com/example/calm_exit/calmexit/Pauses" = some m.cls := findClass_of_methodNamed Bd.named
  have hnm := (name_of_methodNamed Bd.named Bd.method).1
  have X0 : Stand p l e ({ frames := 1, cells := 0, slots := 0, locals := 12 } : Room) s m #[(.ref a1)] below meth c s₁ [] 0 0 := Stand.of_body Bd
  have e0 : s₁.heap = h0 := by rw [← hh, Bd.state]; rfl
  have N0 := Fr.nil n0
  have pre0 : ∀ t, Steps p.tables e below (s₁.setTop (mkF m 0 #[.val (.ref a1)] [])) t → Steps p.tables e below (s₁.setTop (entryFrame m #[(.ref a1)] 1)) t := fun t k => castTop (ef_1 m a1) k
  obtain ⟨T2, X2, e2, st2⟩ := initO X0 hx hZ hown (hw _ (List.mem_of_getElem? (i := 6) rfl)) (hw _ (List.mem_of_getElem? (i := 7) rfl)) (hw _ (List.mem_of_getElem? (i := 8) rfl)) e0 (g := (mkF m 1 #[.val (.ref a1)] [(.ref a1)])) rfl (by rw [hml]; rfl) rfl (hb hby d1_1) (by decide) (W := 0) (by show 2 * 0 + _ ≤ _; exact Nat.le_of_eq rfl) (by decide)
  obtain ⟨T4, X4, e4, st4⟩ := getS2 X2 hx hZ hown (host := "") (Or.inl (hw _ (List.mem_of_getElem? (i := 9) rfl))) Via.refl e2 (S_FIRST_NANOS.ext O0.2) (g := (mkF m 5 #[.val (.ref a1)] [(.ref a1)])) rfl (hb hby d1_5)
  obtain ⟨T5, h5, X5, e5, W5, st5⟩ := putF X4 hx hZ hown (host := "") (Or.inl (hw _ (List.mem_of_getElem? (i := 11) rfl))) Via.refl e4 F_next_a1 E_a1 (Or.inl (hw _ (List.mem_of_getElem? (i := 12) rfl))) (hw _ (List.mem_of_getElem? (i := 1) rfl)) (ty := .long) (by decide) rfl rfl (g := (mkF m 8 #[.val (.ref a1)] [(.long w3), (.ref a1)])) rfl rfl (hb hby d1_8)
  have Fw5 := F_next_a1.same W5
  have K5 : Keep h0 h5 [a1] := (Keep.refl h0 [a1]).wr W5 (Or.inl (List.mem_of_getElem? (i := 0) rfl))
  have N5 := Fr.snoc X5 N0 g_a1
  obtain ⟨fs, hr, hrun, hended, hW, hsame⟩ := X5.leave (v := none) (fun _ => rfl)
  refine ⟨_, _, pre0 _ ?_, hrun, hended, _, _, rfl, ?_, ⟨_, rfl⟩, hW, hsame.mono (by decide) (by decide)⟩
  · show Steps p.tables e below (s₁.setTop (mkF m 0 #[.val (.ref a1)] [])) _
    refine XS.aloadN X0.here hx rfl (hb hby d1_0) rfl rfl ?_
    show Steps p.tables e below (s₁.setTop (mkF m 1 #[.val (.ref a1)] [(.ref a1)])) _
    refine st2 _ ?_
    show Steps p.tables e below (T2.setTop (mkF m 4 #[.val (.ref a1)] [])) _
    refine XS.aloadN X2.here hx rfl (hb hby d1_4) rfl rfl ?_
    show Steps p.tables e below (T2.setTop (mkF m 5 #[.val (.ref a1)] [(.ref a1)])) _
    refine st4 _ ?_
    show Steps p.tables e below (T4.setTop (mkF m 8 #[.val (.ref a1)] [(.long w3), (.ref a1)])) _
    refine st5 _ ?_
    show Steps p.tables e below (T5.setTop (mkF m 11 #[.val (.ref a1)] [])) _
    exact X5.returnOut hx Bd.returns (hb hby d1_11) hr
  · show Q1 Z a1 w3 u_next_a1 h0 n0 _ T5.heap _
    rw [e5]
    exact ⟨rfl, N5, K5, (E_a1.wr W5), Fw5⟩
theorem d3_0 : decode prog_30_method_2_code 0 = .ok (.aload_n 0, 1) := by decide +kernel
theorem d3_1 : decode prog_30_method_2_code 1 = .ok (.getfield 13, 3) := by decide +kernel
theorem d3_4 : decode prog_30_method_2_code 4 = .ok (.lstore_n 1, 1) := by decide +kernel
theorem d3_5 : decode prog_30_method_2_code 5 = .ok (.aload_n 0, 1) := by decide +kernel
theorem d3_6 : decode prog_30_method_2_code 6 = .ok (.ldc2_w 16, 3) := by decide +kernel
theorem d3_9 : decode prog_30_method_2_code 9 = .ok (.aload_n 0, 1) := by decide +kernel
theorem d3_10 : decode prog_30_method_2_code 10 = .ok (.getfield 13, 3) := by decide +kernel
theorem d3_13 : decode prog_30_method_2_code 13 = .ok (.lmul, 1) := by decide +kernel
theorem d3_14 : decode prog_30_method_2_code 14 = .ok (.getstatic 18, 3) := by decide +kernel
theorem d3_17 : decode prog_30_method_2_code 17 = .ok (.invokestatic 21, 3) := by decide +kernel
theorem d3_20 : decode prog_30_method_2_code 20 = .ok (.putfield 13, 3) := by decide +kernel
theorem d3_23 : decode prog_30_method_2_code 23 = .ok (.lload_n 1, 1) := by decide +kernel
theorem d3_24 : decode prog_30_method_2_code 24 = .ok (.lreturn, 1) := by decide +kernel
theorem pn_3 : plainName "com/example/calm_exit/calmexit/Pauses" = true := by first | (simp [plainName, overriddenIn]; done) | decide +kernel
theorem pd_3_2 : parseMethodDescriptor "(JJ)J" = some ⟨[.long, .long], some .long⟩ := by decide +kernel
theorem ef_3 (m : MethodId) (x0 : Addr) : entryFrame m #[(.ref x0)] 3 = mkF m 0 #[.val (.ref x0), .unset, .unset] [] := by first | (simp [entryFrame, mkF, argsToLocals, Value.category]; done) | rfl
def Q3A (Z : State) (a1 : Addr) (w2 : Int64) (w5 : Int64) (h0 : Heap) (n0 : Nat) (v : Option Value) (h : Heap) (L : List Loc) : Prop := v = some (.long w2) ∧ Fr n0 L ∧ Keep h0 h [a1] ∧ Exa Z h a1 "com/example/calm_exit/calmexit/Pauses" ∧ Fld Z h a1 "com/example/calm_exit/calmexit/Pauses" "next" "J" (.long ((2 : Int64) * w2))
set_option maxRecDepth 65536 in
set_option maxHeartbeats 40000000 in
theorem rm3A (l : Launch) (Z : State) (a0 : Array Value) (hw : ∀ d ∈ tables_1, d.before a0 Z = true) (ws : List Jvm.Cond) (a1 : Addr) (w2 : Int64) (w5 : Int64) (h0 : Heap) (n0 : Nat) (Z0 : n0 ≤ h0.size) (F_next_a1 : Fld Z h0 a1 "com/example/calm_exit/calmexit/Pauses" "next" "J" (.long w2)) (O0 : Old Z n0 h0) (S_LAST_NANOS : Sta Z Z.heap "com/example/calm_exit/calmexit/Pauses" "LAST_NANOS" "J" (.long w5)) (E_a1 : Exa Z h0 a1 "com/example/calm_exit/calmexit/Pauses") (g_a1 : n0 ≤ a1) (hm : ¬ ((0 : Int32) < (lcmpW ((2 : Int64) * w2) w5))) :
    MetFree l (⟨"com/example/calm_exit/calmexit/Pauses", "next", "()J"⟩ : MethodName) (head1 (Jvm.Cond.code (⟨"com/example/calm_exit/calmexit/Pauses", "next", "()J"⟩ : MethodName) prog_30_method_2_code 3 (some .long) :: ws) ({ frames := 1, cells := 0, slots := 0, locals := 16 } : Room)) (fun a U => a = #[(.ref a1)] ∧ Z.Warmed39 U.vm ∧ U.heap = h0) (fun _ _ _ _ _ => True) (fun _ U o U' => ∃ v L, o = .returned v ∧ Q3A Z a1 w2 w5 h0 n0 v U'.heap L ∧ FrameEnd U o U' L ({ frames := 1, cells := 0, slots := 0, locals := 16 } : Room).cells ({ frames := 1, cells := 0, slots := 0, locals := 16 } : Room).slots) := by
  refine MetFree.of_bodySF (plainFor_of_name pn_3) hisR ?_
  intro p e s m args below meth c s₁ Bd hml0 hP hK
  obtain ⟨rfl, hZ, hh⟩ := hP
  have hx := Bd.exec
  have hby := Bd.bytes
  have hml : c.maxLocals = 3 := hml0
  have hown : s.vm.findClass "com/example/calm_exit/calmexit/Pauses" = some m.cls := findClass_of_methodNamed Bd.named
  have hnm := (name_of_methodNamed Bd.named Bd.method).1
  have X0 : Stand p l e ({ frames := 1, cells := 0, slots := 0, locals := 16 } : Room) s m #[(.ref a1)] below meth c s₁ [] 0 0 := Stand.of_body Bd
  have e0 : s₁.heap = h0 := by rw [← hh, Bd.state]; rfl
  have N0 := Fr.nil n0
  have pre0 : ∀ t, Steps p.tables e below (s₁.setTop (mkF m 0 #[.val (.ref a1), .unset, .unset] [])) t → Steps p.tables e below (s₁.setTop (entryFrame m #[(.ref a1)] 3)) t := fun t k => castTop (ef_3 m a1) k
  obtain ⟨T3, X3, e3, st3⟩ := getF X0 hx hZ hown (host := "") (Or.inl (hw _ (List.mem_of_getElem? (i := 11) rfl))) Via.refl e0 F_next_a1 (g := (mkF m 1 #[.val (.ref a1), .unset, .unset] [(.ref a1)])) rfl rfl (hb hby d3_1)
  obtain ⟨T4, X4, e4, st4⟩ := getF X3 hx hZ hown (host := "") (Or.inl (hw _ (List.mem_of_getElem? (i := 11) rfl))) Via.refl e3 F_next_a1 (g := (mkF m 10 #[.val (.ref a1), .val (.long w2), .second] [(.ref a1), (.long (2 : Int64)), (.ref a1)])) rfl rfl (hb hby d3_10)
  obtain ⟨T6, X6, e6, st6⟩ := getS2 X4 hx hZ hown (host := "") (Or.inl (hw _ (List.mem_of_getElem? (i := 19) rfl))) Via.refl e4 (S_LAST_NANOS.ext O0.2) (g := (mkF m 14 #[.val (.ref a1), .val (.long w2), .second] [(.long ((2 : Int64) * w2)), (.ref a1)])) rfl (hb hby d3_14)
  obtain ⟨_, _, ⟨T7, L7, k7, n7⟩, -, X7, ⟨Lc7, hQ7, l7, y7, z7⟩, st7⟩ := Jvm.LawKit.callS X6 hx (y := (⟨"java/lang/Math", "min", "(JJ)J"⟩ : MethodName)) hown (mvT hZ (hw _ (List.mem_of_getElem? (i := 21) rfl))) (mvT hZ (hw _ (List.mem_of_getElem? (i := 22) rfl))) (mvT hZ (hw _ (List.mem_of_getElem? (i := 23) rfl))) (mvT hZ (hw _ (List.mem_of_getElem? (i := 24) rfl))) (by decide) (backOf (W := 1) (rm4A l Z a0 hw [] ((2 : Int64) * w2) w5  h0 n0 Z0 hm) hZ (hw _ (List.mem_of_getElem? (i := 24) rfl)) (hw _ (List.mem_of_getElem? (i := 23) rfl)) (by decide) (by decide)) (g := (mkF m 17 #[.val (.ref a1), .val (.long w2), .second] [(.long w5), (.long ((2 : Int64) * w2)), (.ref a1)])) rfl (by rw [hml]; rfl) (argsL := [(.long ((2 : Int64) * w2)), (.long w5)]) (rest := [(.ref a1)]) (lenOf pd_3_2 rfl) rfl (by show 2 * 0 + _ ≤ _; exact Nat.le_of_eq rfl) (hb hby d3_17) (fun _ _ => ⟨rfl, e6, (by decide : 0 + 0 ≤ _), (by decide : 0 + 0 ≤ _)⟩)
  dsimp only [Pt.U, Pt.locs, Pt.cells, Pt.slots] at X7 l7 y7 z7 st7 hQ7
  subst l7 y7 z7
  obtain ⟨rfl, N7q, e7c⟩ := hQ7
  have N7 := Fr.app N0 N7q
  obtain ⟨T8, h8, X8, e8, W8, st8⟩ := putF X7 hx hZ hown (host := "") (Or.inl (hw _ (List.mem_of_getElem? (i := 11) rfl))) Via.refl e7c F_next_a1 E_a1 (Or.inl (hw _ (List.mem_of_getElem? (i := 12) rfl))) (hw _ (List.mem_of_getElem? (i := 1) rfl)) (ty := .long) (by decide) rfl rfl (g := (mkF m 20 #[.val (.ref a1), .val (.long w2), .second] [(.long ((2 : Int64) * w2)), (.ref a1)])) rfl rfl (hb hby d3_20)
  have Fw8 := F_next_a1.same W8
  have K8 : Keep h0 h8 [a1] := (Keep.refl h0 [a1]).wr W8 (Or.inl (List.mem_of_getElem? (i := 0) rfl))
  have N8 := Fr.snoc X8 N7 g_a1
  obtain ⟨fs, hr, hrun, hended, hW, hsame⟩ := X8.leave (v := some (.long w2)) (fun h => by rw [Bd.returns] at h; cases h)
  refine ⟨_, _, pre0 _ ?_, hrun, hended, _, _, rfl, ?_, ⟨_, rfl⟩, hW, hsame.mono (by decide) (by decide)⟩
  · show Steps p.tables e below (s₁.setTop (mkF m 0 #[.val (.ref a1), .unset, .unset] [])) _
    refine XS.aloadN X0.here hx rfl (hb hby d3_0) rfl rfl ?_
    show Steps p.tables e below (s₁.setTop (mkF m 1 #[.val (.ref a1), .unset, .unset] [(.ref a1)])) _
    refine st3 _ ?_
    show Steps p.tables e below (T3.setTop (mkF m 4 #[.val (.ref a1), .unset, .unset] [(.long w2)])) _
    refine XS.lstoreN X3.here hx rfl (hb hby d3_4) rfl (l' := #[.val (.ref a1), .val (.long w2), .second]) rfl ?_
    show Steps p.tables e below (T3.setTop (mkF m 5 #[.val (.ref a1), .val (.long w2), .second] [])) _
    refine XS.aloadN X3.here hx rfl (hb hby d3_5) rfl rfl ?_
    show Steps p.tables e below (T3.setTop (mkF m 6 #[.val (.ref a1), .val (.long w2), .second] [(.ref a1)])) _
    refine X3.ldc2Long hx hown (mvT hZ (hw _ (List.mem_of_getElem? (i := 18) rfl))) (g := (mkF m 6 #[.val (.ref a1), .val (.long w2), .second] [(.ref a1)])) rfl (hb hby d3_6) _ ?_
    show Steps p.tables e below (T3.setTop (mkF m 9 #[.val (.ref a1), .val (.long w2), .second] [(.long (2 : Int64)), (.ref a1)])) _
    refine XS.aloadN X3.here hx rfl (hb hby d3_9) rfl rfl ?_
    show Steps p.tables e below (T3.setTop (mkF m 10 #[.val (.ref a1), .val (.long w2), .second] [(.ref a1), (.long (2 : Int64)), (.ref a1)])) _
    refine st4 _ ?_
    show Steps p.tables e below (T4.setTop (mkF m 13 #[.val (.ref a1), .val (.long w2), .second] [(.long w2), (.long (2 : Int64)), (.ref a1)])) _
    refine XS.lmul X4.here hx rfl (hb hby d3_13) rfl ?_
    show Steps p.tables e below (T4.setTop (mkF m 14 #[.val (.ref a1), .val (.long w2), .second] [(.long ((2 : Int64) * w2)), (.ref a1)])) _
    refine st6 _ ?_
    show Steps p.tables e below (T6.setTop (mkF m 17 #[.val (.ref a1), .val (.long w2), .second] [(.long w5), (.long ((2 : Int64) * w2)), (.ref a1)])) _
    refine st7 _ ?_
    show Steps p.tables e below (T7.setTop (mkF m 20 #[.val (.ref a1), .val (.long w2), .second] [(.long ((2 : Int64) * w2)), (.ref a1)])) _
    refine st8 _ ?_
    show Steps p.tables e below (T8.setTop (mkF m 23 #[.val (.ref a1), .val (.long w2), .second] [])) _
    refine XS.lloadN X8.here hx rfl (hb hby d3_23) rfl ?_
    show Steps p.tables e below (T8.setTop (mkF m 24 #[.val (.ref a1), .val (.long w2), .second] [(.long w2)])) _
    jvm_step X8.here [X8.here.top, hx, (hb hby d3_24), X8.method', Bd.returns, narrow]
    first | (intro acts; rw [hr _ acts rfl rfl rfl]) | rw [hr _ _ rfl rfl rfl]
    exact Steps.refl _
  · show Q3A Z a1 w2 w5 h0 n0 _ T8.heap _
    rw [e8]
    exact ⟨rfl, N8, K8, (E_a1.wr W8), Fw8⟩
def Q3B (Z : State) (a1 : Addr) (w2 : Int64) (w5 : Int64) (h0 : Heap) (n0 : Nat) (v : Option Value) (h : Heap) (L : List Loc) : Prop := v = some (.long w2) ∧ Fr n0 L ∧ Keep h0 h [a1] ∧ Exa Z h a1 "com/example/calm_exit/calmexit/Pauses" ∧ Fld Z h a1 "com/example/calm_exit/calmexit/Pauses" "next" "J" (.long w5)
set_option maxRecDepth 65536 in
set_option maxHeartbeats 40000000 in
theorem rm3B (l : Launch) (Z : State) (a0 : Array Value) (hw : ∀ d ∈ tables_1, d.before a0 Z = true) (ws : List Jvm.Cond) (a1 : Addr) (w2 : Int64) (w5 : Int64) (h0 : Heap) (n0 : Nat) (Z0 : n0 ≤ h0.size) (F_next_a1 : Fld Z h0 a1 "com/example/calm_exit/calmexit/Pauses" "next" "J" (.long w2)) (O0 : Old Z n0 h0) (S_LAST_NANOS : Sta Z Z.heap "com/example/calm_exit/calmexit/Pauses" "LAST_NANOS" "J" (.long w5)) (E_a1 : Exa Z h0 a1 "com/example/calm_exit/calmexit/Pauses") (g_a1 : n0 ≤ a1) (hm : (0 : Int32) < (lcmpW ((2 : Int64) * w2) w5)) :
    MetFree l (⟨"com/example/calm_exit/calmexit/Pauses", "next", "()J"⟩ : MethodName) (head1 (Jvm.Cond.code (⟨"com/example/calm_exit/calmexit/Pauses", "next", "()J"⟩ : MethodName) prog_30_method_2_code 3 (some .long) :: ws) ({ frames := 1, cells := 0, slots := 0, locals := 16 } : Room)) (fun a U => a = #[(.ref a1)] ∧ Z.Warmed39 U.vm ∧ U.heap = h0) (fun _ _ _ _ _ => True) (fun _ U o U' => ∃ v L, o = .returned v ∧ Q3B Z a1 w2 w5 h0 n0 v U'.heap L ∧ FrameEnd U o U' L ({ frames := 1, cells := 0, slots := 0, locals := 16 } : Room).cells ({ frames := 1, cells := 0, slots := 0, locals := 16 } : Room).slots) := by
  refine MetFree.of_bodySF (plainFor_of_name pn_3) hisR ?_
  intro p e s m args below meth c s₁ Bd hml0 hP hK
  obtain ⟨rfl, hZ, hh⟩ := hP
  have hx := Bd.exec
  have hby := Bd.bytes
  have hml : c.maxLocals = 3 := hml0
  have hown : s.vm.findClass "com/example/calm_exit/calmexit/Pauses" = some m.cls := findClass_of_methodNamed Bd.named
  have hnm := (name_of_methodNamed Bd.named Bd.method).1
  have X0 : Stand p l e ({ frames := 1, cells := 0, slots := 0, locals := 16 } : Room) s m #[(.ref a1)] below meth c s₁ [] 0 0 := Stand.of_body Bd
  have e0 : s₁.heap = h0 := by rw [← hh, Bd.state]; rfl
  have N0 := Fr.nil n0
  have pre0 : ∀ t, Steps p.tables e below (s₁.setTop (mkF m 0 #[.val (.ref a1), .unset, .unset] [])) t → Steps p.tables e below (s₁.setTop (entryFrame m #[(.ref a1)] 3)) t := fun t k => castTop (ef_3 m a1) k
  obtain ⟨T3, X3, e3, st3⟩ := getF X0 hx hZ hown (host := "") (Or.inl (hw _ (List.mem_of_getElem? (i := 11) rfl))) Via.refl e0 F_next_a1 (g := (mkF m 1 #[.val (.ref a1), .unset, .unset] [(.ref a1)])) rfl rfl (hb hby d3_1)
  obtain ⟨T4, X4, e4, st4⟩ := getF X3 hx hZ hown (host := "") (Or.inl (hw _ (List.mem_of_getElem? (i := 11) rfl))) Via.refl e3 F_next_a1 (g := (mkF m 10 #[.val (.ref a1), .val (.long w2), .second] [(.ref a1), (.long (2 : Int64)), (.ref a1)])) rfl rfl (hb hby d3_10)
  obtain ⟨T6, X6, e6, st6⟩ := getS2 X4 hx hZ hown (host := "") (Or.inl (hw _ (List.mem_of_getElem? (i := 19) rfl))) Via.refl e4 (S_LAST_NANOS.ext O0.2) (g := (mkF m 14 #[.val (.ref a1), .val (.long w2), .second] [(.long ((2 : Int64) * w2)), (.ref a1)])) rfl (hb hby d3_14)
  obtain ⟨_, _, ⟨T7, L7, k7, n7⟩, -, X7, ⟨Lc7, hQ7, l7, y7, z7⟩, st7⟩ := Jvm.LawKit.callS X6 hx (y := (⟨"java/lang/Math", "min", "(JJ)J"⟩ : MethodName)) hown (mvT hZ (hw _ (List.mem_of_getElem? (i := 21) rfl))) (mvT hZ (hw _ (List.mem_of_getElem? (i := 22) rfl))) (mvT hZ (hw _ (List.mem_of_getElem? (i := 23) rfl))) (mvT hZ (hw _ (List.mem_of_getElem? (i := 24) rfl))) (by decide) (backOf (W := 1) (rm4B l Z a0 hw [] ((2 : Int64) * w2) w5  h0 n0 Z0 hm) hZ (hw _ (List.mem_of_getElem? (i := 24) rfl)) (hw _ (List.mem_of_getElem? (i := 23) rfl)) (by decide) (by decide)) (g := (mkF m 17 #[.val (.ref a1), .val (.long w2), .second] [(.long w5), (.long ((2 : Int64) * w2)), (.ref a1)])) rfl (by rw [hml]; rfl) (argsL := [(.long ((2 : Int64) * w2)), (.long w5)]) (rest := [(.ref a1)]) (lenOf pd_3_2 rfl) rfl (by show 2 * 0 + _ ≤ _; exact Nat.le_of_eq rfl) (hb hby d3_17) (fun _ _ => ⟨rfl, e6, (by decide : 0 + 0 ≤ _), (by decide : 0 + 0 ≤ _)⟩)
  dsimp only [Pt.U, Pt.locs, Pt.cells, Pt.slots] at X7 l7 y7 z7 st7 hQ7
  subst l7 y7 z7
  obtain ⟨rfl, N7q, e7c⟩ := hQ7
  have N7 := Fr.app N0 N7q
  obtain ⟨T8, h8, X8, e8, W8, st8⟩ := putF X7 hx hZ hown (host := "") (Or.inl (hw _ (List.mem_of_getElem? (i := 11) rfl))) Via.refl e7c F_next_a1 E_a1 (Or.inl (hw _ (List.mem_of_getElem? (i := 12) rfl))) (hw _ (List.mem_of_getElem? (i := 1) rfl)) (ty := .long) (by decide) rfl rfl (g := (mkF m 20 #[.val (.ref a1), .val (.long w2), .second] [(.long w5), (.ref a1)])) rfl rfl (hb hby d3_20)
  have Fw8 := F_next_a1.same W8
  have K8 : Keep h0 h8 [a1] := (Keep.refl h0 [a1]).wr W8 (Or.inl (List.mem_of_getElem? (i := 0) rfl))
  have N8 := Fr.snoc X8 N7 g_a1
  obtain ⟨fs, hr, hrun, hended, hW, hsame⟩ := X8.leave (v := some (.long w2)) (fun h => by rw [Bd.returns] at h; cases h)
  refine ⟨_, _, pre0 _ ?_, hrun, hended, _, _, rfl, ?_, ⟨_, rfl⟩, hW, hsame.mono (by decide) (by decide)⟩
  · show Steps p.tables e below (s₁.setTop (mkF m 0 #[.val (.ref a1), .unset, .unset] [])) _
    refine XS.aloadN X0.here hx rfl (hb hby d3_0) rfl rfl ?_
    show Steps p.tables e below (s₁.setTop (mkF m 1 #[.val (.ref a1), .unset, .unset] [(.ref a1)])) _
    refine st3 _ ?_
    show Steps p.tables e below (T3.setTop (mkF m 4 #[.val (.ref a1), .unset, .unset] [(.long w2)])) _
    refine XS.lstoreN X3.here hx rfl (hb hby d3_4) rfl (l' := #[.val (.ref a1), .val (.long w2), .second]) rfl ?_
    show Steps p.tables e below (T3.setTop (mkF m 5 #[.val (.ref a1), .val (.long w2), .second] [])) _
    refine XS.aloadN X3.here hx rfl (hb hby d3_5) rfl rfl ?_
    show Steps p.tables e below (T3.setTop (mkF m 6 #[.val (.ref a1), .val (.long w2), .second] [(.ref a1)])) _
    refine X3.ldc2Long hx hown (mvT hZ (hw _ (List.mem_of_getElem? (i := 18) rfl))) (g := (mkF m 6 #[.val (.ref a1), .val (.long w2), .second] [(.ref a1)])) rfl (hb hby d3_6) _ ?_
    show Steps p.tables e below (T3.setTop (mkF m 9 #[.val (.ref a1), .val (.long w2), .second] [(.long (2 : Int64)), (.ref a1)])) _
    refine XS.aloadN X3.here hx rfl (hb hby d3_9) rfl rfl ?_
    show Steps p.tables e below (T3.setTop (mkF m 10 #[.val (.ref a1), .val (.long w2), .second] [(.ref a1), (.long (2 : Int64)), (.ref a1)])) _
    refine st4 _ ?_
    show Steps p.tables e below (T4.setTop (mkF m 13 #[.val (.ref a1), .val (.long w2), .second] [(.long w2), (.long (2 : Int64)), (.ref a1)])) _
    refine XS.lmul X4.here hx rfl (hb hby d3_13) rfl ?_
    show Steps p.tables e below (T4.setTop (mkF m 14 #[.val (.ref a1), .val (.long w2), .second] [(.long ((2 : Int64) * w2)), (.ref a1)])) _
    refine st6 _ ?_
    show Steps p.tables e below (T6.setTop (mkF m 17 #[.val (.ref a1), .val (.long w2), .second] [(.long w5), (.long ((2 : Int64) * w2)), (.ref a1)])) _
    refine st7 _ ?_
    show Steps p.tables e below (T7.setTop (mkF m 20 #[.val (.ref a1), .val (.long w2), .second] [(.long w5), (.ref a1)])) _
    refine st8 _ ?_
    show Steps p.tables e below (T8.setTop (mkF m 23 #[.val (.ref a1), .val (.long w2), .second] [])) _
    refine XS.lloadN X8.here hx rfl (hb hby d3_23) rfl ?_
    show Steps p.tables e below (T8.setTop (mkF m 24 #[.val (.ref a1), .val (.long w2), .second] [(.long w2)])) _
    jvm_step X8.here [X8.here.top, hx, (hb hby d3_24), X8.method', Bd.returns, narrow]
    first | (intro acts; rw [hr _ acts rfl rfl rfl]) | rw [hr _ _ rfl rfl rfl]
    exact Steps.refl _
  · show Q3B Z a1 w2 w5 h0 n0 _ T8.heap _
    rw [e8]
    exact ⟨rfl, N8, K8, (E_a1.wr W8), Fw8⟩
theorem pn_0 : plainName "com/example/calm_exit/calmexit/PausesNextPinLaw" = true := by first | (simp [plainName, overriddenIn]; done) | decide +kernel
theorem pd_0_0 : parseMethodDescriptor "()V" = some ⟨[], none⟩ := by decide +kernel
theorem pd_0_1 : parseMethodDescriptor "()J" = some ⟨[], some .long⟩ := by decide +kernel
theorem ef_0 (m : MethodId) (x0 : Int32) : entryFrame m #[(.int x0)] maxLocals = mkF m 0 #[.val (.int x0), .unset, .unset, .unset, .unset, .unset, .unset, .unset, .unset, .unset, .unset, .unset, .unset, .unset, .unset, .unset, .unset, .unset, .unset, .unset] [] := by first | (simp [entryFrame, mkF, argsToLocals, Value.category, maxLocals]; done) | rfl
def Q0 (Z : State) (p1 : Int32) (h0 : Heap) (n0 : Nat) (v : Option Value) (h : Heap) (L : List Loc) : Prop := v = some (.int (1 : Int32)) ∧ Fr n0 L
set_option maxRecDepth 65536 in
set_option maxHeartbeats 40000000 in
theorem rm0A (l : Launch) (Z : State) (a0 : Array Value) (hw : ∀ d ∈ tables_1, d.before a0 Z = true) (ws : List Jvm.Cond) (p1 : Int32) (h0 : Heap) (n0 : Nat) (Z0 : n0 ≤ h0.size) (O0 : Old Z n0 h0) (S_FIRST : Sta Z Z.heap "com/example/calm_exit/calmexit/Pauses" "FIRST_NANOS" "J" (.long (1000000 : Int64))) (S_LAST : Sta Z Z.heap "com/example/calm_exit/calmexit/Pauses" "LAST_NANOS" "J" (.long (16000000 : Int64))) (hc54 : (lcmpW (1000000 : Int64) (1000000 : Int64)) = (0 : Int32)) (hc63 : (lcmpW (2000000 : Int64) (2000000 : Int64)) = (0 : Int32)) (hc72 : (lcmpW (4000000 : Int64) (4000000 : Int64)) = (0 : Int32)) (hc81 : (lcmpW (8000000 : Int64) (8000000 : Int64)) = (0 : Int32)) (hc90 : (lcmpW (16000000 : Int64) (16000000 : Int64)) = (0 : Int32)) (hc99 : (lcmpW (16000000 : Int64) (16000000 : Int64)) = (0 : Int32)) (hc108 : (lcmpW (16000000 : Int64) (16000000 : Int64)) = (0 : Int32)) (hc121 : (p1 &&& (1 : Int32)) = (0 : Int32)) :
    MetFree l x (head1 (Jvm.Cond.code x code maxLocals ret :: ws) room_1) (fun a U => a = #[(.int p1)] ∧ Z.Warmed39 U.vm ∧ U.heap = h0) (fun _ _ _ _ _ => True) (fun _ U o U' => ∃ v L, o = .returned v ∧ Q0 Z p1 h0 n0 v U'.heap L ∧ FrameEnd U o U' L room_1.cells room_1.slots) := by
  refine MetFree.of_bodySF (plainFor_of_name pn_0) hisR ?_
  intro p e s m args below meth c s₁ Bd hml0 hP hK
  obtain ⟨rfl, hZ, hh⟩ := hP
  have hx := Bd.exec
  have hby := Bd.bytes
  have hml : c.maxLocals = 20 := hml0
  have hown : s.vm.findClass "com/example/calm_exit/calmexit/PausesNextPinLaw" = some m.cls := findClass_of_methodNamed Bd.named
  have hnm := (name_of_methodNamed Bd.named Bd.method).1
  have X0 : Stand p l e room_1 s m #[(.int p1)] below meth c s₁ [] 0 0 := Stand.of_body Bd
  have e0 : s₁.heap = h0 := by rw [← hh, Bd.state]; rfl
  have N0 := Fr.nil n0
  have pre0 : ∀ t, Steps p.tables e below (s₁.setTop (mkF m 0 #[.val (.int p1), .unset, .unset, .unset, .unset, .unset, .unset, .unset, .unset, .unset, .unset, .unset, .unset, .unset, .unset, .unset, .unset, .unset, .unset, .unset] [])) t → Steps p.tables e below (s₁.setTop (entryFrame m #[(.int p1)] maxLocals)) t := fun t k => castTop (ef_0 m p1) k
  obtain ⟨T2, h2, X2, e2, E2, A2, D2, -, st2⟩ := newO X0 hx hZ hown (hw _ (List.mem_of_getElem? (i := 0) rfl)) (hw _ (List.mem_of_getElem? (i := 1) rfl)) (hw _ (List.mem_of_getElem? (i := 2) rfl)) e0 (g := (mkF m 0 #[.val (.int p1), .unset, .unset, .unset, .unset, .unset, .unset, .unset, .unset, .unset, .unset, .unset, .unset, .unset, .unset, .unset, .unset, .unset, .unset, .unset] [])) rfl (hb hby at_0) (by decide) (by decide)
  obtain ⟨b2, g2⟩ : ∃ z, z = h0.size := ⟨_, rfl⟩
  rw [← g2] at A2 D2 st2
  have F_next_b2 : Fld Z h2 b2 "com/example/calm_exit/calmexit/Pauses" "next" "J" (.long (0 : Int64)) := D2 (Or.inl (hw _ (List.mem_of_getElem? (i := 12) rfl))) (ty := .long) (by decide)
  have E_b2 := A2
  have g_b2 : n0 ≤ b2 := Nat.le_trans Z0 (Nat.le_of_eq g2.symm)
  have sz_b2 : h0.size ≤ b2 := (Nat.le_trans (Keep.refl h0 []).1 (Nat.le_of_eq g2.symm))
  have K2 : Keep h0 h2 [] := (Keep.refl h0 []).ext E2
  obtain ⟨_, _, ⟨T3, L3, k3, n3⟩, -, X3, ⟨Lc3, hQ3, l3, y3, z3⟩, st3⟩ := X2.specialBack hx (y := (⟨"com/example/calm_exit/calmexit/Pauses", "<init>", "()V"⟩ : MethodName)) rfl hown (mvT hZ (hw _ (List.mem_of_getElem? (i := 3) rfl))) (mvT hZ (hw _ (List.mem_of_getElem? (i := 4) rfl))) (mvT hZ (hw _ (List.mem_of_getElem? (i := 5) rfl))) (by decide) (backOf (W := 1) (rm1 l Z a0 hw [] b2 (1000000 : Int64) _ h2 n0 (Nat.le_trans Z0 E2.1) (O0.ext E2) S_FIRST E_b2 F_next_b2 g_b2) hZ (hw _ (List.mem_of_getElem? (i := 5) rfl)) (hw _ (List.mem_of_getElem? (i := 2) rfl)) (by decide) (by decide)) (g := (mkF m 4 #[.val (.int p1), .unset, .unset, .unset, .unset, .unset, .unset, .unset, .unset, .unset, .unset, .unset, .unset, .unset, .unset, .unset, .unset, .unset, .unset, .unset] [(.ref b2), (.ref b2)])) rfl (by rw [hml]; rfl) (Steps.refl _) (a := b2) (argsL := []) (rest := [(.ref b2)]) (lenOf pd_0_0 rfl) rfl (by show 2 * 0 + _ ≤ _; exact Nat.le_of_eq rfl) (hb hby at_4) (fun _ _ => ⟨rfl, e2, (by decide : 1 + 0 ≤ _), (by decide : 1 + 0 ≤ _)⟩)
  dsimp only [Pt.U, Pt.locs, Pt.cells, Pt.slots] at X3 l3 y3 z3 st3 hQ3
  subst l3 y3 z3
  obtain ⟨rfl, N3q, K3c, E3c, F3c⟩ := hQ3
  have N3 := Fr.app N0 N3q
  have K3 : Keep h0 T3.heap [] := K2.trans K3c (allS (Or.inr sz_b2) all0)
  obtain ⟨cq4, kq4, q4a, q4b, q4c⟩ := isOf hZ rfl E3c
  obtain ⟨_, _, ⟨T4, L4, k4, n4⟩, -, X4, ⟨Lc4, hQ4, l4, y4, z4⟩, st4⟩ := X3.virtualBack hx (y := (⟨"com/example/calm_exit/calmexit/Pauses", "next", "()J"⟩ : MethodName)) (z := (⟨"com/example/calm_exit/calmexit/Pauses", "next", "()J"⟩ : MethodName)) hown (mvT hZ (hw _ (List.mem_of_getElem? (i := 13) rfl))) (mvT hZ (hw _ (List.mem_of_getElem? (i := 14) rfl))) (notFace_of_selects (args := #[]) (mvT hZ (hw _ (List.mem_of_getElem? (i := 16) rfl)))) (mvT hZ (hw _ (List.mem_of_getElem? (i := 16) rfl))) (mvT hZ (hw _ (List.mem_of_getElem? (i := 15) rfl))) (by decide) (backOf (W := 0) (rm3A l Z a0 hw [] b2 (1000000 : Int64) (16000000 : Int64) T3.heap n0 (Nat.le_trans (Nat.le_trans Z0 E2.1) K3c.1) F3c ((O0.ext E2).keep K3c (allS g_b2 all0)) S_LAST E3c g_b2 (by decide)) hZ (hw _ (List.mem_of_getElem? (i := 17) rfl)) (hw _ (List.mem_of_getElem? (i := 2) rfl)) (by decide) (by decide)) q4a q4c (g := (mkF m 9 #[.val (.int p1), .val (.ref b2), .unset, .unset, .unset, .unset, .unset, .unset, .unset, .unset, .unset, .unset, .unset, .unset, .unset, .unset, .unset, .unset, .unset, .unset] [(.ref b2)])) rfl (by rw [hml]; rfl) (Steps.refl _) (argsL := []) (rest := []) (lenOf pd_0_1 rfl) rfl (by show 2 * 0 + _ ≤ _; exact Nat.le_of_eq rfl) (hb hby at_9) (fun _ _ => ⟨rfl, rfl, (by decide : 1 + 0 ≤ _), (by decide : 1 + 0 ≤ _)⟩)
  dsimp only [Pt.U, Pt.locs, Pt.cells, Pt.slots] at X4 l4 y4 z4 st4 hQ4
  subst l4 y4 z4
  obtain ⟨rfl, N4q, K4c, E4c, F4c⟩ := hQ4
  have N4 := Fr.app N3 N4q
  have K4 : Keep h0 T4.heap [] := K3.trans K4c (allS (Or.inr sz_b2) all0)
  have F4d : Fld Z T4.heap b2 "com/example/calm_exit/calmexit/Pauses" "next" "J" (.long (2000000 : Int64)) := by have q := F4c; rwa [(by decide : ((2 : Int64) * (1000000 : Int64)) = (2000000 : Int64))] at q
  obtain ⟨cq5, kq5, q5a, q5b, q5c⟩ := isOf hZ rfl E4c
  obtain ⟨_, _, ⟨T5, L5, k5, n5⟩, -, X5, ⟨Lc5, hQ5, l5, y5, z5⟩, st5⟩ := X4.virtualBack hx (y := (⟨"com/example/calm_exit/calmexit/Pauses", "next", "()J"⟩ : MethodName)) (z := (⟨"com/example/calm_exit/calmexit/Pauses", "next", "()J"⟩ : MethodName)) hown (mvT hZ (hw _ (List.mem_of_getElem? (i := 13) rfl))) (mvT hZ (hw _ (List.mem_of_getElem? (i := 14) rfl))) (notFace_of_selects (args := #[]) (mvT hZ (hw _ (List.mem_of_getElem? (i := 16) rfl)))) (mvT hZ (hw _ (List.mem_of_getElem? (i := 16) rfl))) (mvT hZ (hw _ (List.mem_of_getElem? (i := 15) rfl))) (by decide) (backOf (W := 0) (rm3A l Z a0 hw [] b2 (2000000 : Int64) (16000000 : Int64) T4.heap n0 (Nat.le_trans (Nat.le_trans (Nat.le_trans Z0 E2.1) K3c.1) K4c.1) F4d (((O0.ext E2).keep K3c (allS g_b2 all0)).keep K4c (allS g_b2 all0)) S_LAST E4c g_b2 (by decide)) hZ (hw _ (List.mem_of_getElem? (i := 17) rfl)) (hw _ (List.mem_of_getElem? (i := 2) rfl)) (by decide) (by decide)) q5a q5c (g := (mkF m 14 #[.val (.int p1), .val (.ref b2), .val (.long (1000000 : Int64)), .second, .unset, .unset, .unset, .unset, .unset, .unset, .unset, .unset, .unset, .unset, .unset, .unset, .unset, .unset, .unset, .unset] [(.ref b2)])) rfl (by rw [hml]; rfl) (Steps.refl _) (argsL := []) (rest := []) (lenOf pd_0_1 rfl) rfl (by show 2 * 0 + _ ≤ _; exact Nat.le_of_eq rfl) (hb hby at_14) (fun _ _ => ⟨rfl, rfl, (by decide : 1 + 0 ≤ _), (by decide : 1 + 0 ≤ _)⟩)
  dsimp only [Pt.U, Pt.locs, Pt.cells, Pt.slots] at X5 l5 y5 z5 st5 hQ5
  subst l5 y5 z5
  obtain ⟨rfl, N5q, K5c, E5c, F5c⟩ := hQ5
  have N5 := Fr.app N4 N5q
  have K5 : Keep h0 T5.heap [] := K4.trans K5c (allS (Or.inr sz_b2) all0)
  have F5d : Fld Z T5.heap b2 "com/example/calm_exit/calmexit/Pauses" "next" "J" (.long (4000000 : Int64)) := by have q := F5c; rwa [(by decide : ((2 : Int64) * (2000000 : Int64)) = (4000000 : Int64))] at q
  obtain ⟨cq6, kq6, q6a, q6b, q6c⟩ := isOf hZ rfl E5c
  obtain ⟨_, _, ⟨T6, L6, k6, n6⟩, -, X6, ⟨Lc6, hQ6, l6, y6, z6⟩, st6⟩ := X5.virtualBack hx (y := (⟨"com/example/calm_exit/calmexit/Pauses", "next", "()J"⟩ : MethodName)) (z := (⟨"com/example/calm_exit/calmexit/Pauses", "next", "()J"⟩ : MethodName)) hown (mvT hZ (hw _ (List.mem_of_getElem? (i := 13) rfl))) (mvT hZ (hw _ (List.mem_of_getElem? (i := 14) rfl))) (notFace_of_selects (args := #[]) (mvT hZ (hw _ (List.mem_of_getElem? (i := 16) rfl)))) (mvT hZ (hw _ (List.mem_of_getElem? (i := 16) rfl))) (mvT hZ (hw _ (List.mem_of_getElem? (i := 15) rfl))) (by decide) (backOf (W := 0) (rm3A l Z a0 hw [] b2 (4000000 : Int64) (16000000 : Int64) T5.heap n0 (Nat.le_trans (Nat.le_trans (Nat.le_trans (Nat.le_trans Z0 E2.1) K3c.1) K4c.1) K5c.1) F5d ((((O0.ext E2).keep K3c (allS g_b2 all0)).keep K4c (allS g_b2 all0)).keep K5c (allS g_b2 all0)) S_LAST E5c g_b2 (by decide)) hZ (hw _ (List.mem_of_getElem? (i := 17) rfl)) (hw _ (List.mem_of_getElem? (i := 2) rfl)) (by decide) (by decide)) q6a q6c (g := (mkF m 20 #[.val (.int p1), .val (.ref b2), .val (.long (1000000 : Int64)), .second, .val (.long (2000000 : Int64)), .second, .unset, .unset, .unset, .unset, .unset, .unset, .unset, .unset, .unset, .unset, .unset, .unset, .unset, .unset] [(.ref b2)])) rfl (by rw [hml]; rfl) (Steps.refl _) (argsL := []) (rest := []) (lenOf pd_0_1 rfl) rfl (by show 2 * 0 + _ ≤ _; exact Nat.le_of_eq rfl) (hb hby at_20) (fun _ _ => ⟨rfl, rfl, (by decide : 1 + 0 ≤ _), (by decide : 1 + 0 ≤ _)⟩)
  dsimp only [Pt.U, Pt.locs, Pt.cells, Pt.slots] at X6 l6 y6 z6 st6 hQ6
  subst l6 y6 z6
  obtain ⟨rfl, N6q, K6c, E6c, F6c⟩ := hQ6
  have N6 := Fr.app N5 N6q
  have K6 : Keep h0 T6.heap [] := K5.trans K6c (allS (Or.inr sz_b2) all0)
  have F6d : Fld Z T6.heap b2 "com/example/calm_exit/calmexit/Pauses" "next" "J" (.long (8000000 : Int64)) := by have q := F6c; rwa [(by decide : ((2 : Int64) * (4000000 : Int64)) = (8000000 : Int64))] at q
  obtain ⟨cq7, kq7, q7a, q7b, q7c⟩ := isOf hZ rfl E6c
  obtain ⟨_, _, ⟨T7, L7, k7, n7⟩, -, X7, ⟨Lc7, hQ7, l7, y7, z7⟩, st7⟩ := X6.virtualBack hx (y := (⟨"com/example/calm_exit/calmexit/Pauses", "next", "()J"⟩ : MethodName)) (z := (⟨"com/example/calm_exit/calmexit/Pauses", "next", "()J"⟩ : MethodName)) hown (mvT hZ (hw _ (List.mem_of_getElem? (i := 13) rfl))) (mvT hZ (hw _ (List.mem_of_getElem? (i := 14) rfl))) (notFace_of_selects (args := #[]) (mvT hZ (hw _ (List.mem_of_getElem? (i := 16) rfl)))) (mvT hZ (hw _ (List.mem_of_getElem? (i := 16) rfl))) (mvT hZ (hw _ (List.mem_of_getElem? (i := 15) rfl))) (by decide) (backOf (W := 0) (rm3A l Z a0 hw [] b2 (8000000 : Int64) (16000000 : Int64) T6.heap n0 (Nat.le_trans (Nat.le_trans (Nat.le_trans (Nat.le_trans (Nat.le_trans Z0 E2.1) K3c.1) K4c.1) K5c.1) K6c.1) F6d (((((O0.ext E2).keep K3c (allS g_b2 all0)).keep K4c (allS g_b2 all0)).keep K5c (allS g_b2 all0)).keep K6c (allS g_b2 all0)) S_LAST E6c g_b2 (by decide)) hZ (hw _ (List.mem_of_getElem? (i := 17) rfl)) (hw _ (List.mem_of_getElem? (i := 2) rfl)) (by decide) (by decide)) q7a q7c (g := (mkF m 26 #[.val (.int p1), .val (.ref b2), .val (.long (1000000 : Int64)), .second, .val (.long (2000000 : Int64)), .second, .val (.long (4000000 : Int64)), .second, .unset, .unset, .unset, .unset, .unset, .unset, .unset, .unset, .unset, .unset, .unset, .unset] [(.ref b2)])) rfl (by rw [hml]; rfl) (Steps.refl _) (argsL := []) (rest := []) (lenOf pd_0_1 rfl) rfl (by show 2 * 0 + _ ≤ _; exact Nat.le_of_eq rfl) (hb hby at_26) (fun _ _ => ⟨rfl, rfl, (by decide : 1 + 0 ≤ _), (by decide : 1 + 0 ≤ _)⟩)
  dsimp only [Pt.U, Pt.locs, Pt.cells, Pt.slots] at X7 l7 y7 z7 st7 hQ7
  subst l7 y7 z7
  obtain ⟨rfl, N7q, K7c, E7c, F7c⟩ := hQ7
  have N7 := Fr.app N6 N7q
  have K7 : Keep h0 T7.heap [] := K6.trans K7c (allS (Or.inr sz_b2) all0)
  have F7d : Fld Z T7.heap b2 "com/example/calm_exit/calmexit/Pauses" "next" "J" (.long (16000000 : Int64)) := by have q := F7c; rwa [(by decide : ((2 : Int64) * (8000000 : Int64)) = (16000000 : Int64))] at q
  obtain ⟨cq8, kq8, q8a, q8b, q8c⟩ := isOf hZ rfl E7c
  obtain ⟨_, _, ⟨T8, L8, k8, n8⟩, -, X8, ⟨Lc8, hQ8, l8, y8, z8⟩, st8⟩ := X7.virtualBack hx (y := (⟨"com/example/calm_exit/calmexit/Pauses", "next", "()J"⟩ : MethodName)) (z := (⟨"com/example/calm_exit/calmexit/Pauses", "next", "()J"⟩ : MethodName)) hown (mvT hZ (hw _ (List.mem_of_getElem? (i := 13) rfl))) (mvT hZ (hw _ (List.mem_of_getElem? (i := 14) rfl))) (notFace_of_selects (args := #[]) (mvT hZ (hw _ (List.mem_of_getElem? (i := 16) rfl)))) (mvT hZ (hw _ (List.mem_of_getElem? (i := 16) rfl))) (mvT hZ (hw _ (List.mem_of_getElem? (i := 15) rfl))) (by decide) (backOf (W := 0) (rm3B l Z a0 hw [] b2 (16000000 : Int64) (16000000 : Int64) T7.heap n0 (Nat.le_trans (Nat.le_trans (Nat.le_trans (Nat.le_trans (Nat.le_trans (Nat.le_trans Z0 E2.1) K3c.1) K4c.1) K5c.1) K6c.1) K7c.1) F7d ((((((O0.ext E2).keep K3c (allS g_b2 all0)).keep K4c (allS g_b2 all0)).keep K5c (allS g_b2 all0)).keep K6c (allS g_b2 all0)).keep K7c (allS g_b2 all0)) S_LAST E7c g_b2 (by decide)) hZ (hw _ (List.mem_of_getElem? (i := 17) rfl)) (hw _ (List.mem_of_getElem? (i := 2) rfl)) (by decide) (by decide)) q8a q8c (g := (mkF m 32 #[.val (.int p1), .val (.ref b2), .val (.long (1000000 : Int64)), .second, .val (.long (2000000 : Int64)), .second, .val (.long (4000000 : Int64)), .second, .val (.long (8000000 : Int64)), .second, .unset, .unset, .unset, .unset, .unset, .unset, .unset, .unset, .unset, .unset] [(.ref b2)])) rfl (by rw [hml]; rfl) (Steps.refl _) (argsL := []) (rest := []) (lenOf pd_0_1 rfl) rfl (by show 2 * 0 + _ ≤ _; exact Nat.le_of_eq rfl) (hb hby at_32) (fun _ _ => ⟨rfl, rfl, (by decide : 1 + 0 ≤ _), (by decide : 1 + 0 ≤ _)⟩)
  dsimp only [Pt.U, Pt.locs, Pt.cells, Pt.slots] at X8 l8 y8 z8 st8 hQ8
  subst l8 y8 z8
  obtain ⟨rfl, N8q, K8c, E8c, F8c⟩ := hQ8
  have N8 := Fr.app N7 N8q
  have K8 : Keep h0 T8.heap [] := K7.trans K8c (allS (Or.inr sz_b2) all0)
  have F8d : Fld Z T8.heap b2 "com/example/calm_exit/calmexit/Pauses" "next" "J" (.long (16000000 : Int64)) := F8c
  obtain ⟨cq9, kq9, q9a, q9b, q9c⟩ := isOf hZ rfl E8c
  obtain ⟨_, _, ⟨T9, L9, k9, n9⟩, -, X9, ⟨Lc9, hQ9, l9, y9, z9⟩, st9⟩ := X8.virtualBack hx (y := (⟨"com/example/calm_exit/calmexit/Pauses", "next", "()J"⟩ : MethodName)) (z := (⟨"com/example/calm_exit/calmexit/Pauses", "next", "()J"⟩ : MethodName)) hown (mvT hZ (hw _ (List.mem_of_getElem? (i := 13) rfl))) (mvT hZ (hw _ (List.mem_of_getElem? (i := 14) rfl))) (notFace_of_selects (args := #[]) (mvT hZ (hw _ (List.mem_of_getElem? (i := 16) rfl)))) (mvT hZ (hw _ (List.mem_of_getElem? (i := 16) rfl))) (mvT hZ (hw _ (List.mem_of_getElem? (i := 15) rfl))) (by decide) (backOf (W := 0) (rm3B l Z a0 hw [] b2 (16000000 : Int64) (16000000 : Int64) T8.heap n0 (Nat.le_trans (Nat.le_trans (Nat.le_trans (Nat.le_trans (Nat.le_trans (Nat.le_trans (Nat.le_trans Z0 E2.1) K3c.1) K4c.1) K5c.1) K6c.1) K7c.1) K8c.1) F8d (((((((O0.ext E2).keep K3c (allS g_b2 all0)).keep K4c (allS g_b2 all0)).keep K5c (allS g_b2 all0)).keep K6c (allS g_b2 all0)).keep K7c (allS g_b2 all0)).keep K8c (allS g_b2 all0)) S_LAST E8c g_b2 (by decide)) hZ (hw _ (List.mem_of_getElem? (i := 17) rfl)) (hw _ (List.mem_of_getElem? (i := 2) rfl)) (by decide) (by decide)) q9a q9c (g := (mkF m 38 #[.val (.int p1), .val (.ref b2), .val (.long (1000000 : Int64)), .second, .val (.long (2000000 : Int64)), .second, .val (.long (4000000 : Int64)), .second, .val (.long (8000000 : Int64)), .second, .val (.long (16000000 : Int64)), .second, .unset, .unset, .unset, .unset, .unset, .unset, .unset, .unset] [(.ref b2)])) rfl (by rw [hml]; rfl) (Steps.refl _) (argsL := []) (rest := []) (lenOf pd_0_1 rfl) rfl (by show 2 * 0 + _ ≤ _; exact Nat.le_of_eq rfl) (hb hby at_38) (fun _ _ => ⟨rfl, rfl, (by decide : 1 + 0 ≤ _), (by decide : 1 + 0 ≤ _)⟩)
  dsimp only [Pt.U, Pt.locs, Pt.cells, Pt.slots] at X9 l9 y9 z9 st9 hQ9
  subst l9 y9 z9
  obtain ⟨rfl, N9q, K9c, E9c, F9c⟩ := hQ9
  have N9 := Fr.app N8 N9q
  have K9 : Keep h0 T9.heap [] := K8.trans K9c (allS (Or.inr sz_b2) all0)
  have F9d : Fld Z T9.heap b2 "com/example/calm_exit/calmexit/Pauses" "next" "J" (.long (16000000 : Int64)) := F9c
  obtain ⟨cq10, kq10, q10a, q10b, q10c⟩ := isOf hZ rfl E9c
  obtain ⟨_, _, ⟨T10, L10, k10, n10⟩, -, X10, ⟨Lc10, hQ10, l10, y10, z10⟩, st10⟩ := X9.virtualBack hx (y := (⟨"com/example/calm_exit/calmexit/Pauses", "next", "()J"⟩ : MethodName)) (z := (⟨"com/example/calm_exit/calmexit/Pauses", "next", "()J"⟩ : MethodName)) hown (mvT hZ (hw _ (List.mem_of_getElem? (i := 13) rfl))) (mvT hZ (hw _ (List.mem_of_getElem? (i := 14) rfl))) (notFace_of_selects (args := #[]) (mvT hZ (hw _ (List.mem_of_getElem? (i := 16) rfl)))) (mvT hZ (hw _ (List.mem_of_getElem? (i := 16) rfl))) (mvT hZ (hw _ (List.mem_of_getElem? (i := 15) rfl))) (by decide) (backOf (W := 0) (rm3B l Z a0 hw [] b2 (16000000 : Int64) (16000000 : Int64) T9.heap n0 (Nat.le_trans (Nat.le_trans (Nat.le_trans (Nat.le_trans (Nat.le_trans (Nat.le_trans (Nat.le_trans (Nat.le_trans Z0 E2.1) K3c.1) K4c.1) K5c.1) K6c.1) K7c.1) K8c.1) K9c.1) F9d ((((((((O0.ext E2).keep K3c (allS g_b2 all0)).keep K4c (allS g_b2 all0)).keep K5c (allS g_b2 all0)).keep K6c (allS g_b2 all0)).keep K7c (allS g_b2 all0)).keep K8c (allS g_b2 all0)).keep K9c (allS g_b2 all0)) S_LAST E9c g_b2 (by decide)) hZ (hw _ (List.mem_of_getElem? (i := 17) rfl)) (hw _ (List.mem_of_getElem? (i := 2) rfl)) (by decide) (by decide)) q10a q10c (g := (mkF m 44 #[.val (.int p1), .val (.ref b2), .val (.long (1000000 : Int64)), .second, .val (.long (2000000 : Int64)), .second, .val (.long (4000000 : Int64)), .second, .val (.long (8000000 : Int64)), .second, .val (.long (16000000 : Int64)), .second, .val (.long (16000000 : Int64)), .second, .unset, .unset, .unset, .unset, .unset, .unset] [(.ref b2)])) rfl (by rw [hml]; rfl) (Steps.refl _) (argsL := []) (rest := []) (lenOf pd_0_1 rfl) rfl (by show 2 * 0 + _ ≤ _; exact Nat.le_of_eq rfl) (hb hby at_44) (fun _ _ => ⟨rfl, rfl, (by decide : 1 + 0 ≤ _), (by decide : 1 + 0 ≤ _)⟩)
  dsimp only [Pt.U, Pt.locs, Pt.cells, Pt.slots] at X10 l10 y10 z10 st10 hQ10
  subst l10 y10 z10
  obtain ⟨rfl, N10q, K10c, E10c, F10c⟩ := hQ10
  have N10 := Fr.app N9 N10q
  have K10 : Keep h0 T10.heap [] := K9.trans K10c (allS (Or.inr sz_b2) all0)
  have F10d : Fld Z T10.heap b2 "com/example/calm_exit/calmexit/Pauses" "next" "J" (.long (16000000 : Int64)) := F10c
  obtain ⟨fs, hr, hrun, hended, hW, hsame⟩ := X10.leave (v := some (.int (1 : Int32))) (fun h => by rw [Bd.returns] at h; cases h)
  refine ⟨_, _, pre0 _ ?_, hrun, hended, _, _, rfl, ?_, ⟨_, rfl⟩, hW, hsame.mono (by decide) (by decide)⟩
  · show Steps p.tables e below (s₁.setTop (mkF m 0 #[.val (.int p1), .unset, .unset, .unset, .unset, .unset, .unset, .unset, .unset, .unset, .unset, .unset, .unset, .unset, .unset, .unset, .unset, .unset, .unset, .unset] [])) _
    refine st2 _ ?_
    show Steps p.tables e below (T2.setTop (mkF m 3 #[.val (.int p1), .unset, .unset, .unset, .unset, .unset, .unset, .unset, .unset, .unset, .unset, .unset, .unset, .unset, .unset, .unset, .unset, .unset, .unset, .unset] [(.ref b2)])) _
    refine XS.dup X2.here hx rfl (hb hby at_3) rfl rfl ?_
    show Steps p.tables e below (T2.setTop (mkF m 4 #[.val (.int p1), .unset, .unset, .unset, .unset, .unset, .unset, .unset, .unset, .unset, .unset, .unset, .unset, .unset, .unset, .unset, .unset, .unset, .unset, .unset] [(.ref b2), (.ref b2)])) _
    refine st3.trans ?_
    show Steps p.tables e below (T3.setTop (mkF m 7 #[.val (.int p1), .unset, .unset, .unset, .unset, .unset, .unset, .unset, .unset, .unset, .unset, .unset, .unset, .unset, .unset, .unset, .unset, .unset, .unset, .unset] [(.ref b2)])) _
    refine XS.astoreN X3.here hx rfl (hb hby at_7) rfl rfl (l' := #[.val (.int p1), .val (.ref b2), .unset, .unset, .unset, .unset, .unset, .unset, .unset, .unset, .unset, .unset, .unset, .unset, .unset, .unset, .unset, .unset, .unset, .unset]) rfl ?_
    show Steps p.tables e below (T3.setTop (mkF m 8 #[.val (.int p1), .val (.ref b2), .unset, .unset, .unset, .unset, .unset, .unset, .unset, .unset, .unset, .unset, .unset, .unset, .unset, .unset, .unset, .unset, .unset, .unset] [])) _
    refine XS.aloadN X3.here hx rfl (hb hby at_8) rfl rfl ?_
    show Steps p.tables e below (T3.setTop (mkF m 9 #[.val (.int p1), .val (.ref b2), .unset, .unset, .unset, .unset, .unset, .unset, .unset, .unset, .unset, .unset, .unset, .unset, .unset, .unset, .unset, .unset, .unset, .unset] [(.ref b2)])) _
    refine st4.trans ?_
    show Steps p.tables e below (T4.setTop (mkF m 12 #[.val (.int p1), .val (.ref b2), .unset, .unset, .unset, .unset, .unset, .unset, .unset, .unset, .unset, .unset, .unset, .unset, .unset, .unset, .unset, .unset, .unset, .unset] [(.long (1000000 : Int64))])) _
    refine XS.lstoreN X4.here hx rfl (hb hby at_12) rfl (l' := #[.val (.int p1), .val (.ref b2), .val (.long (1000000 : Int64)), .second, .unset, .unset, .unset, .unset, .unset, .unset, .unset, .unset, .unset, .unset, .unset, .unset, .unset, .unset, .unset, .unset]) rfl ?_
    show Steps p.tables e below (T4.setTop (mkF m 13 #[.val (.int p1), .val (.ref b2), .val (.long (1000000 : Int64)), .second, .unset, .unset, .unset, .unset, .unset, .unset, .unset, .unset, .unset, .unset, .unset, .unset, .unset, .unset, .unset, .unset] [])) _
    refine XS.aloadN X4.here hx rfl (hb hby at_13) rfl rfl ?_
    show Steps p.tables e below (T4.setTop (mkF m 14 #[.val (.int p1), .val (.ref b2), .val (.long (1000000 : Int64)), .second, .unset, .unset, .unset, .unset, .unset, .unset, .unset, .unset, .unset, .unset, .unset, .unset, .unset, .unset, .unset, .unset] [(.ref b2)])) _
    refine st5.trans ?_
    show Steps p.tables e below (T5.setTop (mkF m 17 #[.val (.int p1), .val (.ref b2), .val (.long (1000000 : Int64)), .second, .unset, .unset, .unset, .unset, .unset, .unset, .unset, .unset, .unset, .unset, .unset, .unset, .unset, .unset, .unset, .unset] [(.long (2000000 : Int64))])) _
    refine XS.lstore X5.here hx rfl (hb hby at_17) rfl (l' := #[.val (.int p1), .val (.ref b2), .val (.long (1000000 : Int64)), .second, .val (.long (2000000 : Int64)), .second, .unset, .unset, .unset, .unset, .unset, .unset, .unset, .unset, .unset, .unset, .unset, .unset, .unset, .unset]) rfl ?_
    show Steps p.tables e below (T5.setTop (mkF m 19 #[.val (.int p1), .val (.ref b2), .val (.long (1000000 : Int64)), .second, .val (.long (2000000 : Int64)), .second, .unset, .unset, .unset, .unset, .unset, .unset, .unset, .unset, .unset, .unset, .unset, .unset, .unset, .unset] [])) _
    refine XS.aloadN X5.here hx rfl (hb hby at_19) rfl rfl ?_
    show Steps p.tables e below (T5.setTop (mkF m 20 #[.val (.int p1), .val (.ref b2), .val (.long (1000000 : Int64)), .second, .val (.long (2000000 : Int64)), .second, .unset, .unset, .unset, .unset, .unset, .unset, .unset, .unset, .unset, .unset, .unset, .unset, .unset, .unset] [(.ref b2)])) _
    refine st6.trans ?_
    show Steps p.tables e below (T6.setTop (mkF m 23 #[.val (.int p1), .val (.ref b2), .val (.long (1000000 : Int64)), .second, .val (.long (2000000 : Int64)), .second, .unset, .unset, .unset, .unset, .unset, .unset, .unset, .unset, .unset, .unset, .unset, .unset, .unset, .unset] [(.long (4000000 : Int64))])) _
    refine XS.lstore X6.here hx rfl (hb hby at_23) rfl (l' := #[.val (.int p1), .val (.ref b2), .val (.long (1000000 : Int64)), .second, .val (.long (2000000 : Int64)), .second, .val (.long (4000000 : Int64)), .second, .unset, .unset, .unset, .unset, .unset, .unset, .unset, .unset, .unset, .unset, .unset, .unset]) rfl ?_
    show Steps p.tables e below (T6.setTop (mkF m 25 #[.val (.int p1), .val (.ref b2), .val (.long (1000000 : Int64)), .second, .val (.long (2000000 : Int64)), .second, .val (.long (4000000 : Int64)), .second, .unset, .unset, .unset, .unset, .unset, .unset, .unset, .unset, .unset, .unset, .unset, .unset] [])) _
    refine XS.aloadN X6.here hx rfl (hb hby at_25) rfl rfl ?_
    show Steps p.tables e below (T6.setTop (mkF m 26 #[.val (.int p1), .val (.ref b2), .val (.long (1000000 : Int64)), .second, .val (.long (2000000 : Int64)), .second, .val (.long (4000000 : Int64)), .second, .unset, .unset, .unset, .unset, .unset, .unset, .unset, .unset, .unset, .unset, .unset, .unset] [(.ref b2)])) _
    refine st7.trans ?_
    show Steps p.tables e below (T7.setTop (mkF m 29 #[.val (.int p1), .val (.ref b2), .val (.long (1000000 : Int64)), .second, .val (.long (2000000 : Int64)), .second, .val (.long (4000000 : Int64)), .second, .unset, .unset, .unset, .unset, .unset, .unset, .unset, .unset, .unset, .unset, .unset, .unset] [(.long (8000000 : Int64))])) _
    refine XS.lstore X7.here hx rfl (hb hby at_29) rfl (l' := #[.val (.int p1), .val (.ref b2), .val (.long (1000000 : Int64)), .second, .val (.long (2000000 : Int64)), .second, .val (.long (4000000 : Int64)), .second, .val (.long (8000000 : Int64)), .second, .unset, .unset, .unset, .unset, .unset, .unset, .unset, .unset, .unset, .unset]) rfl ?_
    show Steps p.tables e below (T7.setTop (mkF m 31 #[.val (.int p1), .val (.ref b2), .val (.long (1000000 : Int64)), .second, .val (.long (2000000 : Int64)), .second, .val (.long (4000000 : Int64)), .second, .val (.long (8000000 : Int64)), .second, .unset, .unset, .unset, .unset, .unset, .unset, .unset, .unset, .unset, .unset] [])) _
    refine XS.aloadN X7.here hx rfl (hb hby at_31) rfl rfl ?_
    show Steps p.tables e below (T7.setTop (mkF m 32 #[.val (.int p1), .val (.ref b2), .val (.long (1000000 : Int64)), .second, .val (.long (2000000 : Int64)), .second, .val (.long (4000000 : Int64)), .second, .val (.long (8000000 : Int64)), .second, .unset, .unset, .unset, .unset, .unset, .unset, .unset, .unset, .unset, .unset] [(.ref b2)])) _
    refine st8.trans ?_
    show Steps p.tables e below (T8.setTop (mkF m 35 #[.val (.int p1), .val (.ref b2), .val (.long (1000000 : Int64)), .second, .val (.long (2000000 : Int64)), .second, .val (.long (4000000 : Int64)), .second, .val (.long (8000000 : Int64)), .second, .unset, .unset, .unset, .unset, .unset, .unset, .unset, .unset, .unset, .unset] [(.long (16000000 : Int64))])) _
    refine XS.lstore X8.here hx rfl (hb hby at_35) rfl (l' := #[.val (.int p1), .val (.ref b2), .val (.long (1000000 : Int64)), .second, .val (.long (2000000 : Int64)), .second, .val (.long (4000000 : Int64)), .second, .val (.long (8000000 : Int64)), .second, .val (.long (16000000 : Int64)), .second, .unset, .unset, .unset, .unset, .unset, .unset, .unset, .unset]) rfl ?_
    show Steps p.tables e below (T8.setTop (mkF m 37 #[.val (.int p1), .val (.ref b2), .val (.long (1000000 : Int64)), .second, .val (.long (2000000 : Int64)), .second, .val (.long (4000000 : Int64)), .second, .val (.long (8000000 : Int64)), .second, .val (.long (16000000 : Int64)), .second, .unset, .unset, .unset, .unset, .unset, .unset, .unset, .unset] [])) _
    refine XS.aloadN X8.here hx rfl (hb hby at_37) rfl rfl ?_
    show Steps p.tables e below (T8.setTop (mkF m 38 #[.val (.int p1), .val (.ref b2), .val (.long (1000000 : Int64)), .second, .val (.long (2000000 : Int64)), .second, .val (.long (4000000 : Int64)), .second, .val (.long (8000000 : Int64)), .second, .val (.long (16000000 : Int64)), .second, .unset, .unset, .unset, .unset, .unset, .unset, .unset, .unset] [(.ref b2)])) _
    refine st9.trans ?_
    show Steps p.tables e below (T9.setTop (mkF m 41 #[.val (.int p1), .val (.ref b2), .val (.long (1000000 : Int64)), .second, .val (.long (2000000 : Int64)), .second, .val (.long (4000000 : Int64)), .second, .val (.long (8000000 : Int64)), .second, .val (.long (16000000 : Int64)), .second, .unset, .unset, .unset, .unset, .unset, .unset, .unset, .unset] [(.long (16000000 : Int64))])) _
    refine XS.lstore X9.here hx rfl (hb hby at_41) rfl (l' := #[.val (.int p1), .val (.ref b2), .val (.long (1000000 : Int64)), .second, .val (.long (2000000 : Int64)), .second, .val (.long (4000000 : Int64)), .second, .val (.long (8000000 : Int64)), .second, .val (.long (16000000 : Int64)), .second, .val (.long (16000000 : Int64)), .second, .unset, .unset, .unset, .unset, .unset, .unset]) rfl ?_
    show Steps p.tables e below (T9.setTop (mkF m 43 #[.val (.int p1), .val (.ref b2), .val (.long (1000000 : Int64)), .second, .val (.long (2000000 : Int64)), .second, .val (.long (4000000 : Int64)), .second, .val (.long (8000000 : Int64)), .second, .val (.long (16000000 : Int64)), .second, .val (.long (16000000 : Int64)), .second, .unset, .unset, .unset, .unset, .unset, .unset] [])) _
    refine XS.aloadN X9.here hx rfl (hb hby at_43) rfl rfl ?_
    show Steps p.tables e below (T9.setTop (mkF m 44 #[.val (.int p1), .val (.ref b2), .val (.long (1000000 : Int64)), .second, .val (.long (2000000 : Int64)), .second, .val (.long (4000000 : Int64)), .second, .val (.long (8000000 : Int64)), .second, .val (.long (16000000 : Int64)), .second, .val (.long (16000000 : Int64)), .second, .unset, .unset, .unset, .unset, .unset, .unset] [(.ref b2)])) _
    refine st10.trans ?_
    show Steps p.tables e below (T10.setTop (mkF m 47 #[.val (.int p1), .val (.ref b2), .val (.long (1000000 : Int64)), .second, .val (.long (2000000 : Int64)), .second, .val (.long (4000000 : Int64)), .second, .val (.long (8000000 : Int64)), .second, .val (.long (16000000 : Int64)), .second, .val (.long (16000000 : Int64)), .second, .unset, .unset, .unset, .unset, .unset, .unset] [(.long (16000000 : Int64))])) _
    refine XS.lstore X10.here hx rfl (hb hby at_47) rfl (l' := #[.val (.int p1), .val (.ref b2), .val (.long (1000000 : Int64)), .second, .val (.long (2000000 : Int64)), .second, .val (.long (4000000 : Int64)), .second, .val (.long (8000000 : Int64)), .second, .val (.long (16000000 : Int64)), .second, .val (.long (16000000 : Int64)), .second, .val (.long (16000000 : Int64)), .second, .unset, .unset, .unset, .unset]) rfl ?_
    show Steps p.tables e below (T10.setTop (mkF m 49 #[.val (.int p1), .val (.ref b2), .val (.long (1000000 : Int64)), .second, .val (.long (2000000 : Int64)), .second, .val (.long (4000000 : Int64)), .second, .val (.long (8000000 : Int64)), .second, .val (.long (16000000 : Int64)), .second, .val (.long (16000000 : Int64)), .second, .val (.long (16000000 : Int64)), .second, .unset, .unset, .unset, .unset] [])) _
    refine XS.lloadN X10.here hx rfl (hb hby at_49) rfl ?_
    show Steps p.tables e below (T10.setTop (mkF m 50 #[.val (.int p1), .val (.ref b2), .val (.long (1000000 : Int64)), .second, .val (.long (2000000 : Int64)), .second, .val (.long (4000000 : Int64)), .second, .val (.long (8000000 : Int64)), .second, .val (.long (16000000 : Int64)), .second, .val (.long (16000000 : Int64)), .second, .val (.long (16000000 : Int64)), .second, .unset, .unset, .unset, .unset] [(.long (1000000 : Int64))])) _
    refine X10.ldc2Long hx hown (mvT hZ (hw _ (List.mem_of_getElem? (i := 25) rfl))) (g := (mkF m 50 #[.val (.int p1), .val (.ref b2), .val (.long (1000000 : Int64)), .second, .val (.long (2000000 : Int64)), .second, .val (.long (4000000 : Int64)), .second, .val (.long (8000000 : Int64)), .second, .val (.long (16000000 : Int64)), .second, .val (.long (16000000 : Int64)), .second, .val (.long (16000000 : Int64)), .second, .unset, .unset, .unset, .unset] [(.long (1000000 : Int64))])) rfl (hb hby at_50) _ ?_
    show Steps p.tables e below (T10.setTop (mkF m 53 #[.val (.int p1), .val (.ref b2), .val (.long (1000000 : Int64)), .second, .val (.long (2000000 : Int64)), .second, .val (.long (4000000 : Int64)), .second, .val (.long (8000000 : Int64)), .second, .val (.long (16000000 : Int64)), .second, .val (.long (16000000 : Int64)), .second, .val (.long (16000000 : Int64)), .second, .unset, .unset, .unset, .unset] [(.long (1000000 : Int64)), (.long (1000000 : Int64))])) _
    refine XS.lcmp X10.here hx rfl (hb hby at_53) rfl ?_
    show Steps p.tables e below (T10.setTop (mkF m 54 #[.val (.int p1), .val (.ref b2), .val (.long (1000000 : Int64)), .second, .val (.long (2000000 : Int64)), .second, .val (.long (4000000 : Int64)), .second, .val (.long (8000000 : Int64)), .second, .val (.long (16000000 : Int64)), .second, .val (.long (16000000 : Int64)), .second, .val (.long (16000000 : Int64)), .second, .unset, .unset, .unset, .unset] [(.int (lcmpW (1000000 : Int64) (1000000 : Int64)))])) _
    refine XS.ifNo X10.here hx rfl (hb hby at_54) rfl ((if0 _ _).trans (teq hc54).2) ?_
    show Steps p.tables e below (T10.setTop (mkF m 57 #[.val (.int p1), .val (.ref b2), .val (.long (1000000 : Int64)), .second, .val (.long (2000000 : Int64)), .second, .val (.long (4000000 : Int64)), .second, .val (.long (8000000 : Int64)), .second, .val (.long (16000000 : Int64)), .second, .val (.long (16000000 : Int64)), .second, .val (.long (16000000 : Int64)), .second, .unset, .unset, .unset, .unset] [])) _
    refine XS.lload X10.here hx rfl (hb hby at_57) rfl ?_
    show Steps p.tables e below (T10.setTop (mkF m 59 #[.val (.int p1), .val (.ref b2), .val (.long (1000000 : Int64)), .second, .val (.long (2000000 : Int64)), .second, .val (.long (4000000 : Int64)), .second, .val (.long (8000000 : Int64)), .second, .val (.long (16000000 : Int64)), .second, .val (.long (16000000 : Int64)), .second, .val (.long (16000000 : Int64)), .second, .unset, .unset, .unset, .unset] [(.long (2000000 : Int64))])) _
    refine X10.ldc2Long hx hown (mvT hZ (hw _ (List.mem_of_getElem? (i := 26) rfl))) (g := (mkF m 59 #[.val (.int p1), .val (.ref b2), .val (.long (1000000 : Int64)), .second, .val (.long (2000000 : Int64)), .second, .val (.long (4000000 : Int64)), .second, .val (.long (8000000 : Int64)), .second, .val (.long (16000000 : Int64)), .second, .val (.long (16000000 : Int64)), .second, .val (.long (16000000 : Int64)), .second, .unset, .unset, .unset, .unset] [(.long (2000000 : Int64))])) rfl (hb hby at_59) _ ?_
    show Steps p.tables e below (T10.setTop (mkF m 62 #[.val (.int p1), .val (.ref b2), .val (.long (1000000 : Int64)), .second, .val (.long (2000000 : Int64)), .second, .val (.long (4000000 : Int64)), .second, .val (.long (8000000 : Int64)), .second, .val (.long (16000000 : Int64)), .second, .val (.long (16000000 : Int64)), .second, .val (.long (16000000 : Int64)), .second, .unset, .unset, .unset, .unset] [(.long (2000000 : Int64)), (.long (2000000 : Int64))])) _
    refine XS.lcmp X10.here hx rfl (hb hby at_62) rfl ?_
    show Steps p.tables e below (T10.setTop (mkF m 63 #[.val (.int p1), .val (.ref b2), .val (.long (1000000 : Int64)), .second, .val (.long (2000000 : Int64)), .second, .val (.long (4000000 : Int64)), .second, .val (.long (8000000 : Int64)), .second, .val (.long (16000000 : Int64)), .second, .val (.long (16000000 : Int64)), .second, .val (.long (16000000 : Int64)), .second, .unset, .unset, .unset, .unset] [(.int (lcmpW (2000000 : Int64) (2000000 : Int64)))])) _
    refine XS.ifNo X10.here hx rfl (hb hby at_63) rfl ((if0 _ _).trans (teq hc63).2) ?_
    show Steps p.tables e below (T10.setTop (mkF m 66 #[.val (.int p1), .val (.ref b2), .val (.long (1000000 : Int64)), .second, .val (.long (2000000 : Int64)), .second, .val (.long (4000000 : Int64)), .second, .val (.long (8000000 : Int64)), .second, .val (.long (16000000 : Int64)), .second, .val (.long (16000000 : Int64)), .second, .val (.long (16000000 : Int64)), .second, .unset, .unset, .unset, .unset] [])) _
    refine XS.lload X10.here hx rfl (hb hby at_66) rfl ?_
    show Steps p.tables e below (T10.setTop (mkF m 68 #[.val (.int p1), .val (.ref b2), .val (.long (1000000 : Int64)), .second, .val (.long (2000000 : Int64)), .second, .val (.long (4000000 : Int64)), .second, .val (.long (8000000 : Int64)), .second, .val (.long (16000000 : Int64)), .second, .val (.long (16000000 : Int64)), .second, .val (.long (16000000 : Int64)), .second, .unset, .unset, .unset, .unset] [(.long (4000000 : Int64))])) _
    refine X10.ldc2Long hx hown (mvT hZ (hw _ (List.mem_of_getElem? (i := 27) rfl))) (g := (mkF m 68 #[.val (.int p1), .val (.ref b2), .val (.long (1000000 : Int64)), .second, .val (.long (2000000 : Int64)), .second, .val (.long (4000000 : Int64)), .second, .val (.long (8000000 : Int64)), .second, .val (.long (16000000 : Int64)), .second, .val (.long (16000000 : Int64)), .second, .val (.long (16000000 : Int64)), .second, .unset, .unset, .unset, .unset] [(.long (4000000 : Int64))])) rfl (hb hby at_68) _ ?_
    show Steps p.tables e below (T10.setTop (mkF m 71 #[.val (.int p1), .val (.ref b2), .val (.long (1000000 : Int64)), .second, .val (.long (2000000 : Int64)), .second, .val (.long (4000000 : Int64)), .second, .val (.long (8000000 : Int64)), .second, .val (.long (16000000 : Int64)), .second, .val (.long (16000000 : Int64)), .second, .val (.long (16000000 : Int64)), .second, .unset, .unset, .unset, .unset] [(.long (4000000 : Int64)), (.long (4000000 : Int64))])) _
    refine XS.lcmp X10.here hx rfl (hb hby at_71) rfl ?_
    show Steps p.tables e below (T10.setTop (mkF m 72 #[.val (.int p1), .val (.ref b2), .val (.long (1000000 : Int64)), .second, .val (.long (2000000 : Int64)), .second, .val (.long (4000000 : Int64)), .second, .val (.long (8000000 : Int64)), .second, .val (.long (16000000 : Int64)), .second, .val (.long (16000000 : Int64)), .second, .val (.long (16000000 : Int64)), .second, .unset, .unset, .unset, .unset] [(.int (lcmpW (4000000 : Int64) (4000000 : Int64)))])) _
    refine XS.ifNo X10.here hx rfl (hb hby at_72) rfl ((if0 _ _).trans (teq hc72).2) ?_
    show Steps p.tables e below (T10.setTop (mkF m 75 #[.val (.int p1), .val (.ref b2), .val (.long (1000000 : Int64)), .second, .val (.long (2000000 : Int64)), .second, .val (.long (4000000 : Int64)), .second, .val (.long (8000000 : Int64)), .second, .val (.long (16000000 : Int64)), .second, .val (.long (16000000 : Int64)), .second, .val (.long (16000000 : Int64)), .second, .unset, .unset, .unset, .unset] [])) _
    refine XS.lload X10.here hx rfl (hb hby at_75) rfl ?_
    show Steps p.tables e below (T10.setTop (mkF m 77 #[.val (.int p1), .val (.ref b2), .val (.long (1000000 : Int64)), .second, .val (.long (2000000 : Int64)), .second, .val (.long (4000000 : Int64)), .second, .val (.long (8000000 : Int64)), .second, .val (.long (16000000 : Int64)), .second, .val (.long (16000000 : Int64)), .second, .val (.long (16000000 : Int64)), .second, .unset, .unset, .unset, .unset] [(.long (8000000 : Int64))])) _
    refine X10.ldc2Long hx hown (mvT hZ (hw _ (List.mem_of_getElem? (i := 28) rfl))) (g := (mkF m 77 #[.val (.int p1), .val (.ref b2), .val (.long (1000000 : Int64)), .second, .val (.long (2000000 : Int64)), .second, .val (.long (4000000 : Int64)), .second, .val (.long (8000000 : Int64)), .second, .val (.long (16000000 : Int64)), .second, .val (.long (16000000 : Int64)), .second, .val (.long (16000000 : Int64)), .second, .unset, .unset, .unset, .unset] [(.long (8000000 : Int64))])) rfl (hb hby at_77) _ ?_
    show Steps p.tables e below (T10.setTop (mkF m 80 #[.val (.int p1), .val (.ref b2), .val (.long (1000000 : Int64)), .second, .val (.long (2000000 : Int64)), .second, .val (.long (4000000 : Int64)), .second, .val (.long (8000000 : Int64)), .second, .val (.long (16000000 : Int64)), .second, .val (.long (16000000 : Int64)), .second, .val (.long (16000000 : Int64)), .second, .unset, .unset, .unset, .unset] [(.long (8000000 : Int64)), (.long (8000000 : Int64))])) _
    refine XS.lcmp X10.here hx rfl (hb hby at_80) rfl ?_
    show Steps p.tables e below (T10.setTop (mkF m 81 #[.val (.int p1), .val (.ref b2), .val (.long (1000000 : Int64)), .second, .val (.long (2000000 : Int64)), .second, .val (.long (4000000 : Int64)), .second, .val (.long (8000000 : Int64)), .second, .val (.long (16000000 : Int64)), .second, .val (.long (16000000 : Int64)), .second, .val (.long (16000000 : Int64)), .second, .unset, .unset, .unset, .unset] [(.int (lcmpW (8000000 : Int64) (8000000 : Int64)))])) _
    refine XS.ifNo X10.here hx rfl (hb hby at_81) rfl ((if0 _ _).trans (teq hc81).2) ?_
    show Steps p.tables e below (T10.setTop (mkF m 84 #[.val (.int p1), .val (.ref b2), .val (.long (1000000 : Int64)), .second, .val (.long (2000000 : Int64)), .second, .val (.long (4000000 : Int64)), .second, .val (.long (8000000 : Int64)), .second, .val (.long (16000000 : Int64)), .second, .val (.long (16000000 : Int64)), .second, .val (.long (16000000 : Int64)), .second, .unset, .unset, .unset, .unset] [])) _
    refine XS.lload X10.here hx rfl (hb hby at_84) rfl ?_
    show Steps p.tables e below (T10.setTop (mkF m 86 #[.val (.int p1), .val (.ref b2), .val (.long (1000000 : Int64)), .second, .val (.long (2000000 : Int64)), .second, .val (.long (4000000 : Int64)), .second, .val (.long (8000000 : Int64)), .second, .val (.long (16000000 : Int64)), .second, .val (.long (16000000 : Int64)), .second, .val (.long (16000000 : Int64)), .second, .unset, .unset, .unset, .unset] [(.long (16000000 : Int64))])) _
    refine X10.ldc2Long hx hown (mvT hZ (hw _ (List.mem_of_getElem? (i := 29) rfl))) (g := (mkF m 86 #[.val (.int p1), .val (.ref b2), .val (.long (1000000 : Int64)), .second, .val (.long (2000000 : Int64)), .second, .val (.long (4000000 : Int64)), .second, .val (.long (8000000 : Int64)), .second, .val (.long (16000000 : Int64)), .second, .val (.long (16000000 : Int64)), .second, .val (.long (16000000 : Int64)), .second, .unset, .unset, .unset, .unset] [(.long (16000000 : Int64))])) rfl (hb hby at_86) _ ?_
    show Steps p.tables e below (T10.setTop (mkF m 89 #[.val (.int p1), .val (.ref b2), .val (.long (1000000 : Int64)), .second, .val (.long (2000000 : Int64)), .second, .val (.long (4000000 : Int64)), .second, .val (.long (8000000 : Int64)), .second, .val (.long (16000000 : Int64)), .second, .val (.long (16000000 : Int64)), .second, .val (.long (16000000 : Int64)), .second, .unset, .unset, .unset, .unset] [(.long (16000000 : Int64)), (.long (16000000 : Int64))])) _
    refine XS.lcmp X10.here hx rfl (hb hby at_89) rfl ?_
    show Steps p.tables e below (T10.setTop (mkF m 90 #[.val (.int p1), .val (.ref b2), .val (.long (1000000 : Int64)), .second, .val (.long (2000000 : Int64)), .second, .val (.long (4000000 : Int64)), .second, .val (.long (8000000 : Int64)), .second, .val (.long (16000000 : Int64)), .second, .val (.long (16000000 : Int64)), .second, .val (.long (16000000 : Int64)), .second, .unset, .unset, .unset, .unset] [(.int (lcmpW (16000000 : Int64) (16000000 : Int64)))])) _
    refine XS.ifNo X10.here hx rfl (hb hby at_90) rfl ((if0 _ _).trans (teq hc90).2) ?_
    show Steps p.tables e below (T10.setTop (mkF m 93 #[.val (.int p1), .val (.ref b2), .val (.long (1000000 : Int64)), .second, .val (.long (2000000 : Int64)), .second, .val (.long (4000000 : Int64)), .second, .val (.long (8000000 : Int64)), .second, .val (.long (16000000 : Int64)), .second, .val (.long (16000000 : Int64)), .second, .val (.long (16000000 : Int64)), .second, .unset, .unset, .unset, .unset] [])) _
    refine XS.lload X10.here hx rfl (hb hby at_93) rfl ?_
    show Steps p.tables e below (T10.setTop (mkF m 95 #[.val (.int p1), .val (.ref b2), .val (.long (1000000 : Int64)), .second, .val (.long (2000000 : Int64)), .second, .val (.long (4000000 : Int64)), .second, .val (.long (8000000 : Int64)), .second, .val (.long (16000000 : Int64)), .second, .val (.long (16000000 : Int64)), .second, .val (.long (16000000 : Int64)), .second, .unset, .unset, .unset, .unset] [(.long (16000000 : Int64))])) _
    refine X10.ldc2Long hx hown (mvT hZ (hw _ (List.mem_of_getElem? (i := 29) rfl))) (g := (mkF m 95 #[.val (.int p1), .val (.ref b2), .val (.long (1000000 : Int64)), .second, .val (.long (2000000 : Int64)), .second, .val (.long (4000000 : Int64)), .second, .val (.long (8000000 : Int64)), .second, .val (.long (16000000 : Int64)), .second, .val (.long (16000000 : Int64)), .second, .val (.long (16000000 : Int64)), .second, .unset, .unset, .unset, .unset] [(.long (16000000 : Int64))])) rfl (hb hby at_95) _ ?_
    show Steps p.tables e below (T10.setTop (mkF m 98 #[.val (.int p1), .val (.ref b2), .val (.long (1000000 : Int64)), .second, .val (.long (2000000 : Int64)), .second, .val (.long (4000000 : Int64)), .second, .val (.long (8000000 : Int64)), .second, .val (.long (16000000 : Int64)), .second, .val (.long (16000000 : Int64)), .second, .val (.long (16000000 : Int64)), .second, .unset, .unset, .unset, .unset] [(.long (16000000 : Int64)), (.long (16000000 : Int64))])) _
    refine XS.lcmp X10.here hx rfl (hb hby at_98) rfl ?_
    show Steps p.tables e below (T10.setTop (mkF m 99 #[.val (.int p1), .val (.ref b2), .val (.long (1000000 : Int64)), .second, .val (.long (2000000 : Int64)), .second, .val (.long (4000000 : Int64)), .second, .val (.long (8000000 : Int64)), .second, .val (.long (16000000 : Int64)), .second, .val (.long (16000000 : Int64)), .second, .val (.long (16000000 : Int64)), .second, .unset, .unset, .unset, .unset] [(.int (lcmpW (16000000 : Int64) (16000000 : Int64)))])) _
    refine XS.ifNo X10.here hx rfl (hb hby at_99) rfl ((if0 _ _).trans (teq hc99).2) ?_
    show Steps p.tables e below (T10.setTop (mkF m 102 #[.val (.int p1), .val (.ref b2), .val (.long (1000000 : Int64)), .second, .val (.long (2000000 : Int64)), .second, .val (.long (4000000 : Int64)), .second, .val (.long (8000000 : Int64)), .second, .val (.long (16000000 : Int64)), .second, .val (.long (16000000 : Int64)), .second, .val (.long (16000000 : Int64)), .second, .unset, .unset, .unset, .unset] [])) _
    refine XS.lload X10.here hx rfl (hb hby at_102) rfl ?_
    show Steps p.tables e below (T10.setTop (mkF m 104 #[.val (.int p1), .val (.ref b2), .val (.long (1000000 : Int64)), .second, .val (.long (2000000 : Int64)), .second, .val (.long (4000000 : Int64)), .second, .val (.long (8000000 : Int64)), .second, .val (.long (16000000 : Int64)), .second, .val (.long (16000000 : Int64)), .second, .val (.long (16000000 : Int64)), .second, .unset, .unset, .unset, .unset] [(.long (16000000 : Int64))])) _
    refine X10.ldc2Long hx hown (mvT hZ (hw _ (List.mem_of_getElem? (i := 29) rfl))) (g := (mkF m 104 #[.val (.int p1), .val (.ref b2), .val (.long (1000000 : Int64)), .second, .val (.long (2000000 : Int64)), .second, .val (.long (4000000 : Int64)), .second, .val (.long (8000000 : Int64)), .second, .val (.long (16000000 : Int64)), .second, .val (.long (16000000 : Int64)), .second, .val (.long (16000000 : Int64)), .second, .unset, .unset, .unset, .unset] [(.long (16000000 : Int64))])) rfl (hb hby at_104) _ ?_
    show Steps p.tables e below (T10.setTop (mkF m 107 #[.val (.int p1), .val (.ref b2), .val (.long (1000000 : Int64)), .second, .val (.long (2000000 : Int64)), .second, .val (.long (4000000 : Int64)), .second, .val (.long (8000000 : Int64)), .second, .val (.long (16000000 : Int64)), .second, .val (.long (16000000 : Int64)), .second, .val (.long (16000000 : Int64)), .second, .unset, .unset, .unset, .unset] [(.long (16000000 : Int64)), (.long (16000000 : Int64))])) _
    refine XS.lcmp X10.here hx rfl (hb hby at_107) rfl ?_
    show Steps p.tables e below (T10.setTop (mkF m 108 #[.val (.int p1), .val (.ref b2), .val (.long (1000000 : Int64)), .second, .val (.long (2000000 : Int64)), .second, .val (.long (4000000 : Int64)), .second, .val (.long (8000000 : Int64)), .second, .val (.long (16000000 : Int64)), .second, .val (.long (16000000 : Int64)), .second, .val (.long (16000000 : Int64)), .second, .unset, .unset, .unset, .unset] [(.int (lcmpW (16000000 : Int64) (16000000 : Int64)))])) _
    refine XS.ifNo X10.here hx rfl (hb hby at_108) rfl ((if0 _ _).trans (teq hc108).2) ?_
    show Steps p.tables e below (T10.setTop (mkF m 111 #[.val (.int p1), .val (.ref b2), .val (.long (1000000 : Int64)), .second, .val (.long (2000000 : Int64)), .second, .val (.long (4000000 : Int64)), .second, .val (.long (8000000 : Int64)), .second, .val (.long (16000000 : Int64)), .second, .val (.long (16000000 : Int64)), .second, .val (.long (16000000 : Int64)), .second, .unset, .unset, .unset, .unset] [])) _
    refine XS.iconst X10.here hx rfl (hb hby at_111) ?_
    show Steps p.tables e below (T10.setTop (mkF m 112 #[.val (.int p1), .val (.ref b2), .val (.long (1000000 : Int64)), .second, .val (.long (2000000 : Int64)), .second, .val (.long (4000000 : Int64)), .second, .val (.long (8000000 : Int64)), .second, .val (.long (16000000 : Int64)), .second, .val (.long (16000000 : Int64)), .second, .val (.long (16000000 : Int64)), .second, .unset, .unset, .unset, .unset] [(.int (1 : Int32))])) _
    refine XS.goto X10.here hx rfl (pc0 := 112) (pc' := 116) rfl (hb hby at_112) (by decide) (by decide) ?_
    show Steps p.tables e below (T10.setTop (mkF m 116 #[.val (.int p1), .val (.ref b2), .val (.long (1000000 : Int64)), .second, .val (.long (2000000 : Int64)), .second, .val (.long (4000000 : Int64)), .second, .val (.long (8000000 : Int64)), .second, .val (.long (16000000 : Int64)), .second, .val (.long (16000000 : Int64)), .second, .val (.long (16000000 : Int64)), .second, .unset, .unset, .unset, .unset] [(.int (1 : Int32))])) _
    refine XS.istore X10.here hx rfl (hb hby at_116) rfl (l' := #[.val (.int p1), .val (.ref b2), .val (.long (1000000 : Int64)), .second, .val (.long (2000000 : Int64)), .second, .val (.long (4000000 : Int64)), .second, .val (.long (8000000 : Int64)), .second, .val (.long (16000000 : Int64)), .second, .val (.long (16000000 : Int64)), .second, .val (.long (16000000 : Int64)), .second, .val (.int (1 : Int32)), .unset, .unset, .unset]) rfl ?_
    show Steps p.tables e below (T10.setTop (mkF m 118 #[.val (.int p1), .val (.ref b2), .val (.long (1000000 : Int64)), .second, .val (.long (2000000 : Int64)), .second, .val (.long (4000000 : Int64)), .second, .val (.long (8000000 : Int64)), .second, .val (.long (16000000 : Int64)), .second, .val (.long (16000000 : Int64)), .second, .val (.long (16000000 : Int64)), .second, .val (.int (1 : Int32)), .unset, .unset, .unset] [])) _
    refine XS.iloadN X10.here hx rfl (hb hby at_118) rfl ?_
    show Steps p.tables e below (T10.setTop (mkF m 119 #[.val (.int p1), .val (.ref b2), .val (.long (1000000 : Int64)), .second, .val (.long (2000000 : Int64)), .second, .val (.long (4000000 : Int64)), .second, .val (.long (8000000 : Int64)), .second, .val (.long (16000000 : Int64)), .second, .val (.long (16000000 : Int64)), .second, .val (.long (16000000 : Int64)), .second, .val (.int (1 : Int32)), .unset, .unset, .unset] [(.int p1)])) _
    refine XS.iconst X10.here hx rfl (hb hby at_119) ?_
    show Steps p.tables e below (T10.setTop (mkF m 120 #[.val (.int p1), .val (.ref b2), .val (.long (1000000 : Int64)), .second, .val (.long (2000000 : Int64)), .second, .val (.long (4000000 : Int64)), .second, .val (.long (8000000 : Int64)), .second, .val (.long (16000000 : Int64)), .second, .val (.long (16000000 : Int64)), .second, .val (.long (16000000 : Int64)), .second, .val (.int (1 : Int32)), .unset, .unset, .unset] [(.int (1 : Int32)), (.int p1)])) _
    refine XS.iand X10.here hx rfl (hb hby at_120) rfl ?_
    show Steps p.tables e below (T10.setTop (mkF m 121 #[.val (.int p1), .val (.ref b2), .val (.long (1000000 : Int64)), .second, .val (.long (2000000 : Int64)), .second, .val (.long (4000000 : Int64)), .second, .val (.long (8000000 : Int64)), .second, .val (.long (16000000 : Int64)), .second, .val (.long (16000000 : Int64)), .second, .val (.long (16000000 : Int64)), .second, .val (.int (1 : Int32)), .unset, .unset, .unset] [(.int (p1 &&& (1 : Int32)))])) _
    refine XS.ifYes X10.here hx rfl (pc0 := 121) (pc' := 161) rfl (hb hby at_121) rfl ((if0 _ _).trans (teq hc121).1) (by decide) (by decide) ?_
    show Steps p.tables e below (T10.setTop (mkF m 161 #[.val (.int p1), .val (.ref b2), .val (.long (1000000 : Int64)), .second, .val (.long (2000000 : Int64)), .second, .val (.long (4000000 : Int64)), .second, .val (.long (8000000 : Int64)), .second, .val (.long (16000000 : Int64)), .second, .val (.long (16000000 : Int64)), .second, .val (.long (16000000 : Int64)), .second, .val (.int (1 : Int32)), .unset, .unset, .unset] [])) _
    refine XS.iload X10.here hx rfl (hb hby at_161) rfl ?_
    show Steps p.tables e below (T10.setTop (mkF m 163 #[.val (.int p1), .val (.ref b2), .val (.long (1000000 : Int64)), .second, .val (.long (2000000 : Int64)), .second, .val (.long (4000000 : Int64)), .second, .val (.long (8000000 : Int64)), .second, .val (.long (16000000 : Int64)), .second, .val (.long (16000000 : Int64)), .second, .val (.long (16000000 : Int64)), .second, .val (.int (1 : Int32)), .unset, .unset, .unset] [(.int (1 : Int32))])) _
    exact retN X10 hx (t := .boolean) Bd.returns (by simp) (hb hby at_163) hr
  · show Q0 Z p1 h0 n0 _ T10.heap _
    exact ⟨rfl, N10⟩
set_option maxRecDepth 65536 in
set_option maxHeartbeats 40000000 in
theorem rm0B (l : Launch) (Z : State) (a0 : Array Value) (hw : ∀ d ∈ tables_1, d.before a0 Z = true) (ws : List Jvm.Cond) (p1 : Int32) (h0 : Heap) (n0 : Nat) (Z0 : n0 ≤ h0.size) (O0 : Old Z n0 h0) (S_FIRST : Sta Z Z.heap "com/example/calm_exit/calmexit/Pauses" "FIRST_NANOS" "J" (.long (1000000 : Int64))) (S_LAST : Sta Z Z.heap "com/example/calm_exit/calmexit/Pauses" "LAST_NANOS" "J" (.long (16000000 : Int64))) (hc54 : (lcmpW (1000000 : Int64) (1000000 : Int64)) = (0 : Int32)) (hc63 : (lcmpW (2000000 : Int64) (2000000 : Int64)) = (0 : Int32)) (hc72 : (lcmpW (4000000 : Int64) (4000000 : Int64)) = (0 : Int32)) (hc81 : (lcmpW (8000000 : Int64) (8000000 : Int64)) = (0 : Int32)) (hc90 : (lcmpW (16000000 : Int64) (16000000 : Int64)) = (0 : Int32)) (hc99 : (lcmpW (16000000 : Int64) (16000000 : Int64)) = (0 : Int32)) (hc108 : (lcmpW (16000000 : Int64) (16000000 : Int64)) = (0 : Int32)) (hc121 : ¬ ((p1 &&& (1 : Int32)) = (0 : Int32))) (hc142 : ¬ ((1 : Int32) = (0 : Int32))) (hc151 : (lcmpW (1000000 : Int64) (1000000 : Int64)) = (0 : Int32)) :
    MetFree l x (head1 (Jvm.Cond.code x code maxLocals ret :: ws) room_1) (fun a U => a = #[(.int p1)] ∧ Z.Warmed39 U.vm ∧ U.heap = h0) (fun _ _ _ _ _ => True) (fun _ U o U' => ∃ v L, o = .returned v ∧ Q0 Z p1 h0 n0 v U'.heap L ∧ FrameEnd U o U' L room_1.cells room_1.slots) := by
  refine MetFree.of_bodySF (plainFor_of_name pn_0) hisR ?_
  intro p e s m args below meth c s₁ Bd hml0 hP hK
  obtain ⟨rfl, hZ, hh⟩ := hP
  have hx := Bd.exec
  have hby := Bd.bytes
  have hml : c.maxLocals = 20 := hml0
  have hown : s.vm.findClass "com/example/calm_exit/calmexit/PausesNextPinLaw" = some m.cls := findClass_of_methodNamed Bd.named
  have hnm := (name_of_methodNamed Bd.named Bd.method).1
  have X0 : Stand p l e room_1 s m #[(.int p1)] below meth c s₁ [] 0 0 := Stand.of_body Bd
  have e0 : s₁.heap = h0 := by rw [← hh, Bd.state]; rfl
  have N0 := Fr.nil n0
  have pre0 : ∀ t, Steps p.tables e below (s₁.setTop (mkF m 0 #[.val (.int p1), .unset, .unset, .unset, .unset, .unset, .unset, .unset, .unset, .unset, .unset, .unset, .unset, .unset, .unset, .unset, .unset, .unset, .unset, .unset] [])) t → Steps p.tables e below (s₁.setTop (entryFrame m #[(.int p1)] maxLocals)) t := fun t k => castTop (ef_0 m p1) k
  obtain ⟨T2, h2, X2, e2, E2, A2, D2, -, st2⟩ := newO X0 hx hZ hown (hw _ (List.mem_of_getElem? (i := 0) rfl)) (hw _ (List.mem_of_getElem? (i := 1) rfl)) (hw _ (List.mem_of_getElem? (i := 2) rfl)) e0 (g := (mkF m 0 #[.val (.int p1), .unset, .unset, .unset, .unset, .unset, .unset, .unset, .unset, .unset, .unset, .unset, .unset, .unset, .unset, .unset, .unset, .unset, .unset, .unset] [])) rfl (hb hby at_0) (by decide) (by decide)
  obtain ⟨b2, g2⟩ : ∃ z, z = h0.size := ⟨_, rfl⟩
  rw [← g2] at A2 D2 st2
  have F_next_b2 : Fld Z h2 b2 "com/example/calm_exit/calmexit/Pauses" "next" "J" (.long (0 : Int64)) := D2 (Or.inl (hw _ (List.mem_of_getElem? (i := 12) rfl))) (ty := .long) (by decide)
  have E_b2 := A2
  have g_b2 : n0 ≤ b2 := Nat.le_trans Z0 (Nat.le_of_eq g2.symm)
  have sz_b2 : h0.size ≤ b2 := (Nat.le_trans (Keep.refl h0 []).1 (Nat.le_of_eq g2.symm))
  have K2 : Keep h0 h2 [] := (Keep.refl h0 []).ext E2
  obtain ⟨_, _, ⟨T3, L3, k3, n3⟩, -, X3, ⟨Lc3, hQ3, l3, y3, z3⟩, st3⟩ := X2.specialBack hx (y := (⟨"com/example/calm_exit/calmexit/Pauses", "<init>", "()V"⟩ : MethodName)) rfl hown (mvT hZ (hw _ (List.mem_of_getElem? (i := 3) rfl))) (mvT hZ (hw _ (List.mem_of_getElem? (i := 4) rfl))) (mvT hZ (hw _ (List.mem_of_getElem? (i := 5) rfl))) (by decide) (backOf (W := 1) (rm1 l Z a0 hw [] b2 (1000000 : Int64) _ h2 n0 (Nat.le_trans Z0 E2.1) (O0.ext E2) S_FIRST E_b2 F_next_b2 g_b2) hZ (hw _ (List.mem_of_getElem? (i := 5) rfl)) (hw _ (List.mem_of_getElem? (i := 2) rfl)) (by decide) (by decide)) (g := (mkF m 4 #[.val (.int p1), .unset, .unset, .unset, .unset, .unset, .unset, .unset, .unset, .unset, .unset, .unset, .unset, .unset, .unset, .unset, .unset, .unset, .unset, .unset] [(.ref b2), (.ref b2)])) rfl (by rw [hml]; rfl) (Steps.refl _) (a := b2) (argsL := []) (rest := [(.ref b2)]) (lenOf pd_0_0 rfl) rfl (by show 2 * 0 + _ ≤ _; exact Nat.le_of_eq rfl) (hb hby at_4) (fun _ _ => ⟨rfl, e2, (by decide : 1 + 0 ≤ _), (by decide : 1 + 0 ≤ _)⟩)
  dsimp only [Pt.U, Pt.locs, Pt.cells, Pt.slots] at X3 l3 y3 z3 st3 hQ3
  subst l3 y3 z3
  obtain ⟨rfl, N3q, K3c, E3c, F3c⟩ := hQ3
  have N3 := Fr.app N0 N3q
  have K3 : Keep h0 T3.heap [] := K2.trans K3c (allS (Or.inr sz_b2) all0)
  obtain ⟨cq4, kq4, q4a, q4b, q4c⟩ := isOf hZ rfl E3c
  obtain ⟨_, _, ⟨T4, L4, k4, n4⟩, -, X4, ⟨Lc4, hQ4, l4, y4, z4⟩, st4⟩ := X3.virtualBack hx (y := (⟨"com/example/calm_exit/calmexit/Pauses", "next", "()J"⟩ : MethodName)) (z := (⟨"com/example/calm_exit/calmexit/Pauses", "next", "()J"⟩ : MethodName)) hown (mvT hZ (hw _ (List.mem_of_getElem? (i := 13) rfl))) (mvT hZ (hw _ (List.mem_of_getElem? (i := 14) rfl))) (notFace_of_selects (args := #[]) (mvT hZ (hw _ (List.mem_of_getElem? (i := 16) rfl)))) (mvT hZ (hw _ (List.mem_of_getElem? (i := 16) rfl))) (mvT hZ (hw _ (List.mem_of_getElem? (i := 15) rfl))) (by decide) (backOf (W := 0) (rm3A l Z a0 hw [] b2 (1000000 : Int64) (16000000 : Int64) T3.heap n0 (Nat.le_trans (Nat.le_trans Z0 E2.1) K3c.1) F3c ((O0.ext E2).keep K3c (allS g_b2 all0)) S_LAST E3c g_b2 (by decide)) hZ (hw _ (List.mem_of_getElem? (i := 17) rfl)) (hw _ (List.mem_of_getElem? (i := 2) rfl)) (by decide) (by decide)) q4a q4c (g := (mkF m 9 #[.val (.int p1), .val (.ref b2), .unset, .unset, .unset, .unset, .unset, .unset, .unset, .unset, .unset, .unset, .unset, .unset, .unset, .unset, .unset, .unset, .unset, .unset] [(.ref b2)])) rfl (by rw [hml]; rfl) (Steps.refl _) (argsL := []) (rest := []) (lenOf pd_0_1 rfl) rfl (by show 2 * 0 + _ ≤ _; exact Nat.le_of_eq rfl) (hb hby at_9) (fun _ _ => ⟨rfl, rfl, (by decide : 1 + 0 ≤ _), (by decide : 1 + 0 ≤ _)⟩)
  dsimp only [Pt.U, Pt.locs, Pt.cells, Pt.slots] at X4 l4 y4 z4 st4 hQ4
  subst l4 y4 z4
  obtain ⟨rfl, N4q, K4c, E4c, F4c⟩ := hQ4
  have N4 := Fr.app N3 N4q
  have K4 : Keep h0 T4.heap [] := K3.trans K4c (allS (Or.inr sz_b2) all0)
  have F4d : Fld Z T4.heap b2 "com/example/calm_exit/calmexit/Pauses" "next" "J" (.long (2000000 : Int64)) := by have q := F4c; rwa [(by decide : ((2 : Int64) * (1000000 : Int64)) = (2000000 : Int64))] at q
  obtain ⟨cq5, kq5, q5a, q5b, q5c⟩ := isOf hZ rfl E4c
  obtain ⟨_, _, ⟨T5, L5, k5, n5⟩, -, X5, ⟨Lc5, hQ5, l5, y5, z5⟩, st5⟩ := X4.virtualBack hx (y := (⟨"com/example/calm_exit/calmexit/Pauses", "next", "()J"⟩ : MethodName)) (z := (⟨"com/example/calm_exit/calmexit/Pauses", "next", "()J"⟩ : MethodName)) hown (mvT hZ (hw _ (List.mem_of_getElem? (i := 13) rfl))) (mvT hZ (hw _ (List.mem_of_getElem? (i := 14) rfl))) (notFace_of_selects (args := #[]) (mvT hZ (hw _ (List.mem_of_getElem? (i := 16) rfl)))) (mvT hZ (hw _ (List.mem_of_getElem? (i := 16) rfl))) (mvT hZ (hw _ (List.mem_of_getElem? (i := 15) rfl))) (by decide) (backOf (W := 0) (rm3A l Z a0 hw [] b2 (2000000 : Int64) (16000000 : Int64) T4.heap n0 (Nat.le_trans (Nat.le_trans (Nat.le_trans Z0 E2.1) K3c.1) K4c.1) F4d (((O0.ext E2).keep K3c (allS g_b2 all0)).keep K4c (allS g_b2 all0)) S_LAST E4c g_b2 (by decide)) hZ (hw _ (List.mem_of_getElem? (i := 17) rfl)) (hw _ (List.mem_of_getElem? (i := 2) rfl)) (by decide) (by decide)) q5a q5c (g := (mkF m 14 #[.val (.int p1), .val (.ref b2), .val (.long (1000000 : Int64)), .second, .unset, .unset, .unset, .unset, .unset, .unset, .unset, .unset, .unset, .unset, .unset, .unset, .unset, .unset, .unset, .unset] [(.ref b2)])) rfl (by rw [hml]; rfl) (Steps.refl _) (argsL := []) (rest := []) (lenOf pd_0_1 rfl) rfl (by show 2 * 0 + _ ≤ _; exact Nat.le_of_eq rfl) (hb hby at_14) (fun _ _ => ⟨rfl, rfl, (by decide : 1 + 0 ≤ _), (by decide : 1 + 0 ≤ _)⟩)
  dsimp only [Pt.U, Pt.locs, Pt.cells, Pt.slots] at X5 l5 y5 z5 st5 hQ5
  subst l5 y5 z5
  obtain ⟨rfl, N5q, K5c, E5c, F5c⟩ := hQ5
  have N5 := Fr.app N4 N5q
  have K5 : Keep h0 T5.heap [] := K4.trans K5c (allS (Or.inr sz_b2) all0)
  have F5d : Fld Z T5.heap b2 "com/example/calm_exit/calmexit/Pauses" "next" "J" (.long (4000000 : Int64)) := by have q := F5c; rwa [(by decide : ((2 : Int64) * (2000000 : Int64)) = (4000000 : Int64))] at q
  obtain ⟨cq6, kq6, q6a, q6b, q6c⟩ := isOf hZ rfl E5c
  obtain ⟨_, _, ⟨T6, L6, k6, n6⟩, -, X6, ⟨Lc6, hQ6, l6, y6, z6⟩, st6⟩ := X5.virtualBack hx (y := (⟨"com/example/calm_exit/calmexit/Pauses", "next", "()J"⟩ : MethodName)) (z := (⟨"com/example/calm_exit/calmexit/Pauses", "next", "()J"⟩ : MethodName)) hown (mvT hZ (hw _ (List.mem_of_getElem? (i := 13) rfl))) (mvT hZ (hw _ (List.mem_of_getElem? (i := 14) rfl))) (notFace_of_selects (args := #[]) (mvT hZ (hw _ (List.mem_of_getElem? (i := 16) rfl)))) (mvT hZ (hw _ (List.mem_of_getElem? (i := 16) rfl))) (mvT hZ (hw _ (List.mem_of_getElem? (i := 15) rfl))) (by decide) (backOf (W := 0) (rm3A l Z a0 hw [] b2 (4000000 : Int64) (16000000 : Int64) T5.heap n0 (Nat.le_trans (Nat.le_trans (Nat.le_trans (Nat.le_trans Z0 E2.1) K3c.1) K4c.1) K5c.1) F5d ((((O0.ext E2).keep K3c (allS g_b2 all0)).keep K4c (allS g_b2 all0)).keep K5c (allS g_b2 all0)) S_LAST E5c g_b2 (by decide)) hZ (hw _ (List.mem_of_getElem? (i := 17) rfl)) (hw _ (List.mem_of_getElem? (i := 2) rfl)) (by decide) (by decide)) q6a q6c (g := (mkF m 20 #[.val (.int p1), .val (.ref b2), .val (.long (1000000 : Int64)), .second, .val (.long (2000000 : Int64)), .second, .unset, .unset, .unset, .unset, .unset, .unset, .unset, .unset, .unset, .unset, .unset, .unset, .unset, .unset] [(.ref b2)])) rfl (by rw [hml]; rfl) (Steps.refl _) (argsL := []) (rest := []) (lenOf pd_0_1 rfl) rfl (by show 2 * 0 + _ ≤ _; exact Nat.le_of_eq rfl) (hb hby at_20) (fun _ _ => ⟨rfl, rfl, (by decide : 1 + 0 ≤ _), (by decide : 1 + 0 ≤ _)⟩)
  dsimp only [Pt.U, Pt.locs, Pt.cells, Pt.slots] at X6 l6 y6 z6 st6 hQ6
  subst l6 y6 z6
  obtain ⟨rfl, N6q, K6c, E6c, F6c⟩ := hQ6
  have N6 := Fr.app N5 N6q
  have K6 : Keep h0 T6.heap [] := K5.trans K6c (allS (Or.inr sz_b2) all0)
  have F6d : Fld Z T6.heap b2 "com/example/calm_exit/calmexit/Pauses" "next" "J" (.long (8000000 : Int64)) := by have q := F6c; rwa [(by decide : ((2 : Int64) * (4000000 : Int64)) = (8000000 : Int64))] at q
  obtain ⟨cq7, kq7, q7a, q7b, q7c⟩ := isOf hZ rfl E6c
  obtain ⟨_, _, ⟨T7, L7, k7, n7⟩, -, X7, ⟨Lc7, hQ7, l7, y7, z7⟩, st7⟩ := X6.virtualBack hx (y := (⟨"com/example/calm_exit/calmexit/Pauses", "next", "()J"⟩ : MethodName)) (z := (⟨"com/example/calm_exit/calmexit/Pauses", "next", "()J"⟩ : MethodName)) hown (mvT hZ (hw _ (List.mem_of_getElem? (i := 13) rfl))) (mvT hZ (hw _ (List.mem_of_getElem? (i := 14) rfl))) (notFace_of_selects (args := #[]) (mvT hZ (hw _ (List.mem_of_getElem? (i := 16) rfl)))) (mvT hZ (hw _ (List.mem_of_getElem? (i := 16) rfl))) (mvT hZ (hw _ (List.mem_of_getElem? (i := 15) rfl))) (by decide) (backOf (W := 0) (rm3A l Z a0 hw [] b2 (8000000 : Int64) (16000000 : Int64) T6.heap n0 (Nat.le_trans (Nat.le_trans (Nat.le_trans (Nat.le_trans (Nat.le_trans Z0 E2.1) K3c.1) K4c.1) K5c.1) K6c.1) F6d (((((O0.ext E2).keep K3c (allS g_b2 all0)).keep K4c (allS g_b2 all0)).keep K5c (allS g_b2 all0)).keep K6c (allS g_b2 all0)) S_LAST E6c g_b2 (by decide)) hZ (hw _ (List.mem_of_getElem? (i := 17) rfl)) (hw _ (List.mem_of_getElem? (i := 2) rfl)) (by decide) (by decide)) q7a q7c (g := (mkF m 26 #[.val (.int p1), .val (.ref b2), .val (.long (1000000 : Int64)), .second, .val (.long (2000000 : Int64)), .second, .val (.long (4000000 : Int64)), .second, .unset, .unset, .unset, .unset, .unset, .unset, .unset, .unset, .unset, .unset, .unset, .unset] [(.ref b2)])) rfl (by rw [hml]; rfl) (Steps.refl _) (argsL := []) (rest := []) (lenOf pd_0_1 rfl) rfl (by show 2 * 0 + _ ≤ _; exact Nat.le_of_eq rfl) (hb hby at_26) (fun _ _ => ⟨rfl, rfl, (by decide : 1 + 0 ≤ _), (by decide : 1 + 0 ≤ _)⟩)
  dsimp only [Pt.U, Pt.locs, Pt.cells, Pt.slots] at X7 l7 y7 z7 st7 hQ7
  subst l7 y7 z7
  obtain ⟨rfl, N7q, K7c, E7c, F7c⟩ := hQ7
  have N7 := Fr.app N6 N7q
  have K7 : Keep h0 T7.heap [] := K6.trans K7c (allS (Or.inr sz_b2) all0)
  have F7d : Fld Z T7.heap b2 "com/example/calm_exit/calmexit/Pauses" "next" "J" (.long (16000000 : Int64)) := by have q := F7c; rwa [(by decide : ((2 : Int64) * (8000000 : Int64)) = (16000000 : Int64))] at q
  obtain ⟨cq8, kq8, q8a, q8b, q8c⟩ := isOf hZ rfl E7c
  obtain ⟨_, _, ⟨T8, L8, k8, n8⟩, -, X8, ⟨Lc8, hQ8, l8, y8, z8⟩, st8⟩ := X7.virtualBack hx (y := (⟨"com/example/calm_exit/calmexit/Pauses", "next", "()J"⟩ : MethodName)) (z := (⟨"com/example/calm_exit/calmexit/Pauses", "next", "()J"⟩ : MethodName)) hown (mvT hZ (hw _ (List.mem_of_getElem? (i := 13) rfl))) (mvT hZ (hw _ (List.mem_of_getElem? (i := 14) rfl))) (notFace_of_selects (args := #[]) (mvT hZ (hw _ (List.mem_of_getElem? (i := 16) rfl)))) (mvT hZ (hw _ (List.mem_of_getElem? (i := 16) rfl))) (mvT hZ (hw _ (List.mem_of_getElem? (i := 15) rfl))) (by decide) (backOf (W := 0) (rm3B l Z a0 hw [] b2 (16000000 : Int64) (16000000 : Int64) T7.heap n0 (Nat.le_trans (Nat.le_trans (Nat.le_trans (Nat.le_trans (Nat.le_trans (Nat.le_trans Z0 E2.1) K3c.1) K4c.1) K5c.1) K6c.1) K7c.1) F7d ((((((O0.ext E2).keep K3c (allS g_b2 all0)).keep K4c (allS g_b2 all0)).keep K5c (allS g_b2 all0)).keep K6c (allS g_b2 all0)).keep K7c (allS g_b2 all0)) S_LAST E7c g_b2 (by decide)) hZ (hw _ (List.mem_of_getElem? (i := 17) rfl)) (hw _ (List.mem_of_getElem? (i := 2) rfl)) (by decide) (by decide)) q8a q8c (g := (mkF m 32 #[.val (.int p1), .val (.ref b2), .val (.long (1000000 : Int64)), .second, .val (.long (2000000 : Int64)), .second, .val (.long (4000000 : Int64)), .second, .val (.long (8000000 : Int64)), .second, .unset, .unset, .unset, .unset, .unset, .unset, .unset, .unset, .unset, .unset] [(.ref b2)])) rfl (by rw [hml]; rfl) (Steps.refl _) (argsL := []) (rest := []) (lenOf pd_0_1 rfl) rfl (by show 2 * 0 + _ ≤ _; exact Nat.le_of_eq rfl) (hb hby at_32) (fun _ _ => ⟨rfl, rfl, (by decide : 1 + 0 ≤ _), (by decide : 1 + 0 ≤ _)⟩)
  dsimp only [Pt.U, Pt.locs, Pt.cells, Pt.slots] at X8 l8 y8 z8 st8 hQ8
  subst l8 y8 z8
  obtain ⟨rfl, N8q, K8c, E8c, F8c⟩ := hQ8
  have N8 := Fr.app N7 N8q
  have K8 : Keep h0 T8.heap [] := K7.trans K8c (allS (Or.inr sz_b2) all0)
  have F8d : Fld Z T8.heap b2 "com/example/calm_exit/calmexit/Pauses" "next" "J" (.long (16000000 : Int64)) := F8c
  obtain ⟨cq9, kq9, q9a, q9b, q9c⟩ := isOf hZ rfl E8c
  obtain ⟨_, _, ⟨T9, L9, k9, n9⟩, -, X9, ⟨Lc9, hQ9, l9, y9, z9⟩, st9⟩ := X8.virtualBack hx (y := (⟨"com/example/calm_exit/calmexit/Pauses", "next", "()J"⟩ : MethodName)) (z := (⟨"com/example/calm_exit/calmexit/Pauses", "next", "()J"⟩ : MethodName)) hown (mvT hZ (hw _ (List.mem_of_getElem? (i := 13) rfl))) (mvT hZ (hw _ (List.mem_of_getElem? (i := 14) rfl))) (notFace_of_selects (args := #[]) (mvT hZ (hw _ (List.mem_of_getElem? (i := 16) rfl)))) (mvT hZ (hw _ (List.mem_of_getElem? (i := 16) rfl))) (mvT hZ (hw _ (List.mem_of_getElem? (i := 15) rfl))) (by decide) (backOf (W := 0) (rm3B l Z a0 hw [] b2 (16000000 : Int64) (16000000 : Int64) T8.heap n0 (Nat.le_trans (Nat.le_trans (Nat.le_trans (Nat.le_trans (Nat.le_trans (Nat.le_trans (Nat.le_trans Z0 E2.1) K3c.1) K4c.1) K5c.1) K6c.1) K7c.1) K8c.1) F8d (((((((O0.ext E2).keep K3c (allS g_b2 all0)).keep K4c (allS g_b2 all0)).keep K5c (allS g_b2 all0)).keep K6c (allS g_b2 all0)).keep K7c (allS g_b2 all0)).keep K8c (allS g_b2 all0)) S_LAST E8c g_b2 (by decide)) hZ (hw _ (List.mem_of_getElem? (i := 17) rfl)) (hw _ (List.mem_of_getElem? (i := 2) rfl)) (by decide) (by decide)) q9a q9c (g := (mkF m 38 #[.val (.int p1), .val (.ref b2), .val (.long (1000000 : Int64)), .second, .val (.long (2000000 : Int64)), .second, .val (.long (4000000 : Int64)), .second, .val (.long (8000000 : Int64)), .second, .val (.long (16000000 : Int64)), .second, .unset, .unset, .unset, .unset, .unset, .unset, .unset, .unset] [(.ref b2)])) rfl (by rw [hml]; rfl) (Steps.refl _) (argsL := []) (rest := []) (lenOf pd_0_1 rfl) rfl (by show 2 * 0 + _ ≤ _; exact Nat.le_of_eq rfl) (hb hby at_38) (fun _ _ => ⟨rfl, rfl, (by decide : 1 + 0 ≤ _), (by decide : 1 + 0 ≤ _)⟩)
  dsimp only [Pt.U, Pt.locs, Pt.cells, Pt.slots] at X9 l9 y9 z9 st9 hQ9
  subst l9 y9 z9
  obtain ⟨rfl, N9q, K9c, E9c, F9c⟩ := hQ9
  have N9 := Fr.app N8 N9q
  have K9 : Keep h0 T9.heap [] := K8.trans K9c (allS (Or.inr sz_b2) all0)
  have F9d : Fld Z T9.heap b2 "com/example/calm_exit/calmexit/Pauses" "next" "J" (.long (16000000 : Int64)) := F9c
  obtain ⟨cq10, kq10, q10a, q10b, q10c⟩ := isOf hZ rfl E9c
  obtain ⟨_, _, ⟨T10, L10, k10, n10⟩, -, X10, ⟨Lc10, hQ10, l10, y10, z10⟩, st10⟩ := X9.virtualBack hx (y := (⟨"com/example/calm_exit/calmexit/Pauses", "next", "()J"⟩ : MethodName)) (z := (⟨"com/example/calm_exit/calmexit/Pauses", "next", "()J"⟩ : MethodName)) hown (mvT hZ (hw _ (List.mem_of_getElem? (i := 13) rfl))) (mvT hZ (hw _ (List.mem_of_getElem? (i := 14) rfl))) (notFace_of_selects (args := #[]) (mvT hZ (hw _ (List.mem_of_getElem? (i := 16) rfl)))) (mvT hZ (hw _ (List.mem_of_getElem? (i := 16) rfl))) (mvT hZ (hw _ (List.mem_of_getElem? (i := 15) rfl))) (by decide) (backOf (W := 0) (rm3B l Z a0 hw [] b2 (16000000 : Int64) (16000000 : Int64) T9.heap n0 (Nat.le_trans (Nat.le_trans (Nat.le_trans (Nat.le_trans (Nat.le_trans (Nat.le_trans (Nat.le_trans (Nat.le_trans Z0 E2.1) K3c.1) K4c.1) K5c.1) K6c.1) K7c.1) K8c.1) K9c.1) F9d ((((((((O0.ext E2).keep K3c (allS g_b2 all0)).keep K4c (allS g_b2 all0)).keep K5c (allS g_b2 all0)).keep K6c (allS g_b2 all0)).keep K7c (allS g_b2 all0)).keep K8c (allS g_b2 all0)).keep K9c (allS g_b2 all0)) S_LAST E9c g_b2 (by decide)) hZ (hw _ (List.mem_of_getElem? (i := 17) rfl)) (hw _ (List.mem_of_getElem? (i := 2) rfl)) (by decide) (by decide)) q10a q10c (g := (mkF m 44 #[.val (.int p1), .val (.ref b2), .val (.long (1000000 : Int64)), .second, .val (.long (2000000 : Int64)), .second, .val (.long (4000000 : Int64)), .second, .val (.long (8000000 : Int64)), .second, .val (.long (16000000 : Int64)), .second, .val (.long (16000000 : Int64)), .second, .unset, .unset, .unset, .unset, .unset, .unset] [(.ref b2)])) rfl (by rw [hml]; rfl) (Steps.refl _) (argsL := []) (rest := []) (lenOf pd_0_1 rfl) rfl (by show 2 * 0 + _ ≤ _; exact Nat.le_of_eq rfl) (hb hby at_44) (fun _ _ => ⟨rfl, rfl, (by decide : 1 + 0 ≤ _), (by decide : 1 + 0 ≤ _)⟩)
  dsimp only [Pt.U, Pt.locs, Pt.cells, Pt.slots] at X10 l10 y10 z10 st10 hQ10
  subst l10 y10 z10
  obtain ⟨rfl, N10q, K10c, E10c, F10c⟩ := hQ10
  have N10 := Fr.app N9 N10q
  have K10 : Keep h0 T10.heap [] := K9.trans K10c (allS (Or.inr sz_b2) all0)
  have F10d : Fld Z T10.heap b2 "com/example/calm_exit/calmexit/Pauses" "next" "J" (.long (16000000 : Int64)) := F10c
  obtain ⟨T11, h11, X11, e11, E11, A11, D11, -, st11⟩ := newO X10 hx hZ hown (hw _ (List.mem_of_getElem? (i := 0) rfl)) (hw _ (List.mem_of_getElem? (i := 1) rfl)) (hw _ (List.mem_of_getElem? (i := 2) rfl)) rfl (g := (mkF m 124 #[.val (.int p1), .val (.ref b2), .val (.long (1000000 : Int64)), .second, .val (.long (2000000 : Int64)), .second, .val (.long (4000000 : Int64)), .second, .val (.long (8000000 : Int64)), .second, .val (.long (16000000 : Int64)), .second, .val (.long (16000000 : Int64)), .second, .val (.long (16000000 : Int64)), .second, .val (.int (1 : Int32)), .unset, .unset, .unset] [])) rfl (hb hby at_124) (by decide) (by decide)
  obtain ⟨b11, g11⟩ : ∃ z, z = T10.heap.size := ⟨_, rfl⟩
  rw [← g11] at A11 D11 st11
  have F_next_b11 : Fld Z h11 b11 "com/example/calm_exit/calmexit/Pauses" "next" "J" (.long (0 : Int64)) := D11 (Or.inl (hw _ (List.mem_of_getElem? (i := 12) rfl))) (ty := .long) (by decide)
  have E_b11 := A11
  have g_b11 : n0 ≤ b11 := Nat.le_trans (Nat.le_trans (Nat.le_trans (Nat.le_trans (Nat.le_trans (Nat.le_trans (Nat.le_trans (Nat.le_trans (Nat.le_trans (Nat.le_trans Z0 E2.1) K3c.1) K4c.1) K5c.1) K6c.1) K7c.1) K8c.1) K9c.1) K10c.1) (Nat.le_of_eq g11.symm)
  have sz_b11 : h0.size ≤ b11 := (Nat.le_trans K10.1 (Nat.le_of_eq g11.symm))
  have K11 : Keep h0 h11 [] := K10.ext E11
  obtain ⟨_, _, ⟨T12, L12, k12, n12⟩, -, X12, ⟨Lc12, hQ12, l12, y12, z12⟩, st12⟩ := X11.specialBack hx (y := (⟨"com/example/calm_exit/calmexit/Pauses", "<init>", "()V"⟩ : MethodName)) rfl hown (mvT hZ (hw _ (List.mem_of_getElem? (i := 3) rfl))) (mvT hZ (hw _ (List.mem_of_getElem? (i := 4) rfl))) (mvT hZ (hw _ (List.mem_of_getElem? (i := 5) rfl))) (by decide) (backOf (W := 1) (rm1 l Z a0 hw [] b11 (1000000 : Int64) _ h11 n0 (Nat.le_trans (Nat.le_trans (Nat.le_trans (Nat.le_trans (Nat.le_trans (Nat.le_trans (Nat.le_trans (Nat.le_trans (Nat.le_trans (Nat.le_trans Z0 E2.1) K3c.1) K4c.1) K5c.1) K6c.1) K7c.1) K8c.1) K9c.1) K10c.1) E11.1) ((((((((((O0.ext E2).keep K3c (allS g_b2 all0)).keep K4c (allS g_b2 all0)).keep K5c (allS g_b2 all0)).keep K6c (allS g_b2 all0)).keep K7c (allS g_b2 all0)).keep K8c (allS g_b2 all0)).keep K9c (allS g_b2 all0)).keep K10c (allS g_b2 all0)).ext E11) S_FIRST E_b11 F_next_b11 g_b11) hZ (hw _ (List.mem_of_getElem? (i := 5) rfl)) (hw _ (List.mem_of_getElem? (i := 2) rfl)) (by decide) (by decide)) (g := (mkF m 128 #[.val (.int p1), .val (.ref b2), .val (.long (1000000 : Int64)), .second, .val (.long (2000000 : Int64)), .second, .val (.long (4000000 : Int64)), .second, .val (.long (8000000 : Int64)), .second, .val (.long (16000000 : Int64)), .second, .val (.long (16000000 : Int64)), .second, .val (.long (16000000 : Int64)), .second, .val (.int (1 : Int32)), .unset, .unset, .unset] [(.ref b11), (.ref b11)])) rfl (by rw [hml]; rfl) (Steps.refl _) (a := b11) (argsL := []) (rest := [(.ref b11)]) (lenOf pd_0_0 rfl) rfl (by show 2 * 0 + _ ≤ _; exact Nat.le_of_eq rfl) (hb hby at_128) (fun _ _ => ⟨rfl, e11, (by decide : 2 + 0 ≤ _), (by decide : 2 + 0 ≤ _)⟩)
  dsimp only [Pt.U, Pt.locs, Pt.cells, Pt.slots] at X12 l12 y12 z12 st12 hQ12
  subst l12 y12 z12
  obtain ⟨rfl, N12q, K12c, E12c, F12c⟩ := hQ12
  have N12 := Fr.app N10 N12q
  have K12 : Keep h0 T12.heap [] := K11.trans K12c (allS (Or.inr sz_b11) all0)
  obtain ⟨cq13, kq13, q13a, q13b, q13c⟩ := isOf hZ rfl E12c
  obtain ⟨_, _, ⟨T13, L13, k13, n13⟩, -, X13, ⟨Lc13, hQ13, l13, y13, z13⟩, st13⟩ := X12.virtualBack hx (y := (⟨"com/example/calm_exit/calmexit/Pauses", "next", "()J"⟩ : MethodName)) (z := (⟨"com/example/calm_exit/calmexit/Pauses", "next", "()J"⟩ : MethodName)) hown (mvT hZ (hw _ (List.mem_of_getElem? (i := 13) rfl))) (mvT hZ (hw _ (List.mem_of_getElem? (i := 14) rfl))) (notFace_of_selects (args := #[]) (mvT hZ (hw _ (List.mem_of_getElem? (i := 16) rfl)))) (mvT hZ (hw _ (List.mem_of_getElem? (i := 16) rfl))) (mvT hZ (hw _ (List.mem_of_getElem? (i := 15) rfl))) (by decide) (backOf (W := 0) (rm3A l Z a0 hw [] b11 (1000000 : Int64) (16000000 : Int64) T12.heap n0 (Nat.le_trans (Nat.le_trans (Nat.le_trans (Nat.le_trans (Nat.le_trans (Nat.le_trans (Nat.le_trans (Nat.le_trans (Nat.le_trans (Nat.le_trans (Nat.le_trans Z0 E2.1) K3c.1) K4c.1) K5c.1) K6c.1) K7c.1) K8c.1) K9c.1) K10c.1) E11.1) K12c.1) F12c (((((((((((O0.ext E2).keep K3c (allS g_b2 all0)).keep K4c (allS g_b2 all0)).keep K5c (allS g_b2 all0)).keep K6c (allS g_b2 all0)).keep K7c (allS g_b2 all0)).keep K8c (allS g_b2 all0)).keep K9c (allS g_b2 all0)).keep K10c (allS g_b2 all0)).ext E11).keep K12c (allS g_b11 all0)) S_LAST E12c g_b11 (by decide)) hZ (hw _ (List.mem_of_getElem? (i := 17) rfl)) (hw _ (List.mem_of_getElem? (i := 2) rfl)) (by decide) (by decide)) q13a q13c (g := (mkF m 135 #[.val (.int p1), .val (.ref b2), .val (.long (1000000 : Int64)), .second, .val (.long (2000000 : Int64)), .second, .val (.long (4000000 : Int64)), .second, .val (.long (8000000 : Int64)), .second, .val (.long (16000000 : Int64)), .second, .val (.long (16000000 : Int64)), .second, .val (.long (16000000 : Int64)), .second, .val (.int (1 : Int32)), .val (.ref b11), .unset, .unset] [(.ref b11)])) rfl (by rw [hml]; rfl) (Steps.refl _) (argsL := []) (rest := []) (lenOf pd_0_1 rfl) rfl (by show 2 * 0 + _ ≤ _; exact Nat.le_of_eq rfl) (hb hby at_135) (fun _ _ => ⟨rfl, rfl, (by decide : 2 + 0 ≤ _), (by decide : 2 + 0 ≤ _)⟩)
  dsimp only [Pt.U, Pt.locs, Pt.cells, Pt.slots] at X13 l13 y13 z13 st13 hQ13
  subst l13 y13 z13
  obtain ⟨rfl, N13q, K13c, E13c, F13c⟩ := hQ13
  have N13 := Fr.app N12 N13q
  have K13 : Keep h0 T13.heap [] := K12.trans K13c (allS (Or.inr sz_b11) all0)
  have F13d : Fld Z T13.heap b11 "com/example/calm_exit/calmexit/Pauses" "next" "J" (.long (2000000 : Int64)) := by have q := F13c; rwa [(by decide : ((2 : Int64) * (1000000 : Int64)) = (2000000 : Int64))] at q
  obtain ⟨fs, hr, hrun, hended, hW, hsame⟩ := X13.leave (v := some (.int (1 : Int32))) (fun h => by rw [Bd.returns] at h; cases h)
  refine ⟨_, _, pre0 _ ?_, hrun, hended, _, _, rfl, ?_, ⟨_, rfl⟩, hW, hsame.mono (by decide) (by decide)⟩
  · show Steps p.tables e below (s₁.setTop (mkF m 0 #[.val (.int p1), .unset, .unset, .unset, .unset, .unset, .unset, .unset, .unset, .unset, .unset, .unset, .unset, .unset, .unset, .unset, .unset, .unset, .unset, .unset] [])) _
    refine st2 _ ?_
    show Steps p.tables e below (T2.setTop (mkF m 3 #[.val (.int p1), .unset, .unset, .unset, .unset, .unset, .unset, .unset, .unset, .unset, .unset, .unset, .unset, .unset, .unset, .unset, .unset, .unset, .unset, .unset] [(.ref b2)])) _
    refine XS.dup X2.here hx rfl (hb hby at_3) rfl rfl ?_
    show Steps p.tables e below (T2.setTop (mkF m 4 #[.val (.int p1), .unset, .unset, .unset, .unset, .unset, .unset, .unset, .unset, .unset, .unset, .unset, .unset, .unset, .unset, .unset, .unset, .unset, .unset, .unset] [(.ref b2), (.ref b2)])) _
    refine st3.trans ?_
    show Steps p.tables e below (T3.setTop (mkF m 7 #[.val (.int p1), .unset, .unset, .unset, .unset, .unset, .unset, .unset, .unset, .unset, .unset, .unset, .unset, .unset, .unset, .unset, .unset, .unset, .unset, .unset] [(.ref b2)])) _
    refine XS.astoreN X3.here hx rfl (hb hby at_7) rfl rfl (l' := #[.val (.int p1), .val (.ref b2), .unset, .unset, .unset, .unset, .unset, .unset, .unset, .unset, .unset, .unset, .unset, .unset, .unset, .unset, .unset, .unset, .unset, .unset]) rfl ?_
    show Steps p.tables e below (T3.setTop (mkF m 8 #[.val (.int p1), .val (.ref b2), .unset, .unset, .unset, .unset, .unset, .unset, .unset, .unset, .unset, .unset, .unset, .unset, .unset, .unset, .unset, .unset, .unset, .unset] [])) _
    refine XS.aloadN X3.here hx rfl (hb hby at_8) rfl rfl ?_
    show Steps p.tables e below (T3.setTop (mkF m 9 #[.val (.int p1), .val (.ref b2), .unset, .unset, .unset, .unset, .unset, .unset, .unset, .unset, .unset, .unset, .unset, .unset, .unset, .unset, .unset, .unset, .unset, .unset] [(.ref b2)])) _
    refine st4.trans ?_
    show Steps p.tables e below (T4.setTop (mkF m 12 #[.val (.int p1), .val (.ref b2), .unset, .unset, .unset, .unset, .unset, .unset, .unset, .unset, .unset, .unset, .unset, .unset, .unset, .unset, .unset, .unset, .unset, .unset] [(.long (1000000 : Int64))])) _
    refine XS.lstoreN X4.here hx rfl (hb hby at_12) rfl (l' := #[.val (.int p1), .val (.ref b2), .val (.long (1000000 : Int64)), .second, .unset, .unset, .unset, .unset, .unset, .unset, .unset, .unset, .unset, .unset, .unset, .unset, .unset, .unset, .unset, .unset]) rfl ?_
    show Steps p.tables e below (T4.setTop (mkF m 13 #[.val (.int p1), .val (.ref b2), .val (.long (1000000 : Int64)), .second, .unset, .unset, .unset, .unset, .unset, .unset, .unset, .unset, .unset, .unset, .unset, .unset, .unset, .unset, .unset, .unset] [])) _
    refine XS.aloadN X4.here hx rfl (hb hby at_13) rfl rfl ?_
    show Steps p.tables e below (T4.setTop (mkF m 14 #[.val (.int p1), .val (.ref b2), .val (.long (1000000 : Int64)), .second, .unset, .unset, .unset, .unset, .unset, .unset, .unset, .unset, .unset, .unset, .unset, .unset, .unset, .unset, .unset, .unset] [(.ref b2)])) _
    refine st5.trans ?_
    show Steps p.tables e below (T5.setTop (mkF m 17 #[.val (.int p1), .val (.ref b2), .val (.long (1000000 : Int64)), .second, .unset, .unset, .unset, .unset, .unset, .unset, .unset, .unset, .unset, .unset, .unset, .unset, .unset, .unset, .unset, .unset] [(.long (2000000 : Int64))])) _
    refine XS.lstore X5.here hx rfl (hb hby at_17) rfl (l' := #[.val (.int p1), .val (.ref b2), .val (.long (1000000 : Int64)), .second, .val (.long (2000000 : Int64)), .second, .unset, .unset, .unset, .unset, .unset, .unset, .unset, .unset, .unset, .unset, .unset, .unset, .unset, .unset]) rfl ?_
    show Steps p.tables e below (T5.setTop (mkF m 19 #[.val (.int p1), .val (.ref b2), .val (.long (1000000 : Int64)), .second, .val (.long (2000000 : Int64)), .second, .unset, .unset, .unset, .unset, .unset, .unset, .unset, .unset, .unset, .unset, .unset, .unset, .unset, .unset] [])) _
    refine XS.aloadN X5.here hx rfl (hb hby at_19) rfl rfl ?_
    show Steps p.tables e below (T5.setTop (mkF m 20 #[.val (.int p1), .val (.ref b2), .val (.long (1000000 : Int64)), .second, .val (.long (2000000 : Int64)), .second, .unset, .unset, .unset, .unset, .unset, .unset, .unset, .unset, .unset, .unset, .unset, .unset, .unset, .unset] [(.ref b2)])) _
    refine st6.trans ?_
    show Steps p.tables e below (T6.setTop (mkF m 23 #[.val (.int p1), .val (.ref b2), .val (.long (1000000 : Int64)), .second, .val (.long (2000000 : Int64)), .second, .unset, .unset, .unset, .unset, .unset, .unset, .unset, .unset, .unset, .unset, .unset, .unset, .unset, .unset] [(.long (4000000 : Int64))])) _
    refine XS.lstore X6.here hx rfl (hb hby at_23) rfl (l' := #[.val (.int p1), .val (.ref b2), .val (.long (1000000 : Int64)), .second, .val (.long (2000000 : Int64)), .second, .val (.long (4000000 : Int64)), .second, .unset, .unset, .unset, .unset, .unset, .unset, .unset, .unset, .unset, .unset, .unset, .unset]) rfl ?_
    show Steps p.tables e below (T6.setTop (mkF m 25 #[.val (.int p1), .val (.ref b2), .val (.long (1000000 : Int64)), .second, .val (.long (2000000 : Int64)), .second, .val (.long (4000000 : Int64)), .second, .unset, .unset, .unset, .unset, .unset, .unset, .unset, .unset, .unset, .unset, .unset, .unset] [])) _
    refine XS.aloadN X6.here hx rfl (hb hby at_25) rfl rfl ?_
    show Steps p.tables e below (T6.setTop (mkF m 26 #[.val (.int p1), .val (.ref b2), .val (.long (1000000 : Int64)), .second, .val (.long (2000000 : Int64)), .second, .val (.long (4000000 : Int64)), .second, .unset, .unset, .unset, .unset, .unset, .unset, .unset, .unset, .unset, .unset, .unset, .unset] [(.ref b2)])) _
    refine st7.trans ?_
    show Steps p.tables e below (T7.setTop (mkF m 29 #[.val (.int p1), .val (.ref b2), .val (.long (1000000 : Int64)), .second, .val (.long (2000000 : Int64)), .second, .val (.long (4000000 : Int64)), .second, .unset, .unset, .unset, .unset, .unset, .unset, .unset, .unset, .unset, .unset, .unset, .unset] [(.long (8000000 : Int64))])) _
    refine XS.lstore X7.here hx rfl (hb hby at_29) rfl (l' := #[.val (.int p1), .val (.ref b2), .val (.long (1000000 : Int64)), .second, .val (.long (2000000 : Int64)), .second, .val (.long (4000000 : Int64)), .second, .val (.long (8000000 : Int64)), .second, .unset, .unset, .unset, .unset, .unset, .unset, .unset, .unset, .unset, .unset]) rfl ?_
    show Steps p.tables e below (T7.setTop (mkF m 31 #[.val (.int p1), .val (.ref b2), .val (.long (1000000 : Int64)), .second, .val (.long (2000000 : Int64)), .second, .val (.long (4000000 : Int64)), .second, .val (.long (8000000 : Int64)), .second, .unset, .unset, .unset, .unset, .unset, .unset, .unset, .unset, .unset, .unset] [])) _
    refine XS.aloadN X7.here hx rfl (hb hby at_31) rfl rfl ?_
    show Steps p.tables e below (T7.setTop (mkF m 32 #[.val (.int p1), .val (.ref b2), .val (.long (1000000 : Int64)), .second, .val (.long (2000000 : Int64)), .second, .val (.long (4000000 : Int64)), .second, .val (.long (8000000 : Int64)), .second, .unset, .unset, .unset, .unset, .unset, .unset, .unset, .unset, .unset, .unset] [(.ref b2)])) _
    refine st8.trans ?_
    show Steps p.tables e below (T8.setTop (mkF m 35 #[.val (.int p1), .val (.ref b2), .val (.long (1000000 : Int64)), .second, .val (.long (2000000 : Int64)), .second, .val (.long (4000000 : Int64)), .second, .val (.long (8000000 : Int64)), .second, .unset, .unset, .unset, .unset, .unset, .unset, .unset, .unset, .unset, .unset] [(.long (16000000 : Int64))])) _
    refine XS.lstore X8.here hx rfl (hb hby at_35) rfl (l' := #[.val (.int p1), .val (.ref b2), .val (.long (1000000 : Int64)), .second, .val (.long (2000000 : Int64)), .second, .val (.long (4000000 : Int64)), .second, .val (.long (8000000 : Int64)), .second, .val (.long (16000000 : Int64)), .second, .unset, .unset, .unset, .unset, .unset, .unset, .unset, .unset]) rfl ?_
    show Steps p.tables e below (T8.setTop (mkF m 37 #[.val (.int p1), .val (.ref b2), .val (.long (1000000 : Int64)), .second, .val (.long (2000000 : Int64)), .second, .val (.long (4000000 : Int64)), .second, .val (.long (8000000 : Int64)), .second, .val (.long (16000000 : Int64)), .second, .unset, .unset, .unset, .unset, .unset, .unset, .unset, .unset] [])) _
    refine XS.aloadN X8.here hx rfl (hb hby at_37) rfl rfl ?_
    show Steps p.tables e below (T8.setTop (mkF m 38 #[.val (.int p1), .val (.ref b2), .val (.long (1000000 : Int64)), .second, .val (.long (2000000 : Int64)), .second, .val (.long (4000000 : Int64)), .second, .val (.long (8000000 : Int64)), .second, .val (.long (16000000 : Int64)), .second, .unset, .unset, .unset, .unset, .unset, .unset, .unset, .unset] [(.ref b2)])) _
    refine st9.trans ?_
    show Steps p.tables e below (T9.setTop (mkF m 41 #[.val (.int p1), .val (.ref b2), .val (.long (1000000 : Int64)), .second, .val (.long (2000000 : Int64)), .second, .val (.long (4000000 : Int64)), .second, .val (.long (8000000 : Int64)), .second, .val (.long (16000000 : Int64)), .second, .unset, .unset, .unset, .unset, .unset, .unset, .unset, .unset] [(.long (16000000 : Int64))])) _
    refine XS.lstore X9.here hx rfl (hb hby at_41) rfl (l' := #[.val (.int p1), .val (.ref b2), .val (.long (1000000 : Int64)), .second, .val (.long (2000000 : Int64)), .second, .val (.long (4000000 : Int64)), .second, .val (.long (8000000 : Int64)), .second, .val (.long (16000000 : Int64)), .second, .val (.long (16000000 : Int64)), .second, .unset, .unset, .unset, .unset, .unset, .unset]) rfl ?_
    show Steps p.tables e below (T9.setTop (mkF m 43 #[.val (.int p1), .val (.ref b2), .val (.long (1000000 : Int64)), .second, .val (.long (2000000 : Int64)), .second, .val (.long (4000000 : Int64)), .second, .val (.long (8000000 : Int64)), .second, .val (.long (16000000 : Int64)), .second, .val (.long (16000000 : Int64)), .second, .unset, .unset, .unset, .unset, .unset, .unset] [])) _
    refine XS.aloadN X9.here hx rfl (hb hby at_43) rfl rfl ?_
    show Steps p.tables e below (T9.setTop (mkF m 44 #[.val (.int p1), .val (.ref b2), .val (.long (1000000 : Int64)), .second, .val (.long (2000000 : Int64)), .second, .val (.long (4000000 : Int64)), .second, .val (.long (8000000 : Int64)), .second, .val (.long (16000000 : Int64)), .second, .val (.long (16000000 : Int64)), .second, .unset, .unset, .unset, .unset, .unset, .unset] [(.ref b2)])) _
    refine st10.trans ?_
    show Steps p.tables e below (T10.setTop (mkF m 47 #[.val (.int p1), .val (.ref b2), .val (.long (1000000 : Int64)), .second, .val (.long (2000000 : Int64)), .second, .val (.long (4000000 : Int64)), .second, .val (.long (8000000 : Int64)), .second, .val (.long (16000000 : Int64)), .second, .val (.long (16000000 : Int64)), .second, .unset, .unset, .unset, .unset, .unset, .unset] [(.long (16000000 : Int64))])) _
    refine XS.lstore X10.here hx rfl (hb hby at_47) rfl (l' := #[.val (.int p1), .val (.ref b2), .val (.long (1000000 : Int64)), .second, .val (.long (2000000 : Int64)), .second, .val (.long (4000000 : Int64)), .second, .val (.long (8000000 : Int64)), .second, .val (.long (16000000 : Int64)), .second, .val (.long (16000000 : Int64)), .second, .val (.long (16000000 : Int64)), .second, .unset, .unset, .unset, .unset]) rfl ?_
    show Steps p.tables e below (T10.setTop (mkF m 49 #[.val (.int p1), .val (.ref b2), .val (.long (1000000 : Int64)), .second, .val (.long (2000000 : Int64)), .second, .val (.long (4000000 : Int64)), .second, .val (.long (8000000 : Int64)), .second, .val (.long (16000000 : Int64)), .second, .val (.long (16000000 : Int64)), .second, .val (.long (16000000 : Int64)), .second, .unset, .unset, .unset, .unset] [])) _
    refine XS.lloadN X10.here hx rfl (hb hby at_49) rfl ?_
    show Steps p.tables e below (T10.setTop (mkF m 50 #[.val (.int p1), .val (.ref b2), .val (.long (1000000 : Int64)), .second, .val (.long (2000000 : Int64)), .second, .val (.long (4000000 : Int64)), .second, .val (.long (8000000 : Int64)), .second, .val (.long (16000000 : Int64)), .second, .val (.long (16000000 : Int64)), .second, .val (.long (16000000 : Int64)), .second, .unset, .unset, .unset, .unset] [(.long (1000000 : Int64))])) _
    refine X10.ldc2Long hx hown (mvT hZ (hw _ (List.mem_of_getElem? (i := 25) rfl))) (g := (mkF m 50 #[.val (.int p1), .val (.ref b2), .val (.long (1000000 : Int64)), .second, .val (.long (2000000 : Int64)), .second, .val (.long (4000000 : Int64)), .second, .val (.long (8000000 : Int64)), .second, .val (.long (16000000 : Int64)), .second, .val (.long (16000000 : Int64)), .second, .val (.long (16000000 : Int64)), .second, .unset, .unset, .unset, .unset] [(.long (1000000 : Int64))])) rfl (hb hby at_50) _ ?_
    show Steps p.tables e below (T10.setTop (mkF m 53 #[.val (.int p1), .val (.ref b2), .val (.long (1000000 : Int64)), .second, .val (.long (2000000 : Int64)), .second, .val (.long (4000000 : Int64)), .second, .val (.long (8000000 : Int64)), .second, .val (.long (16000000 : Int64)), .second, .val (.long (16000000 : Int64)), .second, .val (.long (16000000 : Int64)), .second, .unset, .unset, .unset, .unset] [(.long (1000000 : Int64)), (.long (1000000 : Int64))])) _
    refine XS.lcmp X10.here hx rfl (hb hby at_53) rfl ?_
    show Steps p.tables e below (T10.setTop (mkF m 54 #[.val (.int p1), .val (.ref b2), .val (.long (1000000 : Int64)), .second, .val (.long (2000000 : Int64)), .second, .val (.long (4000000 : Int64)), .second, .val (.long (8000000 : Int64)), .second, .val (.long (16000000 : Int64)), .second, .val (.long (16000000 : Int64)), .second, .val (.long (16000000 : Int64)), .second, .unset, .unset, .unset, .unset] [(.int (lcmpW (1000000 : Int64) (1000000 : Int64)))])) _
    refine XS.ifNo X10.here hx rfl (hb hby at_54) rfl ((if0 _ _).trans (teq hc54).2) ?_
    show Steps p.tables e below (T10.setTop (mkF m 57 #[.val (.int p1), .val (.ref b2), .val (.long (1000000 : Int64)), .second, .val (.long (2000000 : Int64)), .second, .val (.long (4000000 : Int64)), .second, .val (.long (8000000 : Int64)), .second, .val (.long (16000000 : Int64)), .second, .val (.long (16000000 : Int64)), .second, .val (.long (16000000 : Int64)), .second, .unset, .unset, .unset, .unset] [])) _
    refine XS.lload X10.here hx rfl (hb hby at_57) rfl ?_
    show Steps p.tables e below (T10.setTop (mkF m 59 #[.val (.int p1), .val (.ref b2), .val (.long (1000000 : Int64)), .second, .val (.long (2000000 : Int64)), .second, .val (.long (4000000 : Int64)), .second, .val (.long (8000000 : Int64)), .second, .val (.long (16000000 : Int64)), .second, .val (.long (16000000 : Int64)), .second, .val (.long (16000000 : Int64)), .second, .unset, .unset, .unset, .unset] [(.long (2000000 : Int64))])) _
    refine X10.ldc2Long hx hown (mvT hZ (hw _ (List.mem_of_getElem? (i := 26) rfl))) (g := (mkF m 59 #[.val (.int p1), .val (.ref b2), .val (.long (1000000 : Int64)), .second, .val (.long (2000000 : Int64)), .second, .val (.long (4000000 : Int64)), .second, .val (.long (8000000 : Int64)), .second, .val (.long (16000000 : Int64)), .second, .val (.long (16000000 : Int64)), .second, .val (.long (16000000 : Int64)), .second, .unset, .unset, .unset, .unset] [(.long (2000000 : Int64))])) rfl (hb hby at_59) _ ?_
    show Steps p.tables e below (T10.setTop (mkF m 62 #[.val (.int p1), .val (.ref b2), .val (.long (1000000 : Int64)), .second, .val (.long (2000000 : Int64)), .second, .val (.long (4000000 : Int64)), .second, .val (.long (8000000 : Int64)), .second, .val (.long (16000000 : Int64)), .second, .val (.long (16000000 : Int64)), .second, .val (.long (16000000 : Int64)), .second, .unset, .unset, .unset, .unset] [(.long (2000000 : Int64)), (.long (2000000 : Int64))])) _
    refine XS.lcmp X10.here hx rfl (hb hby at_62) rfl ?_
    show Steps p.tables e below (T10.setTop (mkF m 63 #[.val (.int p1), .val (.ref b2), .val (.long (1000000 : Int64)), .second, .val (.long (2000000 : Int64)), .second, .val (.long (4000000 : Int64)), .second, .val (.long (8000000 : Int64)), .second, .val (.long (16000000 : Int64)), .second, .val (.long (16000000 : Int64)), .second, .val (.long (16000000 : Int64)), .second, .unset, .unset, .unset, .unset] [(.int (lcmpW (2000000 : Int64) (2000000 : Int64)))])) _
    refine XS.ifNo X10.here hx rfl (hb hby at_63) rfl ((if0 _ _).trans (teq hc63).2) ?_
    show Steps p.tables e below (T10.setTop (mkF m 66 #[.val (.int p1), .val (.ref b2), .val (.long (1000000 : Int64)), .second, .val (.long (2000000 : Int64)), .second, .val (.long (4000000 : Int64)), .second, .val (.long (8000000 : Int64)), .second, .val (.long (16000000 : Int64)), .second, .val (.long (16000000 : Int64)), .second, .val (.long (16000000 : Int64)), .second, .unset, .unset, .unset, .unset] [])) _
    refine XS.lload X10.here hx rfl (hb hby at_66) rfl ?_
    show Steps p.tables e below (T10.setTop (mkF m 68 #[.val (.int p1), .val (.ref b2), .val (.long (1000000 : Int64)), .second, .val (.long (2000000 : Int64)), .second, .val (.long (4000000 : Int64)), .second, .val (.long (8000000 : Int64)), .second, .val (.long (16000000 : Int64)), .second, .val (.long (16000000 : Int64)), .second, .val (.long (16000000 : Int64)), .second, .unset, .unset, .unset, .unset] [(.long (4000000 : Int64))])) _
    refine X10.ldc2Long hx hown (mvT hZ (hw _ (List.mem_of_getElem? (i := 27) rfl))) (g := (mkF m 68 #[.val (.int p1), .val (.ref b2), .val (.long (1000000 : Int64)), .second, .val (.long (2000000 : Int64)), .second, .val (.long (4000000 : Int64)), .second, .val (.long (8000000 : Int64)), .second, .val (.long (16000000 : Int64)), .second, .val (.long (16000000 : Int64)), .second, .val (.long (16000000 : Int64)), .second, .unset, .unset, .unset, .unset] [(.long (4000000 : Int64))])) rfl (hb hby at_68) _ ?_
    show Steps p.tables e below (T10.setTop (mkF m 71 #[.val (.int p1), .val (.ref b2), .val (.long (1000000 : Int64)), .second, .val (.long (2000000 : Int64)), .second, .val (.long (4000000 : Int64)), .second, .val (.long (8000000 : Int64)), .second, .val (.long (16000000 : Int64)), .second, .val (.long (16000000 : Int64)), .second, .val (.long (16000000 : Int64)), .second, .unset, .unset, .unset, .unset] [(.long (4000000 : Int64)), (.long (4000000 : Int64))])) _
    refine XS.lcmp X10.here hx rfl (hb hby at_71) rfl ?_
    show Steps p.tables e below (T10.setTop (mkF m 72 #[.val (.int p1), .val (.ref b2), .val (.long (1000000 : Int64)), .second, .val (.long (2000000 : Int64)), .second, .val (.long (4000000 : Int64)), .second, .val (.long (8000000 : Int64)), .second, .val (.long (16000000 : Int64)), .second, .val (.long (16000000 : Int64)), .second, .val (.long (16000000 : Int64)), .second, .unset, .unset, .unset, .unset] [(.int (lcmpW (4000000 : Int64) (4000000 : Int64)))])) _
    refine XS.ifNo X10.here hx rfl (hb hby at_72) rfl ((if0 _ _).trans (teq hc72).2) ?_
    show Steps p.tables e below (T10.setTop (mkF m 75 #[.val (.int p1), .val (.ref b2), .val (.long (1000000 : Int64)), .second, .val (.long (2000000 : Int64)), .second, .val (.long (4000000 : Int64)), .second, .val (.long (8000000 : Int64)), .second, .val (.long (16000000 : Int64)), .second, .val (.long (16000000 : Int64)), .second, .val (.long (16000000 : Int64)), .second, .unset, .unset, .unset, .unset] [])) _
    refine XS.lload X10.here hx rfl (hb hby at_75) rfl ?_
    show Steps p.tables e below (T10.setTop (mkF m 77 #[.val (.int p1), .val (.ref b2), .val (.long (1000000 : Int64)), .second, .val (.long (2000000 : Int64)), .second, .val (.long (4000000 : Int64)), .second, .val (.long (8000000 : Int64)), .second, .val (.long (16000000 : Int64)), .second, .val (.long (16000000 : Int64)), .second, .val (.long (16000000 : Int64)), .second, .unset, .unset, .unset, .unset] [(.long (8000000 : Int64))])) _
    refine X10.ldc2Long hx hown (mvT hZ (hw _ (List.mem_of_getElem? (i := 28) rfl))) (g := (mkF m 77 #[.val (.int p1), .val (.ref b2), .val (.long (1000000 : Int64)), .second, .val (.long (2000000 : Int64)), .second, .val (.long (4000000 : Int64)), .second, .val (.long (8000000 : Int64)), .second, .val (.long (16000000 : Int64)), .second, .val (.long (16000000 : Int64)), .second, .val (.long (16000000 : Int64)), .second, .unset, .unset, .unset, .unset] [(.long (8000000 : Int64))])) rfl (hb hby at_77) _ ?_
    show Steps p.tables e below (T10.setTop (mkF m 80 #[.val (.int p1), .val (.ref b2), .val (.long (1000000 : Int64)), .second, .val (.long (2000000 : Int64)), .second, .val (.long (4000000 : Int64)), .second, .val (.long (8000000 : Int64)), .second, .val (.long (16000000 : Int64)), .second, .val (.long (16000000 : Int64)), .second, .val (.long (16000000 : Int64)), .second, .unset, .unset, .unset, .unset] [(.long (8000000 : Int64)), (.long (8000000 : Int64))])) _
    refine XS.lcmp X10.here hx rfl (hb hby at_80) rfl ?_
    show Steps p.tables e below (T10.setTop (mkF m 81 #[.val (.int p1), .val (.ref b2), .val (.long (1000000 : Int64)), .second, .val (.long (2000000 : Int64)), .second, .val (.long (4000000 : Int64)), .second, .val (.long (8000000 : Int64)), .second, .val (.long (16000000 : Int64)), .second, .val (.long (16000000 : Int64)), .second, .val (.long (16000000 : Int64)), .second, .unset, .unset, .unset, .unset] [(.int (lcmpW (8000000 : Int64) (8000000 : Int64)))])) _
    refine XS.ifNo X10.here hx rfl (hb hby at_81) rfl ((if0 _ _).trans (teq hc81).2) ?_
    show Steps p.tables e below (T10.setTop (mkF m 84 #[.val (.int p1), .val (.ref b2), .val (.long (1000000 : Int64)), .second, .val (.long (2000000 : Int64)), .second, .val (.long (4000000 : Int64)), .second, .val (.long (8000000 : Int64)), .second, .val (.long (16000000 : Int64)), .second, .val (.long (16000000 : Int64)), .second, .val (.long (16000000 : Int64)), .second, .unset, .unset, .unset, .unset] [])) _
    refine XS.lload X10.here hx rfl (hb hby at_84) rfl ?_
    show Steps p.tables e below (T10.setTop (mkF m 86 #[.val (.int p1), .val (.ref b2), .val (.long (1000000 : Int64)), .second, .val (.long (2000000 : Int64)), .second, .val (.long (4000000 : Int64)), .second, .val (.long (8000000 : Int64)), .second, .val (.long (16000000 : Int64)), .second, .val (.long (16000000 : Int64)), .second, .val (.long (16000000 : Int64)), .second, .unset, .unset, .unset, .unset] [(.long (16000000 : Int64))])) _
    refine X10.ldc2Long hx hown (mvT hZ (hw _ (List.mem_of_getElem? (i := 29) rfl))) (g := (mkF m 86 #[.val (.int p1), .val (.ref b2), .val (.long (1000000 : Int64)), .second, .val (.long (2000000 : Int64)), .second, .val (.long (4000000 : Int64)), .second, .val (.long (8000000 : Int64)), .second, .val (.long (16000000 : Int64)), .second, .val (.long (16000000 : Int64)), .second, .val (.long (16000000 : Int64)), .second, .unset, .unset, .unset, .unset] [(.long (16000000 : Int64))])) rfl (hb hby at_86) _ ?_
    show Steps p.tables e below (T10.setTop (mkF m 89 #[.val (.int p1), .val (.ref b2), .val (.long (1000000 : Int64)), .second, .val (.long (2000000 : Int64)), .second, .val (.long (4000000 : Int64)), .second, .val (.long (8000000 : Int64)), .second, .val (.long (16000000 : Int64)), .second, .val (.long (16000000 : Int64)), .second, .val (.long (16000000 : Int64)), .second, .unset, .unset, .unset, .unset] [(.long (16000000 : Int64)), (.long (16000000 : Int64))])) _
    refine XS.lcmp X10.here hx rfl (hb hby at_89) rfl ?_
    show Steps p.tables e below (T10.setTop (mkF m 90 #[.val (.int p1), .val (.ref b2), .val (.long (1000000 : Int64)), .second, .val (.long (2000000 : Int64)), .second, .val (.long (4000000 : Int64)), .second, .val (.long (8000000 : Int64)), .second, .val (.long (16000000 : Int64)), .second, .val (.long (16000000 : Int64)), .second, .val (.long (16000000 : Int64)), .second, .unset, .unset, .unset, .unset] [(.int (lcmpW (16000000 : Int64) (16000000 : Int64)))])) _
    refine XS.ifNo X10.here hx rfl (hb hby at_90) rfl ((if0 _ _).trans (teq hc90).2) ?_
    show Steps p.tables e below (T10.setTop (mkF m 93 #[.val (.int p1), .val (.ref b2), .val (.long (1000000 : Int64)), .second, .val (.long (2000000 : Int64)), .second, .val (.long (4000000 : Int64)), .second, .val (.long (8000000 : Int64)), .second, .val (.long (16000000 : Int64)), .second, .val (.long (16000000 : Int64)), .second, .val (.long (16000000 : Int64)), .second, .unset, .unset, .unset, .unset] [])) _
    refine XS.lload X10.here hx rfl (hb hby at_93) rfl ?_
    show Steps p.tables e below (T10.setTop (mkF m 95 #[.val (.int p1), .val (.ref b2), .val (.long (1000000 : Int64)), .second, .val (.long (2000000 : Int64)), .second, .val (.long (4000000 : Int64)), .second, .val (.long (8000000 : Int64)), .second, .val (.long (16000000 : Int64)), .second, .val (.long (16000000 : Int64)), .second, .val (.long (16000000 : Int64)), .second, .unset, .unset, .unset, .unset] [(.long (16000000 : Int64))])) _
    refine X10.ldc2Long hx hown (mvT hZ (hw _ (List.mem_of_getElem? (i := 29) rfl))) (g := (mkF m 95 #[.val (.int p1), .val (.ref b2), .val (.long (1000000 : Int64)), .second, .val (.long (2000000 : Int64)), .second, .val (.long (4000000 : Int64)), .second, .val (.long (8000000 : Int64)), .second, .val (.long (16000000 : Int64)), .second, .val (.long (16000000 : Int64)), .second, .val (.long (16000000 : Int64)), .second, .unset, .unset, .unset, .unset] [(.long (16000000 : Int64))])) rfl (hb hby at_95) _ ?_
    show Steps p.tables e below (T10.setTop (mkF m 98 #[.val (.int p1), .val (.ref b2), .val (.long (1000000 : Int64)), .second, .val (.long (2000000 : Int64)), .second, .val (.long (4000000 : Int64)), .second, .val (.long (8000000 : Int64)), .second, .val (.long (16000000 : Int64)), .second, .val (.long (16000000 : Int64)), .second, .val (.long (16000000 : Int64)), .second, .unset, .unset, .unset, .unset] [(.long (16000000 : Int64)), (.long (16000000 : Int64))])) _
    refine XS.lcmp X10.here hx rfl (hb hby at_98) rfl ?_
    show Steps p.tables e below (T10.setTop (mkF m 99 #[.val (.int p1), .val (.ref b2), .val (.long (1000000 : Int64)), .second, .val (.long (2000000 : Int64)), .second, .val (.long (4000000 : Int64)), .second, .val (.long (8000000 : Int64)), .second, .val (.long (16000000 : Int64)), .second, .val (.long (16000000 : Int64)), .second, .val (.long (16000000 : Int64)), .second, .unset, .unset, .unset, .unset] [(.int (lcmpW (16000000 : Int64) (16000000 : Int64)))])) _
    refine XS.ifNo X10.here hx rfl (hb hby at_99) rfl ((if0 _ _).trans (teq hc99).2) ?_
    show Steps p.tables e below (T10.setTop (mkF m 102 #[.val (.int p1), .val (.ref b2), .val (.long (1000000 : Int64)), .second, .val (.long (2000000 : Int64)), .second, .val (.long (4000000 : Int64)), .second, .val (.long (8000000 : Int64)), .second, .val (.long (16000000 : Int64)), .second, .val (.long (16000000 : Int64)), .second, .val (.long (16000000 : Int64)), .second, .unset, .unset, .unset, .unset] [])) _
    refine XS.lload X10.here hx rfl (hb hby at_102) rfl ?_
    show Steps p.tables e below (T10.setTop (mkF m 104 #[.val (.int p1), .val (.ref b2), .val (.long (1000000 : Int64)), .second, .val (.long (2000000 : Int64)), .second, .val (.long (4000000 : Int64)), .second, .val (.long (8000000 : Int64)), .second, .val (.long (16000000 : Int64)), .second, .val (.long (16000000 : Int64)), .second, .val (.long (16000000 : Int64)), .second, .unset, .unset, .unset, .unset] [(.long (16000000 : Int64))])) _
    refine X10.ldc2Long hx hown (mvT hZ (hw _ (List.mem_of_getElem? (i := 29) rfl))) (g := (mkF m 104 #[.val (.int p1), .val (.ref b2), .val (.long (1000000 : Int64)), .second, .val (.long (2000000 : Int64)), .second, .val (.long (4000000 : Int64)), .second, .val (.long (8000000 : Int64)), .second, .val (.long (16000000 : Int64)), .second, .val (.long (16000000 : Int64)), .second, .val (.long (16000000 : Int64)), .second, .unset, .unset, .unset, .unset] [(.long (16000000 : Int64))])) rfl (hb hby at_104) _ ?_
    show Steps p.tables e below (T10.setTop (mkF m 107 #[.val (.int p1), .val (.ref b2), .val (.long (1000000 : Int64)), .second, .val (.long (2000000 : Int64)), .second, .val (.long (4000000 : Int64)), .second, .val (.long (8000000 : Int64)), .second, .val (.long (16000000 : Int64)), .second, .val (.long (16000000 : Int64)), .second, .val (.long (16000000 : Int64)), .second, .unset, .unset, .unset, .unset] [(.long (16000000 : Int64)), (.long (16000000 : Int64))])) _
    refine XS.lcmp X10.here hx rfl (hb hby at_107) rfl ?_
    show Steps p.tables e below (T10.setTop (mkF m 108 #[.val (.int p1), .val (.ref b2), .val (.long (1000000 : Int64)), .second, .val (.long (2000000 : Int64)), .second, .val (.long (4000000 : Int64)), .second, .val (.long (8000000 : Int64)), .second, .val (.long (16000000 : Int64)), .second, .val (.long (16000000 : Int64)), .second, .val (.long (16000000 : Int64)), .second, .unset, .unset, .unset, .unset] [(.int (lcmpW (16000000 : Int64) (16000000 : Int64)))])) _
    refine XS.ifNo X10.here hx rfl (hb hby at_108) rfl ((if0 _ _).trans (teq hc108).2) ?_
    show Steps p.tables e below (T10.setTop (mkF m 111 #[.val (.int p1), .val (.ref b2), .val (.long (1000000 : Int64)), .second, .val (.long (2000000 : Int64)), .second, .val (.long (4000000 : Int64)), .second, .val (.long (8000000 : Int64)), .second, .val (.long (16000000 : Int64)), .second, .val (.long (16000000 : Int64)), .second, .val (.long (16000000 : Int64)), .second, .unset, .unset, .unset, .unset] [])) _
    refine XS.iconst X10.here hx rfl (hb hby at_111) ?_
    show Steps p.tables e below (T10.setTop (mkF m 112 #[.val (.int p1), .val (.ref b2), .val (.long (1000000 : Int64)), .second, .val (.long (2000000 : Int64)), .second, .val (.long (4000000 : Int64)), .second, .val (.long (8000000 : Int64)), .second, .val (.long (16000000 : Int64)), .second, .val (.long (16000000 : Int64)), .second, .val (.long (16000000 : Int64)), .second, .unset, .unset, .unset, .unset] [(.int (1 : Int32))])) _
    refine XS.goto X10.here hx rfl (pc0 := 112) (pc' := 116) rfl (hb hby at_112) (by decide) (by decide) ?_
    show Steps p.tables e below (T10.setTop (mkF m 116 #[.val (.int p1), .val (.ref b2), .val (.long (1000000 : Int64)), .second, .val (.long (2000000 : Int64)), .second, .val (.long (4000000 : Int64)), .second, .val (.long (8000000 : Int64)), .second, .val (.long (16000000 : Int64)), .second, .val (.long (16000000 : Int64)), .second, .val (.long (16000000 : Int64)), .second, .unset, .unset, .unset, .unset] [(.int (1 : Int32))])) _
    refine XS.istore X10.here hx rfl (hb hby at_116) rfl (l' := #[.val (.int p1), .val (.ref b2), .val (.long (1000000 : Int64)), .second, .val (.long (2000000 : Int64)), .second, .val (.long (4000000 : Int64)), .second, .val (.long (8000000 : Int64)), .second, .val (.long (16000000 : Int64)), .second, .val (.long (16000000 : Int64)), .second, .val (.long (16000000 : Int64)), .second, .val (.int (1 : Int32)), .unset, .unset, .unset]) rfl ?_
    show Steps p.tables e below (T10.setTop (mkF m 118 #[.val (.int p1), .val (.ref b2), .val (.long (1000000 : Int64)), .second, .val (.long (2000000 : Int64)), .second, .val (.long (4000000 : Int64)), .second, .val (.long (8000000 : Int64)), .second, .val (.long (16000000 : Int64)), .second, .val (.long (16000000 : Int64)), .second, .val (.long (16000000 : Int64)), .second, .val (.int (1 : Int32)), .unset, .unset, .unset] [])) _
    refine XS.iloadN X10.here hx rfl (hb hby at_118) rfl ?_
    show Steps p.tables e below (T10.setTop (mkF m 119 #[.val (.int p1), .val (.ref b2), .val (.long (1000000 : Int64)), .second, .val (.long (2000000 : Int64)), .second, .val (.long (4000000 : Int64)), .second, .val (.long (8000000 : Int64)), .second, .val (.long (16000000 : Int64)), .second, .val (.long (16000000 : Int64)), .second, .val (.long (16000000 : Int64)), .second, .val (.int (1 : Int32)), .unset, .unset, .unset] [(.int p1)])) _
    refine XS.iconst X10.here hx rfl (hb hby at_119) ?_
    show Steps p.tables e below (T10.setTop (mkF m 120 #[.val (.int p1), .val (.ref b2), .val (.long (1000000 : Int64)), .second, .val (.long (2000000 : Int64)), .second, .val (.long (4000000 : Int64)), .second, .val (.long (8000000 : Int64)), .second, .val (.long (16000000 : Int64)), .second, .val (.long (16000000 : Int64)), .second, .val (.long (16000000 : Int64)), .second, .val (.int (1 : Int32)), .unset, .unset, .unset] [(.int (1 : Int32)), (.int p1)])) _
    refine XS.iand X10.here hx rfl (hb hby at_120) rfl ?_
    show Steps p.tables e below (T10.setTop (mkF m 121 #[.val (.int p1), .val (.ref b2), .val (.long (1000000 : Int64)), .second, .val (.long (2000000 : Int64)), .second, .val (.long (4000000 : Int64)), .second, .val (.long (8000000 : Int64)), .second, .val (.long (16000000 : Int64)), .second, .val (.long (16000000 : Int64)), .second, .val (.long (16000000 : Int64)), .second, .val (.int (1 : Int32)), .unset, .unset, .unset] [(.int (p1 &&& (1 : Int32)))])) _
    refine XS.ifNo X10.here hx rfl (hb hby at_121) rfl ((if0 _ _).trans (feq hc121).1) ?_
    show Steps p.tables e below (T10.setTop (mkF m 124 #[.val (.int p1), .val (.ref b2), .val (.long (1000000 : Int64)), .second, .val (.long (2000000 : Int64)), .second, .val (.long (4000000 : Int64)), .second, .val (.long (8000000 : Int64)), .second, .val (.long (16000000 : Int64)), .second, .val (.long (16000000 : Int64)), .second, .val (.long (16000000 : Int64)), .second, .val (.int (1 : Int32)), .unset, .unset, .unset] [])) _
    refine st11 _ ?_
    show Steps p.tables e below (T11.setTop (mkF m 127 #[.val (.int p1), .val (.ref b2), .val (.long (1000000 : Int64)), .second, .val (.long (2000000 : Int64)), .second, .val (.long (4000000 : Int64)), .second, .val (.long (8000000 : Int64)), .second, .val (.long (16000000 : Int64)), .second, .val (.long (16000000 : Int64)), .second, .val (.long (16000000 : Int64)), .second, .val (.int (1 : Int32)), .unset, .unset, .unset] [(.ref b11)])) _
    refine XS.dup X11.here hx rfl (hb hby at_127) rfl rfl ?_
    show Steps p.tables e below (T11.setTop (mkF m 128 #[.val (.int p1), .val (.ref b2), .val (.long (1000000 : Int64)), .second, .val (.long (2000000 : Int64)), .second, .val (.long (4000000 : Int64)), .second, .val (.long (8000000 : Int64)), .second, .val (.long (16000000 : Int64)), .second, .val (.long (16000000 : Int64)), .second, .val (.long (16000000 : Int64)), .second, .val (.int (1 : Int32)), .unset, .unset, .unset] [(.ref b11), (.ref b11)])) _
    refine st12.trans ?_
    show Steps p.tables e below (T12.setTop (mkF m 131 #[.val (.int p1), .val (.ref b2), .val (.long (1000000 : Int64)), .second, .val (.long (2000000 : Int64)), .second, .val (.long (4000000 : Int64)), .second, .val (.long (8000000 : Int64)), .second, .val (.long (16000000 : Int64)), .second, .val (.long (16000000 : Int64)), .second, .val (.long (16000000 : Int64)), .second, .val (.int (1 : Int32)), .unset, .unset, .unset] [(.ref b11)])) _
    refine XS.astore X12.here hx rfl (hb hby at_131) rfl rfl (l' := #[.val (.int p1), .val (.ref b2), .val (.long (1000000 : Int64)), .second, .val (.long (2000000 : Int64)), .second, .val (.long (4000000 : Int64)), .second, .val (.long (8000000 : Int64)), .second, .val (.long (16000000 : Int64)), .second, .val (.long (16000000 : Int64)), .second, .val (.long (16000000 : Int64)), .second, .val (.int (1 : Int32)), .val (.ref b11), .unset, .unset]) rfl ?_
    show Steps p.tables e below (T12.setTop (mkF m 133 #[.val (.int p1), .val (.ref b2), .val (.long (1000000 : Int64)), .second, .val (.long (2000000 : Int64)), .second, .val (.long (4000000 : Int64)), .second, .val (.long (8000000 : Int64)), .second, .val (.long (16000000 : Int64)), .second, .val (.long (16000000 : Int64)), .second, .val (.long (16000000 : Int64)), .second, .val (.int (1 : Int32)), .val (.ref b11), .unset, .unset] [])) _
    refine XS.aload X12.here hx rfl (hb hby at_133) rfl rfl ?_
    show Steps p.tables e below (T12.setTop (mkF m 135 #[.val (.int p1), .val (.ref b2), .val (.long (1000000 : Int64)), .second, .val (.long (2000000 : Int64)), .second, .val (.long (4000000 : Int64)), .second, .val (.long (8000000 : Int64)), .second, .val (.long (16000000 : Int64)), .second, .val (.long (16000000 : Int64)), .second, .val (.long (16000000 : Int64)), .second, .val (.int (1 : Int32)), .val (.ref b11), .unset, .unset] [(.ref b11)])) _
    refine st13.trans ?_
    show Steps p.tables e below (T13.setTop (mkF m 138 #[.val (.int p1), .val (.ref b2), .val (.long (1000000 : Int64)), .second, .val (.long (2000000 : Int64)), .second, .val (.long (4000000 : Int64)), .second, .val (.long (8000000 : Int64)), .second, .val (.long (16000000 : Int64)), .second, .val (.long (16000000 : Int64)), .second, .val (.long (16000000 : Int64)), .second, .val (.int (1 : Int32)), .val (.ref b11), .unset, .unset] [(.long (1000000 : Int64))])) _
    refine XS.lstore X13.here hx rfl (hb hby at_138) rfl (l' := #[.val (.int p1), .val (.ref b2), .val (.long (1000000 : Int64)), .second, .val (.long (2000000 : Int64)), .second, .val (.long (4000000 : Int64)), .second, .val (.long (8000000 : Int64)), .second, .val (.long (16000000 : Int64)), .second, .val (.long (16000000 : Int64)), .second, .val (.long (16000000 : Int64)), .second, .val (.int (1 : Int32)), .val (.ref b11), .val (.long (1000000 : Int64)), .second]) rfl ?_
    show Steps p.tables e below (T13.setTop (mkF m 140 #[.val (.int p1), .val (.ref b2), .val (.long (1000000 : Int64)), .second, .val (.long (2000000 : Int64)), .second, .val (.long (4000000 : Int64)), .second, .val (.long (8000000 : Int64)), .second, .val (.long (16000000 : Int64)), .second, .val (.long (16000000 : Int64)), .second, .val (.long (16000000 : Int64)), .second, .val (.int (1 : Int32)), .val (.ref b11), .val (.long (1000000 : Int64)), .second] [])) _
    refine XS.iload X13.here hx rfl (hb hby at_140) rfl ?_
    show Steps p.tables e below (T13.setTop (mkF m 142 #[.val (.int p1), .val (.ref b2), .val (.long (1000000 : Int64)), .second, .val (.long (2000000 : Int64)), .second, .val (.long (4000000 : Int64)), .second, .val (.long (8000000 : Int64)), .second, .val (.long (16000000 : Int64)), .second, .val (.long (16000000 : Int64)), .second, .val (.long (16000000 : Int64)), .second, .val (.int (1 : Int32)), .val (.ref b11), .val (.long (1000000 : Int64)), .second] [(.int (1 : Int32))])) _
    refine XS.ifNo X13.here hx rfl (hb hby at_142) rfl ((if0 _ _).trans (feq hc142).1) ?_
    show Steps p.tables e below (T13.setTop (mkF m 145 #[.val (.int p1), .val (.ref b2), .val (.long (1000000 : Int64)), .second, .val (.long (2000000 : Int64)), .second, .val (.long (4000000 : Int64)), .second, .val (.long (8000000 : Int64)), .second, .val (.long (16000000 : Int64)), .second, .val (.long (16000000 : Int64)), .second, .val (.long (16000000 : Int64)), .second, .val (.int (1 : Int32)), .val (.ref b11), .val (.long (1000000 : Int64)), .second] [])) _
    refine XS.lload X13.here hx rfl (hb hby at_145) rfl ?_
    show Steps p.tables e below (T13.setTop (mkF m 147 #[.val (.int p1), .val (.ref b2), .val (.long (1000000 : Int64)), .second, .val (.long (2000000 : Int64)), .second, .val (.long (4000000 : Int64)), .second, .val (.long (8000000 : Int64)), .second, .val (.long (16000000 : Int64)), .second, .val (.long (16000000 : Int64)), .second, .val (.long (16000000 : Int64)), .second, .val (.int (1 : Int32)), .val (.ref b11), .val (.long (1000000 : Int64)), .second] [(.long (1000000 : Int64))])) _
    refine X13.ldc2Long hx hown (mvT hZ (hw _ (List.mem_of_getElem? (i := 25) rfl))) (g := (mkF m 147 #[.val (.int p1), .val (.ref b2), .val (.long (1000000 : Int64)), .second, .val (.long (2000000 : Int64)), .second, .val (.long (4000000 : Int64)), .second, .val (.long (8000000 : Int64)), .second, .val (.long (16000000 : Int64)), .second, .val (.long (16000000 : Int64)), .second, .val (.long (16000000 : Int64)), .second, .val (.int (1 : Int32)), .val (.ref b11), .val (.long (1000000 : Int64)), .second] [(.long (1000000 : Int64))])) rfl (hb hby at_147) _ ?_
    show Steps p.tables e below (T13.setTop (mkF m 150 #[.val (.int p1), .val (.ref b2), .val (.long (1000000 : Int64)), .second, .val (.long (2000000 : Int64)), .second, .val (.long (4000000 : Int64)), .second, .val (.long (8000000 : Int64)), .second, .val (.long (16000000 : Int64)), .second, .val (.long (16000000 : Int64)), .second, .val (.long (16000000 : Int64)), .second, .val (.int (1 : Int32)), .val (.ref b11), .val (.long (1000000 : Int64)), .second] [(.long (1000000 : Int64)), (.long (1000000 : Int64))])) _
    refine XS.lcmp X13.here hx rfl (hb hby at_150) rfl ?_
    show Steps p.tables e below (T13.setTop (mkF m 151 #[.val (.int p1), .val (.ref b2), .val (.long (1000000 : Int64)), .second, .val (.long (2000000 : Int64)), .second, .val (.long (4000000 : Int64)), .second, .val (.long (8000000 : Int64)), .second, .val (.long (16000000 : Int64)), .second, .val (.long (16000000 : Int64)), .second, .val (.long (16000000 : Int64)), .second, .val (.int (1 : Int32)), .val (.ref b11), .val (.long (1000000 : Int64)), .second] [(.int (lcmpW (1000000 : Int64) (1000000 : Int64)))])) _
    refine XS.ifNo X13.here hx rfl (hb hby at_151) rfl ((if0 _ _).trans (teq hc151).2) ?_
    show Steps p.tables e below (T13.setTop (mkF m 154 #[.val (.int p1), .val (.ref b2), .val (.long (1000000 : Int64)), .second, .val (.long (2000000 : Int64)), .second, .val (.long (4000000 : Int64)), .second, .val (.long (8000000 : Int64)), .second, .val (.long (16000000 : Int64)), .second, .val (.long (16000000 : Int64)), .second, .val (.long (16000000 : Int64)), .second, .val (.int (1 : Int32)), .val (.ref b11), .val (.long (1000000 : Int64)), .second] [])) _
    refine XS.iconst X13.here hx rfl (hb hby at_154) ?_
    show Steps p.tables e below (T13.setTop (mkF m 155 #[.val (.int p1), .val (.ref b2), .val (.long (1000000 : Int64)), .second, .val (.long (2000000 : Int64)), .second, .val (.long (4000000 : Int64)), .second, .val (.long (8000000 : Int64)), .second, .val (.long (16000000 : Int64)), .second, .val (.long (16000000 : Int64)), .second, .val (.long (16000000 : Int64)), .second, .val (.int (1 : Int32)), .val (.ref b11), .val (.long (1000000 : Int64)), .second] [(.int (1 : Int32))])) _
    refine XS.goto X13.here hx rfl (pc0 := 155) (pc' := 159) rfl (hb hby at_155) (by decide) (by decide) ?_
    show Steps p.tables e below (T13.setTop (mkF m 159 #[.val (.int p1), .val (.ref b2), .val (.long (1000000 : Int64)), .second, .val (.long (2000000 : Int64)), .second, .val (.long (4000000 : Int64)), .second, .val (.long (8000000 : Int64)), .second, .val (.long (16000000 : Int64)), .second, .val (.long (16000000 : Int64)), .second, .val (.long (16000000 : Int64)), .second, .val (.int (1 : Int32)), .val (.ref b11), .val (.long (1000000 : Int64)), .second] [(.int (1 : Int32))])) _
    refine XS.istore X13.here hx rfl (hb hby at_159) rfl (l' := #[.val (.int p1), .val (.ref b2), .val (.long (1000000 : Int64)), .second, .val (.long (2000000 : Int64)), .second, .val (.long (4000000 : Int64)), .second, .val (.long (8000000 : Int64)), .second, .val (.long (16000000 : Int64)), .second, .val (.long (16000000 : Int64)), .second, .val (.long (16000000 : Int64)), .second, .val (.int (1 : Int32)), .val (.ref b11), .val (.long (1000000 : Int64)), .second]) rfl ?_
    show Steps p.tables e below (T13.setTop (mkF m 161 #[.val (.int p1), .val (.ref b2), .val (.long (1000000 : Int64)), .second, .val (.long (2000000 : Int64)), .second, .val (.long (4000000 : Int64)), .second, .val (.long (8000000 : Int64)), .second, .val (.long (16000000 : Int64)), .second, .val (.long (16000000 : Int64)), .second, .val (.long (16000000 : Int64)), .second, .val (.int (1 : Int32)), .val (.ref b11), .val (.long (1000000 : Int64)), .second] [])) _
    refine XS.iload X13.here hx rfl (hb hby at_161) rfl ?_
    show Steps p.tables e below (T13.setTop (mkF m 163 #[.val (.int p1), .val (.ref b2), .val (.long (1000000 : Int64)), .second, .val (.long (2000000 : Int64)), .second, .val (.long (4000000 : Int64)), .second, .val (.long (8000000 : Int64)), .second, .val (.long (16000000 : Int64)), .second, .val (.long (16000000 : Int64)), .second, .val (.long (16000000 : Int64)), .second, .val (.int (1 : Int32)), .val (.ref b11), .val (.long (1000000 : Int64)), .second] [(.int (1 : Int32))])) _
    exact retN X13 hx (t := .boolean) Bd.returns (by simp) (hb hby at_163) hr
  · show Q0 Z p1 h0 n0 _ T13.heap _
    exact ⟨rfl, N13⟩
set_option maxRecDepth 65536 in
set_option maxHeartbeats 40000000 in
theorem comes_1 {Post : Tables → Env → Array Value → State → Outcome → State → Prop} (hpost : ∀ tb e args s v u, (limb_1_1.after args s (.returned v) u = true ∧ limb_1_2.after args s (.returned v) u = true ∧ True) → FrameEnd s (.returned v) u (Jvm.fieldLocs frame_1_writes args s ++ Jvm.arrayLocs frame_1_arrays args s ++ Jvm.staticLocs frame_1_statics s) 16 128 → Post tb e args s (.returned v) u) :
    ArmFor flags0 classFile x code maxLocals ret World_1 tables_1 room_1 Calls_1 rest_1 Pre_1 Post := by
  intro l hfl _ _ p e ha hc hk s m args below hf hA hF happ hP
  obtain ⟨hcalls, hrest, hpre⟩ := hP
  obtain ⟨-, -, -, hnamed, -, -, -, hat⟩ := (Spec.applies_iff hf).mp happ
  obtain ⟨hg, hn⟩ := and_e (Cond.before_iff.mp (show (Jvm.Cond.and given_1 narrow_1).before args s = true from hpre))
  obtain ⟨g1, g2⟩ := and_e hg
  obtain ⟨w0, rfl⟩ : ∃ w0 : Value, args = #[w0] := by
    have hs : args.size = 1 := by simpa [Cond.value, given_1] using g1
    obtain ⟨L⟩ := args
    match L, hs with
    | [w0], _ => exact ⟨w0, rfl⟩
  have hw := fun d (hd : d ∈ tables_1) => atoms_spec (ws := Jvm.Cond.code x code maxLocals ret :: tables_1) hat d (List.mem_cons_of_mem _ hd)
  have hfit : Fit s := fun {y c} hc i hi => by
    obtain ⟨ha, rfl⟩ := Array.getElem?_eq_some_iff.mp hc
    have q := List.all_eq_true.mp ((Array.all_eq_true_iff_forall_mem.mp hF) _ (Array.getElem_mem ha)) i (List.mem_range.mpr hi)
    simpa [Array.getElem?_eq_getElem hi] using q
  obtain ⟨i0, ei0⟩ := is_v g2
  obtain rfl : w0 = (.int i0) := Option.some.inj ei0
  suffices M : MetFree l x (head1 (Jvm.Cond.code x code maxLocals ret :: tables_1) room_1) (fun a U => a = #[(.int i0)] ∧ s.Warmed39 U.vm ∧ U.heap = s.heap) (fun _ _ _ _ _ => True) (fun _ U o U' => ∃ v L, o = .returned v ∧ Q0 s i0 s.heap s.heap.size v U'.heap L ∧ FrameEnd U o U' L room_1.cells room_1.slots) by
    obtain ⟨n, o, h1, h2, h3, _, L, rfl, ⟨rfl, N⟩, hq⟩ := M p e ha hc hk s m _ below hf ((Spec.applies_iff_loose hf).mp happ).1 ⟨rfl, State.Warmed39.refl s, rfl⟩ trivial
    exact ⟨n, _, h1, h2, h3, hpost _ _ _ _ _ _ ⟨Cond.after_iff.mpr rfl, Cond.after_iff.mpr (eq_i res_at (Term.int_eval (1)) rfl), trivial⟩ ⟨hq.1, hq.2.1, (hq.2.2.sift fun y hy => Or.inr (N y hy)).mono (by decide) (by decide)⟩⟩
  obtain ⟨a0, a1⟩ := and_e hn
  have Sf := Sta.start (eqv_l (long_at _) a0) (Or.inr ⟨(hw _ (List.mem_of_getElem? (i := 2) rfl)), (hw _ (List.mem_of_getElem? (i := 10) rfl))⟩)
  have Sl := Sta.start (eqv_l (long_at _) a1) (Or.inr ⟨(hw _ (List.mem_of_getElem? (i := 2) rfl)), (hw _ (List.mem_of_getElem? (i := 20) rfl))⟩)
  by_cases hz : (i0 &&& (1 : Int32)) = (0 : Int32)
  · exact rm0A l s _ hw tables_1 i0 s.heap s.heap.size (Nat.le_refl _) (Old.start s) Sf Sl (by decide) (by decide) (by decide) (by decide) (by decide) (by decide) (by decide) hz
  · exact rm0B l s _ hw tables_1 i0 s.heap s.heap.size (Nat.le_refl _) (Old.start s) Sf Sl (by decide) (by decide) (by decide) (by decide) (by decide) (by decide) (by decide) hz (by decide) (by decide)
theorem main_1_1 : Claimed_1_1 := comes_1 fun _ _ _ _ _ _ h hF => ⟨h.1, hF⟩
theorem main_1_2 : Claimed_1_2 := comes_1 fun _ _ _ _ _ _ h hF => ⟨h.2.1, hF⟩
end Jvm.Pilot.@@N@@
namespace Jvm.Pilot.@@N@@
open Jvm Jvm.ClassFile Sem Op Lib Jvm.Free Jvm.Stand Jvm.Pilot.@@N@@.Jvm.D
/-! MADE BY PROGRAM (witnessworld.py) out of the Statement's table words and the real class files: 8 classes; the members and pool entries that the words name. The judged class is class 1, her method 1. -/
namespace start1
open Jvm.ClassFile
def u (s : String) : CpInfo := .utf8 (stringToUtf16 s)
/-- a pool by its gaps: so many unusable entries, then the entry; so many at the end -/
def gap : Nat → List CpInfo → List CpInfo
  | 0, r => r
  | n + 1, r => .unusable :: gap n r
def poolList (es : List (Nat × CpInfo)) (last : Nat) : List CpInfo := es.foldr (fun e r => gap e.1 (e.2 :: r)) (gap last [])
def pool (es : List (Nat × CpInfo)) (last : Nat) : Array CpInfo := ⟨poolList es last⟩
def fileOf (pool : Array CpInfo) (this : Nat) (attrs : Array Attribute := #[]) (ms : Array MethodInfo := #[]) (fl : Nat := 33) (sup : Nat := 0) (ifs : Array Nat := #[]) (fds : Array FieldInfo := #[]) : ClassFile where
  minorVersion := 0
  majorVersion := 65
  constantPool := pool
  accessFlags := fl
  thisClass := this
  superClass := sup
  interfaces := ifs
  fields := fds
  methods := ms
  attributes := attrs
def plain (name : String) (sup : Option ClassId) : Class where
  name := name
  kind := .ordinary
  loader := none
  accessFlags := 33
  super := sup
  interfaces := #[]
  cf := none
  fields := #[]
  methods := #[]
  instanceTypes := #[]
  staticTypes := #[]
  resolved := #[]
  callSites := []
  init := .initialized
  statics := none
  mirror := none

def pool0 : Array CpInfo := pool [(5, u "<init>"), (0, u "()V"), (1, .class_ 10), (1, u "java/lang/Object")] 113

def k0c0 : Code := { maxStack := 0, maxLocals := 1, code := object_method_1_code, exceptionTable := #[], attributes := #[] }
def k0m0 : Method := { name := "<init>", desc := "()V", sig := { parameters := [], returnType := none }, accessFlags := 1, code := some k0c0 }
/-- java/lang/Object -/
def k0 : Class := { plain "java/lang/Object" none with
  accessFlags := 33
  interfaces := #[]
  cf := some (fileOf pool0 8 #[] #[{ accessFlags := 1, nameIndex := 5, descriptorIndex := 6, attributes := #[] }] 33 0 #[] #[])
  fields := #[]
  methods := #[k0m0]
  instanceTypes := #[]
  staticTypes := #[]
  resolved := Array.replicate 124 none
  statics := none }

def pool1 : Array CpInfo := pool [(2, .class_ 4), (0, .nameAndType 5 6), (0, u "java/lang/Object"), (0, u "<init>"), (0, u "()V"), (0, .class_ 8), (0, u "com/example/calm_exit/calmexit/Pauses"), (0, .methodref 7 3), (0, .methodref 7 11), (0, .nameAndType 12 13), (0, u "next"), (0, u "()J"), (0, .long 1000000), (1, .long 2000000), (1, .long 4000000), (1, .long 8000000), (1, .long 16000000), (1, .class_ 25), (0, u "com/example/calm_exit/calmexit/PausesNextPinLaw"), (2, u "law"), (0, u "(I)Z")] 3

def k1m0 : Method := { name := "<init>", desc := "()V", sig := { parameters := [], returnType := none }, accessFlags := 1, code := none }
def k1c1 : Code := { maxStack := 4, maxLocals := 20, code := code, exceptionTable := #[], attributes := #[] }
def k1m1 : Method := { name := "law", desc := "(I)Z", sig := { parameters := [.int], returnType := some .boolean }, accessFlags := 9, code := some k1c1 }
/-- com/example/calm_exit/calmexit/PausesNextPinLaw -/
def k1 : Class := { plain "com/example/calm_exit/calmexit/PausesNextPinLaw" (some 0) with
  accessFlags := 49
  interfaces := #[]
  cf := some (fileOf pool1 24 #[] #[{ accessFlags := 1, nameIndex := 5, descriptorIndex := 6, attributes := #[] }, { accessFlags := 9, nameIndex := 28, descriptorIndex := 29, attributes := #[] }] 49 2 #[] #[])
  fields := #[]
  methods := #[k1m0, k1m1]
  instanceTypes := #[]
  staticTypes := #[]
  resolved := Array.replicate 33 none
  statics := none }

def pool2 : Array CpInfo := pool [(1, .methodref 2 3), (0, .class_ 4), (0, .nameAndType 5 6), (0, u "java/lang/Object"), (0, u "<init>"), (0, u "()V"), (0, .fieldref 8 9), (0, .class_ 10), (0, .nameAndType 11 12), (0, u "com/example/calm_exit/calmexit/Pauses"), (0, u "FIRST_NANOS"), (0, u "J"), (0, .fieldref 8 14), (0, .nameAndType 15 12), (0, u "next"), (0, .long 2), (1, .fieldref 8 19), (0, .nameAndType 20 12), (0, u "LAST_NANOS"), (0, .methodref 22 23), (0, .class_ 24), (0, .nameAndType 25 26), (0, u "java/lang/Math"), (0, u "min"), (0, u "(JJ)J"), (14, u "()J")] 3

def k2c0 : Code := { maxStack := 3, maxLocals := 1, code := prog_30_method_1_code, exceptionTable := #[], attributes := #[] }
def k2m0 : Method := { name := "<init>", desc := "()V", sig := { parameters := [], returnType := none }, accessFlags := 0, code := some k2c0 }
def k2c1 : Code := { maxStack := 5, maxLocals := 3, code := prog_30_method_2_code, exceptionTable := #[], attributes := #[] }
def k2m1 : Method := { name := "next", desc := "()J", sig := { parameters := [], returnType := some .long }, accessFlags := 0, code := some k2c1 }
/-- com/example/calm_exit/calmexit/Pauses -/
def k2 : Class := { plain "com/example/calm_exit/calmexit/Pauses" (some 0) with
  accessFlags := 48
  interfaces := #[]
  cf := some (fileOf pool2 8 #[] #[{ accessFlags := 0, nameIndex := 5, descriptorIndex := 6, attributes := #[] }, { accessFlags := 0, nameIndex := 15, descriptorIndex := 41, attributes := #[] }] 48 2 #[] #[{ accessFlags := 26, nameIndex := 11, descriptorIndex := 12, attributes := #[] }, { accessFlags := 26, nameIndex := 20, descriptorIndex := 12, attributes := #[] }, { accessFlags := 2, nameIndex := 15, descriptorIndex := 12, attributes := #[] }])
  fields := #[{ name := "FIRST_NANOS", type := .long, accessFlags := 26, slot := 0, constantValue := 0 }, { name := "LAST_NANOS", type := .long, accessFlags := 26, slot := 1, constantValue := 0 }, { name := "next", type := .long, accessFlags := 2, slot := 0, constantValue := 0 }]
  methods := #[k2m0, k2m1]
  instanceTypes := #[.long]
  staticTypes := #[.long, .long]
  resolved := Array.replicate 45 none
  statics := some 0 }

def pool3 : Array CpInfo := pool [(1, .class_ 2), (0, u "java/lang/Math"), (1, .class_ 6), (1, u "java/lang/Object"), (0, u "<init>"), (0, u "()V"), (89, .class_ 100), (1, u "java/lang/Math$RandomNumberGeneratorHolder"), (20, u "(JJ)J"), (50, u "negativeZeroFloatBits"), (0, u "J"), (2, u "negativeZeroDoubleBits"), (24, u "min"), (43, u "$assertionsDisabled"), (0, u "Z"), (91, u "twoToTheDoubleScaleDown"), (0, u "D"), (4, u "twoToTheDoubleScaleUp"), (9, u "E"), (3, u "PI"), (2, u "TAU"), (2, u "DEGREES_TO_RADIANS"), (0, u "RADIANS_TO_DEGREES")] 94

def k3m0 : Method := { name := "<init>", desc := "()V", sig := { parameters := [], returnType := none }, accessFlags := 2, code := none }
def k3c1 : Code := { maxStack := 4, maxLocals := 4, code := jdk_29_method_70_code, exceptionTable := #[], attributes := #[] }
def k3m1 : Method := { name := "min", desc := "(JJ)J", sig := { parameters := [.long, .long], returnType := some .long }, accessFlags := 9, code := some k3c1 }
/-- java/lang/Math -/
def k3 : Class := { plain "java/lang/Math" (some 0) with
  accessFlags := 49
  interfaces := #[]
  cf := some (fileOf pool3 1 #[.nestMembers #[98]] #[{ accessFlags := 2, nameIndex := 7, descriptorIndex := 8, attributes := #[] }, { accessFlags := 9, nameIndex := 201, descriptorIndex := 121, attributes := #[] }] 49 4 #[] #[{ accessFlags := 25, nameIndex := 354, descriptorIndex := 339, attributes := #[] }, { accessFlags := 25, nameIndex := 358, descriptorIndex := 339, attributes := #[] }, { accessFlags := 25, nameIndex := 361, descriptorIndex := 339, attributes := #[] }, { accessFlags := 26, nameIndex := 364, descriptorIndex := 339, attributes := #[] }, { accessFlags := 26, nameIndex := 365, descriptorIndex := 339, attributes := #[] }, { accessFlags := 26, nameIndex := 172, descriptorIndex := 173, attributes := #[] }, { accessFlags := 26, nameIndex := 176, descriptorIndex := 173, attributes := #[] }, { accessFlags := 8, nameIndex := 344, descriptorIndex := 339, attributes := #[] }, { accessFlags := 8, nameIndex := 338, descriptorIndex := 339, attributes := #[] }, { accessFlags := 4120, nameIndex := 245, descriptorIndex := 246, attributes := #[] }])
  fields := #[{ name := "E", type := .double, accessFlags := 25, slot := 0, constantValue := 0 }, { name := "PI", type := .double, accessFlags := 25, slot := 1, constantValue := 0 }, { name := "TAU", type := .double, accessFlags := 25, slot := 2, constantValue := 0 }, { name := "DEGREES_TO_RADIANS", type := .double, accessFlags := 26, slot := 3, constantValue := 0 }, { name := "RADIANS_TO_DEGREES", type := .double, accessFlags := 26, slot := 4, constantValue := 0 }, { name := "negativeZeroFloatBits", type := .long, accessFlags := 26, slot := 5, constantValue := 0 }, { name := "negativeZeroDoubleBits", type := .long, accessFlags := 26, slot := 6, constantValue := 0 }, { name := "twoToTheDoubleScaleUp", type := .double, accessFlags := 8, slot := 7, constantValue := 0 }, { name := "twoToTheDoubleScaleDown", type := .double, accessFlags := 8, slot := 8, constantValue := 0 }, { name := "$assertionsDisabled", type := .boolean, accessFlags := 4120, slot := 9, constantValue := 0 }]
  methods := #[k3m0, k3m1]
  instanceTypes := #[]
  staticTypes := #[.double, .double, .double, .double, .double, .long, .long, .double, .double, .boolean]
  resolved := Array.replicate 460 none
  statics := none }

def pool4 : Array CpInfo := pool [(1, u "java/lang/Cloneable"), (0, .class_ 1), (0, u "java/lang/Object"), (0, .class_ 3)] 3

/-- java/lang/Cloneable -/
def k4 : Class := { plain "java/lang/Cloneable" (some 0) with
  accessFlags := 1537
  interfaces := #[]
  cf := some (fileOf pool4 2 #[] #[] 1537 4 #[] #[])
  fields := #[]
  methods := #[]
  instanceTypes := #[]
  staticTypes := #[]
  resolved := Array.replicate 8 none
  statics := none }

def pool5 : Array CpInfo := pool [(1, u "java/io/Serializable"), (0, .class_ 1), (0, u "java/lang/Object"), (0, .class_ 3)] 3

/-- java/io/Serializable -/
def k5 : Class := { plain "java/io/Serializable" (some 0) with
  accessFlags := 1537
  interfaces := #[]
  cf := some (fileOf pool5 2 #[] #[] 1537 4 #[] #[])
  fields := #[]
  methods := #[]
  instanceTypes := #[]
  staticTypes := #[]
  resolved := Array.replicate 8 none
  statics := none }

/-- the primitive byte -/
def k6 : Class := { plain "byte" none with kind := .primitive 'B', accessFlags := 0x411 }
/-- [B -/
def k7 : Class := { plain "[B" (some 0) with kind := .array 6 .byte, interfaces := #[4, 5], accessFlags := 1041 }

def heap : Heap := #[{ cls := 2, slots := #[.long 1000000, .long 16000000], vm := .statics 2 }]
def classes : Array Class := #[k0, k1, k2, k3, k4, k5, k6, k7]
def interned : List (Array UInt16 × Addr) := []
def slotsUsed : Nat := 2
def theMethod : MethodId := ⟨1, 1⟩
def args0 : Array Value := #[.int 5]
def aboutOver (below : List Frame) : State where
  vm := { classes := classes, interned := interned.toArray }
  heap := heap
  slotsUsed := slotsUsed
  threads := #[{ frames := .invoking theMethod args0 :: below }]
def below0 : List Frame := [.native { method := ⟨0, 0⟩, args := #[] }]
def about1 : State := aboutOver below0
def p0 : Program := .bare "" "" ""
def e0 : Env := launch0.env 0 0 0
theorem w_frames : about1.frames = Frame.invoking theMethod args0 :: below0 := rfl
set_option maxRecDepth 65536 in
theorem w_args : argsFit about1.vm theMethod args0 = true := by decide +kernel
set_option maxRecDepth 65536 in
theorem w_heap : heapFits about1 = true := by decide +kernel
set_option maxRecDepth 65536 in
theorem w_runnable : about1.curStatus? = some .runnable := by decide +kernel
set_option maxRecDepth 65536 in
theorem w_alone : about1.alone = true := by decide +kernel
set_option maxRecDepth 65536 in
theorem w_named : about1.methodNamed? x = some theMethod := by decide +kernel
set_option maxRecDepth 65536 in
theorem w_hears : about1.hears theMethod below0 = true := by decide +kernel
set_option maxRecDepth 65536 in
theorem w_ripe : about1.ripe theMethod args0 below0 = true := by decide +kernel
theorem w_running : about1.status = .running := rfl
set_option maxRecDepth 65536 in
theorem w_room : about1.hasRoom e0.platform room_1 = true :=
  launch0.hasRoom_least _ room_1 (by decide +kernel) (by decide +kernel) (by decide +kernel) (by decide +kernel) (by decide +kernel) (by decide +kernel)
theorem allAtoms_all (ts : List Jvm.Cond) (a : Array Jvm.Value) (st : Jvm.State) : (allAtoms ts).before a st = ts.all (fun c => c.before a st) := by
  induction ts with
  | nil => rfl
  | cons c t ih =>
    show (Jvm.Cond.and c (allAtoms t)).before a st = _
    rw [Jvm.Cond.before_and, ih, List.all_cons]
def words1 : List Jvm.Cond := Jvm.Cond.code x code maxLocals ret :: tables_1
/-- a 'code' word, met by the world's own term for the bytes: nothing is compared byte by byte -/
theorem code_word {y : MethodName} {bytes : ByteArray} {mx : Nat} {rt : Option FieldType} {a : Array Value} {s : State} {m : MethodId} {meth : Method} {c : Code} (h1 : s.methodNamed? y = some m) (h2 : s.vm.method? m = some meth) (h3 : meth.code = some c) (h4 : c.code = bytes)
    (h5 : (c.maxLocals == mx && c.exceptionTable.isEmpty && decide (c.maxStack ≤ mostOperands) && decide (meth.sig.returnType = rt) && !meth.locks && decide (parseMethodDescriptor y.desc = some meth.sig)) = true) : (Jvm.Cond.code y bytes mx rt).before a s = true := by
  simp only [Bool.and_eq_true, beq_iff_eq, Bool.not_eq_true', decide_eq_true_eq] at h5
  obtain ⟨⟨⟨⟨⟨g1, g2⟩, g3⟩, g4⟩, g5⟩, g6⟩ := h5
  simp [Cond.before, Cond.holds, Cond.value, h1, h2, h3, h4, g1, g2, g3, g4, g5, g6]
def isCode : Jvm.Cond → Bool
  | .code _ _ _ _ => true
  | _ => false
theorem all_split {L : List Jvm.Cond} {P : Jvm.Cond → Bool} (h1 : L.all (fun c => isCode c || P c) = true) (h2 : ∀ c ∈ L.filter isCode, P c = true) : L.all P = true := by
  refine List.all_eq_true.mpr fun c hc => ?_
  have h := List.all_eq_true.mp h1 c hc
  rcases Bool.eq_false_or_eq_true (isCode c) with hi | hi
  · exact h2 c (List.mem_filter.mpr ⟨hc, hi⟩)
  · simpa [hi] using h
set_option maxRecDepth 65536 in
theorem w_c0 : (Jvm.Cond.code x code maxLocals ret).before args0 about1 = true := code_word (m := ⟨1, 1⟩) (meth := k1m1) (c := k1c1) (by decide +kernel) rfl rfl rfl (by decide +kernel)
set_option maxRecDepth 65536 in
theorem w_c1 : (Jvm.Cond.code ({ cls := "com/example/calm_exit/calmexit/Pauses", name := "<init>", desc := "()V" } : Jvm.MethodName) prog_30_method_1_code (1 : Nat) (Option.none : Option Jvm.ClassFile.FieldType)).before args0 about1 = true := code_word (m := ⟨2, 0⟩) (meth := k2m0) (c := k2c0) (by decide +kernel) rfl rfl rfl (by decide +kernel)
set_option maxRecDepth 65536 in
theorem w_c2 : (Jvm.Cond.code ({ cls := "java/lang/Object", name := "<init>", desc := "()V" } : Jvm.MethodName) object_method_1_code (1 : Nat) (Option.none : Option Jvm.ClassFile.FieldType)).before args0 about1 = true := code_word (m := ⟨0, 0⟩) (meth := k0m0) (c := k0c0) (by decide +kernel) rfl rfl rfl (by decide +kernel)
set_option maxRecDepth 65536 in
theorem w_c3 : (Jvm.Cond.code ({ cls := "com/example/calm_exit/calmexit/Pauses", name := "next", desc := "()J" } : Jvm.MethodName) prog_30_method_2_code (3 : Nat) (Option.some Jvm.ClassFile.FieldType.long)).before args0 about1 = true := code_word (m := ⟨2, 1⟩) (meth := k2m1) (c := k2c1) (by decide +kernel) rfl rfl rfl (by decide +kernel)
set_option maxRecDepth 65536 in
theorem w_c4 : (Jvm.Cond.code ({ cls := "java/lang/Math", name := "min", desc := "(JJ)J" } : Jvm.MethodName) jdk_29_method_70_code (4 : Nat) (Option.some Jvm.ClassFile.FieldType.long)).before args0 about1 = true := code_word (m := ⟨3, 1⟩) (meth := k3m1) (c := k3c1) (by decide +kernel) rfl rfl rfl (by decide +kernel)
def codes1 : List Jvm.Cond := [Jvm.Cond.code x code maxLocals ret, Jvm.Cond.code ({ cls := "com/example/calm_exit/calmexit/Pauses", name := "<init>", desc := "()V" } : Jvm.MethodName) prog_30_method_1_code (1 : Nat) (Option.none : Option Jvm.ClassFile.FieldType), Jvm.Cond.code ({ cls := "java/lang/Object", name := "<init>", desc := "()V" } : Jvm.MethodName) object_method_1_code (1 : Nat) (Option.none : Option Jvm.ClassFile.FieldType), Jvm.Cond.code ({ cls := "com/example/calm_exit/calmexit/Pauses", name := "next", desc := "()J" } : Jvm.MethodName) prog_30_method_2_code (3 : Nat) (Option.some Jvm.ClassFile.FieldType.long), Jvm.Cond.code ({ cls := "java/lang/Math", name := "min", desc := "(JJ)J" } : Jvm.MethodName) jdk_29_method_70_code (4 : Nat) (Option.some Jvm.ClassFile.FieldType.long)]
set_option maxRecDepth 65536 in
theorem codes_eq : words1.filter isCode = codes1 := rfl
theorem w_codes : ∀ c ∈ words1.filter isCode, c.before args0 about1 = true := by
  rw [codes_eq]
  intro c hc
  simp only [codes1, List.mem_cons, List.not_mem_nil, or_false] at hc
  rcases hc with rfl | rfl | rfl | rfl | rfl
  · exact w_c0
  · exact w_c1
  · exact w_c2
  · exact w_c3
  · exact w_c4
set_option maxRecDepth 65536 in
theorem w_t1 : (words1.take 24).all (fun c => isCode c || c.before args0 about1) = true := by decide +kernel
set_option maxRecDepth 65536 in
theorem w_t2 : (words1.drop 24).all (fun c => isCode c || c.before args0 about1) = true := by decide +kernel
theorem w_tables : (allAtoms (Jvm.Cond.code x code maxLocals ret :: tables_1)).before args0 about1 = true := by
  rw [allAtoms_all]
  show words1.all (fun c => c.before args0 about1) = true
  refine all_split ?_ w_codes
  rw [← List.take_append_drop 24 words1, List.all_append, w_t1, w_t2]
  rfl
set_option maxRecDepth 65536 in
theorem w_case : (Jvm.Cond.and given_1 narrow_1).before args0 about1 = true := by decide +kernel
theorem w_applies : (headSpec (Jvm.Cond.code x code maxLocals ret :: tables_1) room_1).applies x e0.platform about1 = true :=
  (Spec.applies_iff w_frames).mpr ⟨w_running, w_runnable, w_alone, w_named, w_hears, w_ripe, w_room, w_tables⟩
theorem atStart : AtStart classFile x code maxLocals ret World_1 tables_1 room_1 Calls_1 rest_1 Pre_1 launch0 p0 e0 about1 theMethod args0 below0 :=
  ⟨lists_1, trivial, launch0.admits_env _ _ _, launch0.least_env, fairChoices_fair.cas, fairChoices_fair.clock, w_frames, w_args, w_heap, w_applies, trivial, trivial, w_case⟩
end start1
theorem witness_1 : WitnessClaimed_1 := ⟨start1.p0, start1.e0, start1.about1, start1.theMethod, start1.args0, start1.below0, start1.atStart⟩
end Jvm.Pilot.@@N@@
