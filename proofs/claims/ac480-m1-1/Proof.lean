import JvmDerived
import JvmDerived.Pilot.@@N@@Statement
import JvmDerived.Pilot.@@N@@Code
set_option linter.unusedVariables false
set_option linter.unusedSimpArgs false
namespace Jvm.RoadKit
open Sem ClassFile Op Lib Jvm.Stand Jvm.Free Jvm.LawKit
section New
variable {p : Program} {l : Launch} {e : Env} {R : Room} {s : State} {m : MethodId} {args : Array Value} {below : List Frame} {meth : Method} {c : Code} {T : State} {locs : List Loc} {cells slots : Nat}
theorem retI (X : Stand p l e R s m args below meth c T locs cells slots) (hx : p.tables.exec = Jvm.exec) {pc : Nat} {Ls : Array Slot} {z : Int32} {rest : List Value} (hret : meth.sig.returnType = some .int) (hd : decode c.code pc = .ok (.ireturn, 1)) {fs : List Frame}
    (hl : ∀ (f : JFrame) (acts : List Action), f.method = m → f.locked = none → f.entered = [] → (doReturn e (T.setTop f) acts (some (.int z))).1 = T.setFrames fs) : Steps p.tables e below (T.setTop (mkF m pc Ls (.int z :: rest))) (T.setFrames fs) := by
  have hm' : T.vm.method? m = some meth := X.method'
  have hn : narrow .int (.int z) = .int z := rfl
  show Steps p.tables e below (T.setTop { method := m, pc := pc, locals := Ls, stack := _ :: rest, locked := none }) _
  jvm_step X.here [X.here.top, hx, hd, hm', hret, hn]
  first | (intro acts; rw [hl _ acts rfl rfl rfl]) | rw [hl _ _ rfl rfl rfl]
  exact Steps.refl _
end New
end Jvm.RoadKit
namespace Jvm.Pilot.@@N@@
open Jvm Jvm.ClassFile Sem Op Lib Jvm.Free Jvm.Stand Jvm.LawKit Jvm.RoadKit Bundle Jvm.Pilot.@@N@@.Jvm.D
def own_hex (d : Int32) : Int32 := if d < (10 : Int32) then (48 : Int32) + d else (55 : Int32) + d
def own_want (i o hi lo fb : Int32) : Int32 := if i = o then (37 : Int32).toInt8.toInt32 else if i = o + (1 : Int32) then (own_hex hi).toInt8.toInt32 else if i = o + (2 : Int32) then (own_hex lo).toInt8.toInt32 else fb
theorem d3_0 : decode method_2_code 0 = .ok (.iload_n 0, 1) := by decide +kernel
theorem d3_1 : decode method_2_code 1 = .ok (.bipush 10, 2) := by decide +kernel
theorem d3_3 : decode method_2_code 3 = .ok (.if_icmp .ge 10, 3) := by decide +kernel
theorem d3_6 : decode method_2_code 6 = .ok (.bipush 48, 2) := by decide +kernel
theorem d3_8 : decode method_2_code 8 = .ok (.iload_n 0, 1) := by decide +kernel
theorem d3_9 : decode method_2_code 9 = .ok (.iadd, 1) := by decide +kernel
theorem d3_10 : decode method_2_code 10 = .ok (.goto 7, 3) := by decide +kernel
theorem d3_17 : decode method_2_code 17 = .ok (.ireturn, 1) := by decide +kernel
theorem pn_3 : plainName "com/example/humble_escaper/humbleescaper/PercentEscapesWriteOctetPinLaw" = true := by first | (simp [plainName, overriddenIn]; done) | decide +kernel
theorem ef_3 (m : MethodId) (x0 : Int32) : entryFrame m #[(.int x0)] 1 = mkF m 0 #[.val (.int x0)] [] := by first | (simp [entryFrame, mkF, argsToLocals, Value.category]; done) | rfl
def Q3 (Z : State) (p1 : Int32) (h0 : Heap) (n0 : Nat) (v : Option Value) (h : Heap) (L : List Loc) : Prop := v = some (.int (own_hex p1)) ∧ Fr n0 L ∧ h = h0
set_option maxRecDepth 65536 in
set_option maxHeartbeats 40000000 in
theorem rm3A (l : Launch) (Z : State) (a0 : Array Value) (hw : ∀ d ∈ tables_1, d.before a0 Z = true) (ws : List Jvm.Cond) (p1 : Int32) (h0 : Heap) (n0 : Nat) (Z0 : n0 ≤ h0.size) (hc3 : p1 < (10 : Int32)) :
    MetFree l (⟨"com/example/humble_escaper/humbleescaper/PercentEscapesWriteOctetPinLaw", "hex", "(I)I"⟩ : MethodName) (head1 (Jvm.Cond.code (⟨"com/example/humble_escaper/humbleescaper/PercentEscapesWriteOctetPinLaw", "hex", "(I)I"⟩ : MethodName) method_2_code 1 (some .int) :: ws) ({ frames := 0, cells := 0, slots := 0, locals := 0 } : Room)) (fun a U => a = #[(.int p1)] ∧ Z.Warmed39 U.vm ∧ U.heap = h0) (fun _ _ _ _ _ => True) (fun _ U o U' => ∃ v L, o = .returned v ∧ Q3 Z p1 h0 n0 v U'.heap L ∧ FrameEnd U o U' L ({ frames := 0, cells := 0, slots := 0, locals := 0 } : Room).cells ({ frames := 0, cells := 0, slots := 0, locals := 0 } : Room).slots) := by
  refine MetFree.of_bodySF (plainFor_of_name pn_3) hisR ?_
  intro p e s m args below meth c s₁ Bd hml0 hP hK
  obtain ⟨rfl, hZ, hh⟩ := hP
  have hx := Bd.exec
  have hby := Bd.bytes
  have hml : c.maxLocals = 1 := hml0
  have hown : s.vm.findClass "com/example/humble_escaper/humbleescaper/PercentEscapesWriteOctetPinLaw" = some m.cls := findClass_of_methodNamed Bd.named
  have hnm := (name_of_methodNamed Bd.named Bd.method).1
  have X0 : Stand p l e ({ frames := 0, cells := 0, slots := 0, locals := 0 } : Room) s m #[(.int p1)] below meth c s₁ [] 0 0 := Stand.of_body Bd
  have e0 : s₁.heap = h0 := by rw [← hh, Bd.state]; rfl
  have N0 := Fr.nil n0
  have pre0 : ∀ t, Steps p.tables e below (s₁.setTop (mkF m 0 #[.val (.int p1)] [])) t → Steps p.tables e below (s₁.setTop (entryFrame m #[(.int p1)] 1)) t := fun t k => castTop (ef_3 m p1) k
  obtain ⟨fs, hr, hrun, hended, hW, hsame⟩ := X0.leave (v := some (.int ((48 : Int32) + p1))) (fun h => by rw [Bd.returns] at h; cases h)
  refine ⟨_, _, pre0 _ ?_, hrun, hended, _, _, rfl, ?_, ⟨_, rfl⟩, hW, hsame.mono (by decide) (by decide)⟩
  · show Steps p.tables e below (s₁.setTop (mkF m 0 #[.val (.int p1)] [])) _
    refine XS.iloadN X0.here hx rfl (hb hby d3_0) rfl ?_
    show Steps p.tables e below (s₁.setTop (mkF m 1 #[.val (.int p1)] [(.int p1)])) _
    refine XS.bipush X0.here hx rfl (hb hby d3_1) ?_
    show Steps p.tables e below (s₁.setTop (mkF m 3 #[.val (.int p1)] [(.int (10 : Int32)), (.int p1)])) _
    refine XS.icmpNo X0.here hx rfl (hb hby d3_3) rfl (tlt hc3).2.1 ?_
    show Steps p.tables e below (s₁.setTop (mkF m 6 #[.val (.int p1)] [])) _
    refine XS.bipush X0.here hx rfl (hb hby d3_6) ?_
    show Steps p.tables e below (s₁.setTop (mkF m 8 #[.val (.int p1)] [(.int (48 : Int32))])) _
    refine XS.iloadN X0.here hx rfl (hb hby d3_8) rfl ?_
    show Steps p.tables e below (s₁.setTop (mkF m 9 #[.val (.int p1)] [(.int p1), (.int (48 : Int32))])) _
    refine XS.iadd X0.here hx rfl (hb hby d3_9) rfl ?_
    show Steps p.tables e below (s₁.setTop (mkF m 10 #[.val (.int p1)] [(.int ((48 : Int32) + p1))])) _
    refine XS.goto X0.here hx rfl (pc0 := 10) (pc' := 17) rfl (hb hby d3_10) (by decide) (by decide) ?_
    show Steps p.tables e below (s₁.setTop (mkF m 17 #[.val (.int p1)] [(.int ((48 : Int32) + p1))])) _
    exact retI X0 hx Bd.returns (hb hby d3_17) hr
  · show Q3 Z p1 h0 n0 _ s₁.heap _
    rw [e0]
    exact ⟨by rw [own_hex, if_pos hc3], N0, rfl⟩
theorem d3_13 : decode method_2_code 13 = .ok (.bipush 55, 2) := by decide +kernel
theorem d3_15 : decode method_2_code 15 = .ok (.iload_n 0, 1) := by decide +kernel
theorem d3_16 : decode method_2_code 16 = .ok (.iadd, 1) := by decide +kernel
set_option maxRecDepth 65536 in
set_option maxHeartbeats 40000000 in
theorem rm3B (l : Launch) (Z : State) (a0 : Array Value) (hw : ∀ d ∈ tables_1, d.before a0 Z = true) (ws : List Jvm.Cond) (p1 : Int32) (h0 : Heap) (n0 : Nat) (Z0 : n0 ≤ h0.size) (hc3 : ¬ (p1 < (10 : Int32))) :
    MetFree l (⟨"com/example/humble_escaper/humbleescaper/PercentEscapesWriteOctetPinLaw", "hex", "(I)I"⟩ : MethodName) (head1 (Jvm.Cond.code (⟨"com/example/humble_escaper/humbleescaper/PercentEscapesWriteOctetPinLaw", "hex", "(I)I"⟩ : MethodName) method_2_code 1 (some .int) :: ws) ({ frames := 0, cells := 0, slots := 0, locals := 0 } : Room)) (fun a U => a = #[(.int p1)] ∧ Z.Warmed39 U.vm ∧ U.heap = h0) (fun _ _ _ _ _ => True) (fun _ U o U' => ∃ v L, o = .returned v ∧ Q3 Z p1 h0 n0 v U'.heap L ∧ FrameEnd U o U' L ({ frames := 0, cells := 0, slots := 0, locals := 0 } : Room).cells ({ frames := 0, cells := 0, slots := 0, locals := 0 } : Room).slots) := by
  refine MetFree.of_bodySF (plainFor_of_name pn_3) hisR ?_
  intro p e s m args below meth c s₁ Bd hml0 hP hK
  obtain ⟨rfl, hZ, hh⟩ := hP
  have hx := Bd.exec
  have hby := Bd.bytes
  have hml : c.maxLocals = 1 := hml0
  have hown : s.vm.findClass "com/example/humble_escaper/humbleescaper/PercentEscapesWriteOctetPinLaw" = some m.cls := findClass_of_methodNamed Bd.named
  have hnm := (name_of_methodNamed Bd.named Bd.method).1
  have X0 : Stand p l e ({ frames := 0, cells := 0, slots := 0, locals := 0 } : Room) s m #[(.int p1)] below meth c s₁ [] 0 0 := Stand.of_body Bd
  have e0 : s₁.heap = h0 := by rw [← hh, Bd.state]; rfl
  have N0 := Fr.nil n0
  have pre0 : ∀ t, Steps p.tables e below (s₁.setTop (mkF m 0 #[.val (.int p1)] [])) t → Steps p.tables e below (s₁.setTop (entryFrame m #[(.int p1)] 1)) t := fun t k => castTop (ef_3 m p1) k
  obtain ⟨fs, hr, hrun, hended, hW, hsame⟩ := X0.leave (v := some (.int ((55 : Int32) + p1))) (fun h => by rw [Bd.returns] at h; cases h)
  refine ⟨_, _, pre0 _ ?_, hrun, hended, _, _, rfl, ?_, ⟨_, rfl⟩, hW, hsame.mono (by decide) (by decide)⟩
  · show Steps p.tables e below (s₁.setTop (mkF m 0 #[.val (.int p1)] [])) _
    refine XS.iloadN X0.here hx rfl (hb hby d3_0) rfl ?_
    show Steps p.tables e below (s₁.setTop (mkF m 1 #[.val (.int p1)] [(.int p1)])) _
    refine XS.bipush X0.here hx rfl (hb hby d3_1) ?_
    show Steps p.tables e below (s₁.setTop (mkF m 3 #[.val (.int p1)] [(.int (10 : Int32)), (.int p1)])) _
    refine XS.icmpYes X0.here hx rfl (pc0 := 3) (pc' := 13) rfl (hb hby d3_3) rfl (flt hc3).2.1 (by decide) (by decide) ?_
    show Steps p.tables e below (s₁.setTop (mkF m 13 #[.val (.int p1)] [])) _
    refine XS.bipush X0.here hx rfl (hb hby d3_13) ?_
    show Steps p.tables e below (s₁.setTop (mkF m 15 #[.val (.int p1)] [(.int (55 : Int32))])) _
    refine XS.iloadN X0.here hx rfl (hb hby d3_15) rfl ?_
    show Steps p.tables e below (s₁.setTop (mkF m 16 #[.val (.int p1)] [(.int p1), (.int (55 : Int32))])) _
    refine XS.iadd X0.here hx rfl (hb hby d3_16) rfl ?_
    show Steps p.tables e below (s₁.setTop (mkF m 17 #[.val (.int p1)] [(.int ((55 : Int32) + p1))])) _
    exact retI X0 hx Bd.returns (hb hby d3_17) hr
  · show Q3 Z p1 h0 n0 _ s₁.heap _
    rw [e0]
    exact ⟨by rw [own_hex, if_neg hc3], N0, rfl⟩
theorem rm3 (l : Launch) (Z : State) (a0 : Array Value) (hw : ∀ d ∈ tables_1, d.before a0 Z = true) (ws : List Jvm.Cond) (p1 : Int32) (h0 : Heap) (n0 : Nat) (Z0 : n0 ≤ h0.size) :
    MetFree l (⟨"com/example/humble_escaper/humbleescaper/PercentEscapesWriteOctetPinLaw", "hex", "(I)I"⟩ : MethodName) (head1 (Jvm.Cond.code (⟨"com/example/humble_escaper/humbleescaper/PercentEscapesWriteOctetPinLaw", "hex", "(I)I"⟩ : MethodName) method_2_code 1 (some .int) :: ws) ({ frames := 0, cells := 0, slots := 0, locals := 0 } : Room)) (fun a U => a = #[(.int p1)] ∧ Z.Warmed39 U.vm ∧ U.heap = h0) (fun _ _ _ _ _ => True) (fun _ U o U' => ∃ v L, o = .returned v ∧ Q3 Z p1 h0 n0 v U'.heap L ∧ FrameEnd U o U' L ({ frames := 0, cells := 0, slots := 0, locals := 0 } : Room).cells ({ frames := 0, cells := 0, slots := 0, locals := 0 } : Room).slots) :=
  (Classical.em (p1 < (10 : Int32))).elim (rm3A l Z a0 hw ws p1 h0 n0 Z0) (rm3B l Z a0 hw ws p1 h0 n0 Z0)
theorem d2_0 : decode method_3_code 0 = .ok (.iload_n 1, 1) := by decide +kernel
theorem d2_1 : decode method_3_code 1 = .ok (.iload_n 2, 1) := by decide +kernel
theorem d2_2 : decode method_3_code 2 = .ok (.if_icmp .ne 10, 3) := by decide +kernel
theorem d2_5 : decode method_3_code 5 = .ok (.bipush 37, 2) := by decide +kernel
theorem d2_7 : decode method_3_code 7 = .ok (.istore 6, 2) := by decide +kernel
theorem d2_9 : decode method_3_code 9 = .ok (.goto 50, 3) := by decide +kernel
theorem d2_59 : decode method_3_code 59 = .ok (.aload_n 0, 1) := by decide +kernel
theorem d2_60 : decode method_3_code 60 = .ok (.iload_n 1, 1) := by decide +kernel
theorem d2_61 : decode method_3_code 61 = .ok (.baload, 1) := by decide +kernel
theorem d2_62 : decode method_3_code 62 = .ok (.iload 6, 2) := by decide +kernel
theorem d2_64 : decode method_3_code 64 = .ok (.i2b, 1) := by decide +kernel
theorem d2_65 : decode method_3_code 65 = .ok (.if_icmp .ne 7, 3) := by decide +kernel
theorem d2_68 : decode method_3_code 68 = .ok (.iconst 1, 1) := by decide +kernel
theorem d2_69 : decode method_3_code 69 = .ok (.goto 4, 3) := by decide +kernel
theorem d2_73 : decode method_3_code 73 = .ok (.ireturn, 1) := by decide +kernel
theorem pn_2 : plainName "com/example/humble_escaper/humbleescaper/PercentEscapesWriteOctetPinLaw" = true := by first | (simp [plainName, overriddenIn]; done) | decide +kernel
theorem ef_2 (m : MethodId) (x0 : Addr) (x1 : Int32) (x2 : Int32) (x3 : Int32) (x4 : Int32) (x5 : Int32) : entryFrame m #[(.ref x0), (.int x1), (.int x2), (.int x3), (.int x4), (.int x5)] 7 = mkF m 0 #[.val (.ref x0), .val (.int x1), .val (.int x2), .val (.int x3), .val (.int x4), .val (.int x5), .unset] [] := by first | (simp [entryFrame, mkF, argsToLocals, Value.category]; done) | rfl
def Q2 (Z : State)  (h0 : Heap) (n0 : Nat) (v : Option Value) (h : Heap) (L : List Loc) : Prop := v = some (.int (1 : Int32)) ∧ Fr n0 L ∧ h = h0
set_option maxRecDepth 65536 in
set_option maxHeartbeats 40000000 in
theorem rm2A (l : Launch) (Z : State) (a0 : Array Value) (hw : ∀ d ∈ tables_1, d.before a0 Z = true) (ws : List Jvm.Cond) (a1 : Addr) (p2 : Int32) (p3 : Int32) (p4 : Int32) (p5 : Int32) (p6 : Int32) (w7 : Int32) (cl_a1 : Cell) (h0 : Heap) (n0 : Nat) (Z0 : n0 ≤ h0.size) (Ar_a1 : Arr Z h0 a1 cl_a1 .byte) (hin61 : ¬ (p2 < 0 ∨ cl_a1.slots.size ≤ (p2).toNatClampNeg)) (hat61 : cl_a1.slots[(p2).toNatClampNeg]? = some (.int w7)) (hc2 : p2 = p3) (hc65 : w7 = ((37 : Int32).toInt8.toInt32)) :
    MetFree l (⟨"com/example/humble_escaper/humbleescaper/PercentEscapesWriteOctetPinLaw", "at", "([BIIIIB)Z"⟩ : MethodName) (head1 (Jvm.Cond.code (⟨"com/example/humble_escaper/humbleescaper/PercentEscapesWriteOctetPinLaw", "at", "([BIIIIB)Z"⟩ : MethodName) method_3_code 7 (some .boolean) :: ws) ({ frames := 1, cells := 0, slots := 0, locals := 12 } : Room)) (fun a U => a = #[(.ref a1), (.int p2), (.int p3), (.int p4), (.int p5), (.int p6)] ∧ Z.Warmed39 U.vm ∧ U.heap = h0) (fun _ _ _ _ _ => True) (fun _ U o U' => ∃ v L, o = .returned v ∧ Q2 Z  h0 n0 v U'.heap L ∧ FrameEnd U o U' L ({ frames := 1, cells := 0, slots := 0, locals := 12 } : Room).cells ({ frames := 1, cells := 0, slots := 0, locals := 12 } : Room).slots) := by
  refine MetFree.of_bodySF (plainFor_of_name pn_2) hisR ?_
  intro p e s m args below meth c s₁ Bd hml0 hP hK
  obtain ⟨rfl, hZ, hh⟩ := hP
  have hx := Bd.exec
  have hby := Bd.bytes
  have hml : c.maxLocals = 7 := hml0
  have hown : s.vm.findClass "com/example/humble_escaper/humbleescaper/PercentEscapesWriteOctetPinLaw" = some m.cls := findClass_of_methodNamed Bd.named
  have hnm := (name_of_methodNamed Bd.named Bd.method).1
  have X0 : Stand p l e ({ frames := 1, cells := 0, slots := 0, locals := 12 } : Room) s m #[(.ref a1), (.int p2), (.int p3), (.int p4), (.int p5), (.int p6)] below meth c s₁ [] 0 0 := Stand.of_body Bd
  have e0 : s₁.heap = h0 := by rw [← hh, Bd.state]; rfl
  have N0 := Fr.nil n0
  have pre0 : ∀ t, Steps p.tables e below (s₁.setTop (mkF m 0 #[.val (.ref a1), .val (.int p2), .val (.int p3), .val (.int p4), .val (.int p5), .val (.int p6), .unset] [])) t → Steps p.tables e below (s₁.setTop (entryFrame m #[(.ref a1), (.int p2), (.int p3), (.int p4), (.int p5), (.int p6)] 7)) t := fun t k => castTop (ef_2 m a1 p2 p3 p4 p5 p6) k
  obtain ⟨fs, hr, hrun, hended, hW, hsame⟩ := X0.leave (v := some (.int (1 : Int32))) (fun h => by rw [Bd.returns] at h; cases h)
  refine ⟨_, _, pre0 _ ?_, hrun, hended, _, _, rfl, ?_, ⟨_, rfl⟩, hW, hsame.mono (by decide) (by decide)⟩
  · show Steps p.tables e below (s₁.setTop (mkF m 0 #[.val (.ref a1), .val (.int p2), .val (.int p3), .val (.int p4), .val (.int p5), .val (.int p6), .unset] [])) _
    refine XS.iloadN X0.here hx rfl (hb hby d2_0) rfl ?_
    show Steps p.tables e below (s₁.setTop (mkF m 1 #[.val (.ref a1), .val (.int p2), .val (.int p3), .val (.int p4), .val (.int p5), .val (.int p6), .unset] [(.int p2)])) _
    refine XS.iloadN X0.here hx rfl (hb hby d2_1) rfl ?_
    show Steps p.tables e below (s₁.setTop (mkF m 2 #[.val (.ref a1), .val (.int p2), .val (.int p3), .val (.int p4), .val (.int p5), .val (.int p6), .unset] [(.int p3), (.int p2)])) _
    refine XS.icmpNo X0.here hx rfl (hb hby d2_2) rfl (teq hc2).2 ?_
    show Steps p.tables e below (s₁.setTop (mkF m 5 #[.val (.ref a1), .val (.int p2), .val (.int p3), .val (.int p4), .val (.int p5), .val (.int p6), .unset] [])) _
    refine XS.bipush X0.here hx rfl (hb hby d2_5) ?_
    show Steps p.tables e below (s₁.setTop (mkF m 7 #[.val (.ref a1), .val (.int p2), .val (.int p3), .val (.int p4), .val (.int p5), .val (.int p6), .unset] [(.int (37 : Int32))])) _
    refine XS.istore X0.here hx rfl (hb hby d2_7) rfl (l' := #[.val (.ref a1), .val (.int p2), .val (.int p3), .val (.int p4), .val (.int p5), .val (.int p6), .val (.int (37 : Int32))]) rfl ?_
    show Steps p.tables e below (s₁.setTop (mkF m 9 #[.val (.ref a1), .val (.int p2), .val (.int p3), .val (.int p4), .val (.int p5), .val (.int p6), .val (.int (37 : Int32))] [])) _
    refine XS.goto X0.here hx rfl (pc0 := 9) (pc' := 59) rfl (hb hby d2_9) (by decide) (by decide) ?_
    show Steps p.tables e below (s₁.setTop (mkF m 59 #[.val (.ref a1), .val (.int p2), .val (.int p3), .val (.int p4), .val (.int p5), .val (.int p6), .val (.int (37 : Int32))] [])) _
    refine XS.aloadN X0.here hx rfl (hb hby d2_59) rfl rfl ?_
    show Steps p.tables e below (s₁.setTop (mkF m 60 #[.val (.ref a1), .val (.int p2), .val (.int p3), .val (.int p4), .val (.int p5), .val (.int p6), .val (.int (37 : Int32))] [(.ref a1)])) _
    refine XS.iloadN X0.here hx rfl (hb hby d2_60) rfl ?_
    show Steps p.tables e below (s₁.setTop (mkF m 61 #[.val (.ref a1), .val (.int p2), .val (.int p3), .val (.int p4), .val (.int p5), .val (.int p6), .val (.int (37 : Int32))] [(.int p2), (.ref a1)])) _
    refine X0.baloadBytes hx (j := p2) (v := (.int w7)) (by rw [e0]; exact Ar_a1.1) (State.isArrayOf_alike hZ.alike Ar_a1.2.1) Ar_a1.2.2 hin61 hat61 (g := (mkF m 61 #[.val (.ref a1), .val (.int p2), .val (.int p3), .val (.int p4), .val (.int p5), .val (.int p6), .val (.int (37 : Int32))] [(.int p2), (.ref a1)])) rfl rfl (hb hby d2_61) _ ?_
    show Steps p.tables e below (s₁.setTop (mkF m 62 #[.val (.ref a1), .val (.int p2), .val (.int p3), .val (.int p4), .val (.int p5), .val (.int p6), .val (.int (37 : Int32))] [(.int w7)])) _
    refine XS.iload X0.here hx rfl (hb hby d2_62) rfl ?_
    show Steps p.tables e below (s₁.setTop (mkF m 64 #[.val (.ref a1), .val (.int p2), .val (.int p3), .val (.int p4), .val (.int p5), .val (.int p6), .val (.int (37 : Int32))] [(.int (37 : Int32)), (.int w7)])) _
    refine XS.i2b X0.here hx rfl (hb hby d2_64) rfl ?_
    show Steps p.tables e below (s₁.setTop (mkF m 65 #[.val (.ref a1), .val (.int p2), .val (.int p3), .val (.int p4), .val (.int p5), .val (.int p6), .val (.int (37 : Int32))] [(.int ((37 : Int32).toInt8.toInt32)), (.int w7)])) _
    refine XS.icmpNo X0.here hx rfl (hb hby d2_65) rfl (teq hc65).2 ?_
    show Steps p.tables e below (s₁.setTop (mkF m 68 #[.val (.ref a1), .val (.int p2), .val (.int p3), .val (.int p4), .val (.int p5), .val (.int p6), .val (.int (37 : Int32))] [])) _
    refine XS.iconst X0.here hx rfl (hb hby d2_68) ?_
    show Steps p.tables e below (s₁.setTop (mkF m 69 #[.val (.ref a1), .val (.int p2), .val (.int p3), .val (.int p4), .val (.int p5), .val (.int p6), .val (.int (37 : Int32))] [(.int (1 : Int32))])) _
    refine XS.goto X0.here hx rfl (pc0 := 69) (pc' := 73) rfl (hb hby d2_69) (by decide) (by decide) ?_
    show Steps p.tables e below (s₁.setTop (mkF m 73 #[.val (.ref a1), .val (.int p2), .val (.int p3), .val (.int p4), .val (.int p5), .val (.int p6), .val (.int (37 : Int32))] [(.int (1 : Int32))])) _
    exact retN X0 hx (t := .boolean) Bd.returns (by simp) (hb hby d2_73) hr
  · show Q2 Z  h0 n0 _ s₁.heap _
    rw [e0]
    exact ⟨rfl, N0, rfl⟩
theorem d2_12 : decode method_3_code 12 = .ok (.iload_n 1, 1) := by decide +kernel
theorem d2_13 : decode method_3_code 13 = .ok (.iload_n 2, 1) := by decide +kernel
theorem d2_14 : decode method_3_code 14 = .ok (.iconst 1, 1) := by decide +kernel
theorem d2_15 : decode method_3_code 15 = .ok (.iadd, 1) := by decide +kernel
theorem d2_16 : decode method_3_code 16 = .ok (.if_icmp .ne 12, 3) := by decide +kernel
theorem d2_19 : decode method_3_code 19 = .ok (.iload_n 3, 1) := by decide +kernel
theorem d2_20 : decode method_3_code 20 = .ok (.invokestatic 7, 3) := by decide +kernel
theorem d2_23 : decode method_3_code 23 = .ok (.istore 6, 2) := by decide +kernel
theorem d2_25 : decode method_3_code 25 = .ok (.goto 34, 3) := by decide +kernel
theorem pd_2_2 : parseMethodDescriptor "(I)I" = some ⟨[.int], some .int⟩ := by decide +kernel
set_option maxRecDepth 65536 in
set_option maxHeartbeats 40000000 in
theorem rm2B (l : Launch) (Z : State) (a0 : Array Value) (hw : ∀ d ∈ tables_1, d.before a0 Z = true) (ws : List Jvm.Cond) (a1 : Addr) (p2 : Int32) (p3 : Int32) (p4 : Int32) (p5 : Int32) (p6 : Int32) (w8 : Int32) (cl_a1 : Cell) (h0 : Heap) (n0 : Nat) (Z0 : n0 ≤ h0.size) (Ar_a1 : Arr Z h0 a1 cl_a1 .byte) (hin61 : ¬ (p2 < 0 ∨ cl_a1.slots.size ≤ (p2).toNatClampNeg)) (hat61 : cl_a1.slots[(p2).toNatClampNeg]? = some (.int w8)) (hc2 : ¬ (p2 = p3)) (hc16 : p2 = (p3 + (1 : Int32))) (hc65 : w8 = ((own_hex p4).toInt8.toInt32)) :
    MetFree l (⟨"com/example/humble_escaper/humbleescaper/PercentEscapesWriteOctetPinLaw", "at", "([BIIIIB)Z"⟩ : MethodName) (head1 (Jvm.Cond.code (⟨"com/example/humble_escaper/humbleescaper/PercentEscapesWriteOctetPinLaw", "at", "([BIIIIB)Z"⟩ : MethodName) method_3_code 7 (some .boolean) :: ws) ({ frames := 1, cells := 0, slots := 0, locals := 12 } : Room)) (fun a U => a = #[(.ref a1), (.int p2), (.int p3), (.int p4), (.int p5), (.int p6)] ∧ Z.Warmed39 U.vm ∧ U.heap = h0) (fun _ _ _ _ _ => True) (fun _ U o U' => ∃ v L, o = .returned v ∧ Q2 Z  h0 n0 v U'.heap L ∧ FrameEnd U o U' L ({ frames := 1, cells := 0, slots := 0, locals := 12 } : Room).cells ({ frames := 1, cells := 0, slots := 0, locals := 12 } : Room).slots) := by
  refine MetFree.of_bodySF (plainFor_of_name pn_2) hisR ?_
  intro p e s m args below meth c s₁ Bd hml0 hP hK
  obtain ⟨rfl, hZ, hh⟩ := hP
  have hx := Bd.exec
  have hby := Bd.bytes
  have hml : c.maxLocals = 7 := hml0
  have hown : s.vm.findClass "com/example/humble_escaper/humbleescaper/PercentEscapesWriteOctetPinLaw" = some m.cls := findClass_of_methodNamed Bd.named
  have hnm := (name_of_methodNamed Bd.named Bd.method).1
  have X0 : Stand p l e ({ frames := 1, cells := 0, slots := 0, locals := 12 } : Room) s m #[(.ref a1), (.int p2), (.int p3), (.int p4), (.int p5), (.int p6)] below meth c s₁ [] 0 0 := Stand.of_body Bd
  have e0 : s₁.heap = h0 := by rw [← hh, Bd.state]; rfl
  have N0 := Fr.nil n0
  have pre0 : ∀ t, Steps p.tables e below (s₁.setTop (mkF m 0 #[.val (.ref a1), .val (.int p2), .val (.int p3), .val (.int p4), .val (.int p5), .val (.int p6), .unset] [])) t → Steps p.tables e below (s₁.setTop (entryFrame m #[(.ref a1), (.int p2), (.int p3), (.int p4), (.int p5), (.int p6)] 7)) t := fun t k => castTop (ef_2 m a1 p2 p3 p4 p5 p6) k
  obtain ⟨_, _, ⟨T7, L7, k7, n7⟩, -, X7, ⟨Lc7, hQ7, l7, y7, z7⟩, st7⟩ := Jvm.LawKit.callS X0 hx (y := (⟨"com/example/humble_escaper/humbleescaper/PercentEscapesWriteOctetPinLaw", "hex", "(I)I"⟩ : MethodName)) hown (mvT hZ (hw _ (List.mem_of_getElem? (i := 11) rfl))) (mvT hZ (hw _ (List.mem_of_getElem? (i := 12) rfl))) (mvT hZ (hw _ (List.mem_of_getElem? (i := 9) rfl))) (mvT hZ (hw _ (List.mem_of_getElem? (i := 13) rfl))) (by decide) (backOf (W := 0) (rm3 l Z a0 hw [] p4  h0 n0 Z0) hZ (hw _ (List.mem_of_getElem? (i := 13) rfl)) (hw _ (List.mem_of_getElem? (i := 9) rfl)) (by decide) (by decide)) (g := (mkF m 20 #[.val (.ref a1), .val (.int p2), .val (.int p3), .val (.int p4), .val (.int p5), .val (.int p6), .unset] [(.int p4)])) rfl (by rw [hml]; rfl) (argsL := [(.int p4)]) (rest := []) (lenOf pd_2_2 rfl) rfl (by show 2 * 0 + _ ≤ _; exact Nat.le_of_eq rfl) (hb hby d2_20) (fun _ _ => ⟨rfl, e0, (by decide : 0 + 0 ≤ _), (by decide : 0 + 0 ≤ _)⟩)
  dsimp only [Pt.U, Pt.locs, Pt.cells, Pt.slots] at X7 l7 y7 z7 st7 hQ7
  subst l7 y7 z7
  obtain ⟨rfl, N7q, e7c⟩ := hQ7
  have N7 := Fr.app N0 N7q
  obtain ⟨fs, hr, hrun, hended, hW, hsame⟩ := X7.leave (v := some (.int (1 : Int32))) (fun h => by rw [Bd.returns] at h; cases h)
  refine ⟨_, _, pre0 _ ?_, hrun, hended, _, _, rfl, ?_, ⟨_, rfl⟩, hW, hsame.mono (by decide) (by decide)⟩
  · show Steps p.tables e below (s₁.setTop (mkF m 0 #[.val (.ref a1), .val (.int p2), .val (.int p3), .val (.int p4), .val (.int p5), .val (.int p6), .unset] [])) _
    refine XS.iloadN X0.here hx rfl (hb hby d2_0) rfl ?_
    show Steps p.tables e below (s₁.setTop (mkF m 1 #[.val (.ref a1), .val (.int p2), .val (.int p3), .val (.int p4), .val (.int p5), .val (.int p6), .unset] [(.int p2)])) _
    refine XS.iloadN X0.here hx rfl (hb hby d2_1) rfl ?_
    show Steps p.tables e below (s₁.setTop (mkF m 2 #[.val (.ref a1), .val (.int p2), .val (.int p3), .val (.int p4), .val (.int p5), .val (.int p6), .unset] [(.int p3), (.int p2)])) _
    refine XS.icmpYes X0.here hx rfl (pc0 := 2) (pc' := 12) rfl (hb hby d2_2) rfl (feq hc2).2 (by decide) (by decide) ?_
    show Steps p.tables e below (s₁.setTop (mkF m 12 #[.val (.ref a1), .val (.int p2), .val (.int p3), .val (.int p4), .val (.int p5), .val (.int p6), .unset] [])) _
    refine XS.iloadN X0.here hx rfl (hb hby d2_12) rfl ?_
    show Steps p.tables e below (s₁.setTop (mkF m 13 #[.val (.ref a1), .val (.int p2), .val (.int p3), .val (.int p4), .val (.int p5), .val (.int p6), .unset] [(.int p2)])) _
    refine XS.iloadN X0.here hx rfl (hb hby d2_13) rfl ?_
    show Steps p.tables e below (s₁.setTop (mkF m 14 #[.val (.ref a1), .val (.int p2), .val (.int p3), .val (.int p4), .val (.int p5), .val (.int p6), .unset] [(.int p3), (.int p2)])) _
    refine XS.iconst X0.here hx rfl (hb hby d2_14) ?_
    show Steps p.tables e below (s₁.setTop (mkF m 15 #[.val (.ref a1), .val (.int p2), .val (.int p3), .val (.int p4), .val (.int p5), .val (.int p6), .unset] [(.int (1 : Int32)), (.int p3), (.int p2)])) _
    refine XS.iadd X0.here hx rfl (hb hby d2_15) rfl ?_
    show Steps p.tables e below (s₁.setTop (mkF m 16 #[.val (.ref a1), .val (.int p2), .val (.int p3), .val (.int p4), .val (.int p5), .val (.int p6), .unset] [(.int (p3 + (1 : Int32))), (.int p2)])) _
    refine XS.icmpNo X0.here hx rfl (hb hby d2_16) rfl (teq hc16).2 ?_
    show Steps p.tables e below (s₁.setTop (mkF m 19 #[.val (.ref a1), .val (.int p2), .val (.int p3), .val (.int p4), .val (.int p5), .val (.int p6), .unset] [])) _
    refine XS.iloadN X0.here hx rfl (hb hby d2_19) rfl ?_
    show Steps p.tables e below (s₁.setTop (mkF m 20 #[.val (.ref a1), .val (.int p2), .val (.int p3), .val (.int p4), .val (.int p5), .val (.int p6), .unset] [(.int p4)])) _
    refine st7 _ ?_
    show Steps p.tables e below (T7.setTop (mkF m 23 #[.val (.ref a1), .val (.int p2), .val (.int p3), .val (.int p4), .val (.int p5), .val (.int p6), .unset] [(.int (own_hex p4))])) _
    refine XS.istore X7.here hx rfl (hb hby d2_23) rfl (l' := #[.val (.ref a1), .val (.int p2), .val (.int p3), .val (.int p4), .val (.int p5), .val (.int p6), .val (.int (own_hex p4))]) rfl ?_
    show Steps p.tables e below (T7.setTop (mkF m 25 #[.val (.ref a1), .val (.int p2), .val (.int p3), .val (.int p4), .val (.int p5), .val (.int p6), .val (.int (own_hex p4))] [])) _
    refine XS.goto X7.here hx rfl (pc0 := 25) (pc' := 59) rfl (hb hby d2_25) (by decide) (by decide) ?_
    show Steps p.tables e below (T7.setTop (mkF m 59 #[.val (.ref a1), .val (.int p2), .val (.int p3), .val (.int p4), .val (.int p5), .val (.int p6), .val (.int (own_hex p4))] [])) _
    refine XS.aloadN X7.here hx rfl (hb hby d2_59) rfl rfl ?_
    show Steps p.tables e below (T7.setTop (mkF m 60 #[.val (.ref a1), .val (.int p2), .val (.int p3), .val (.int p4), .val (.int p5), .val (.int p6), .val (.int (own_hex p4))] [(.ref a1)])) _
    refine XS.iloadN X7.here hx rfl (hb hby d2_60) rfl ?_
    show Steps p.tables e below (T7.setTop (mkF m 61 #[.val (.ref a1), .val (.int p2), .val (.int p3), .val (.int p4), .val (.int p5), .val (.int p6), .val (.int (own_hex p4))] [(.int p2), (.ref a1)])) _
    refine X7.baloadBytes hx (j := p2) (v := (.int w8)) (by rw [e7c]; exact Ar_a1.1) (State.isArrayOf_alike hZ.alike Ar_a1.2.1) Ar_a1.2.2 hin61 hat61 (g := (mkF m 61 #[.val (.ref a1), .val (.int p2), .val (.int p3), .val (.int p4), .val (.int p5), .val (.int p6), .val (.int (own_hex p4))] [(.int p2), (.ref a1)])) rfl rfl (hb hby d2_61) _ ?_
    show Steps p.tables e below (T7.setTop (mkF m 62 #[.val (.ref a1), .val (.int p2), .val (.int p3), .val (.int p4), .val (.int p5), .val (.int p6), .val (.int (own_hex p4))] [(.int w8)])) _
    refine XS.iload X7.here hx rfl (hb hby d2_62) rfl ?_
    show Steps p.tables e below (T7.setTop (mkF m 64 #[.val (.ref a1), .val (.int p2), .val (.int p3), .val (.int p4), .val (.int p5), .val (.int p6), .val (.int (own_hex p4))] [(.int (own_hex p4)), (.int w8)])) _
    refine XS.i2b X7.here hx rfl (hb hby d2_64) rfl ?_
    show Steps p.tables e below (T7.setTop (mkF m 65 #[.val (.ref a1), .val (.int p2), .val (.int p3), .val (.int p4), .val (.int p5), .val (.int p6), .val (.int (own_hex p4))] [(.int ((own_hex p4).toInt8.toInt32)), (.int w8)])) _
    refine XS.icmpNo X7.here hx rfl (hb hby d2_65) rfl (teq hc65).2 ?_
    show Steps p.tables e below (T7.setTop (mkF m 68 #[.val (.ref a1), .val (.int p2), .val (.int p3), .val (.int p4), .val (.int p5), .val (.int p6), .val (.int (own_hex p4))] [])) _
    refine XS.iconst X7.here hx rfl (hb hby d2_68) ?_
    show Steps p.tables e below (T7.setTop (mkF m 69 #[.val (.ref a1), .val (.int p2), .val (.int p3), .val (.int p4), .val (.int p5), .val (.int p6), .val (.int (own_hex p4))] [(.int (1 : Int32))])) _
    refine XS.goto X7.here hx rfl (pc0 := 69) (pc' := 73) rfl (hb hby d2_69) (by decide) (by decide) ?_
    show Steps p.tables e below (T7.setTop (mkF m 73 #[.val (.ref a1), .val (.int p2), .val (.int p3), .val (.int p4), .val (.int p5), .val (.int p6), .val (.int (own_hex p4))] [(.int (1 : Int32))])) _
    exact retN X7 hx (t := .boolean) Bd.returns (by simp) (hb hby d2_73) hr
  · show Q2 Z  h0 n0 _ T7.heap _
    rw [e7c]
    exact ⟨rfl, N7, rfl⟩
theorem d2_28 : decode method_3_code 28 = .ok (.iload_n 1, 1) := by decide +kernel
theorem d2_29 : decode method_3_code 29 = .ok (.iload_n 2, 1) := by decide +kernel
theorem d2_30 : decode method_3_code 30 = .ok (.iconst 2, 1) := by decide +kernel
theorem d2_31 : decode method_3_code 31 = .ok (.iadd, 1) := by decide +kernel
theorem d2_32 : decode method_3_code 32 = .ok (.if_icmp .ne 13, 3) := by decide +kernel
theorem d2_35 : decode method_3_code 35 = .ok (.iload 4, 2) := by decide +kernel
theorem d2_37 : decode method_3_code 37 = .ok (.invokestatic 7, 3) := by decide +kernel
theorem d2_40 : decode method_3_code 40 = .ok (.istore 6, 2) := by decide +kernel
theorem d2_42 : decode method_3_code 42 = .ok (.goto 17, 3) := by decide +kernel
set_option maxRecDepth 65536 in
set_option maxHeartbeats 40000000 in
theorem rm2C (l : Launch) (Z : State) (a0 : Array Value) (hw : ∀ d ∈ tables_1, d.before a0 Z = true) (ws : List Jvm.Cond) (a1 : Addr) (p2 : Int32) (p3 : Int32) (p4 : Int32) (p5 : Int32) (p6 : Int32) (w8 : Int32) (cl_a1 : Cell) (h0 : Heap) (n0 : Nat) (Z0 : n0 ≤ h0.size) (Ar_a1 : Arr Z h0 a1 cl_a1 .byte) (hin61 : ¬ (p2 < 0 ∨ cl_a1.slots.size ≤ (p2).toNatClampNeg)) (hat61 : cl_a1.slots[(p2).toNatClampNeg]? = some (.int w8)) (hc2 : ¬ (p2 = p3)) (hc16 : ¬ (p2 = (p3 + (1 : Int32)))) (hc32 : p2 = (p3 + (2 : Int32))) (hc65 : w8 = ((own_hex p5).toInt8.toInt32)) :
    MetFree l (⟨"com/example/humble_escaper/humbleescaper/PercentEscapesWriteOctetPinLaw", "at", "([BIIIIB)Z"⟩ : MethodName) (head1 (Jvm.Cond.code (⟨"com/example/humble_escaper/humbleescaper/PercentEscapesWriteOctetPinLaw", "at", "([BIIIIB)Z"⟩ : MethodName) method_3_code 7 (some .boolean) :: ws) ({ frames := 1, cells := 0, slots := 0, locals := 12 } : Room)) (fun a U => a = #[(.ref a1), (.int p2), (.int p3), (.int p4), (.int p5), (.int p6)] ∧ Z.Warmed39 U.vm ∧ U.heap = h0) (fun _ _ _ _ _ => True) (fun _ U o U' => ∃ v L, o = .returned v ∧ Q2 Z  h0 n0 v U'.heap L ∧ FrameEnd U o U' L ({ frames := 1, cells := 0, slots := 0, locals := 12 } : Room).cells ({ frames := 1, cells := 0, slots := 0, locals := 12 } : Room).slots) := by
  refine MetFree.of_bodySF (plainFor_of_name pn_2) hisR ?_
  intro p e s m args below meth c s₁ Bd hml0 hP hK
  obtain ⟨rfl, hZ, hh⟩ := hP
  have hx := Bd.exec
  have hby := Bd.bytes
  have hml : c.maxLocals = 7 := hml0
  have hown : s.vm.findClass "com/example/humble_escaper/humbleescaper/PercentEscapesWriteOctetPinLaw" = some m.cls := findClass_of_methodNamed Bd.named
  have hnm := (name_of_methodNamed Bd.named Bd.method).1
  have X0 : Stand p l e ({ frames := 1, cells := 0, slots := 0, locals := 12 } : Room) s m #[(.ref a1), (.int p2), (.int p3), (.int p4), (.int p5), (.int p6)] below meth c s₁ [] 0 0 := Stand.of_body Bd
  have e0 : s₁.heap = h0 := by rw [← hh, Bd.state]; rfl
  have N0 := Fr.nil n0
  have pre0 : ∀ t, Steps p.tables e below (s₁.setTop (mkF m 0 #[.val (.ref a1), .val (.int p2), .val (.int p3), .val (.int p4), .val (.int p5), .val (.int p6), .unset] [])) t → Steps p.tables e below (s₁.setTop (entryFrame m #[(.ref a1), (.int p2), (.int p3), (.int p4), (.int p5), (.int p6)] 7)) t := fun t k => castTop (ef_2 m a1 p2 p3 p4 p5 p6) k
  obtain ⟨_, _, ⟨T7, L7, k7, n7⟩, -, X7, ⟨Lc7, hQ7, l7, y7, z7⟩, st7⟩ := Jvm.LawKit.callS X0 hx (y := (⟨"com/example/humble_escaper/humbleescaper/PercentEscapesWriteOctetPinLaw", "hex", "(I)I"⟩ : MethodName)) hown (mvT hZ (hw _ (List.mem_of_getElem? (i := 11) rfl))) (mvT hZ (hw _ (List.mem_of_getElem? (i := 12) rfl))) (mvT hZ (hw _ (List.mem_of_getElem? (i := 9) rfl))) (mvT hZ (hw _ (List.mem_of_getElem? (i := 13) rfl))) (by decide) (backOf (W := 0) (rm3 l Z a0 hw [] p5  h0 n0 Z0) hZ (hw _ (List.mem_of_getElem? (i := 13) rfl)) (hw _ (List.mem_of_getElem? (i := 9) rfl)) (by decide) (by decide)) (g := (mkF m 37 #[.val (.ref a1), .val (.int p2), .val (.int p3), .val (.int p4), .val (.int p5), .val (.int p6), .unset] [(.int p5)])) rfl (by rw [hml]; rfl) (argsL := [(.int p5)]) (rest := []) (lenOf pd_2_2 rfl) rfl (by show 2 * 0 + _ ≤ _; exact Nat.le_of_eq rfl) (hb hby d2_37) (fun _ _ => ⟨rfl, e0, (by decide : 0 + 0 ≤ _), (by decide : 0 + 0 ≤ _)⟩)
  dsimp only [Pt.U, Pt.locs, Pt.cells, Pt.slots] at X7 l7 y7 z7 st7 hQ7
  subst l7 y7 z7
  obtain ⟨rfl, N7q, e7c⟩ := hQ7
  have N7 := Fr.app N0 N7q
  obtain ⟨fs, hr, hrun, hended, hW, hsame⟩ := X7.leave (v := some (.int (1 : Int32))) (fun h => by rw [Bd.returns] at h; cases h)
  refine ⟨_, _, pre0 _ ?_, hrun, hended, _, _, rfl, ?_, ⟨_, rfl⟩, hW, hsame.mono (by decide) (by decide)⟩
  · show Steps p.tables e below (s₁.setTop (mkF m 0 #[.val (.ref a1), .val (.int p2), .val (.int p3), .val (.int p4), .val (.int p5), .val (.int p6), .unset] [])) _
    refine XS.iloadN X0.here hx rfl (hb hby d2_0) rfl ?_
    show Steps p.tables e below (s₁.setTop (mkF m 1 #[.val (.ref a1), .val (.int p2), .val (.int p3), .val (.int p4), .val (.int p5), .val (.int p6), .unset] [(.int p2)])) _
    refine XS.iloadN X0.here hx rfl (hb hby d2_1) rfl ?_
    show Steps p.tables e below (s₁.setTop (mkF m 2 #[.val (.ref a1), .val (.int p2), .val (.int p3), .val (.int p4), .val (.int p5), .val (.int p6), .unset] [(.int p3), (.int p2)])) _
    refine XS.icmpYes X0.here hx rfl (pc0 := 2) (pc' := 12) rfl (hb hby d2_2) rfl (feq hc2).2 (by decide) (by decide) ?_
    show Steps p.tables e below (s₁.setTop (mkF m 12 #[.val (.ref a1), .val (.int p2), .val (.int p3), .val (.int p4), .val (.int p5), .val (.int p6), .unset] [])) _
    refine XS.iloadN X0.here hx rfl (hb hby d2_12) rfl ?_
    show Steps p.tables e below (s₁.setTop (mkF m 13 #[.val (.ref a1), .val (.int p2), .val (.int p3), .val (.int p4), .val (.int p5), .val (.int p6), .unset] [(.int p2)])) _
    refine XS.iloadN X0.here hx rfl (hb hby d2_13) rfl ?_
    show Steps p.tables e below (s₁.setTop (mkF m 14 #[.val (.ref a1), .val (.int p2), .val (.int p3), .val (.int p4), .val (.int p5), .val (.int p6), .unset] [(.int p3), (.int p2)])) _
    refine XS.iconst X0.here hx rfl (hb hby d2_14) ?_
    show Steps p.tables e below (s₁.setTop (mkF m 15 #[.val (.ref a1), .val (.int p2), .val (.int p3), .val (.int p4), .val (.int p5), .val (.int p6), .unset] [(.int (1 : Int32)), (.int p3), (.int p2)])) _
    refine XS.iadd X0.here hx rfl (hb hby d2_15) rfl ?_
    show Steps p.tables e below (s₁.setTop (mkF m 16 #[.val (.ref a1), .val (.int p2), .val (.int p3), .val (.int p4), .val (.int p5), .val (.int p6), .unset] [(.int (p3 + (1 : Int32))), (.int p2)])) _
    refine XS.icmpYes X0.here hx rfl (pc0 := 16) (pc' := 28) rfl (hb hby d2_16) rfl (feq hc16).2 (by decide) (by decide) ?_
    show Steps p.tables e below (s₁.setTop (mkF m 28 #[.val (.ref a1), .val (.int p2), .val (.int p3), .val (.int p4), .val (.int p5), .val (.int p6), .unset] [])) _
    refine XS.iloadN X0.here hx rfl (hb hby d2_28) rfl ?_
    show Steps p.tables e below (s₁.setTop (mkF m 29 #[.val (.ref a1), .val (.int p2), .val (.int p3), .val (.int p4), .val (.int p5), .val (.int p6), .unset] [(.int p2)])) _
    refine XS.iloadN X0.here hx rfl (hb hby d2_29) rfl ?_
    show Steps p.tables e below (s₁.setTop (mkF m 30 #[.val (.ref a1), .val (.int p2), .val (.int p3), .val (.int p4), .val (.int p5), .val (.int p6), .unset] [(.int p3), (.int p2)])) _
    refine XS.iconst X0.here hx rfl (hb hby d2_30) ?_
    show Steps p.tables e below (s₁.setTop (mkF m 31 #[.val (.ref a1), .val (.int p2), .val (.int p3), .val (.int p4), .val (.int p5), .val (.int p6), .unset] [(.int (2 : Int32)), (.int p3), (.int p2)])) _
    refine XS.iadd X0.here hx rfl (hb hby d2_31) rfl ?_
    show Steps p.tables e below (s₁.setTop (mkF m 32 #[.val (.ref a1), .val (.int p2), .val (.int p3), .val (.int p4), .val (.int p5), .val (.int p6), .unset] [(.int (p3 + (2 : Int32))), (.int p2)])) _
    refine XS.icmpNo X0.here hx rfl (hb hby d2_32) rfl (teq hc32).2 ?_
    show Steps p.tables e below (s₁.setTop (mkF m 35 #[.val (.ref a1), .val (.int p2), .val (.int p3), .val (.int p4), .val (.int p5), .val (.int p6), .unset] [])) _
    refine XS.iload X0.here hx rfl (hb hby d2_35) rfl ?_
    show Steps p.tables e below (s₁.setTop (mkF m 37 #[.val (.ref a1), .val (.int p2), .val (.int p3), .val (.int p4), .val (.int p5), .val (.int p6), .unset] [(.int p5)])) _
    refine st7 _ ?_
    show Steps p.tables e below (T7.setTop (mkF m 40 #[.val (.ref a1), .val (.int p2), .val (.int p3), .val (.int p4), .val (.int p5), .val (.int p6), .unset] [(.int (own_hex p5))])) _
    refine XS.istore X7.here hx rfl (hb hby d2_40) rfl (l' := #[.val (.ref a1), .val (.int p2), .val (.int p3), .val (.int p4), .val (.int p5), .val (.int p6), .val (.int (own_hex p5))]) rfl ?_
    show Steps p.tables e below (T7.setTop (mkF m 42 #[.val (.ref a1), .val (.int p2), .val (.int p3), .val (.int p4), .val (.int p5), .val (.int p6), .val (.int (own_hex p5))] [])) _
    refine XS.goto X7.here hx rfl (pc0 := 42) (pc' := 59) rfl (hb hby d2_42) (by decide) (by decide) ?_
    show Steps p.tables e below (T7.setTop (mkF m 59 #[.val (.ref a1), .val (.int p2), .val (.int p3), .val (.int p4), .val (.int p5), .val (.int p6), .val (.int (own_hex p5))] [])) _
    refine XS.aloadN X7.here hx rfl (hb hby d2_59) rfl rfl ?_
    show Steps p.tables e below (T7.setTop (mkF m 60 #[.val (.ref a1), .val (.int p2), .val (.int p3), .val (.int p4), .val (.int p5), .val (.int p6), .val (.int (own_hex p5))] [(.ref a1)])) _
    refine XS.iloadN X7.here hx rfl (hb hby d2_60) rfl ?_
    show Steps p.tables e below (T7.setTop (mkF m 61 #[.val (.ref a1), .val (.int p2), .val (.int p3), .val (.int p4), .val (.int p5), .val (.int p6), .val (.int (own_hex p5))] [(.int p2), (.ref a1)])) _
    refine X7.baloadBytes hx (j := p2) (v := (.int w8)) (by rw [e7c]; exact Ar_a1.1) (State.isArrayOf_alike hZ.alike Ar_a1.2.1) Ar_a1.2.2 hin61 hat61 (g := (mkF m 61 #[.val (.ref a1), .val (.int p2), .val (.int p3), .val (.int p4), .val (.int p5), .val (.int p6), .val (.int (own_hex p5))] [(.int p2), (.ref a1)])) rfl rfl (hb hby d2_61) _ ?_
    show Steps p.tables e below (T7.setTop (mkF m 62 #[.val (.ref a1), .val (.int p2), .val (.int p3), .val (.int p4), .val (.int p5), .val (.int p6), .val (.int (own_hex p5))] [(.int w8)])) _
    refine XS.iload X7.here hx rfl (hb hby d2_62) rfl ?_
    show Steps p.tables e below (T7.setTop (mkF m 64 #[.val (.ref a1), .val (.int p2), .val (.int p3), .val (.int p4), .val (.int p5), .val (.int p6), .val (.int (own_hex p5))] [(.int (own_hex p5)), (.int w8)])) _
    refine XS.i2b X7.here hx rfl (hb hby d2_64) rfl ?_
    show Steps p.tables e below (T7.setTop (mkF m 65 #[.val (.ref a1), .val (.int p2), .val (.int p3), .val (.int p4), .val (.int p5), .val (.int p6), .val (.int (own_hex p5))] [(.int ((own_hex p5).toInt8.toInt32)), (.int w8)])) _
    refine XS.icmpNo X7.here hx rfl (hb hby d2_65) rfl (teq hc65).2 ?_
    show Steps p.tables e below (T7.setTop (mkF m 68 #[.val (.ref a1), .val (.int p2), .val (.int p3), .val (.int p4), .val (.int p5), .val (.int p6), .val (.int (own_hex p5))] [])) _
    refine XS.iconst X7.here hx rfl (hb hby d2_68) ?_
    show Steps p.tables e below (T7.setTop (mkF m 69 #[.val (.ref a1), .val (.int p2), .val (.int p3), .val (.int p4), .val (.int p5), .val (.int p6), .val (.int (own_hex p5))] [(.int (1 : Int32))])) _
    refine XS.goto X7.here hx rfl (pc0 := 69) (pc' := 73) rfl (hb hby d2_69) (by decide) (by decide) ?_
    show Steps p.tables e below (T7.setTop (mkF m 73 #[.val (.ref a1), .val (.int p2), .val (.int p3), .val (.int p4), .val (.int p5), .val (.int p6), .val (.int (own_hex p5))] [(.int (1 : Int32))])) _
    exact retN X7 hx (t := .boolean) Bd.returns (by simp) (hb hby d2_73) hr
  · show Q2 Z  h0 n0 _ T7.heap _
    rw [e7c]
    exact ⟨rfl, N7, rfl⟩
theorem d2_45 : decode method_3_code 45 = .ok (.aload_n 0, 1) := by decide +kernel
theorem d2_46 : decode method_3_code 46 = .ok (.iload_n 1, 1) := by decide +kernel
theorem d2_47 : decode method_3_code 47 = .ok (.baload, 1) := by decide +kernel
theorem d2_48 : decode method_3_code 48 = .ok (.iload 5, 2) := by decide +kernel
theorem d2_50 : decode method_3_code 50 = .ok (.if_icmp .ne 7, 3) := by decide +kernel
theorem d2_53 : decode method_3_code 53 = .ok (.iconst 1, 1) := by decide +kernel
theorem d2_54 : decode method_3_code 54 = .ok (.goto 4, 3) := by decide +kernel
theorem d2_58 : decode method_3_code 58 = .ok (.ireturn, 1) := by decide +kernel
set_option maxRecDepth 65536 in
set_option maxHeartbeats 40000000 in
theorem rm2D (l : Launch) (Z : State) (a0 : Array Value) (hw : ∀ d ∈ tables_1, d.before a0 Z = true) (ws : List Jvm.Cond) (a1 : Addr) (p2 : Int32) (p3 : Int32) (p4 : Int32) (p5 : Int32) (p6 : Int32) (w7 : Int32) (cl_a1 : Cell) (h0 : Heap) (n0 : Nat) (Z0 : n0 ≤ h0.size) (Ar_a1 : Arr Z h0 a1 cl_a1 .byte) (hin47 : ¬ (p2 < 0 ∨ cl_a1.slots.size ≤ (p2).toNatClampNeg)) (hat47 : cl_a1.slots[(p2).toNatClampNeg]? = some (.int w7)) (hc2 : ¬ (p2 = p3)) (hc16 : ¬ (p2 = (p3 + (1 : Int32)))) (hc32 : ¬ (p2 = (p3 + (2 : Int32)))) (hc50 : w7 = p6) :
    MetFree l (⟨"com/example/humble_escaper/humbleescaper/PercentEscapesWriteOctetPinLaw", "at", "([BIIIIB)Z"⟩ : MethodName) (head1 (Jvm.Cond.code (⟨"com/example/humble_escaper/humbleescaper/PercentEscapesWriteOctetPinLaw", "at", "([BIIIIB)Z"⟩ : MethodName) method_3_code 7 (some .boolean) :: ws) ({ frames := 1, cells := 0, slots := 0, locals := 12 } : Room)) (fun a U => a = #[(.ref a1), (.int p2), (.int p3), (.int p4), (.int p5), (.int p6)] ∧ Z.Warmed39 U.vm ∧ U.heap = h0) (fun _ _ _ _ _ => True) (fun _ U o U' => ∃ v L, o = .returned v ∧ Q2 Z  h0 n0 v U'.heap L ∧ FrameEnd U o U' L ({ frames := 1, cells := 0, slots := 0, locals := 12 } : Room).cells ({ frames := 1, cells := 0, slots := 0, locals := 12 } : Room).slots) := by
  refine MetFree.of_bodySF (plainFor_of_name pn_2) hisR ?_
  intro p e s m args below meth c s₁ Bd hml0 hP hK
  obtain ⟨rfl, hZ, hh⟩ := hP
  have hx := Bd.exec
  have hby := Bd.bytes
  have hml : c.maxLocals = 7 := hml0
  have hown : s.vm.findClass "com/example/humble_escaper/humbleescaper/PercentEscapesWriteOctetPinLaw" = some m.cls := findClass_of_methodNamed Bd.named
  have hnm := (name_of_methodNamed Bd.named Bd.method).1
  have X0 : Stand p l e ({ frames := 1, cells := 0, slots := 0, locals := 12 } : Room) s m #[(.ref a1), (.int p2), (.int p3), (.int p4), (.int p5), (.int p6)] below meth c s₁ [] 0 0 := Stand.of_body Bd
  have e0 : s₁.heap = h0 := by rw [← hh, Bd.state]; rfl
  have N0 := Fr.nil n0
  have pre0 : ∀ t, Steps p.tables e below (s₁.setTop (mkF m 0 #[.val (.ref a1), .val (.int p2), .val (.int p3), .val (.int p4), .val (.int p5), .val (.int p6), .unset] [])) t → Steps p.tables e below (s₁.setTop (entryFrame m #[(.ref a1), (.int p2), (.int p3), (.int p4), (.int p5), (.int p6)] 7)) t := fun t k => castTop (ef_2 m a1 p2 p3 p4 p5 p6) k
  obtain ⟨fs, hr, hrun, hended, hW, hsame⟩ := X0.leave (v := some (.int (1 : Int32))) (fun h => by rw [Bd.returns] at h; cases h)
  refine ⟨_, _, pre0 _ ?_, hrun, hended, _, _, rfl, ?_, ⟨_, rfl⟩, hW, hsame.mono (by decide) (by decide)⟩
  · show Steps p.tables e below (s₁.setTop (mkF m 0 #[.val (.ref a1), .val (.int p2), .val (.int p3), .val (.int p4), .val (.int p5), .val (.int p6), .unset] [])) _
    refine XS.iloadN X0.here hx rfl (hb hby d2_0) rfl ?_
    show Steps p.tables e below (s₁.setTop (mkF m 1 #[.val (.ref a1), .val (.int p2), .val (.int p3), .val (.int p4), .val (.int p5), .val (.int p6), .unset] [(.int p2)])) _
    refine XS.iloadN X0.here hx rfl (hb hby d2_1) rfl ?_
    show Steps p.tables e below (s₁.setTop (mkF m 2 #[.val (.ref a1), .val (.int p2), .val (.int p3), .val (.int p4), .val (.int p5), .val (.int p6), .unset] [(.int p3), (.int p2)])) _
    refine XS.icmpYes X0.here hx rfl (pc0 := 2) (pc' := 12) rfl (hb hby d2_2) rfl (feq hc2).2 (by decide) (by decide) ?_
    show Steps p.tables e below (s₁.setTop (mkF m 12 #[.val (.ref a1), .val (.int p2), .val (.int p3), .val (.int p4), .val (.int p5), .val (.int p6), .unset] [])) _
    refine XS.iloadN X0.here hx rfl (hb hby d2_12) rfl ?_
    show Steps p.tables e below (s₁.setTop (mkF m 13 #[.val (.ref a1), .val (.int p2), .val (.int p3), .val (.int p4), .val (.int p5), .val (.int p6), .unset] [(.int p2)])) _
    refine XS.iloadN X0.here hx rfl (hb hby d2_13) rfl ?_
    show Steps p.tables e below (s₁.setTop (mkF m 14 #[.val (.ref a1), .val (.int p2), .val (.int p3), .val (.int p4), .val (.int p5), .val (.int p6), .unset] [(.int p3), (.int p2)])) _
    refine XS.iconst X0.here hx rfl (hb hby d2_14) ?_
    show Steps p.tables e below (s₁.setTop (mkF m 15 #[.val (.ref a1), .val (.int p2), .val (.int p3), .val (.int p4), .val (.int p5), .val (.int p6), .unset] [(.int (1 : Int32)), (.int p3), (.int p2)])) _
    refine XS.iadd X0.here hx rfl (hb hby d2_15) rfl ?_
    show Steps p.tables e below (s₁.setTop (mkF m 16 #[.val (.ref a1), .val (.int p2), .val (.int p3), .val (.int p4), .val (.int p5), .val (.int p6), .unset] [(.int (p3 + (1 : Int32))), (.int p2)])) _
    refine XS.icmpYes X0.here hx rfl (pc0 := 16) (pc' := 28) rfl (hb hby d2_16) rfl (feq hc16).2 (by decide) (by decide) ?_
    show Steps p.tables e below (s₁.setTop (mkF m 28 #[.val (.ref a1), .val (.int p2), .val (.int p3), .val (.int p4), .val (.int p5), .val (.int p6), .unset] [])) _
    refine XS.iloadN X0.here hx rfl (hb hby d2_28) rfl ?_
    show Steps p.tables e below (s₁.setTop (mkF m 29 #[.val (.ref a1), .val (.int p2), .val (.int p3), .val (.int p4), .val (.int p5), .val (.int p6), .unset] [(.int p2)])) _
    refine XS.iloadN X0.here hx rfl (hb hby d2_29) rfl ?_
    show Steps p.tables e below (s₁.setTop (mkF m 30 #[.val (.ref a1), .val (.int p2), .val (.int p3), .val (.int p4), .val (.int p5), .val (.int p6), .unset] [(.int p3), (.int p2)])) _
    refine XS.iconst X0.here hx rfl (hb hby d2_30) ?_
    show Steps p.tables e below (s₁.setTop (mkF m 31 #[.val (.ref a1), .val (.int p2), .val (.int p3), .val (.int p4), .val (.int p5), .val (.int p6), .unset] [(.int (2 : Int32)), (.int p3), (.int p2)])) _
    refine XS.iadd X0.here hx rfl (hb hby d2_31) rfl ?_
    show Steps p.tables e below (s₁.setTop (mkF m 32 #[.val (.ref a1), .val (.int p2), .val (.int p3), .val (.int p4), .val (.int p5), .val (.int p6), .unset] [(.int (p3 + (2 : Int32))), (.int p2)])) _
    refine XS.icmpYes X0.here hx rfl (pc0 := 32) (pc' := 45) rfl (hb hby d2_32) rfl (feq hc32).2 (by decide) (by decide) ?_
    show Steps p.tables e below (s₁.setTop (mkF m 45 #[.val (.ref a1), .val (.int p2), .val (.int p3), .val (.int p4), .val (.int p5), .val (.int p6), .unset] [])) _
    refine XS.aloadN X0.here hx rfl (hb hby d2_45) rfl rfl ?_
    show Steps p.tables e below (s₁.setTop (mkF m 46 #[.val (.ref a1), .val (.int p2), .val (.int p3), .val (.int p4), .val (.int p5), .val (.int p6), .unset] [(.ref a1)])) _
    refine XS.iloadN X0.here hx rfl (hb hby d2_46) rfl ?_
    show Steps p.tables e below (s₁.setTop (mkF m 47 #[.val (.ref a1), .val (.int p2), .val (.int p3), .val (.int p4), .val (.int p5), .val (.int p6), .unset] [(.int p2), (.ref a1)])) _
    refine X0.baloadBytes hx (j := p2) (v := (.int w7)) (by rw [e0]; exact Ar_a1.1) (State.isArrayOf_alike hZ.alike Ar_a1.2.1) Ar_a1.2.2 hin47 hat47 (g := (mkF m 47 #[.val (.ref a1), .val (.int p2), .val (.int p3), .val (.int p4), .val (.int p5), .val (.int p6), .unset] [(.int p2), (.ref a1)])) rfl rfl (hb hby d2_47) _ ?_
    show Steps p.tables e below (s₁.setTop (mkF m 48 #[.val (.ref a1), .val (.int p2), .val (.int p3), .val (.int p4), .val (.int p5), .val (.int p6), .unset] [(.int w7)])) _
    refine XS.iload X0.here hx rfl (hb hby d2_48) rfl ?_
    show Steps p.tables e below (s₁.setTop (mkF m 50 #[.val (.ref a1), .val (.int p2), .val (.int p3), .val (.int p4), .val (.int p5), .val (.int p6), .unset] [(.int p6), (.int w7)])) _
    refine XS.icmpNo X0.here hx rfl (hb hby d2_50) rfl (teq hc50).2 ?_
    show Steps p.tables e below (s₁.setTop (mkF m 53 #[.val (.ref a1), .val (.int p2), .val (.int p3), .val (.int p4), .val (.int p5), .val (.int p6), .unset] [])) _
    refine XS.iconst X0.here hx rfl (hb hby d2_53) ?_
    show Steps p.tables e below (s₁.setTop (mkF m 54 #[.val (.ref a1), .val (.int p2), .val (.int p3), .val (.int p4), .val (.int p5), .val (.int p6), .unset] [(.int (1 : Int32))])) _
    refine XS.goto X0.here hx rfl (pc0 := 54) (pc' := 58) rfl (hb hby d2_54) (by decide) (by decide) ?_
    show Steps p.tables e below (s₁.setTop (mkF m 58 #[.val (.ref a1), .val (.int p2), .val (.int p3), .val (.int p4), .val (.int p5), .val (.int p6), .unset] [(.int (1 : Int32))])) _
    exact retN X0 hx (t := .boolean) Bd.returns (by simp) (hb hby d2_58) hr
  · show Q2 Z  h0 n0 _ s₁.heap _
    rw [e0]
    exact ⟨rfl, N0, rfl⟩
theorem rm2 (l : Launch) (Z : State) (a0 : Array Value) (hw : ∀ d ∈ tables_1, d.before a0 Z = true) (ws : List Jvm.Cond) (a1 : Addr) (p2 p3 p4 p5 p6 : Int32) (w : Int32) (cl : Cell) (h0 : Heap) (n0 : Nat) (Z0 : n0 ≤ h0.size) (Ar : Arr Z h0 a1 cl .byte) (hin : ¬ (p2 < 0 ∨ cl.slots.size ≤ (p2).toNatClampNeg)) (hat : cl.slots[(p2).toNatClampNeg]? = some (.int w)) (hv : w = own_want p2 p3 p4 p5 p6) :
    MetFree l (⟨"com/example/humble_escaper/humbleescaper/PercentEscapesWriteOctetPinLaw", "at", "([BIIIIB)Z"⟩ : MethodName) (head1 (Jvm.Cond.code (⟨"com/example/humble_escaper/humbleescaper/PercentEscapesWriteOctetPinLaw", "at", "([BIIIIB)Z"⟩ : MethodName) method_3_code 7 (some .boolean) :: ws) ({ frames := 1, cells := 0, slots := 0, locals := 12 } : Room)) (fun a U => a = #[(.ref a1), (.int p2), (.int p3), (.int p4), (.int p5), (.int p6)] ∧ Z.Warmed39 U.vm ∧ U.heap = h0) (fun _ _ _ _ _ => True) (fun _ U o U' => ∃ v L, o = .returned v ∧ Q2 Z  h0 n0 v U'.heap L ∧ FrameEnd U o U' L ({ frames := 1, cells := 0, slots := 0, locals := 12 } : Room).cells ({ frames := 1, cells := 0, slots := 0, locals := 12 } : Room).slots) := by
  unfold own_want at hv
  by_cases c1 : p2 = p3
  · exact rm2A l Z a0 hw ws a1 p2 p3 p4 p5 p6 w cl h0 n0 Z0 Ar hin hat c1 (by rw [hv, if_pos c1])
  rw [if_neg c1] at hv
  by_cases c2 : p2 = p3 + (1 : Int32)
  · exact rm2B l Z a0 hw ws a1 p2 p3 p4 p5 p6 w cl h0 n0 Z0 Ar hin hat c1 c2 (by rw [hv, if_pos c2])
  rw [if_neg c2] at hv
  by_cases c3 : p2 = p3 + (2 : Int32)
  · exact rm2C l Z a0 hw ws a1 p2 p3 p4 p5 p6 w cl h0 n0 Z0 Ar hin hat c1 c2 c3 (by rw [hv, if_pos c3])
  rw [if_neg c3] at hv
  exact rm2D l Z a0 hw ws a1 p2 p3 p4 p5 p6 w cl h0 n0 Z0 Ar hin hat c1 c2 c3 hv
theorem d1_0 : decode prog_23_method_15_code 0 = .ok (.aload_n 1, 1) := by decide +kernel
theorem d1_1 : decode prog_23_method_15_code 1 = .ok (.iload_n 2, 1) := by decide +kernel
theorem d1_2 : decode prog_23_method_15_code 2 = .ok (.bipush 37, 2) := by decide +kernel
theorem d1_4 : decode prog_23_method_15_code 4 = .ok (.bastore, 1) := by decide +kernel
theorem d1_5 : decode prog_23_method_15_code 5 = .ok (.aload_n 1, 1) := by decide +kernel
theorem d1_6 : decode prog_23_method_15_code 6 = .ok (.iload_n 2, 1) := by decide +kernel
theorem d1_7 : decode prog_23_method_15_code 7 = .ok (.iconst 1, 1) := by decide +kernel
theorem d1_8 : decode prog_23_method_15_code 8 = .ok (.iadd, 1) := by decide +kernel
theorem d1_9 : decode prog_23_method_15_code 9 = .ok (.getstatic 81, 3) := by decide +kernel
theorem d1_12 : decode prog_23_method_15_code 12 = .ok (.iload_n 0, 1) := by decide +kernel
theorem d1_13 : decode prog_23_method_15_code 13 = .ok (.iconst 4, 1) := by decide +kernel
theorem d1_14 : decode prog_23_method_15_code 14 = .ok (.ishr, 1) := by decide +kernel
theorem d1_15 : decode prog_23_method_15_code 15 = .ok (.bipush 15, 2) := by decide +kernel
theorem d1_17 : decode prog_23_method_15_code 17 = .ok (.iand, 1) := by decide +kernel
theorem d1_18 : decode prog_23_method_15_code 18 = .ok (.baload, 1) := by decide +kernel
theorem d1_19 : decode prog_23_method_15_code 19 = .ok (.bastore, 1) := by decide +kernel
theorem d1_20 : decode prog_23_method_15_code 20 = .ok (.aload_n 1, 1) := by decide +kernel
theorem d1_21 : decode prog_23_method_15_code 21 = .ok (.iload_n 2, 1) := by decide +kernel
theorem d1_22 : decode prog_23_method_15_code 22 = .ok (.iconst 2, 1) := by decide +kernel
theorem d1_23 : decode prog_23_method_15_code 23 = .ok (.iadd, 1) := by decide +kernel
theorem d1_24 : decode prog_23_method_15_code 24 = .ok (.getstatic 81, 3) := by decide +kernel
theorem d1_27 : decode prog_23_method_15_code 27 = .ok (.iload_n 0, 1) := by decide +kernel
theorem d1_28 : decode prog_23_method_15_code 28 = .ok (.bipush 15, 2) := by decide +kernel
theorem d1_30 : decode prog_23_method_15_code 30 = .ok (.iand, 1) := by decide +kernel
theorem d1_31 : decode prog_23_method_15_code 31 = .ok (.baload, 1) := by decide +kernel
theorem d1_32 : decode prog_23_method_15_code 32 = .ok (.bastore, 1) := by decide +kernel
theorem d1_33 : decode prog_23_method_15_code 33 = .ok (.iload_n 2, 1) := by decide +kernel
theorem d1_34 : decode prog_23_method_15_code 34 = .ok (.iconst 3, 1) := by decide +kernel
theorem d1_35 : decode prog_23_method_15_code 35 = .ok (.iadd, 1) := by decide +kernel
theorem d1_36 : decode prog_23_method_15_code 36 = .ok (.ireturn, 1) := by decide +kernel
theorem pn_1 : plainName "com/example/humble_escaper/humbleescaper/PercentEscapes" = true := by first | (simp [plainName, overriddenIn]; done) | decide +kernel
theorem ef_1 (m : MethodId) (x0 : Int32) (x1 : Addr) (x2 : Int32) : entryFrame m #[(.int x0), (.ref x1), (.int x2)] 3 = mkF m 0 #[.val (.int x0), .val (.ref x1), .val (.int x2)] [] := by first | (simp [entryFrame, mkF, argsToLocals, Value.category]; done) | rfl
def Q1 (Z : State) (p1 : Int32) (a2 : Addr) (p3 : Int32) (cl_a2 : Cell) (w5 : Addr) (w7 : Int32) (cl_w5 : Cell) (w10 : Int32) (h0 : Heap) (n0 : Nat) (v : Option Value) (h : Heap) (L : List Loc) : Prop := v = some (.int (p3 + (3 : Int32))) ∧ Fr n0 L ∧ Keep h0 h [a2] ∧ Arr Z h a2 (((cl_a2.setSlot p3.toNatClampNeg (.int ((37 : Int32).toInt8.toInt32))).setSlot (p3 + (1 : Int32)).toNatClampNeg (.int w7.toInt8.toInt32)).setSlot (p3 + (2 : Int32)).toNatClampNeg (.int w10.toInt8.toInt32)) .byte
set_option maxRecDepth 65536 in
set_option maxHeartbeats 40000000 in
theorem rm1 (l : Launch) (Z : State) (a0 : Array Value) (hw : ∀ d ∈ tables_1, d.before a0 Z = true) (ws : List Jvm.Cond) (p1 : Int32) (a2 : Addr) (p3 : Int32) (cl_a2 : Cell) (w5 : Addr) (w7 : Int32) (cl_w5 : Cell) (w10 : Int32) (h0 : Heap) (n0 : Nat) (Z0 : n0 ≤ h0.size) (Ar_a2 : Arr Z h0 a2 cl_a2 .byte) (hin4 : ¬ (p3 < 0 ∨ cl_a2.slots.size ≤ (p3).toNatClampNeg)) (g_a2 : n0 ≤ a2) (O0 : Old Z n0 h0) (S_UPPER_HEX_DIGITS : Sta Z Z.heap "com/example/humble_escaper/humbleescaper/PercentEscapes" "UPPER_HEX_DIGITS" "[B" (.ref w5)) (Ar_w5 : Arr Z Z.heap w5 cl_w5 .byte) (hin18 : ¬ (((p1 >>> ((4 : Int32) &&& 31)) &&& (15 : Int32)) < 0 ∨ cl_w5.slots.size ≤ (((p1 >>> ((4 : Int32) &&& 31)) &&& (15 : Int32))).toNatClampNeg)) (hat18 : cl_w5.slots[(((p1 >>> ((4 : Int32) &&& 31)) &&& (15 : Int32))).toNatClampNeg]? = some (.int w7)) (hin19 : ¬ ((p3 + (1 : Int32)) < 0 ∨ cl_a2.slots.size ≤ ((p3 + (1 : Int32))).toNatClampNeg)) (hin31 : ¬ ((p1 &&& (15 : Int32)) < 0 ∨ cl_w5.slots.size ≤ ((p1 &&& (15 : Int32))).toNatClampNeg)) (hat31 : cl_w5.slots[((p1 &&& (15 : Int32))).toNatClampNeg]? = some (.int w10)) (hin32 : ¬ ((p3 + (2 : Int32)) < 0 ∨ cl_a2.slots.size ≤ ((p3 + (2 : Int32))).toNatClampNeg)) :
    MetFree l (⟨"com/example/humble_escaper/humbleescaper/PercentEscapes", "writeOctet", "(B[BI)I"⟩ : MethodName) (head1 (Jvm.Cond.code (⟨"com/example/humble_escaper/humbleescaper/PercentEscapes", "writeOctet", "(B[BI)I"⟩ : MethodName) prog_23_method_15_code 3 (some .int) :: ws) ({ frames := 0, cells := 0, slots := 0, locals := 0 } : Room)) (fun a U => a = #[(.int p1), (.ref a2), (.int p3)] ∧ Z.Warmed39 U.vm ∧ U.heap = h0) (fun _ _ _ _ _ => True) (fun _ U o U' => ∃ v L, o = .returned v ∧ Q1 Z p1 a2 p3 cl_a2 w5 w7 cl_w5 w10 h0 n0 v U'.heap L ∧ FrameEnd U o U' L ({ frames := 0, cells := 0, slots := 0, locals := 0 } : Room).cells ({ frames := 0, cells := 0, slots := 0, locals := 0 } : Room).slots) := by
  refine MetFree.of_bodySF (plainFor_of_name pn_1) hisR ?_
  intro p e s m args below meth c s₁ Bd hml0 hP hK
  obtain ⟨rfl, hZ, hh⟩ := hP
  have hx := Bd.exec
  have hby := Bd.bytes
  have hml : c.maxLocals = 3 := hml0
  have hown : s.vm.findClass "com/example/humble_escaper/humbleescaper/PercentEscapes" = some m.cls := findClass_of_methodNamed Bd.named
  have hnm := (name_of_methodNamed Bd.named Bd.method).1
  have X0 : Stand p l e ({ frames := 0, cells := 0, slots := 0, locals := 0 } : Room) s m #[(.int p1), (.ref a2), (.int p3)] below meth c s₁ [] 0 0 := Stand.of_body Bd
  have e0 : s₁.heap = h0 := by rw [← hh, Bd.state]; rfl
  have N0 := Fr.nil n0
  have pre0 : ∀ t, Steps p.tables e below (s₁.setTop (mkF m 0 #[.val (.int p1), .val (.ref a2), .val (.int p3)] [])) t → Steps p.tables e below (s₁.setTop (entryFrame m #[(.int p1), (.ref a2), (.int p3)] 3)) t := fun t k => castTop (ef_1 m p1 a2 p3) k
  obtain ⟨T4, h4, X4, e4, W4, st4⟩ := stB X0 hx hZ e0 Ar_a2 (j := p3) hin4 (g := (mkF m 4 #[.val (.int p1), .val (.ref a2), .val (.int p3)] [(.int (37 : Int32)), (.int p3), (.ref a2)])) rfl rfl (hb hby d1_4)
  have N4 := Fr.snoc X4 N0 g_a2
  have K4 : Keep h0 h4 [a2] := (Keep.refl h0 [a2]).wr W4 (Or.inl (List.mem_of_getElem? (i := 0) rfl))
  obtain ⟨T6, X6, e6, st6⟩ := getS2 X4 hx hZ hown (host := "") (Or.inl (hw _ (List.mem_of_getElem? (i := 5) rfl))) Via.refl e4 (S_UPPER_HEX_DIGITS.ext (O0.wr W4 g_a2).2) (g := (mkF m 9 #[.val (.int p1), .val (.ref a2), .val (.int p3)] [(.int (p3 + (1 : Int32))), (.ref a2)])) rfl (hb hby d1_9)
  obtain ⟨T8, h8, X8, e8, W8, st8⟩ := stB X6 hx hZ e6 (Ar_a2.same W4) (j := (p3 + (1 : Int32))) (by rw [sz_set]; exact hin19) (g := (mkF m 19 #[.val (.int p1), .val (.ref a2), .val (.int p3)] [(.int w7), (.int (p3 + (1 : Int32))), (.ref a2)])) rfl rfl (hb hby d1_19)
  have N8 := Fr.snoc X8 N4 g_a2
  have K8 : Keep h0 h8 [a2] := K4.wr W8 (Or.inl (List.mem_of_getElem? (i := 0) rfl))
  obtain ⟨T9, X9, e9, st9⟩ := getS2 X8 hx hZ hown (host := "") (Or.inl (hw _ (List.mem_of_getElem? (i := 5) rfl))) Via.refl e8 (S_UPPER_HEX_DIGITS.ext ((O0.wr W4 g_a2).wr W8 g_a2).2) (g := (mkF m 24 #[.val (.int p1), .val (.ref a2), .val (.int p3)] [(.int (p3 + (2 : Int32))), (.ref a2)])) rfl (hb hby d1_24)
  obtain ⟨T11, h11, X11, e11, W11, st11⟩ := stB X9 hx hZ e9 ((Ar_a2.same W4).same W8) (j := (p3 + (2 : Int32))) (by rw [sz_set, sz_set]; exact hin32) (g := (mkF m 32 #[.val (.int p1), .val (.ref a2), .val (.int p3)] [(.int w10), (.int (p3 + (2 : Int32))), (.ref a2)])) rfl rfl (hb hby d1_32)
  have N11 := Fr.snoc X11 N8 g_a2
  have K11 : Keep h0 h11 [a2] := K8.wr W11 (Or.inl (List.mem_of_getElem? (i := 0) rfl))
  obtain ⟨fs, hr, hrun, hended, hW, hsame⟩ := X11.leave (v := some (.int (p3 + (3 : Int32)))) (fun h => by rw [Bd.returns] at h; cases h)
  refine ⟨_, _, pre0 _ ?_, hrun, hended, _, _, rfl, ?_, ⟨_, rfl⟩, hW, hsame.mono (by decide) (by decide)⟩
  · show Steps p.tables e below (s₁.setTop (mkF m 0 #[.val (.int p1), .val (.ref a2), .val (.int p3)] [])) _
    refine XS.aloadN X0.here hx rfl (hb hby d1_0) rfl rfl ?_
    show Steps p.tables e below (s₁.setTop (mkF m 1 #[.val (.int p1), .val (.ref a2), .val (.int p3)] [(.ref a2)])) _
    refine XS.iloadN X0.here hx rfl (hb hby d1_1) rfl ?_
    show Steps p.tables e below (s₁.setTop (mkF m 2 #[.val (.int p1), .val (.ref a2), .val (.int p3)] [(.int p3), (.ref a2)])) _
    refine XS.bipush X0.here hx rfl (hb hby d1_2) ?_
    show Steps p.tables e below (s₁.setTop (mkF m 4 #[.val (.int p1), .val (.ref a2), .val (.int p3)] [(.int (37 : Int32)), (.int p3), (.ref a2)])) _
    refine st4 _ ?_
    show Steps p.tables e below (T4.setTop (mkF m 5 #[.val (.int p1), .val (.ref a2), .val (.int p3)] [])) _
    refine XS.aloadN X4.here hx rfl (hb hby d1_5) rfl rfl ?_
    show Steps p.tables e below (T4.setTop (mkF m 6 #[.val (.int p1), .val (.ref a2), .val (.int p3)] [(.ref a2)])) _
    refine XS.iloadN X4.here hx rfl (hb hby d1_6) rfl ?_
    show Steps p.tables e below (T4.setTop (mkF m 7 #[.val (.int p1), .val (.ref a2), .val (.int p3)] [(.int p3), (.ref a2)])) _
    refine XS.iconst X4.here hx rfl (hb hby d1_7) ?_
    show Steps p.tables e below (T4.setTop (mkF m 8 #[.val (.int p1), .val (.ref a2), .val (.int p3)] [(.int (1 : Int32)), (.int p3), (.ref a2)])) _
    refine XS.iadd X4.here hx rfl (hb hby d1_8) rfl ?_
    show Steps p.tables e below (T4.setTop (mkF m 9 #[.val (.int p1), .val (.ref a2), .val (.int p3)] [(.int (p3 + (1 : Int32))), (.ref a2)])) _
    refine st6 _ ?_
    show Steps p.tables e below (T6.setTop (mkF m 12 #[.val (.int p1), .val (.ref a2), .val (.int p3)] [(.ref w5), (.int (p3 + (1 : Int32))), (.ref a2)])) _
    refine XS.iloadN X6.here hx rfl (hb hby d1_12) rfl ?_
    show Steps p.tables e below (T6.setTop (mkF m 13 #[.val (.int p1), .val (.ref a2), .val (.int p3)] [(.int p1), (.ref w5), (.int (p3 + (1 : Int32))), (.ref a2)])) _
    refine XS.iconst X6.here hx rfl (hb hby d1_13) ?_
    show Steps p.tables e below (T6.setTop (mkF m 14 #[.val (.int p1), .val (.ref a2), .val (.int p3)] [(.int (4 : Int32)), (.int p1), (.ref w5), (.int (p3 + (1 : Int32))), (.ref a2)])) _
    refine XS.ishr X6.here hx rfl (hb hby d1_14) rfl ?_
    show Steps p.tables e below (T6.setTop (mkF m 15 #[.val (.int p1), .val (.ref a2), .val (.int p3)] [(.int (p1 >>> ((4 : Int32) &&& 31))), (.ref w5), (.int (p3 + (1 : Int32))), (.ref a2)])) _
    refine XS.bipush X6.here hx rfl (hb hby d1_15) ?_
    show Steps p.tables e below (T6.setTop (mkF m 17 #[.val (.int p1), .val (.ref a2), .val (.int p3)] [(.int (15 : Int32)), (.int (p1 >>> ((4 : Int32) &&& 31))), (.ref w5), (.int (p3 + (1 : Int32))), (.ref a2)])) _
    refine XS.iand X6.here hx rfl (hb hby d1_17) rfl ?_
    show Steps p.tables e below (T6.setTop (mkF m 18 #[.val (.int p1), .val (.ref a2), .val (.int p3)] [(.int ((p1 >>> ((4 : Int32) &&& 31)) &&& (15 : Int32))), (.ref w5), (.int (p3 + (1 : Int32))), (.ref a2)])) _
    refine X6.baloadBytes hx (j := ((p1 >>> ((4 : Int32) &&& 31)) &&& (15 : Int32))) (v := (.int w7)) (by rw [e6]; exact (Ar_w5.ext (O0.wr W4 g_a2).2).1) (State.isArrayOf_alike hZ.alike Ar_w5.2.1) Ar_w5.2.2 hin18 hat18 (g := (mkF m 18 #[.val (.int p1), .val (.ref a2), .val (.int p3)] [(.int ((p1 >>> ((4 : Int32) &&& 31)) &&& (15 : Int32))), (.ref w5), (.int (p3 + (1 : Int32))), (.ref a2)])) rfl rfl (hb hby d1_18) _ ?_
    show Steps p.tables e below (T6.setTop (mkF m 19 #[.val (.int p1), .val (.ref a2), .val (.int p3)] [(.int w7), (.int (p3 + (1 : Int32))), (.ref a2)])) _
    refine st8 _ ?_
    show Steps p.tables e below (T8.setTop (mkF m 20 #[.val (.int p1), .val (.ref a2), .val (.int p3)] [])) _
    refine XS.aloadN X8.here hx rfl (hb hby d1_20) rfl rfl ?_
    show Steps p.tables e below (T8.setTop (mkF m 21 #[.val (.int p1), .val (.ref a2), .val (.int p3)] [(.ref a2)])) _
    refine XS.iloadN X8.here hx rfl (hb hby d1_21) rfl ?_
    show Steps p.tables e below (T8.setTop (mkF m 22 #[.val (.int p1), .val (.ref a2), .val (.int p3)] [(.int p3), (.ref a2)])) _
    refine XS.iconst X8.here hx rfl (hb hby d1_22) ?_
    show Steps p.tables e below (T8.setTop (mkF m 23 #[.val (.int p1), .val (.ref a2), .val (.int p3)] [(.int (2 : Int32)), (.int p3), (.ref a2)])) _
    refine XS.iadd X8.here hx rfl (hb hby d1_23) rfl ?_
    show Steps p.tables e below (T8.setTop (mkF m 24 #[.val (.int p1), .val (.ref a2), .val (.int p3)] [(.int (p3 + (2 : Int32))), (.ref a2)])) _
    refine st9 _ ?_
    show Steps p.tables e below (T9.setTop (mkF m 27 #[.val (.int p1), .val (.ref a2), .val (.int p3)] [(.ref w5), (.int (p3 + (2 : Int32))), (.ref a2)])) _
    refine XS.iloadN X9.here hx rfl (hb hby d1_27) rfl ?_
    show Steps p.tables e below (T9.setTop (mkF m 28 #[.val (.int p1), .val (.ref a2), .val (.int p3)] [(.int p1), (.ref w5), (.int (p3 + (2 : Int32))), (.ref a2)])) _
    refine XS.bipush X9.here hx rfl (hb hby d1_28) ?_
    show Steps p.tables e below (T9.setTop (mkF m 30 #[.val (.int p1), .val (.ref a2), .val (.int p3)] [(.int (15 : Int32)), (.int p1), (.ref w5), (.int (p3 + (2 : Int32))), (.ref a2)])) _
    refine XS.iand X9.here hx rfl (hb hby d1_30) rfl ?_
    show Steps p.tables e below (T9.setTop (mkF m 31 #[.val (.int p1), .val (.ref a2), .val (.int p3)] [(.int (p1 &&& (15 : Int32))), (.ref w5), (.int (p3 + (2 : Int32))), (.ref a2)])) _
    refine X9.baloadBytes hx (j := (p1 &&& (15 : Int32))) (v := (.int w10)) (by rw [e9]; exact (Ar_w5.ext ((O0.wr W4 g_a2).wr W8 g_a2).2).1) (State.isArrayOf_alike hZ.alike Ar_w5.2.1) Ar_w5.2.2 hin31 hat31 (g := (mkF m 31 #[.val (.int p1), .val (.ref a2), .val (.int p3)] [(.int (p1 &&& (15 : Int32))), (.ref w5), (.int (p3 + (2 : Int32))), (.ref a2)])) rfl rfl (hb hby d1_31) _ ?_
    show Steps p.tables e below (T9.setTop (mkF m 32 #[.val (.int p1), .val (.ref a2), .val (.int p3)] [(.int w10), (.int (p3 + (2 : Int32))), (.ref a2)])) _
    refine st11 _ ?_
    show Steps p.tables e below (T11.setTop (mkF m 33 #[.val (.int p1), .val (.ref a2), .val (.int p3)] [])) _
    refine XS.iloadN X11.here hx rfl (hb hby d1_33) rfl ?_
    show Steps p.tables e below (T11.setTop (mkF m 34 #[.val (.int p1), .val (.ref a2), .val (.int p3)] [(.int p3)])) _
    refine XS.iconst X11.here hx rfl (hb hby d1_34) ?_
    show Steps p.tables e below (T11.setTop (mkF m 35 #[.val (.int p1), .val (.ref a2), .val (.int p3)] [(.int (3 : Int32)), (.int p3)])) _
    refine XS.iadd X11.here hx rfl (hb hby d1_35) rfl ?_
    show Steps p.tables e below (T11.setTop (mkF m 36 #[.val (.int p1), .val (.ref a2), .val (.int p3)] [(.int (p3 + (3 : Int32)))])) _
    exact retI X11 hx Bd.returns (hb hby d1_36) hr
  · show Q1 Z p1 a2 p3 cl_a2 w5 w7 cl_w5 w10 h0 n0 _ T11.heap _
    rw [e11]
    exact ⟨rfl, N11, K11, ((Ar_a2.same W4).same W8).same W11⟩
theorem own_rng (x : Int32) (h : 0 ≤ x.toInt ∧ x.toInt < 6) : ¬ x < 0 ∧ x < 6 := by
  have z6 : (6 : Int32).toInt = 6 := by decide
  have z0 : (0 : Int32).toInt = 0 := by decide
  rw [Int32.lt_iff_toInt_lt, Int32.lt_iff_toInt_lt]; omega
theorem own_off (x : Int32) : (0 ≤ (x &&& (3 : Int32)).toInt ∧ (x &&& (3 : Int32)).toInt < 6) ∧ (0 ≤ ((x &&& (3 : Int32)) + (1 : Int32)).toInt ∧ ((x &&& (3 : Int32)) + (1 : Int32)).toInt < 6) ∧ (0 ≤ ((x &&& (3 : Int32)) + (2 : Int32)).toInt ∧ ((x &&& (3 : Int32)) + (2 : Int32)).toInt < 6) ∧ ((x &&& (3 : Int32)) + (1 : Int32)).toInt = (x &&& (3 : Int32)).toInt + 1 ∧ ((x &&& (3 : Int32)) + (2 : Int32)).toInt = (x &&& (3 : Int32)).toInt + 2 := by
  have h := c_and x (3 : Int32) (by decide)
  generalize (x &&& (3 : Int32)) = E at *
  have z3 : (3 : Int32).toInt = 3 := by decide
  have z1 : (1 : Int32).toInt = 1 := by decide
  have z2 : (2 : Int32).toInt = 2 := by decide
  have a := c_iadd E (1 : Int32)
  have b := c_iadd E (2 : Int32)
  have ra := rng32 (E + (1 : Int32))
  have rb := rng32 (E + (2 : Int32))
  omega
theorem own_nib (x : Int32) : ((x.toInt8.toInt32 >>> ((4 : Int32) &&& 31)) &&& (15 : Int32)) = ((x &&& (255 : Int32)) >>> ((4 : Int32) &&& 31)) ∧ (x.toInt8.toInt32 &&& (15 : Int32)) = ((x &&& (255 : Int32)) &&& (15 : Int32)) := by
  have hb := c_i2b x
  have m := c_mask x (255 : Int32) 8 (by decide) (by decide)
  have s1 := c_ishr x.toInt8.toInt32 (4 : Int32) 4 (by decide)
  have s2 := c_ishr (x &&& (255 : Int32)) (4 : Int32) 4 (by decide)
  have n1 := c_mask (x.toInt8.toInt32 >>> ((4 : Int32) &&& 31)) (15 : Int32) 4 (by decide) (by decide)
  have n2 := c_mask x.toInt8.toInt32 (15 : Int32) 4 (by decide) (by decide)
  have n3 := c_mask (x &&& (255 : Int32)) (15 : Int32) 4 (by decide) (by decide)
  constructor <;> (rw [← Int32.toInt_inj]; simp only [Nat.reducePow] at *; omega)
theorem own_nibr (x : Int32) : (0 ≤ ((x &&& (255 : Int32)) >>> ((4 : Int32) &&& 31)).toInt ∧ ((x &&& (255 : Int32)) >>> ((4 : Int32) &&& 31)).toInt < 16) ∧ (0 ≤ ((x &&& (255 : Int32)) &&& (15 : Int32)).toInt ∧ ((x &&& (255 : Int32)) &&& (15 : Int32)).toInt < 16) := by
  have m := c_mask x (255 : Int32) 8 (by decide) (by decide)
  have s2 := c_ishr (x &&& (255 : Int32)) (4 : Int32) 4 (by decide)
  have n3 := c_mask (x &&& (255 : Int32)) (15 : Int32) 4 (by decide) (by decide)
  simp only [Nat.reducePow] at *
  omega
theorem own_b8 (x : Int32) : x.toInt8.toInt32.toInt8.toInt32 = x.toInt8.toInt32 := by
  have a := c_i2b x
  have b := c_i2b x.toInt8.toInt32
  rw [← Int32.toInt_inj]; omega
theorem own_cell {cl : Cell} {o hi lo fb : Int32} (S : cl.slots.size = (6 : Int32).toNatClampNeg) (H : ∀ j : Int32, ¬ j < 0 ∧ j < 6 → cl.slots[j.toNatClampNeg]? = some (.int fb)) (r0 : ¬ o < 0 ∧ o < 6) (r1 : ¬ (o + (1 : Int32)) < 0 ∧ (o + (1 : Int32)) < 6) (r2 : ¬ (o + (2 : Int32)) < 0 ∧ (o + (2 : Int32)) < 6) (d1 : ¬ (o + (1 : Int32)) = o) (d2 : ¬ (o + (2 : Int32)) = o) (d3 : ¬ (o + (2 : Int32)) = o + (1 : Int32)) (i : Int32) (ri : ¬ i < 0 ∧ i < 6) :
    ¬ (i < 0 ∨ (((cl.setSlot o.toNatClampNeg (.int ((37 : Int32).toInt8.toInt32))).setSlot (o + (1 : Int32)).toNatClampNeg (.int (own_hex hi).toInt8.toInt32)).setSlot (o + (2 : Int32)).toNatClampNeg (.int (own_hex lo).toInt8.toInt32)).slots.size ≤ i.toNatClampNeg) ∧
    (((cl.setSlot o.toNatClampNeg (.int ((37 : Int32).toInt8.toInt32))).setSlot (o + (1 : Int32)).toNatClampNeg (.int (own_hex hi).toInt8.toInt32)).setSlot (o + (2 : Int32)).toNatClampNeg (.int (own_hex lo).toInt8.toInt32)).slots[i.toNatClampNeg]? = some (.int (own_want i o hi lo fb)) := by
  refine ⟨by rw [sz_set, sz_set, sz_set]; exact inb_of S ri, ?_⟩
  unfold own_want
  have S1 := (sz_set cl o.toNatClampNeg (.int ((37 : Int32).toInt8.toInt32))).trans S
  have S2 := (sz_set (cl.setSlot o.toNatClampNeg (.int ((37 : Int32).toInt8.toInt32))) (o + (1 : Int32)).toNatClampNeg (.int (own_hex hi).toInt8.toInt32)).trans S1
  by_cases c3 : i = o + (2 : Int32)
  · rw [get_hit (inb_of S2 r2) c3, if_neg (fun q => d2 (c3.symm.trans q)), if_neg (fun q => d3 (c3.symm.trans q)), if_pos c3]
  rw [get_miss r2.1 ri.1 c3]
  by_cases c2 : i = o + (1 : Int32)
  · rw [get_hit (inb_of S1 r1) c2, if_neg (fun q => d1 (c2.symm.trans q)), if_pos c2]
  rw [get_miss r1.1 ri.1 c2]
  by_cases c1 : i = o
  · rw [get_hit (inb_of S r0) c1, if_pos c1]
  rw [get_miss r0.1 ri.1 c1, H i ri, if_neg c1, if_neg c2, if_neg c3]
theorem own_fill {cl : Cell} {f : Int32} (Sz : cl.slots.size = (6 : Int32).toNatClampNeg) (Hs : Has cl ((((((([(.int (0 : Int32)), (.int (0 : Int32)), (.int (0 : Int32)), (.int (0 : Int32)), (.int (0 : Int32)), (.int (0 : Int32))] : List Value).set 0 (.int f.toInt8.toInt32.toInt8.toInt32)).set 1 (.int f.toInt8.toInt32.toInt8.toInt32)).set 2 (.int f.toInt8.toInt32.toInt8.toInt32)).set 3 (.int f.toInt8.toInt32.toInt8.toInt32)).set 4 (.int f.toInt8.toInt32.toInt8.toInt32)).set 5 (.int f.toInt8.toInt32.toInt8.toInt32)) (.int (0 : Int32))) : ∀ j : Int32, ¬ j < 0 ∧ j < 6 → cl.slots[j.toNatClampNeg]? = some (.int f.toInt8.toInt32) := by
  intro j hj
  have hb := inb_of Sz hj
  have hlt : j.toNatClampNeg < cl.slots.size := Nat.lt_of_not_le fun y => hb (Or.inr y)
  have h6 : j.toNatClampNeg < 6 := by rw [Sz] at hlt; exact hlt
  rw [own_b8] at Hs
  rw [Hs _ hlt]
  generalize j.toNatClampNeg = k at h6
  rcases (by omega : k = 0 ∨ k = 1 ∨ k = 2 ∨ k = 3 ∨ k = 4 ∨ k = 5) with rfl | rfl | rfl | rfl | rfl | rfl <;> rfl
theorem pn_0 : plainName "com/example/humble_escaper/humbleescaper/PercentEscapesWriteOctetPinLaw" = true := by first | (simp [plainName, overriddenIn]; done) | decide +kernel
theorem pd_0_0 : parseMethodDescriptor "(B[BI)I" = some ⟨[.byte, (.array .byte), .int], some .int⟩ := by decide +kernel
theorem pd_0_1 : parseMethodDescriptor "([BIIIIB)Z" = some ⟨[(.array .byte), .int, .int, .int, .int, .byte], some .boolean⟩ := by decide +kernel
theorem ef_0 (m : MethodId) (x0 : Int32) (x1 : Int32) (x2 : Int32) : entryFrame m #[(.int x0), (.int x1), (.int x2)] maxLocals = mkF m 0 #[.val (.int x0), .val (.int x1), .val (.int x2), .unset, .unset, .unset, .unset, .unset, .unset, .unset, .unset] [] := by first | (simp [entryFrame, mkF, argsToLocals, Value.category, maxLocals]; done) | rfl
def Q0 (Z : State) (p1 : Int32) (p2 : Int32) (p3 : Int32) (h0 : Heap) (n0 : Nat) (v : Option Value) (h : Heap) (L : List Loc) : Prop := v = some (.int (1 : Int32)) ∧ Fr n0 L
set_option maxRecDepth 65536 in
set_option maxHeartbeats 40000000 in
theorem rm0 (l : Launch) (Z : State) (a0 : Array Value) (hw : ∀ d ∈ tables_1, d.before a0 Z = true) (ws : List Jvm.Cond) (p1 : Int32) (p2 : Int32) (p3 : Int32) (wH : Addr) (clH : Cell) (h0 : Heap) (n0 : Nat) (Z0 : n0 ≤ h0.size) (O0 : Old Z n0 h0) (S_H : Sta Z Z.heap "com/example/humble_escaper/humbleescaper/PercentEscapes" "UPPER_HEX_DIGITS" "[B" (.ref wH)) (Ar_H : Arr Z Z.heap wH clH .byte) (hin1 : ¬ ((((p1.toInt8.toInt32) >>> ((4 : Int32) &&& 31)) &&& (15 : Int32)) < 0 ∨ clH.slots.size ≤ ((((p1.toInt8.toInt32) >>> ((4 : Int32) &&& 31)) &&& (15 : Int32))).toNatClampNeg)) (hat1 : clH.slots[((((p1.toInt8.toInt32) >>> ((4 : Int32) &&& 31)) &&& (15 : Int32))).toNatClampNeg]? = some (.int (own_hex ((p1 &&& (255 : Int32)) >>> ((4 : Int32) &&& 31))))) (hin2 : ¬ (((p1.toInt8.toInt32) &&& (15 : Int32)) < 0 ∨ clH.slots.size ≤ (((p1.toInt8.toInt32) &&& (15 : Int32))).toNatClampNeg)) (hat2 : clH.slots[(((p1.toInt8.toInt32) &&& (15 : Int32))).toNatClampNeg]? = some (.int (own_hex ((p1 &&& (255 : Int32)) &&& (15 : Int32))))) (hc101 : ¬ ((1 : Int32) = (0 : Int32))) (hc118 : ¬ ((1 : Int32) = (0 : Int32))) (hc135 : ¬ ((1 : Int32) = (0 : Int32))) (hc152 : ¬ ((1 : Int32) = (0 : Int32))) (hc169 : ¬ ((1 : Int32) = (0 : Int32))) (hc186 : ¬ ((1 : Int32) = (0 : Int32))) :
    MetFree l x (head1 (Jvm.Cond.code x code maxLocals ret :: ws) room_1) (fun a U => a = #[(.int p1), (.int p2), (.int p3)] ∧ Z.Warmed39 U.vm ∧ U.heap = h0) (fun _ _ _ _ _ => True) (fun _ U o U' => ∃ v L, o = .returned v ∧ Q0 Z p1 p2 p3 h0 n0 v U'.heap L ∧ FrameEnd U o U' L room_1.cells room_1.slots) := by
  refine MetFree.of_bodySF (plainFor_of_name pn_0) hisR ?_
  intro p e s m args below meth c s₁ Bd hml0 hP hK
  obtain ⟨rfl, hZ, hh⟩ := hP
  have hx := Bd.exec
  have hby := Bd.bytes
  have hml : c.maxLocals = 11 := hml0
  have hown : s.vm.findClass "com/example/humble_escaper/humbleescaper/PercentEscapesWriteOctetPinLaw" = some m.cls := findClass_of_methodNamed Bd.named
  have hnm := (name_of_methodNamed Bd.named Bd.method).1
  have X0 : Stand p l e room_1 s m #[(.int p1), (.int p2), (.int p3)] below meth c s₁ [] 0 0 := Stand.of_body Bd
  have e0 : s₁.heap = h0 := by rw [← hh, Bd.state]; rfl
  have N0 := Fr.nil n0
  have pre0 : ∀ t, Steps p.tables e below (s₁.setTop (mkF m 0 #[.val (.int p1), .val (.int p2), .val (.int p3), .unset, .unset, .unset, .unset, .unset, .unset, .unset, .unset] [])) t → Steps p.tables e below (s₁.setTop (entryFrame m #[(.int p1), (.int p2), (.int p3)] maxLocals)) t := fun t k => castTop (ef_0 m p1 p2 p3) k
  obtain ⟨T4, h4, k4, X4, e4, E4, A4, st4⟩ := newP X0 hx hZ (hw _ (List.mem_of_getElem? (i := 0) rfl)) e0 (g := (mkF m 14 #[.val (.int p1), .val (.int p2), .val (.int p3), .val (.int (p1.toInt8.toInt32)), .val (.int (p2 &&& (3 : Int32))), .val (.int (p3.toInt8.toInt32)), .unset, .unset, .unset, .unset, .unset] [(.int (6 : Int32))])) rfl (hb hby at_14) rfl (by decide) (cap := 6) (by decide) (by decide) (by decide) (by decide)
  obtain ⟨b4, g4⟩ : ∃ z, z = h0.size := ⟨_, rfl⟩
  rw [← g4] at A4 st4
  have V_b4 : Arv Z h4 b4 k4 .byte (6 : Int32) [(.int (0 : Int32)), (.int (0 : Int32)), (.int (0 : Int32)), (.int (0 : Int32)), (.int (0 : Int32)), (.int (0 : Int32))] (.int (0 : Int32)) := (Arv.new A4 (by decide)).pad (pad_rep [] (.int (0 : Int32)) 6)
  have g_b4 : n0 ≤ b4 := Nat.le_trans Z0 (Nat.le_of_eq g4.symm)
  have sz_b4 : h0.size ≤ b4 := (Nat.le_trans (Keep.refl h0 []).1 (Nat.le_of_eq g4.symm))
  have K4 : Keep h0 h4 [] := (Keep.refl h0 []).ext E4
  obtain ⟨cl_b4_20, Ar_b4, q_b4, S_b4, N_b4, H_b4, G_b4⟩ := V_b4
  have hin20 : ¬ ((0 : Int32) < 0 ∨ cl_b4_20.slots.size ≤ ((0 : Int32)).toNatClampNeg) := inb_of S_b4 ⟨by decide, by decide⟩
  obtain ⟨T5, h5, X5, e5, W5, st5⟩ := stB X4 hx hZ e4 Ar_b4 (j := (0 : Int32)) hin20 (g := (mkF m 20 #[.val (.int p1), .val (.int p2), .val (.int p3), .val (.int (p1.toInt8.toInt32)), .val (.int (p2 &&& (3 : Int32))), .val (.int (p3.toInt8.toInt32)), .unset, .unset, .unset, .unset, .unset] [(.int (p3.toInt8.toInt32)), (.int (0 : Int32)), (.ref b4), (.ref b4)])) rfl rfl (hb hby at_20)
  have V_b4_5 := Arv.set Ar_b4 q_b4 S_b4 N_b4 H_b4 G_b4 (fits_nar_byte _) W5 0 rfl (Nat.le_of_ble_eq_true rfl)
  have K5 : Keep h0 h5 [] := K4.wr W5 (Or.inr sz_b4)
  have N5 := Fr.snoc X5 N0 g_b4
  obtain ⟨cl_b4_25, Ar_b4, q_b4, S_b4, N_b4, H_b4, G_b4⟩ := V_b4_5
  have hin25 : ¬ ((1 : Int32) < 0 ∨ cl_b4_25.slots.size ≤ ((1 : Int32)).toNatClampNeg) := inb_of S_b4 ⟨by decide, by decide⟩
  obtain ⟨T6, h6, X6, e6, W6, st6⟩ := stB X5 hx hZ e5 Ar_b4 (j := (1 : Int32)) hin25 (g := (mkF m 25 #[.val (.int p1), .val (.int p2), .val (.int p3), .val (.int (p1.toInt8.toInt32)), .val (.int (p2 &&& (3 : Int32))), .val (.int (p3.toInt8.toInt32)), .unset, .unset, .unset, .unset, .unset] [(.int (p3.toInt8.toInt32)), (.int (1 : Int32)), (.ref b4), (.ref b4)])) rfl rfl (hb hby at_25)
  have V_b4_6 := Arv.set Ar_b4 q_b4 S_b4 N_b4 H_b4 G_b4 (fits_nar_byte _) W6 1 rfl (Nat.le_of_ble_eq_true rfl)
  have K6 : Keep h0 h6 [] := K5.wr W6 (Or.inr sz_b4)
  have N6 := Fr.snoc X6 N5 g_b4
  obtain ⟨cl_b4_30, Ar_b4, q_b4, S_b4, N_b4, H_b4, G_b4⟩ := V_b4_6
  have hin30 : ¬ ((2 : Int32) < 0 ∨ cl_b4_30.slots.size ≤ ((2 : Int32)).toNatClampNeg) := inb_of S_b4 ⟨by decide, by decide⟩
  obtain ⟨T7, h7, X7, e7, W7, st7⟩ := stB X6 hx hZ e6 Ar_b4 (j := (2 : Int32)) hin30 (g := (mkF m 30 #[.val (.int p1), .val (.int p2), .val (.int p3), .val (.int (p1.toInt8.toInt32)), .val (.int (p2 &&& (3 : Int32))), .val (.int (p3.toInt8.toInt32)), .unset, .unset, .unset, .unset, .unset] [(.int (p3.toInt8.toInt32)), (.int (2 : Int32)), (.ref b4), (.ref b4)])) rfl rfl (hb hby at_30)
  have V_b4_7 := Arv.set Ar_b4 q_b4 S_b4 N_b4 H_b4 G_b4 (fits_nar_byte _) W7 2 rfl (Nat.le_of_ble_eq_true rfl)
  have K7 : Keep h0 h7 [] := K6.wr W7 (Or.inr sz_b4)
  have N7 := Fr.snoc X7 N6 g_b4
  obtain ⟨cl_b4_35, Ar_b4, q_b4, S_b4, N_b4, H_b4, G_b4⟩ := V_b4_7
  have hin35 : ¬ ((3 : Int32) < 0 ∨ cl_b4_35.slots.size ≤ ((3 : Int32)).toNatClampNeg) := inb_of S_b4 ⟨by decide, by decide⟩
  obtain ⟨T8, h8, X8, e8, W8, st8⟩ := stB X7 hx hZ e7 Ar_b4 (j := (3 : Int32)) hin35 (g := (mkF m 35 #[.val (.int p1), .val (.int p2), .val (.int p3), .val (.int (p1.toInt8.toInt32)), .val (.int (p2 &&& (3 : Int32))), .val (.int (p3.toInt8.toInt32)), .unset, .unset, .unset, .unset, .unset] [(.int (p3.toInt8.toInt32)), (.int (3 : Int32)), (.ref b4), (.ref b4)])) rfl rfl (hb hby at_35)
  have V_b4_8 := Arv.set Ar_b4 q_b4 S_b4 N_b4 H_b4 G_b4 (fits_nar_byte _) W8 3 rfl (Nat.le_of_ble_eq_true rfl)
  have K8 : Keep h0 h8 [] := K7.wr W8 (Or.inr sz_b4)
  have N8 := Fr.snoc X8 N7 g_b4
  obtain ⟨cl_b4_40, Ar_b4, q_b4, S_b4, N_b4, H_b4, G_b4⟩ := V_b4_8
  have hin40 : ¬ ((4 : Int32) < 0 ∨ cl_b4_40.slots.size ≤ ((4 : Int32)).toNatClampNeg) := inb_of S_b4 ⟨by decide, by decide⟩
  obtain ⟨T9, h9, X9, e9, W9, st9⟩ := stB X8 hx hZ e8 Ar_b4 (j := (4 : Int32)) hin40 (g := (mkF m 40 #[.val (.int p1), .val (.int p2), .val (.int p3), .val (.int (p1.toInt8.toInt32)), .val (.int (p2 &&& (3 : Int32))), .val (.int (p3.toInt8.toInt32)), .unset, .unset, .unset, .unset, .unset] [(.int (p3.toInt8.toInt32)), (.int (4 : Int32)), (.ref b4), (.ref b4)])) rfl rfl (hb hby at_40)
  have V_b4_9 := Arv.set Ar_b4 q_b4 S_b4 N_b4 H_b4 G_b4 (fits_nar_byte _) W9 4 rfl (Nat.le_of_ble_eq_true rfl)
  have K9 : Keep h0 h9 [] := K8.wr W9 (Or.inr sz_b4)
  have N9 := Fr.snoc X9 N8 g_b4
  obtain ⟨cl_b4_45, Ar_b4, q_b4, S_b4, N_b4, H_b4, G_b4⟩ := V_b4_9
  have hin45 : ¬ ((5 : Int32) < 0 ∨ cl_b4_45.slots.size ≤ ((5 : Int32)).toNatClampNeg) := inb_of S_b4 ⟨by decide, by decide⟩
  obtain ⟨T10, h10, X10, e10, W10, st10⟩ := stB X9 hx hZ e9 Ar_b4 (j := (5 : Int32)) hin45 (g := (mkF m 45 #[.val (.int p1), .val (.int p2), .val (.int p3), .val (.int (p1.toInt8.toInt32)), .val (.int (p2 &&& (3 : Int32))), .val (.int (p3.toInt8.toInt32)), .unset, .unset, .unset, .unset, .unset] [(.int (p3.toInt8.toInt32)), (.int (5 : Int32)), (.ref b4), (.ref b4)])) rfl rfl (hb hby at_45)
  have V_b4_10 := Arv.set Ar_b4 q_b4 S_b4 N_b4 H_b4 G_b4 (fits_nar_byte _) W10 5 rfl (Nat.le_of_ble_eq_true rfl)
  have K10 : Keep h0 h10 [] := K9.wr W10 (Or.inr sz_b4)
  have N10 := Fr.snoc X10 N9 g_b4
  obtain ⟨cl, Ar, -, Sz, -, Hs, -⟩ := V_b4_10
  have Hf : ∀ j : Int32, ¬ j < 0 ∧ j < 6 → cl.slots[j.toNatClampNeg]? = some (.int (p3.toInt8.toInt32)) := own_fill Sz Hs
  obtain ⟨_, _, ⟨T11, L11, k11, n11⟩, -, X11, ⟨Lc11, hQ11, l11, y11, z11⟩, st11⟩ := Jvm.LawKit.callS X10 hx (y := (⟨"com/example/humble_escaper/humbleescaper/PercentEscapes", "writeOctet", "(B[BI)I"⟩ : MethodName)) hown (mvT hZ (hw _ (List.mem_of_getElem? (i := 1) rfl))) (mvT hZ (hw _ (List.mem_of_getElem? (i := 2) rfl))) (mvT hZ (hw _ (List.mem_of_getElem? (i := 3) rfl))) (mvT hZ (hw _ (List.mem_of_getElem? (i := 4) rfl))) (by decide) (backOf (W := 0) (rm1 l Z a0 hw [] (p1.toInt8.toInt32) b4 (p2 &&& (3 : Int32)) cl wH (own_hex ((p1 &&& (255 : Int32)) >>> ((4 : Int32) &&& 31))) clH (own_hex ((p1 &&& (255 : Int32)) &&& (15 : Int32))) h10 n0 (Nat.le_trans (Nat.le_trans (Nat.le_trans (Nat.le_trans (Nat.le_trans (Nat.le_trans (Nat.le_trans Z0 E4.1) (Keep.of_wr W5).1) (Keep.of_wr W6).1) (Keep.of_wr W7).1) (Keep.of_wr W8).1) (Keep.of_wr W9).1) (Keep.of_wr W10).1) Ar (inb_of Sz (own_rng _ (own_off p2).1)) g_b4 (((((((O0.ext E4).wr W5 g_b4).wr W6 g_b4).wr W7 g_b4).wr W8 g_b4).wr W9 g_b4).wr W10 g_b4) S_H Ar_H hin1 hat1 (inb_of Sz (own_rng _ (own_off p2).2.1)) hin2 hat2 (inb_of Sz (own_rng _ (own_off p2).2.2.1))) hZ (hw _ (List.mem_of_getElem? (i := 4) rfl)) (hw _ (List.mem_of_getElem? (i := 3) rfl)) (by decide) (by decide)) (g := (mkF m 73 #[.val (.int p1), .val (.int p2), .val (.int p3), .val (.int (p1.toInt8.toInt32)), .val (.int (p2 &&& (3 : Int32))), .val (.int (p3.toInt8.toInt32)), .val (.ref b4), .val (.int (p1 &&& (255 : Int32))), .val (.int ((p1 &&& (255 : Int32)) >>> ((4 : Int32) &&& 31))), .val (.int ((p1 &&& (255 : Int32)) &&& (15 : Int32))), .unset] [(.int (p2 &&& (3 : Int32))), (.ref b4), (.int (p1.toInt8.toInt32))])) rfl (by rw [hml]; rfl) (argsL := [(.int (p1.toInt8.toInt32)), (.ref b4), (.int (p2 &&& (3 : Int32)))]) (rest := []) (lenOf pd_0_0 rfl) rfl (by show 2 * 0 + _ ≤ _; exact Nat.le_of_eq rfl) (hb hby at_73) (fun _ _ => ⟨rfl, e10, (by decide : 1 + 0 ≤ _), (by decide : 6 + 0 ≤ _)⟩)
  dsimp only [Pt.U, Pt.locs, Pt.cells, Pt.slots] at X11 l11 y11 z11 st11 hQ11
  subst l11 y11 z11
  obtain ⟨rfl, N11q, K11c, A11c⟩ := hQ11
  have N11 := Fr.app N10 N11q
  have K11 : Keep h0 T11.heap [] := K10.trans K11c (allS (Or.inr sz_b4) all0)
  have C := own_cell (hi := ((p1 &&& (255 : Int32)) >>> ((4 : Int32) &&& 31))) (lo := ((p1 &&& (255 : Int32)) &&& (15 : Int32))) Sz Hf (own_rng _ (own_off p2).1) (own_rng _ (own_off p2).2.1) (own_rng _ (own_off p2).2.2.1) (fun q => by have := congrArg Int32.toInt q; have := own_off p2; omega) (fun q => by have := congrArg Int32.toInt q; have := own_off p2; omega) (fun q => by have := congrArg Int32.toInt q; have := own_off p2; omega)
  obtain ⟨_, _, ⟨T12, L12, k12, n12⟩, -, X12, ⟨Lc12, hQ12, l12, y12, z12⟩, st12⟩ := Jvm.LawKit.callS X11 hx (y := (⟨"com/example/humble_escaper/humbleescaper/PercentEscapesWriteOctetPinLaw", "at", "([BIIIIB)Z"⟩ : MethodName)) hown (mvT hZ (hw _ (List.mem_of_getElem? (i := 7) rfl))) (mvT hZ (hw _ (List.mem_of_getElem? (i := 8) rfl))) (mvT hZ (hw _ (List.mem_of_getElem? (i := 9) rfl))) (mvT hZ (hw _ (List.mem_of_getElem? (i := 10) rfl))) (by decide) (backOf (W := 0) (rm2 l Z a0 hw [] b4 (0 : Int32) (p2 &&& (3 : Int32)) ((p1 &&& (255 : Int32)) >>> ((4 : Int32) &&& 31)) ((p1 &&& (255 : Int32)) &&& (15 : Int32)) (p3.toInt8.toInt32) _ _ T11.heap n0 (Nat.le_trans (Nat.le_trans (Nat.le_trans (Nat.le_trans (Nat.le_trans (Nat.le_trans (Nat.le_trans (Nat.le_trans Z0 E4.1) (Keep.of_wr W5).1) (Keep.of_wr W6).1) (Keep.of_wr W7).1) (Keep.of_wr W8).1) (Keep.of_wr W9).1) (Keep.of_wr W10).1) K11c.1) A11c (C (0 : Int32) ⟨by decide, by decide⟩).1 (C (0 : Int32) ⟨by decide, by decide⟩).2 rfl) hZ (hw _ (List.mem_of_getElem? (i := 10) rfl)) (hw _ (List.mem_of_getElem? (i := 9) rfl)) (by decide) (by decide)) (g := (mkF m 98 #[.val (.int p1), .val (.int p2), .val (.int p3), .val (.int (p1.toInt8.toInt32)), .val (.int (p2 &&& (3 : Int32))), .val (.int (p3.toInt8.toInt32)), .val (.ref b4), .val (.int (p1 &&& (255 : Int32))), .val (.int ((p1 &&& (255 : Int32)) >>> ((4 : Int32) &&& 31))), .val (.int ((p1 &&& (255 : Int32)) &&& (15 : Int32))), .val (.int ((p2 &&& (3 : Int32)) + (3 : Int32)))] [(.int (p3.toInt8.toInt32)), (.int ((p1 &&& (255 : Int32)) &&& (15 : Int32))), (.int ((p1 &&& (255 : Int32)) >>> ((4 : Int32) &&& 31))), (.int (p2 &&& (3 : Int32))), (.int (0 : Int32)), (.ref b4)])) rfl (by rw [hml]; rfl) (argsL := [(.ref b4), (.int (0 : Int32)), (.int (p2 &&& (3 : Int32))), (.int ((p1 &&& (255 : Int32)) >>> ((4 : Int32) &&& 31))), (.int ((p1 &&& (255 : Int32)) &&& (15 : Int32))), (.int (p3.toInt8.toInt32))]) (rest := []) (lenOf pd_0_1 rfl) rfl (by show 2 * 0 + _ ≤ _; exact Nat.le_of_eq rfl) (hb hby at_98) (fun _ _ => ⟨rfl, rfl, (by decide : 1 + 0 ≤ _), (by decide : 6 + 0 ≤ _)⟩)
  dsimp only [Pt.U, Pt.locs, Pt.cells, Pt.slots] at X12 l12 y12 z12 st12 hQ12
  subst l12 y12 z12
  obtain ⟨rfl, N12q, e12c⟩ := hQ12
  have N12 := Fr.app N11 N12q
  obtain ⟨_, _, ⟨T13, L13, k13, n13⟩, -, X13, ⟨Lc13, hQ13, l13, y13, z13⟩, st13⟩ := Jvm.LawKit.callS X12 hx (y := (⟨"com/example/humble_escaper/humbleescaper/PercentEscapesWriteOctetPinLaw", "at", "([BIIIIB)Z"⟩ : MethodName)) hown (mvT hZ (hw _ (List.mem_of_getElem? (i := 7) rfl))) (mvT hZ (hw _ (List.mem_of_getElem? (i := 8) rfl))) (mvT hZ (hw _ (List.mem_of_getElem? (i := 9) rfl))) (mvT hZ (hw _ (List.mem_of_getElem? (i := 10) rfl))) (by decide) (backOf (W := 0) (rm2 l Z a0 hw [] b4 (1 : Int32) (p2 &&& (3 : Int32)) ((p1 &&& (255 : Int32)) >>> ((4 : Int32) &&& 31)) ((p1 &&& (255 : Int32)) &&& (15 : Int32)) (p3.toInt8.toInt32) _ _ T11.heap n0 (Nat.le_trans (Nat.le_trans (Nat.le_trans (Nat.le_trans (Nat.le_trans (Nat.le_trans (Nat.le_trans (Nat.le_trans Z0 E4.1) (Keep.of_wr W5).1) (Keep.of_wr W6).1) (Keep.of_wr W7).1) (Keep.of_wr W8).1) (Keep.of_wr W9).1) (Keep.of_wr W10).1) K11c.1) A11c (C (1 : Int32) ⟨by decide, by decide⟩).1 (C (1 : Int32) ⟨by decide, by decide⟩).2 rfl) hZ (hw _ (List.mem_of_getElem? (i := 10) rfl)) (hw _ (List.mem_of_getElem? (i := 9) rfl)) (by decide) (by decide)) (g := (mkF m 115 #[.val (.int p1), .val (.int p2), .val (.int p3), .val (.int (p1.toInt8.toInt32)), .val (.int (p2 &&& (3 : Int32))), .val (.int (p3.toInt8.toInt32)), .val (.ref b4), .val (.int (p1 &&& (255 : Int32))), .val (.int ((p1 &&& (255 : Int32)) >>> ((4 : Int32) &&& 31))), .val (.int ((p1 &&& (255 : Int32)) &&& (15 : Int32))), .val (.int ((p2 &&& (3 : Int32)) + (3 : Int32)))] [(.int (p3.toInt8.toInt32)), (.int ((p1 &&& (255 : Int32)) &&& (15 : Int32))), (.int ((p1 &&& (255 : Int32)) >>> ((4 : Int32) &&& 31))), (.int (p2 &&& (3 : Int32))), (.int (1 : Int32)), (.ref b4)])) rfl (by rw [hml]; rfl) (argsL := [(.ref b4), (.int (1 : Int32)), (.int (p2 &&& (3 : Int32))), (.int ((p1 &&& (255 : Int32)) >>> ((4 : Int32) &&& 31))), (.int ((p1 &&& (255 : Int32)) &&& (15 : Int32))), (.int (p3.toInt8.toInt32))]) (rest := []) (lenOf pd_0_1 rfl) rfl (by show 2 * 0 + _ ≤ _; exact Nat.le_of_eq rfl) (hb hby at_115) (fun _ _ => ⟨rfl, e12c, (by decide : 1 + 0 ≤ _), (by decide : 6 + 0 ≤ _)⟩)
  dsimp only [Pt.U, Pt.locs, Pt.cells, Pt.slots] at X13 l13 y13 z13 st13 hQ13
  subst l13 y13 z13
  obtain ⟨rfl, N13q, e13c⟩ := hQ13
  have N13 := Fr.app N12 N13q
  obtain ⟨_, _, ⟨T14, L14, k14, n14⟩, -, X14, ⟨Lc14, hQ14, l14, y14, z14⟩, st14⟩ := Jvm.LawKit.callS X13 hx (y := (⟨"com/example/humble_escaper/humbleescaper/PercentEscapesWriteOctetPinLaw", "at", "([BIIIIB)Z"⟩ : MethodName)) hown (mvT hZ (hw _ (List.mem_of_getElem? (i := 7) rfl))) (mvT hZ (hw _ (List.mem_of_getElem? (i := 8) rfl))) (mvT hZ (hw _ (List.mem_of_getElem? (i := 9) rfl))) (mvT hZ (hw _ (List.mem_of_getElem? (i := 10) rfl))) (by decide) (backOf (W := 0) (rm2 l Z a0 hw [] b4 (2 : Int32) (p2 &&& (3 : Int32)) ((p1 &&& (255 : Int32)) >>> ((4 : Int32) &&& 31)) ((p1 &&& (255 : Int32)) &&& (15 : Int32)) (p3.toInt8.toInt32) _ _ T11.heap n0 (Nat.le_trans (Nat.le_trans (Nat.le_trans (Nat.le_trans (Nat.le_trans (Nat.le_trans (Nat.le_trans (Nat.le_trans Z0 E4.1) (Keep.of_wr W5).1) (Keep.of_wr W6).1) (Keep.of_wr W7).1) (Keep.of_wr W8).1) (Keep.of_wr W9).1) (Keep.of_wr W10).1) K11c.1) A11c (C (2 : Int32) ⟨by decide, by decide⟩).1 (C (2 : Int32) ⟨by decide, by decide⟩).2 rfl) hZ (hw _ (List.mem_of_getElem? (i := 10) rfl)) (hw _ (List.mem_of_getElem? (i := 9) rfl)) (by decide) (by decide)) (g := (mkF m 132 #[.val (.int p1), .val (.int p2), .val (.int p3), .val (.int (p1.toInt8.toInt32)), .val (.int (p2 &&& (3 : Int32))), .val (.int (p3.toInt8.toInt32)), .val (.ref b4), .val (.int (p1 &&& (255 : Int32))), .val (.int ((p1 &&& (255 : Int32)) >>> ((4 : Int32) &&& 31))), .val (.int ((p1 &&& (255 : Int32)) &&& (15 : Int32))), .val (.int ((p2 &&& (3 : Int32)) + (3 : Int32)))] [(.int (p3.toInt8.toInt32)), (.int ((p1 &&& (255 : Int32)) &&& (15 : Int32))), (.int ((p1 &&& (255 : Int32)) >>> ((4 : Int32) &&& 31))), (.int (p2 &&& (3 : Int32))), (.int (2 : Int32)), (.ref b4)])) rfl (by rw [hml]; rfl) (argsL := [(.ref b4), (.int (2 : Int32)), (.int (p2 &&& (3 : Int32))), (.int ((p1 &&& (255 : Int32)) >>> ((4 : Int32) &&& 31))), (.int ((p1 &&& (255 : Int32)) &&& (15 : Int32))), (.int (p3.toInt8.toInt32))]) (rest := []) (lenOf pd_0_1 rfl) rfl (by show 2 * 0 + _ ≤ _; exact Nat.le_of_eq rfl) (hb hby at_132) (fun _ _ => ⟨rfl, e13c, (by decide : 1 + 0 ≤ _), (by decide : 6 + 0 ≤ _)⟩)
  dsimp only [Pt.U, Pt.locs, Pt.cells, Pt.slots] at X14 l14 y14 z14 st14 hQ14
  subst l14 y14 z14
  obtain ⟨rfl, N14q, e14c⟩ := hQ14
  have N14 := Fr.app N13 N14q
  obtain ⟨_, _, ⟨T15, L15, k15, n15⟩, -, X15, ⟨Lc15, hQ15, l15, y15, z15⟩, st15⟩ := Jvm.LawKit.callS X14 hx (y := (⟨"com/example/humble_escaper/humbleescaper/PercentEscapesWriteOctetPinLaw", "at", "([BIIIIB)Z"⟩ : MethodName)) hown (mvT hZ (hw _ (List.mem_of_getElem? (i := 7) rfl))) (mvT hZ (hw _ (List.mem_of_getElem? (i := 8) rfl))) (mvT hZ (hw _ (List.mem_of_getElem? (i := 9) rfl))) (mvT hZ (hw _ (List.mem_of_getElem? (i := 10) rfl))) (by decide) (backOf (W := 0) (rm2 l Z a0 hw [] b4 (3 : Int32) (p2 &&& (3 : Int32)) ((p1 &&& (255 : Int32)) >>> ((4 : Int32) &&& 31)) ((p1 &&& (255 : Int32)) &&& (15 : Int32)) (p3.toInt8.toInt32) _ _ T11.heap n0 (Nat.le_trans (Nat.le_trans (Nat.le_trans (Nat.le_trans (Nat.le_trans (Nat.le_trans (Nat.le_trans (Nat.le_trans Z0 E4.1) (Keep.of_wr W5).1) (Keep.of_wr W6).1) (Keep.of_wr W7).1) (Keep.of_wr W8).1) (Keep.of_wr W9).1) (Keep.of_wr W10).1) K11c.1) A11c (C (3 : Int32) ⟨by decide, by decide⟩).1 (C (3 : Int32) ⟨by decide, by decide⟩).2 rfl) hZ (hw _ (List.mem_of_getElem? (i := 10) rfl)) (hw _ (List.mem_of_getElem? (i := 9) rfl)) (by decide) (by decide)) (g := (mkF m 149 #[.val (.int p1), .val (.int p2), .val (.int p3), .val (.int (p1.toInt8.toInt32)), .val (.int (p2 &&& (3 : Int32))), .val (.int (p3.toInt8.toInt32)), .val (.ref b4), .val (.int (p1 &&& (255 : Int32))), .val (.int ((p1 &&& (255 : Int32)) >>> ((4 : Int32) &&& 31))), .val (.int ((p1 &&& (255 : Int32)) &&& (15 : Int32))), .val (.int ((p2 &&& (3 : Int32)) + (3 : Int32)))] [(.int (p3.toInt8.toInt32)), (.int ((p1 &&& (255 : Int32)) &&& (15 : Int32))), (.int ((p1 &&& (255 : Int32)) >>> ((4 : Int32) &&& 31))), (.int (p2 &&& (3 : Int32))), (.int (3 : Int32)), (.ref b4)])) rfl (by rw [hml]; rfl) (argsL := [(.ref b4), (.int (3 : Int32)), (.int (p2 &&& (3 : Int32))), (.int ((p1 &&& (255 : Int32)) >>> ((4 : Int32) &&& 31))), (.int ((p1 &&& (255 : Int32)) &&& (15 : Int32))), (.int (p3.toInt8.toInt32))]) (rest := []) (lenOf pd_0_1 rfl) rfl (by show 2 * 0 + _ ≤ _; exact Nat.le_of_eq rfl) (hb hby at_149) (fun _ _ => ⟨rfl, e14c, (by decide : 1 + 0 ≤ _), (by decide : 6 + 0 ≤ _)⟩)
  dsimp only [Pt.U, Pt.locs, Pt.cells, Pt.slots] at X15 l15 y15 z15 st15 hQ15
  subst l15 y15 z15
  obtain ⟨rfl, N15q, e15c⟩ := hQ15
  have N15 := Fr.app N14 N15q
  obtain ⟨_, _, ⟨T16, L16, k16, n16⟩, -, X16, ⟨Lc16, hQ16, l16, y16, z16⟩, st16⟩ := Jvm.LawKit.callS X15 hx (y := (⟨"com/example/humble_escaper/humbleescaper/PercentEscapesWriteOctetPinLaw", "at", "([BIIIIB)Z"⟩ : MethodName)) hown (mvT hZ (hw _ (List.mem_of_getElem? (i := 7) rfl))) (mvT hZ (hw _ (List.mem_of_getElem? (i := 8) rfl))) (mvT hZ (hw _ (List.mem_of_getElem? (i := 9) rfl))) (mvT hZ (hw _ (List.mem_of_getElem? (i := 10) rfl))) (by decide) (backOf (W := 0) (rm2 l Z a0 hw [] b4 (4 : Int32) (p2 &&& (3 : Int32)) ((p1 &&& (255 : Int32)) >>> ((4 : Int32) &&& 31)) ((p1 &&& (255 : Int32)) &&& (15 : Int32)) (p3.toInt8.toInt32) _ _ T11.heap n0 (Nat.le_trans (Nat.le_trans (Nat.le_trans (Nat.le_trans (Nat.le_trans (Nat.le_trans (Nat.le_trans (Nat.le_trans Z0 E4.1) (Keep.of_wr W5).1) (Keep.of_wr W6).1) (Keep.of_wr W7).1) (Keep.of_wr W8).1) (Keep.of_wr W9).1) (Keep.of_wr W10).1) K11c.1) A11c (C (4 : Int32) ⟨by decide, by decide⟩).1 (C (4 : Int32) ⟨by decide, by decide⟩).2 rfl) hZ (hw _ (List.mem_of_getElem? (i := 10) rfl)) (hw _ (List.mem_of_getElem? (i := 9) rfl)) (by decide) (by decide)) (g := (mkF m 166 #[.val (.int p1), .val (.int p2), .val (.int p3), .val (.int (p1.toInt8.toInt32)), .val (.int (p2 &&& (3 : Int32))), .val (.int (p3.toInt8.toInt32)), .val (.ref b4), .val (.int (p1 &&& (255 : Int32))), .val (.int ((p1 &&& (255 : Int32)) >>> ((4 : Int32) &&& 31))), .val (.int ((p1 &&& (255 : Int32)) &&& (15 : Int32))), .val (.int ((p2 &&& (3 : Int32)) + (3 : Int32)))] [(.int (p3.toInt8.toInt32)), (.int ((p1 &&& (255 : Int32)) &&& (15 : Int32))), (.int ((p1 &&& (255 : Int32)) >>> ((4 : Int32) &&& 31))), (.int (p2 &&& (3 : Int32))), (.int (4 : Int32)), (.ref b4)])) rfl (by rw [hml]; rfl) (argsL := [(.ref b4), (.int (4 : Int32)), (.int (p2 &&& (3 : Int32))), (.int ((p1 &&& (255 : Int32)) >>> ((4 : Int32) &&& 31))), (.int ((p1 &&& (255 : Int32)) &&& (15 : Int32))), (.int (p3.toInt8.toInt32))]) (rest := []) (lenOf pd_0_1 rfl) rfl (by show 2 * 0 + _ ≤ _; exact Nat.le_of_eq rfl) (hb hby at_166) (fun _ _ => ⟨rfl, e15c, (by decide : 1 + 0 ≤ _), (by decide : 6 + 0 ≤ _)⟩)
  dsimp only [Pt.U, Pt.locs, Pt.cells, Pt.slots] at X16 l16 y16 z16 st16 hQ16
  subst l16 y16 z16
  obtain ⟨rfl, N16q, e16c⟩ := hQ16
  have N16 := Fr.app N15 N16q
  obtain ⟨_, _, ⟨T17, L17, k17, n17⟩, -, X17, ⟨Lc17, hQ17, l17, y17, z17⟩, st17⟩ := Jvm.LawKit.callS X16 hx (y := (⟨"com/example/humble_escaper/humbleescaper/PercentEscapesWriteOctetPinLaw", "at", "([BIIIIB)Z"⟩ : MethodName)) hown (mvT hZ (hw _ (List.mem_of_getElem? (i := 7) rfl))) (mvT hZ (hw _ (List.mem_of_getElem? (i := 8) rfl))) (mvT hZ (hw _ (List.mem_of_getElem? (i := 9) rfl))) (mvT hZ (hw _ (List.mem_of_getElem? (i := 10) rfl))) (by decide) (backOf (W := 0) (rm2 l Z a0 hw [] b4 (5 : Int32) (p2 &&& (3 : Int32)) ((p1 &&& (255 : Int32)) >>> ((4 : Int32) &&& 31)) ((p1 &&& (255 : Int32)) &&& (15 : Int32)) (p3.toInt8.toInt32) _ _ T11.heap n0 (Nat.le_trans (Nat.le_trans (Nat.le_trans (Nat.le_trans (Nat.le_trans (Nat.le_trans (Nat.le_trans (Nat.le_trans Z0 E4.1) (Keep.of_wr W5).1) (Keep.of_wr W6).1) (Keep.of_wr W7).1) (Keep.of_wr W8).1) (Keep.of_wr W9).1) (Keep.of_wr W10).1) K11c.1) A11c (C (5 : Int32) ⟨by decide, by decide⟩).1 (C (5 : Int32) ⟨by decide, by decide⟩).2 rfl) hZ (hw _ (List.mem_of_getElem? (i := 10) rfl)) (hw _ (List.mem_of_getElem? (i := 9) rfl)) (by decide) (by decide)) (g := (mkF m 183 #[.val (.int p1), .val (.int p2), .val (.int p3), .val (.int (p1.toInt8.toInt32)), .val (.int (p2 &&& (3 : Int32))), .val (.int (p3.toInt8.toInt32)), .val (.ref b4), .val (.int (p1 &&& (255 : Int32))), .val (.int ((p1 &&& (255 : Int32)) >>> ((4 : Int32) &&& 31))), .val (.int ((p1 &&& (255 : Int32)) &&& (15 : Int32))), .val (.int ((p2 &&& (3 : Int32)) + (3 : Int32)))] [(.int (p3.toInt8.toInt32)), (.int ((p1 &&& (255 : Int32)) &&& (15 : Int32))), (.int ((p1 &&& (255 : Int32)) >>> ((4 : Int32) &&& 31))), (.int (p2 &&& (3 : Int32))), (.int (5 : Int32)), (.ref b4)])) rfl (by rw [hml]; rfl) (argsL := [(.ref b4), (.int (5 : Int32)), (.int (p2 &&& (3 : Int32))), (.int ((p1 &&& (255 : Int32)) >>> ((4 : Int32) &&& 31))), (.int ((p1 &&& (255 : Int32)) &&& (15 : Int32))), (.int (p3.toInt8.toInt32))]) (rest := []) (lenOf pd_0_1 rfl) rfl (by show 2 * 0 + _ ≤ _; exact Nat.le_of_eq rfl) (hb hby at_183) (fun _ _ => ⟨rfl, e16c, (by decide : 1 + 0 ≤ _), (by decide : 6 + 0 ≤ _)⟩)
  dsimp only [Pt.U, Pt.locs, Pt.cells, Pt.slots] at X17 l17 y17 z17 st17 hQ17
  subst l17 y17 z17
  obtain ⟨rfl, N17q, e17c⟩ := hQ17
  have N17 := Fr.app N16 N17q
  obtain ⟨fs, hr, hrun, hended, hW, hsame⟩ := X17.leave (v := some (.int (1 : Int32))) (fun h => by rw [Bd.returns] at h; cases h)
  refine ⟨_, _, pre0 _ ?_, hrun, hended, _, _, rfl, ?_, ⟨_, rfl⟩, hW, hsame.mono (by decide) (by decide)⟩
  · show Steps p.tables e below (s₁.setTop (mkF m 0 #[.val (.int p1), .val (.int p2), .val (.int p3), .unset, .unset, .unset, .unset, .unset, .unset, .unset, .unset] [])) _
    refine XS.iloadN X0.here hx rfl (hb hby at_0) rfl ?_
    show Steps p.tables e below (s₁.setTop (mkF m 1 #[.val (.int p1), .val (.int p2), .val (.int p3), .unset, .unset, .unset, .unset, .unset, .unset, .unset, .unset] [(.int p1)])) _
    refine XS.i2b X0.here hx rfl (hb hby at_1) rfl ?_
    show Steps p.tables e below (s₁.setTop (mkF m 2 #[.val (.int p1), .val (.int p2), .val (.int p3), .unset, .unset, .unset, .unset, .unset, .unset, .unset, .unset] [(.int (p1.toInt8.toInt32))])) _
    refine XS.istoreN X0.here hx rfl (hb hby at_2) rfl (l' := #[.val (.int p1), .val (.int p2), .val (.int p3), .val (.int (p1.toInt8.toInt32)), .unset, .unset, .unset, .unset, .unset, .unset, .unset]) rfl ?_
    show Steps p.tables e below (s₁.setTop (mkF m 3 #[.val (.int p1), .val (.int p2), .val (.int p3), .val (.int (p1.toInt8.toInt32)), .unset, .unset, .unset, .unset, .unset, .unset, .unset] [])) _
    refine XS.iloadN X0.here hx rfl (hb hby at_3) rfl ?_
    show Steps p.tables e below (s₁.setTop (mkF m 4 #[.val (.int p1), .val (.int p2), .val (.int p3), .val (.int (p1.toInt8.toInt32)), .unset, .unset, .unset, .unset, .unset, .unset, .unset] [(.int p2)])) _
    refine XS.iconst X0.here hx rfl (hb hby at_4) ?_
    show Steps p.tables e below (s₁.setTop (mkF m 5 #[.val (.int p1), .val (.int p2), .val (.int p3), .val (.int (p1.toInt8.toInt32)), .unset, .unset, .unset, .unset, .unset, .unset, .unset] [(.int (3 : Int32)), (.int p2)])) _
    refine XS.iand X0.here hx rfl (hb hby at_5) rfl ?_
    show Steps p.tables e below (s₁.setTop (mkF m 6 #[.val (.int p1), .val (.int p2), .val (.int p3), .val (.int (p1.toInt8.toInt32)), .unset, .unset, .unset, .unset, .unset, .unset, .unset] [(.int (p2 &&& (3 : Int32)))])) _
    refine XS.istore X0.here hx rfl (hb hby at_6) rfl (l' := #[.val (.int p1), .val (.int p2), .val (.int p3), .val (.int (p1.toInt8.toInt32)), .val (.int (p2 &&& (3 : Int32))), .unset, .unset, .unset, .unset, .unset, .unset]) rfl ?_
    show Steps p.tables e below (s₁.setTop (mkF m 8 #[.val (.int p1), .val (.int p2), .val (.int p3), .val (.int (p1.toInt8.toInt32)), .val (.int (p2 &&& (3 : Int32))), .unset, .unset, .unset, .unset, .unset, .unset] [])) _
    refine XS.iloadN X0.here hx rfl (hb hby at_8) rfl ?_
    show Steps p.tables e below (s₁.setTop (mkF m 9 #[.val (.int p1), .val (.int p2), .val (.int p3), .val (.int (p1.toInt8.toInt32)), .val (.int (p2 &&& (3 : Int32))), .unset, .unset, .unset, .unset, .unset, .unset] [(.int p3)])) _
    refine XS.i2b X0.here hx rfl (hb hby at_9) rfl ?_
    show Steps p.tables e below (s₁.setTop (mkF m 10 #[.val (.int p1), .val (.int p2), .val (.int p3), .val (.int (p1.toInt8.toInt32)), .val (.int (p2 &&& (3 : Int32))), .unset, .unset, .unset, .unset, .unset, .unset] [(.int (p3.toInt8.toInt32))])) _
    refine XS.istore X0.here hx rfl (hb hby at_10) rfl (l' := #[.val (.int p1), .val (.int p2), .val (.int p3), .val (.int (p1.toInt8.toInt32)), .val (.int (p2 &&& (3 : Int32))), .val (.int (p3.toInt8.toInt32)), .unset, .unset, .unset, .unset, .unset]) rfl ?_
    show Steps p.tables e below (s₁.setTop (mkF m 12 #[.val (.int p1), .val (.int p2), .val (.int p3), .val (.int (p1.toInt8.toInt32)), .val (.int (p2 &&& (3 : Int32))), .val (.int (p3.toInt8.toInt32)), .unset, .unset, .unset, .unset, .unset] [])) _
    refine XS.bipush X0.here hx rfl (hb hby at_12) ?_
    show Steps p.tables e below (s₁.setTop (mkF m 14 #[.val (.int p1), .val (.int p2), .val (.int p3), .val (.int (p1.toInt8.toInt32)), .val (.int (p2 &&& (3 : Int32))), .val (.int (p3.toInt8.toInt32)), .unset, .unset, .unset, .unset, .unset] [(.int (6 : Int32))])) _
    refine st4 _ ?_
    show Steps p.tables e below (T4.setTop (mkF m 16 #[.val (.int p1), .val (.int p2), .val (.int p3), .val (.int (p1.toInt8.toInt32)), .val (.int (p2 &&& (3 : Int32))), .val (.int (p3.toInt8.toInt32)), .unset, .unset, .unset, .unset, .unset] [(.ref b4)])) _
    refine XS.dup X4.here hx rfl (hb hby at_16) rfl rfl ?_
    show Steps p.tables e below (T4.setTop (mkF m 17 #[.val (.int p1), .val (.int p2), .val (.int p3), .val (.int (p1.toInt8.toInt32)), .val (.int (p2 &&& (3 : Int32))), .val (.int (p3.toInt8.toInt32)), .unset, .unset, .unset, .unset, .unset] [(.ref b4), (.ref b4)])) _
    refine XS.iconst X4.here hx rfl (hb hby at_17) ?_
    show Steps p.tables e below (T4.setTop (mkF m 18 #[.val (.int p1), .val (.int p2), .val (.int p3), .val (.int (p1.toInt8.toInt32)), .val (.int (p2 &&& (3 : Int32))), .val (.int (p3.toInt8.toInt32)), .unset, .unset, .unset, .unset, .unset] [(.int (0 : Int32)), (.ref b4), (.ref b4)])) _
    refine XS.iload X4.here hx rfl (hb hby at_18) rfl ?_
    show Steps p.tables e below (T4.setTop (mkF m 20 #[.val (.int p1), .val (.int p2), .val (.int p3), .val (.int (p1.toInt8.toInt32)), .val (.int (p2 &&& (3 : Int32))), .val (.int (p3.toInt8.toInt32)), .unset, .unset, .unset, .unset, .unset] [(.int (p3.toInt8.toInt32)), (.int (0 : Int32)), (.ref b4), (.ref b4)])) _
    refine st5 _ ?_
    show Steps p.tables e below (T5.setTop (mkF m 21 #[.val (.int p1), .val (.int p2), .val (.int p3), .val (.int (p1.toInt8.toInt32)), .val (.int (p2 &&& (3 : Int32))), .val (.int (p3.toInt8.toInt32)), .unset, .unset, .unset, .unset, .unset] [(.ref b4)])) _
    refine XS.dup X5.here hx rfl (hb hby at_21) rfl rfl ?_
    show Steps p.tables e below (T5.setTop (mkF m 22 #[.val (.int p1), .val (.int p2), .val (.int p3), .val (.int (p1.toInt8.toInt32)), .val (.int (p2 &&& (3 : Int32))), .val (.int (p3.toInt8.toInt32)), .unset, .unset, .unset, .unset, .unset] [(.ref b4), (.ref b4)])) _
    refine XS.iconst X5.here hx rfl (hb hby at_22) ?_
    show Steps p.tables e below (T5.setTop (mkF m 23 #[.val (.int p1), .val (.int p2), .val (.int p3), .val (.int (p1.toInt8.toInt32)), .val (.int (p2 &&& (3 : Int32))), .val (.int (p3.toInt8.toInt32)), .unset, .unset, .unset, .unset, .unset] [(.int (1 : Int32)), (.ref b4), (.ref b4)])) _
    refine XS.iload X5.here hx rfl (hb hby at_23) rfl ?_
    show Steps p.tables e below (T5.setTop (mkF m 25 #[.val (.int p1), .val (.int p2), .val (.int p3), .val (.int (p1.toInt8.toInt32)), .val (.int (p2 &&& (3 : Int32))), .val (.int (p3.toInt8.toInt32)), .unset, .unset, .unset, .unset, .unset] [(.int (p3.toInt8.toInt32)), (.int (1 : Int32)), (.ref b4), (.ref b4)])) _
    refine st6 _ ?_
    show Steps p.tables e below (T6.setTop (mkF m 26 #[.val (.int p1), .val (.int p2), .val (.int p3), .val (.int (p1.toInt8.toInt32)), .val (.int (p2 &&& (3 : Int32))), .val (.int (p3.toInt8.toInt32)), .unset, .unset, .unset, .unset, .unset] [(.ref b4)])) _
    refine XS.dup X6.here hx rfl (hb hby at_26) rfl rfl ?_
    show Steps p.tables e below (T6.setTop (mkF m 27 #[.val (.int p1), .val (.int p2), .val (.int p3), .val (.int (p1.toInt8.toInt32)), .val (.int (p2 &&& (3 : Int32))), .val (.int (p3.toInt8.toInt32)), .unset, .unset, .unset, .unset, .unset] [(.ref b4), (.ref b4)])) _
    refine XS.iconst X6.here hx rfl (hb hby at_27) ?_
    show Steps p.tables e below (T6.setTop (mkF m 28 #[.val (.int p1), .val (.int p2), .val (.int p3), .val (.int (p1.toInt8.toInt32)), .val (.int (p2 &&& (3 : Int32))), .val (.int (p3.toInt8.toInt32)), .unset, .unset, .unset, .unset, .unset] [(.int (2 : Int32)), (.ref b4), (.ref b4)])) _
    refine XS.iload X6.here hx rfl (hb hby at_28) rfl ?_
    show Steps p.tables e below (T6.setTop (mkF m 30 #[.val (.int p1), .val (.int p2), .val (.int p3), .val (.int (p1.toInt8.toInt32)), .val (.int (p2 &&& (3 : Int32))), .val (.int (p3.toInt8.toInt32)), .unset, .unset, .unset, .unset, .unset] [(.int (p3.toInt8.toInt32)), (.int (2 : Int32)), (.ref b4), (.ref b4)])) _
    refine st7 _ ?_
    show Steps p.tables e below (T7.setTop (mkF m 31 #[.val (.int p1), .val (.int p2), .val (.int p3), .val (.int (p1.toInt8.toInt32)), .val (.int (p2 &&& (3 : Int32))), .val (.int (p3.toInt8.toInt32)), .unset, .unset, .unset, .unset, .unset] [(.ref b4)])) _
    refine XS.dup X7.here hx rfl (hb hby at_31) rfl rfl ?_
    show Steps p.tables e below (T7.setTop (mkF m 32 #[.val (.int p1), .val (.int p2), .val (.int p3), .val (.int (p1.toInt8.toInt32)), .val (.int (p2 &&& (3 : Int32))), .val (.int (p3.toInt8.toInt32)), .unset, .unset, .unset, .unset, .unset] [(.ref b4), (.ref b4)])) _
    refine XS.iconst X7.here hx rfl (hb hby at_32) ?_
    show Steps p.tables e below (T7.setTop (mkF m 33 #[.val (.int p1), .val (.int p2), .val (.int p3), .val (.int (p1.toInt8.toInt32)), .val (.int (p2 &&& (3 : Int32))), .val (.int (p3.toInt8.toInt32)), .unset, .unset, .unset, .unset, .unset] [(.int (3 : Int32)), (.ref b4), (.ref b4)])) _
    refine XS.iload X7.here hx rfl (hb hby at_33) rfl ?_
    show Steps p.tables e below (T7.setTop (mkF m 35 #[.val (.int p1), .val (.int p2), .val (.int p3), .val (.int (p1.toInt8.toInt32)), .val (.int (p2 &&& (3 : Int32))), .val (.int (p3.toInt8.toInt32)), .unset, .unset, .unset, .unset, .unset] [(.int (p3.toInt8.toInt32)), (.int (3 : Int32)), (.ref b4), (.ref b4)])) _
    refine st8 _ ?_
    show Steps p.tables e below (T8.setTop (mkF m 36 #[.val (.int p1), .val (.int p2), .val (.int p3), .val (.int (p1.toInt8.toInt32)), .val (.int (p2 &&& (3 : Int32))), .val (.int (p3.toInt8.toInt32)), .unset, .unset, .unset, .unset, .unset] [(.ref b4)])) _
    refine XS.dup X8.here hx rfl (hb hby at_36) rfl rfl ?_
    show Steps p.tables e below (T8.setTop (mkF m 37 #[.val (.int p1), .val (.int p2), .val (.int p3), .val (.int (p1.toInt8.toInt32)), .val (.int (p2 &&& (3 : Int32))), .val (.int (p3.toInt8.toInt32)), .unset, .unset, .unset, .unset, .unset] [(.ref b4), (.ref b4)])) _
    refine XS.iconst X8.here hx rfl (hb hby at_37) ?_
    show Steps p.tables e below (T8.setTop (mkF m 38 #[.val (.int p1), .val (.int p2), .val (.int p3), .val (.int (p1.toInt8.toInt32)), .val (.int (p2 &&& (3 : Int32))), .val (.int (p3.toInt8.toInt32)), .unset, .unset, .unset, .unset, .unset] [(.int (4 : Int32)), (.ref b4), (.ref b4)])) _
    refine XS.iload X8.here hx rfl (hb hby at_38) rfl ?_
    show Steps p.tables e below (T8.setTop (mkF m 40 #[.val (.int p1), .val (.int p2), .val (.int p3), .val (.int (p1.toInt8.toInt32)), .val (.int (p2 &&& (3 : Int32))), .val (.int (p3.toInt8.toInt32)), .unset, .unset, .unset, .unset, .unset] [(.int (p3.toInt8.toInt32)), (.int (4 : Int32)), (.ref b4), (.ref b4)])) _
    refine st9 _ ?_
    show Steps p.tables e below (T9.setTop (mkF m 41 #[.val (.int p1), .val (.int p2), .val (.int p3), .val (.int (p1.toInt8.toInt32)), .val (.int (p2 &&& (3 : Int32))), .val (.int (p3.toInt8.toInt32)), .unset, .unset, .unset, .unset, .unset] [(.ref b4)])) _
    refine XS.dup X9.here hx rfl (hb hby at_41) rfl rfl ?_
    show Steps p.tables e below (T9.setTop (mkF m 42 #[.val (.int p1), .val (.int p2), .val (.int p3), .val (.int (p1.toInt8.toInt32)), .val (.int (p2 &&& (3 : Int32))), .val (.int (p3.toInt8.toInt32)), .unset, .unset, .unset, .unset, .unset] [(.ref b4), (.ref b4)])) _
    refine XS.iconst X9.here hx rfl (hb hby at_42) ?_
    show Steps p.tables e below (T9.setTop (mkF m 43 #[.val (.int p1), .val (.int p2), .val (.int p3), .val (.int (p1.toInt8.toInt32)), .val (.int (p2 &&& (3 : Int32))), .val (.int (p3.toInt8.toInt32)), .unset, .unset, .unset, .unset, .unset] [(.int (5 : Int32)), (.ref b4), (.ref b4)])) _
    refine XS.iload X9.here hx rfl (hb hby at_43) rfl ?_
    show Steps p.tables e below (T9.setTop (mkF m 45 #[.val (.int p1), .val (.int p2), .val (.int p3), .val (.int (p1.toInt8.toInt32)), .val (.int (p2 &&& (3 : Int32))), .val (.int (p3.toInt8.toInt32)), .unset, .unset, .unset, .unset, .unset] [(.int (p3.toInt8.toInt32)), (.int (5 : Int32)), (.ref b4), (.ref b4)])) _
    refine st10 _ ?_
    show Steps p.tables e below (T10.setTop (mkF m 46 #[.val (.int p1), .val (.int p2), .val (.int p3), .val (.int (p1.toInt8.toInt32)), .val (.int (p2 &&& (3 : Int32))), .val (.int (p3.toInt8.toInt32)), .unset, .unset, .unset, .unset, .unset] [(.ref b4)])) _
    refine XS.astore X10.here hx rfl (hb hby at_46) rfl rfl (l' := #[.val (.int p1), .val (.int p2), .val (.int p3), .val (.int (p1.toInt8.toInt32)), .val (.int (p2 &&& (3 : Int32))), .val (.int (p3.toInt8.toInt32)), .val (.ref b4), .unset, .unset, .unset, .unset]) rfl ?_
    show Steps p.tables e below (T10.setTop (mkF m 48 #[.val (.int p1), .val (.int p2), .val (.int p3), .val (.int (p1.toInt8.toInt32)), .val (.int (p2 &&& (3 : Int32))), .val (.int (p3.toInt8.toInt32)), .val (.ref b4), .unset, .unset, .unset, .unset] [])) _
    refine XS.iloadN X10.here hx rfl (hb hby at_48) rfl ?_
    show Steps p.tables e below (T10.setTop (mkF m 49 #[.val (.int p1), .val (.int p2), .val (.int p3), .val (.int (p1.toInt8.toInt32)), .val (.int (p2 &&& (3 : Int32))), .val (.int (p3.toInt8.toInt32)), .val (.ref b4), .unset, .unset, .unset, .unset] [(.int p1)])) _
    refine XS.sipush X10.here hx rfl (hb hby at_49) ?_
    show Steps p.tables e below (T10.setTop (mkF m 52 #[.val (.int p1), .val (.int p2), .val (.int p3), .val (.int (p1.toInt8.toInt32)), .val (.int (p2 &&& (3 : Int32))), .val (.int (p3.toInt8.toInt32)), .val (.ref b4), .unset, .unset, .unset, .unset] [(.int (255 : Int32)), (.int p1)])) _
    refine XS.iand X10.here hx rfl (hb hby at_52) rfl ?_
    show Steps p.tables e below (T10.setTop (mkF m 53 #[.val (.int p1), .val (.int p2), .val (.int p3), .val (.int (p1.toInt8.toInt32)), .val (.int (p2 &&& (3 : Int32))), .val (.int (p3.toInt8.toInt32)), .val (.ref b4), .unset, .unset, .unset, .unset] [(.int (p1 &&& (255 : Int32)))])) _
    refine XS.istore X10.here hx rfl (hb hby at_53) rfl (l' := #[.val (.int p1), .val (.int p2), .val (.int p3), .val (.int (p1.toInt8.toInt32)), .val (.int (p2 &&& (3 : Int32))), .val (.int (p3.toInt8.toInt32)), .val (.ref b4), .val (.int (p1 &&& (255 : Int32))), .unset, .unset, .unset]) rfl ?_
    show Steps p.tables e below (T10.setTop (mkF m 55 #[.val (.int p1), .val (.int p2), .val (.int p3), .val (.int (p1.toInt8.toInt32)), .val (.int (p2 &&& (3 : Int32))), .val (.int (p3.toInt8.toInt32)), .val (.ref b4), .val (.int (p1 &&& (255 : Int32))), .unset, .unset, .unset] [])) _
    refine XS.iload X10.here hx rfl (hb hby at_55) rfl ?_
    show Steps p.tables e below (T10.setTop (mkF m 57 #[.val (.int p1), .val (.int p2), .val (.int p3), .val (.int (p1.toInt8.toInt32)), .val (.int (p2 &&& (3 : Int32))), .val (.int (p3.toInt8.toInt32)), .val (.ref b4), .val (.int (p1 &&& (255 : Int32))), .unset, .unset, .unset] [(.int (p1 &&& (255 : Int32)))])) _
    refine XS.iconst X10.here hx rfl (hb hby at_57) ?_
    show Steps p.tables e below (T10.setTop (mkF m 58 #[.val (.int p1), .val (.int p2), .val (.int p3), .val (.int (p1.toInt8.toInt32)), .val (.int (p2 &&& (3 : Int32))), .val (.int (p3.toInt8.toInt32)), .val (.ref b4), .val (.int (p1 &&& (255 : Int32))), .unset, .unset, .unset] [(.int (4 : Int32)), (.int (p1 &&& (255 : Int32)))])) _
    refine XS.ishr X10.here hx rfl (hb hby at_58) rfl ?_
    show Steps p.tables e below (T10.setTop (mkF m 59 #[.val (.int p1), .val (.int p2), .val (.int p3), .val (.int (p1.toInt8.toInt32)), .val (.int (p2 &&& (3 : Int32))), .val (.int (p3.toInt8.toInt32)), .val (.ref b4), .val (.int (p1 &&& (255 : Int32))), .unset, .unset, .unset] [(.int ((p1 &&& (255 : Int32)) >>> ((4 : Int32) &&& 31)))])) _
    refine XS.istore X10.here hx rfl (hb hby at_59) rfl (l' := #[.val (.int p1), .val (.int p2), .val (.int p3), .val (.int (p1.toInt8.toInt32)), .val (.int (p2 &&& (3 : Int32))), .val (.int (p3.toInt8.toInt32)), .val (.ref b4), .val (.int (p1 &&& (255 : Int32))), .val (.int ((p1 &&& (255 : Int32)) >>> ((4 : Int32) &&& 31))), .unset, .unset]) rfl ?_
    show Steps p.tables e below (T10.setTop (mkF m 61 #[.val (.int p1), .val (.int p2), .val (.int p3), .val (.int (p1.toInt8.toInt32)), .val (.int (p2 &&& (3 : Int32))), .val (.int (p3.toInt8.toInt32)), .val (.ref b4), .val (.int (p1 &&& (255 : Int32))), .val (.int ((p1 &&& (255 : Int32)) >>> ((4 : Int32) &&& 31))), .unset, .unset] [])) _
    refine XS.iload X10.here hx rfl (hb hby at_61) rfl ?_
    show Steps p.tables e below (T10.setTop (mkF m 63 #[.val (.int p1), .val (.int p2), .val (.int p3), .val (.int (p1.toInt8.toInt32)), .val (.int (p2 &&& (3 : Int32))), .val (.int (p3.toInt8.toInt32)), .val (.ref b4), .val (.int (p1 &&& (255 : Int32))), .val (.int ((p1 &&& (255 : Int32)) >>> ((4 : Int32) &&& 31))), .unset, .unset] [(.int (p1 &&& (255 : Int32)))])) _
    refine XS.bipush X10.here hx rfl (hb hby at_63) ?_
    show Steps p.tables e below (T10.setTop (mkF m 65 #[.val (.int p1), .val (.int p2), .val (.int p3), .val (.int (p1.toInt8.toInt32)), .val (.int (p2 &&& (3 : Int32))), .val (.int (p3.toInt8.toInt32)), .val (.ref b4), .val (.int (p1 &&& (255 : Int32))), .val (.int ((p1 &&& (255 : Int32)) >>> ((4 : Int32) &&& 31))), .unset, .unset] [(.int (15 : Int32)), (.int (p1 &&& (255 : Int32)))])) _
    refine XS.iand X10.here hx rfl (hb hby at_65) rfl ?_
    show Steps p.tables e below (T10.setTop (mkF m 66 #[.val (.int p1), .val (.int p2), .val (.int p3), .val (.int (p1.toInt8.toInt32)), .val (.int (p2 &&& (3 : Int32))), .val (.int (p3.toInt8.toInt32)), .val (.ref b4), .val (.int (p1 &&& (255 : Int32))), .val (.int ((p1 &&& (255 : Int32)) >>> ((4 : Int32) &&& 31))), .unset, .unset] [(.int ((p1 &&& (255 : Int32)) &&& (15 : Int32)))])) _
    refine XS.istore X10.here hx rfl (hb hby at_66) rfl (l' := #[.val (.int p1), .val (.int p2), .val (.int p3), .val (.int (p1.toInt8.toInt32)), .val (.int (p2 &&& (3 : Int32))), .val (.int (p3.toInt8.toInt32)), .val (.ref b4), .val (.int (p1 &&& (255 : Int32))), .val (.int ((p1 &&& (255 : Int32)) >>> ((4 : Int32) &&& 31))), .val (.int ((p1 &&& (255 : Int32)) &&& (15 : Int32))), .unset]) rfl ?_
    show Steps p.tables e below (T10.setTop (mkF m 68 #[.val (.int p1), .val (.int p2), .val (.int p3), .val (.int (p1.toInt8.toInt32)), .val (.int (p2 &&& (3 : Int32))), .val (.int (p3.toInt8.toInt32)), .val (.ref b4), .val (.int (p1 &&& (255 : Int32))), .val (.int ((p1 &&& (255 : Int32)) >>> ((4 : Int32) &&& 31))), .val (.int ((p1 &&& (255 : Int32)) &&& (15 : Int32))), .unset] [])) _
    refine XS.iloadN X10.here hx rfl (hb hby at_68) rfl ?_
    show Steps p.tables e below (T10.setTop (mkF m 69 #[.val (.int p1), .val (.int p2), .val (.int p3), .val (.int (p1.toInt8.toInt32)), .val (.int (p2 &&& (3 : Int32))), .val (.int (p3.toInt8.toInt32)), .val (.ref b4), .val (.int (p1 &&& (255 : Int32))), .val (.int ((p1 &&& (255 : Int32)) >>> ((4 : Int32) &&& 31))), .val (.int ((p1 &&& (255 : Int32)) &&& (15 : Int32))), .unset] [(.int (p1.toInt8.toInt32))])) _
    refine XS.aload X10.here hx rfl (hb hby at_69) rfl rfl ?_
    show Steps p.tables e below (T10.setTop (mkF m 71 #[.val (.int p1), .val (.int p2), .val (.int p3), .val (.int (p1.toInt8.toInt32)), .val (.int (p2 &&& (3 : Int32))), .val (.int (p3.toInt8.toInt32)), .val (.ref b4), .val (.int (p1 &&& (255 : Int32))), .val (.int ((p1 &&& (255 : Int32)) >>> ((4 : Int32) &&& 31))), .val (.int ((p1 &&& (255 : Int32)) &&& (15 : Int32))), .unset] [(.ref b4), (.int (p1.toInt8.toInt32))])) _
    refine XS.iload X10.here hx rfl (hb hby at_71) rfl ?_
    show Steps p.tables e below (T10.setTop (mkF m 73 #[.val (.int p1), .val (.int p2), .val (.int p3), .val (.int (p1.toInt8.toInt32)), .val (.int (p2 &&& (3 : Int32))), .val (.int (p3.toInt8.toInt32)), .val (.ref b4), .val (.int (p1 &&& (255 : Int32))), .val (.int ((p1 &&& (255 : Int32)) >>> ((4 : Int32) &&& 31))), .val (.int ((p1 &&& (255 : Int32)) &&& (15 : Int32))), .unset] [(.int (p2 &&& (3 : Int32))), (.ref b4), (.int (p1.toInt8.toInt32))])) _
    refine st11 _ ?_
    show Steps p.tables e below (T11.setTop (mkF m 76 #[.val (.int p1), .val (.int p2), .val (.int p3), .val (.int (p1.toInt8.toInt32)), .val (.int (p2 &&& (3 : Int32))), .val (.int (p3.toInt8.toInt32)), .val (.ref b4), .val (.int (p1 &&& (255 : Int32))), .val (.int ((p1 &&& (255 : Int32)) >>> ((4 : Int32) &&& 31))), .val (.int ((p1 &&& (255 : Int32)) &&& (15 : Int32))), .unset] [(.int ((p2 &&& (3 : Int32)) + (3 : Int32)))])) _
    refine XS.istore X11.here hx rfl (hb hby at_76) rfl (l' := #[.val (.int p1), .val (.int p2), .val (.int p3), .val (.int (p1.toInt8.toInt32)), .val (.int (p2 &&& (3 : Int32))), .val (.int (p3.toInt8.toInt32)), .val (.ref b4), .val (.int (p1 &&& (255 : Int32))), .val (.int ((p1 &&& (255 : Int32)) >>> ((4 : Int32) &&& 31))), .val (.int ((p1 &&& (255 : Int32)) &&& (15 : Int32))), .val (.int ((p2 &&& (3 : Int32)) + (3 : Int32)))]) rfl ?_
    show Steps p.tables e below (T11.setTop (mkF m 78 #[.val (.int p1), .val (.int p2), .val (.int p3), .val (.int (p1.toInt8.toInt32)), .val (.int (p2 &&& (3 : Int32))), .val (.int (p3.toInt8.toInt32)), .val (.ref b4), .val (.int (p1 &&& (255 : Int32))), .val (.int ((p1 &&& (255 : Int32)) >>> ((4 : Int32) &&& 31))), .val (.int ((p1 &&& (255 : Int32)) &&& (15 : Int32))), .val (.int ((p2 &&& (3 : Int32)) + (3 : Int32)))] [])) _
    refine XS.iload X11.here hx rfl (hb hby at_78) rfl ?_
    show Steps p.tables e below (T11.setTop (mkF m 80 #[.val (.int p1), .val (.int p2), .val (.int p3), .val (.int (p1.toInt8.toInt32)), .val (.int (p2 &&& (3 : Int32))), .val (.int (p3.toInt8.toInt32)), .val (.ref b4), .val (.int (p1 &&& (255 : Int32))), .val (.int ((p1 &&& (255 : Int32)) >>> ((4 : Int32) &&& 31))), .val (.int ((p1 &&& (255 : Int32)) &&& (15 : Int32))), .val (.int ((p2 &&& (3 : Int32)) + (3 : Int32)))] [(.int ((p2 &&& (3 : Int32)) + (3 : Int32)))])) _
    refine XS.iload X11.here hx rfl (hb hby at_80) rfl ?_
    show Steps p.tables e below (T11.setTop (mkF m 82 #[.val (.int p1), .val (.int p2), .val (.int p3), .val (.int (p1.toInt8.toInt32)), .val (.int (p2 &&& (3 : Int32))), .val (.int (p3.toInt8.toInt32)), .val (.ref b4), .val (.int (p1 &&& (255 : Int32))), .val (.int ((p1 &&& (255 : Int32)) >>> ((4 : Int32) &&& 31))), .val (.int ((p1 &&& (255 : Int32)) &&& (15 : Int32))), .val (.int ((p2 &&& (3 : Int32)) + (3 : Int32)))] [(.int (p2 &&& (3 : Int32))), (.int ((p2 &&& (3 : Int32)) + (3 : Int32)))])) _
    refine XS.iconst X11.here hx rfl (hb hby at_82) ?_
    show Steps p.tables e below (T11.setTop (mkF m 83 #[.val (.int p1), .val (.int p2), .val (.int p3), .val (.int (p1.toInt8.toInt32)), .val (.int (p2 &&& (3 : Int32))), .val (.int (p3.toInt8.toInt32)), .val (.ref b4), .val (.int (p1 &&& (255 : Int32))), .val (.int ((p1 &&& (255 : Int32)) >>> ((4 : Int32) &&& 31))), .val (.int ((p1 &&& (255 : Int32)) &&& (15 : Int32))), .val (.int ((p2 &&& (3 : Int32)) + (3 : Int32)))] [(.int (3 : Int32)), (.int (p2 &&& (3 : Int32))), (.int ((p2 &&& (3 : Int32)) + (3 : Int32)))])) _
    refine XS.iadd X11.here hx rfl (hb hby at_83) rfl ?_
    show Steps p.tables e below (T11.setTop (mkF m 84 #[.val (.int p1), .val (.int p2), .val (.int p3), .val (.int (p1.toInt8.toInt32)), .val (.int (p2 &&& (3 : Int32))), .val (.int (p3.toInt8.toInt32)), .val (.ref b4), .val (.int (p1 &&& (255 : Int32))), .val (.int ((p1 &&& (255 : Int32)) >>> ((4 : Int32) &&& 31))), .val (.int ((p1 &&& (255 : Int32)) &&& (15 : Int32))), .val (.int ((p2 &&& (3 : Int32)) + (3 : Int32)))] [(.int ((p2 &&& (3 : Int32)) + (3 : Int32))), (.int ((p2 &&& (3 : Int32)) + (3 : Int32)))])) _
    refine XS.icmpNo X11.here hx rfl (hb hby at_84) rfl (teq (rfl : ((p2 &&& (3 : Int32)) + (3 : Int32)) = ((p2 &&& (3 : Int32)) + (3 : Int32)))).2 ?_
    show Steps p.tables e below (T11.setTop (mkF m 87 #[.val (.int p1), .val (.int p2), .val (.int p3), .val (.int (p1.toInt8.toInt32)), .val (.int (p2 &&& (3 : Int32))), .val (.int (p3.toInt8.toInt32)), .val (.ref b4), .val (.int (p1 &&& (255 : Int32))), .val (.int ((p1 &&& (255 : Int32)) >>> ((4 : Int32) &&& 31))), .val (.int ((p1 &&& (255 : Int32)) &&& (15 : Int32))), .val (.int ((p2 &&& (3 : Int32)) + (3 : Int32)))] [])) _
    refine XS.aload X11.here hx rfl (hb hby at_87) rfl rfl ?_
    show Steps p.tables e below (T11.setTop (mkF m 89 #[.val (.int p1), .val (.int p2), .val (.int p3), .val (.int (p1.toInt8.toInt32)), .val (.int (p2 &&& (3 : Int32))), .val (.int (p3.toInt8.toInt32)), .val (.ref b4), .val (.int (p1 &&& (255 : Int32))), .val (.int ((p1 &&& (255 : Int32)) >>> ((4 : Int32) &&& 31))), .val (.int ((p1 &&& (255 : Int32)) &&& (15 : Int32))), .val (.int ((p2 &&& (3 : Int32)) + (3 : Int32)))] [(.ref b4)])) _
    refine XS.iconst X11.here hx rfl (hb hby at_89) ?_
    show Steps p.tables e below (T11.setTop (mkF m 90 #[.val (.int p1), .val (.int p2), .val (.int p3), .val (.int (p1.toInt8.toInt32)), .val (.int (p2 &&& (3 : Int32))), .val (.int (p3.toInt8.toInt32)), .val (.ref b4), .val (.int (p1 &&& (255 : Int32))), .val (.int ((p1 &&& (255 : Int32)) >>> ((4 : Int32) &&& 31))), .val (.int ((p1 &&& (255 : Int32)) &&& (15 : Int32))), .val (.int ((p2 &&& (3 : Int32)) + (3 : Int32)))] [(.int (0 : Int32)), (.ref b4)])) _
    refine XS.iload X11.here hx rfl (hb hby at_90) rfl ?_
    show Steps p.tables e below (T11.setTop (mkF m 92 #[.val (.int p1), .val (.int p2), .val (.int p3), .val (.int (p1.toInt8.toInt32)), .val (.int (p2 &&& (3 : Int32))), .val (.int (p3.toInt8.toInt32)), .val (.ref b4), .val (.int (p1 &&& (255 : Int32))), .val (.int ((p1 &&& (255 : Int32)) >>> ((4 : Int32) &&& 31))), .val (.int ((p1 &&& (255 : Int32)) &&& (15 : Int32))), .val (.int ((p2 &&& (3 : Int32)) + (3 : Int32)))] [(.int (p2 &&& (3 : Int32))), (.int (0 : Int32)), (.ref b4)])) _
    refine XS.iload X11.here hx rfl (hb hby at_92) rfl ?_
    show Steps p.tables e below (T11.setTop (mkF m 94 #[.val (.int p1), .val (.int p2), .val (.int p3), .val (.int (p1.toInt8.toInt32)), .val (.int (p2 &&& (3 : Int32))), .val (.int (p3.toInt8.toInt32)), .val (.ref b4), .val (.int (p1 &&& (255 : Int32))), .val (.int ((p1 &&& (255 : Int32)) >>> ((4 : Int32) &&& 31))), .val (.int ((p1 &&& (255 : Int32)) &&& (15 : Int32))), .val (.int ((p2 &&& (3 : Int32)) + (3 : Int32)))] [(.int ((p1 &&& (255 : Int32)) >>> ((4 : Int32) &&& 31))), (.int (p2 &&& (3 : Int32))), (.int (0 : Int32)), (.ref b4)])) _
    refine XS.iload X11.here hx rfl (hb hby at_94) rfl ?_
    show Steps p.tables e below (T11.setTop (mkF m 96 #[.val (.int p1), .val (.int p2), .val (.int p3), .val (.int (p1.toInt8.toInt32)), .val (.int (p2 &&& (3 : Int32))), .val (.int (p3.toInt8.toInt32)), .val (.ref b4), .val (.int (p1 &&& (255 : Int32))), .val (.int ((p1 &&& (255 : Int32)) >>> ((4 : Int32) &&& 31))), .val (.int ((p1 &&& (255 : Int32)) &&& (15 : Int32))), .val (.int ((p2 &&& (3 : Int32)) + (3 : Int32)))] [(.int ((p1 &&& (255 : Int32)) &&& (15 : Int32))), (.int ((p1 &&& (255 : Int32)) >>> ((4 : Int32) &&& 31))), (.int (p2 &&& (3 : Int32))), (.int (0 : Int32)), (.ref b4)])) _
    refine XS.iload X11.here hx rfl (hb hby at_96) rfl ?_
    show Steps p.tables e below (T11.setTop (mkF m 98 #[.val (.int p1), .val (.int p2), .val (.int p3), .val (.int (p1.toInt8.toInt32)), .val (.int (p2 &&& (3 : Int32))), .val (.int (p3.toInt8.toInt32)), .val (.ref b4), .val (.int (p1 &&& (255 : Int32))), .val (.int ((p1 &&& (255 : Int32)) >>> ((4 : Int32) &&& 31))), .val (.int ((p1 &&& (255 : Int32)) &&& (15 : Int32))), .val (.int ((p2 &&& (3 : Int32)) + (3 : Int32)))] [(.int (p3.toInt8.toInt32)), (.int ((p1 &&& (255 : Int32)) &&& (15 : Int32))), (.int ((p1 &&& (255 : Int32)) >>> ((4 : Int32) &&& 31))), (.int (p2 &&& (3 : Int32))), (.int (0 : Int32)), (.ref b4)])) _
    refine st12 _ ?_
    show Steps p.tables e below (T12.setTop (mkF m 101 #[.val (.int p1), .val (.int p2), .val (.int p3), .val (.int (p1.toInt8.toInt32)), .val (.int (p2 &&& (3 : Int32))), .val (.int (p3.toInt8.toInt32)), .val (.ref b4), .val (.int (p1 &&& (255 : Int32))), .val (.int ((p1 &&& (255 : Int32)) >>> ((4 : Int32) &&& 31))), .val (.int ((p1 &&& (255 : Int32)) &&& (15 : Int32))), .val (.int ((p2 &&& (3 : Int32)) + (3 : Int32)))] [(.int (1 : Int32))])) _
    refine XS.ifNo X12.here hx rfl (hb hby at_101) rfl ((if0 _ _).trans (feq hc101).1) ?_
    show Steps p.tables e below (T12.setTop (mkF m 104 #[.val (.int p1), .val (.int p2), .val (.int p3), .val (.int (p1.toInt8.toInt32)), .val (.int (p2 &&& (3 : Int32))), .val (.int (p3.toInt8.toInt32)), .val (.ref b4), .val (.int (p1 &&& (255 : Int32))), .val (.int ((p1 &&& (255 : Int32)) >>> ((4 : Int32) &&& 31))), .val (.int ((p1 &&& (255 : Int32)) &&& (15 : Int32))), .val (.int ((p2 &&& (3 : Int32)) + (3 : Int32)))] [])) _
    refine XS.aload X12.here hx rfl (hb hby at_104) rfl rfl ?_
    show Steps p.tables e below (T12.setTop (mkF m 106 #[.val (.int p1), .val (.int p2), .val (.int p3), .val (.int (p1.toInt8.toInt32)), .val (.int (p2 &&& (3 : Int32))), .val (.int (p3.toInt8.toInt32)), .val (.ref b4), .val (.int (p1 &&& (255 : Int32))), .val (.int ((p1 &&& (255 : Int32)) >>> ((4 : Int32) &&& 31))), .val (.int ((p1 &&& (255 : Int32)) &&& (15 : Int32))), .val (.int ((p2 &&& (3 : Int32)) + (3 : Int32)))] [(.ref b4)])) _
    refine XS.iconst X12.here hx rfl (hb hby at_106) ?_
    show Steps p.tables e below (T12.setTop (mkF m 107 #[.val (.int p1), .val (.int p2), .val (.int p3), .val (.int (p1.toInt8.toInt32)), .val (.int (p2 &&& (3 : Int32))), .val (.int (p3.toInt8.toInt32)), .val (.ref b4), .val (.int (p1 &&& (255 : Int32))), .val (.int ((p1 &&& (255 : Int32)) >>> ((4 : Int32) &&& 31))), .val (.int ((p1 &&& (255 : Int32)) &&& (15 : Int32))), .val (.int ((p2 &&& (3 : Int32)) + (3 : Int32)))] [(.int (1 : Int32)), (.ref b4)])) _
    refine XS.iload X12.here hx rfl (hb hby at_107) rfl ?_
    show Steps p.tables e below (T12.setTop (mkF m 109 #[.val (.int p1), .val (.int p2), .val (.int p3), .val (.int (p1.toInt8.toInt32)), .val (.int (p2 &&& (3 : Int32))), .val (.int (p3.toInt8.toInt32)), .val (.ref b4), .val (.int (p1 &&& (255 : Int32))), .val (.int ((p1 &&& (255 : Int32)) >>> ((4 : Int32) &&& 31))), .val (.int ((p1 &&& (255 : Int32)) &&& (15 : Int32))), .val (.int ((p2 &&& (3 : Int32)) + (3 : Int32)))] [(.int (p2 &&& (3 : Int32))), (.int (1 : Int32)), (.ref b4)])) _
    refine XS.iload X12.here hx rfl (hb hby at_109) rfl ?_
    show Steps p.tables e below (T12.setTop (mkF m 111 #[.val (.int p1), .val (.int p2), .val (.int p3), .val (.int (p1.toInt8.toInt32)), .val (.int (p2 &&& (3 : Int32))), .val (.int (p3.toInt8.toInt32)), .val (.ref b4), .val (.int (p1 &&& (255 : Int32))), .val (.int ((p1 &&& (255 : Int32)) >>> ((4 : Int32) &&& 31))), .val (.int ((p1 &&& (255 : Int32)) &&& (15 : Int32))), .val (.int ((p2 &&& (3 : Int32)) + (3 : Int32)))] [(.int ((p1 &&& (255 : Int32)) >>> ((4 : Int32) &&& 31))), (.int (p2 &&& (3 : Int32))), (.int (1 : Int32)), (.ref b4)])) _
    refine XS.iload X12.here hx rfl (hb hby at_111) rfl ?_
    show Steps p.tables e below (T12.setTop (mkF m 113 #[.val (.int p1), .val (.int p2), .val (.int p3), .val (.int (p1.toInt8.toInt32)), .val (.int (p2 &&& (3 : Int32))), .val (.int (p3.toInt8.toInt32)), .val (.ref b4), .val (.int (p1 &&& (255 : Int32))), .val (.int ((p1 &&& (255 : Int32)) >>> ((4 : Int32) &&& 31))), .val (.int ((p1 &&& (255 : Int32)) &&& (15 : Int32))), .val (.int ((p2 &&& (3 : Int32)) + (3 : Int32)))] [(.int ((p1 &&& (255 : Int32)) &&& (15 : Int32))), (.int ((p1 &&& (255 : Int32)) >>> ((4 : Int32) &&& 31))), (.int (p2 &&& (3 : Int32))), (.int (1 : Int32)), (.ref b4)])) _
    refine XS.iload X12.here hx rfl (hb hby at_113) rfl ?_
    show Steps p.tables e below (T12.setTop (mkF m 115 #[.val (.int p1), .val (.int p2), .val (.int p3), .val (.int (p1.toInt8.toInt32)), .val (.int (p2 &&& (3 : Int32))), .val (.int (p3.toInt8.toInt32)), .val (.ref b4), .val (.int (p1 &&& (255 : Int32))), .val (.int ((p1 &&& (255 : Int32)) >>> ((4 : Int32) &&& 31))), .val (.int ((p1 &&& (255 : Int32)) &&& (15 : Int32))), .val (.int ((p2 &&& (3 : Int32)) + (3 : Int32)))] [(.int (p3.toInt8.toInt32)), (.int ((p1 &&& (255 : Int32)) &&& (15 : Int32))), (.int ((p1 &&& (255 : Int32)) >>> ((4 : Int32) &&& 31))), (.int (p2 &&& (3 : Int32))), (.int (1 : Int32)), (.ref b4)])) _
    refine st13 _ ?_
    show Steps p.tables e below (T13.setTop (mkF m 118 #[.val (.int p1), .val (.int p2), .val (.int p3), .val (.int (p1.toInt8.toInt32)), .val (.int (p2 &&& (3 : Int32))), .val (.int (p3.toInt8.toInt32)), .val (.ref b4), .val (.int (p1 &&& (255 : Int32))), .val (.int ((p1 &&& (255 : Int32)) >>> ((4 : Int32) &&& 31))), .val (.int ((p1 &&& (255 : Int32)) &&& (15 : Int32))), .val (.int ((p2 &&& (3 : Int32)) + (3 : Int32)))] [(.int (1 : Int32))])) _
    refine XS.ifNo X13.here hx rfl (hb hby at_118) rfl ((if0 _ _).trans (feq hc118).1) ?_
    show Steps p.tables e below (T13.setTop (mkF m 121 #[.val (.int p1), .val (.int p2), .val (.int p3), .val (.int (p1.toInt8.toInt32)), .val (.int (p2 &&& (3 : Int32))), .val (.int (p3.toInt8.toInt32)), .val (.ref b4), .val (.int (p1 &&& (255 : Int32))), .val (.int ((p1 &&& (255 : Int32)) >>> ((4 : Int32) &&& 31))), .val (.int ((p1 &&& (255 : Int32)) &&& (15 : Int32))), .val (.int ((p2 &&& (3 : Int32)) + (3 : Int32)))] [])) _
    refine XS.aload X13.here hx rfl (hb hby at_121) rfl rfl ?_
    show Steps p.tables e below (T13.setTop (mkF m 123 #[.val (.int p1), .val (.int p2), .val (.int p3), .val (.int (p1.toInt8.toInt32)), .val (.int (p2 &&& (3 : Int32))), .val (.int (p3.toInt8.toInt32)), .val (.ref b4), .val (.int (p1 &&& (255 : Int32))), .val (.int ((p1 &&& (255 : Int32)) >>> ((4 : Int32) &&& 31))), .val (.int ((p1 &&& (255 : Int32)) &&& (15 : Int32))), .val (.int ((p2 &&& (3 : Int32)) + (3 : Int32)))] [(.ref b4)])) _
    refine XS.iconst X13.here hx rfl (hb hby at_123) ?_
    show Steps p.tables e below (T13.setTop (mkF m 124 #[.val (.int p1), .val (.int p2), .val (.int p3), .val (.int (p1.toInt8.toInt32)), .val (.int (p2 &&& (3 : Int32))), .val (.int (p3.toInt8.toInt32)), .val (.ref b4), .val (.int (p1 &&& (255 : Int32))), .val (.int ((p1 &&& (255 : Int32)) >>> ((4 : Int32) &&& 31))), .val (.int ((p1 &&& (255 : Int32)) &&& (15 : Int32))), .val (.int ((p2 &&& (3 : Int32)) + (3 : Int32)))] [(.int (2 : Int32)), (.ref b4)])) _
    refine XS.iload X13.here hx rfl (hb hby at_124) rfl ?_
    show Steps p.tables e below (T13.setTop (mkF m 126 #[.val (.int p1), .val (.int p2), .val (.int p3), .val (.int (p1.toInt8.toInt32)), .val (.int (p2 &&& (3 : Int32))), .val (.int (p3.toInt8.toInt32)), .val (.ref b4), .val (.int (p1 &&& (255 : Int32))), .val (.int ((p1 &&& (255 : Int32)) >>> ((4 : Int32) &&& 31))), .val (.int ((p1 &&& (255 : Int32)) &&& (15 : Int32))), .val (.int ((p2 &&& (3 : Int32)) + (3 : Int32)))] [(.int (p2 &&& (3 : Int32))), (.int (2 : Int32)), (.ref b4)])) _
    refine XS.iload X13.here hx rfl (hb hby at_126) rfl ?_
    show Steps p.tables e below (T13.setTop (mkF m 128 #[.val (.int p1), .val (.int p2), .val (.int p3), .val (.int (p1.toInt8.toInt32)), .val (.int (p2 &&& (3 : Int32))), .val (.int (p3.toInt8.toInt32)), .val (.ref b4), .val (.int (p1 &&& (255 : Int32))), .val (.int ((p1 &&& (255 : Int32)) >>> ((4 : Int32) &&& 31))), .val (.int ((p1 &&& (255 : Int32)) &&& (15 : Int32))), .val (.int ((p2 &&& (3 : Int32)) + (3 : Int32)))] [(.int ((p1 &&& (255 : Int32)) >>> ((4 : Int32) &&& 31))), (.int (p2 &&& (3 : Int32))), (.int (2 : Int32)), (.ref b4)])) _
    refine XS.iload X13.here hx rfl (hb hby at_128) rfl ?_
    show Steps p.tables e below (T13.setTop (mkF m 130 #[.val (.int p1), .val (.int p2), .val (.int p3), .val (.int (p1.toInt8.toInt32)), .val (.int (p2 &&& (3 : Int32))), .val (.int (p3.toInt8.toInt32)), .val (.ref b4), .val (.int (p1 &&& (255 : Int32))), .val (.int ((p1 &&& (255 : Int32)) >>> ((4 : Int32) &&& 31))), .val (.int ((p1 &&& (255 : Int32)) &&& (15 : Int32))), .val (.int ((p2 &&& (3 : Int32)) + (3 : Int32)))] [(.int ((p1 &&& (255 : Int32)) &&& (15 : Int32))), (.int ((p1 &&& (255 : Int32)) >>> ((4 : Int32) &&& 31))), (.int (p2 &&& (3 : Int32))), (.int (2 : Int32)), (.ref b4)])) _
    refine XS.iload X13.here hx rfl (hb hby at_130) rfl ?_
    show Steps p.tables e below (T13.setTop (mkF m 132 #[.val (.int p1), .val (.int p2), .val (.int p3), .val (.int (p1.toInt8.toInt32)), .val (.int (p2 &&& (3 : Int32))), .val (.int (p3.toInt8.toInt32)), .val (.ref b4), .val (.int (p1 &&& (255 : Int32))), .val (.int ((p1 &&& (255 : Int32)) >>> ((4 : Int32) &&& 31))), .val (.int ((p1 &&& (255 : Int32)) &&& (15 : Int32))), .val (.int ((p2 &&& (3 : Int32)) + (3 : Int32)))] [(.int (p3.toInt8.toInt32)), (.int ((p1 &&& (255 : Int32)) &&& (15 : Int32))), (.int ((p1 &&& (255 : Int32)) >>> ((4 : Int32) &&& 31))), (.int (p2 &&& (3 : Int32))), (.int (2 : Int32)), (.ref b4)])) _
    refine st14 _ ?_
    show Steps p.tables e below (T14.setTop (mkF m 135 #[.val (.int p1), .val (.int p2), .val (.int p3), .val (.int (p1.toInt8.toInt32)), .val (.int (p2 &&& (3 : Int32))), .val (.int (p3.toInt8.toInt32)), .val (.ref b4), .val (.int (p1 &&& (255 : Int32))), .val (.int ((p1 &&& (255 : Int32)) >>> ((4 : Int32) &&& 31))), .val (.int ((p1 &&& (255 : Int32)) &&& (15 : Int32))), .val (.int ((p2 &&& (3 : Int32)) + (3 : Int32)))] [(.int (1 : Int32))])) _
    refine XS.ifNo X14.here hx rfl (hb hby at_135) rfl ((if0 _ _).trans (feq hc135).1) ?_
    show Steps p.tables e below (T14.setTop (mkF m 138 #[.val (.int p1), .val (.int p2), .val (.int p3), .val (.int (p1.toInt8.toInt32)), .val (.int (p2 &&& (3 : Int32))), .val (.int (p3.toInt8.toInt32)), .val (.ref b4), .val (.int (p1 &&& (255 : Int32))), .val (.int ((p1 &&& (255 : Int32)) >>> ((4 : Int32) &&& 31))), .val (.int ((p1 &&& (255 : Int32)) &&& (15 : Int32))), .val (.int ((p2 &&& (3 : Int32)) + (3 : Int32)))] [])) _
    refine XS.aload X14.here hx rfl (hb hby at_138) rfl rfl ?_
    show Steps p.tables e below (T14.setTop (mkF m 140 #[.val (.int p1), .val (.int p2), .val (.int p3), .val (.int (p1.toInt8.toInt32)), .val (.int (p2 &&& (3 : Int32))), .val (.int (p3.toInt8.toInt32)), .val (.ref b4), .val (.int (p1 &&& (255 : Int32))), .val (.int ((p1 &&& (255 : Int32)) >>> ((4 : Int32) &&& 31))), .val (.int ((p1 &&& (255 : Int32)) &&& (15 : Int32))), .val (.int ((p2 &&& (3 : Int32)) + (3 : Int32)))] [(.ref b4)])) _
    refine XS.iconst X14.here hx rfl (hb hby at_140) ?_
    show Steps p.tables e below (T14.setTop (mkF m 141 #[.val (.int p1), .val (.int p2), .val (.int p3), .val (.int (p1.toInt8.toInt32)), .val (.int (p2 &&& (3 : Int32))), .val (.int (p3.toInt8.toInt32)), .val (.ref b4), .val (.int (p1 &&& (255 : Int32))), .val (.int ((p1 &&& (255 : Int32)) >>> ((4 : Int32) &&& 31))), .val (.int ((p1 &&& (255 : Int32)) &&& (15 : Int32))), .val (.int ((p2 &&& (3 : Int32)) + (3 : Int32)))] [(.int (3 : Int32)), (.ref b4)])) _
    refine XS.iload X14.here hx rfl (hb hby at_141) rfl ?_
    show Steps p.tables e below (T14.setTop (mkF m 143 #[.val (.int p1), .val (.int p2), .val (.int p3), .val (.int (p1.toInt8.toInt32)), .val (.int (p2 &&& (3 : Int32))), .val (.int (p3.toInt8.toInt32)), .val (.ref b4), .val (.int (p1 &&& (255 : Int32))), .val (.int ((p1 &&& (255 : Int32)) >>> ((4 : Int32) &&& 31))), .val (.int ((p1 &&& (255 : Int32)) &&& (15 : Int32))), .val (.int ((p2 &&& (3 : Int32)) + (3 : Int32)))] [(.int (p2 &&& (3 : Int32))), (.int (3 : Int32)), (.ref b4)])) _
    refine XS.iload X14.here hx rfl (hb hby at_143) rfl ?_
    show Steps p.tables e below (T14.setTop (mkF m 145 #[.val (.int p1), .val (.int p2), .val (.int p3), .val (.int (p1.toInt8.toInt32)), .val (.int (p2 &&& (3 : Int32))), .val (.int (p3.toInt8.toInt32)), .val (.ref b4), .val (.int (p1 &&& (255 : Int32))), .val (.int ((p1 &&& (255 : Int32)) >>> ((4 : Int32) &&& 31))), .val (.int ((p1 &&& (255 : Int32)) &&& (15 : Int32))), .val (.int ((p2 &&& (3 : Int32)) + (3 : Int32)))] [(.int ((p1 &&& (255 : Int32)) >>> ((4 : Int32) &&& 31))), (.int (p2 &&& (3 : Int32))), (.int (3 : Int32)), (.ref b4)])) _
    refine XS.iload X14.here hx rfl (hb hby at_145) rfl ?_
    show Steps p.tables e below (T14.setTop (mkF m 147 #[.val (.int p1), .val (.int p2), .val (.int p3), .val (.int (p1.toInt8.toInt32)), .val (.int (p2 &&& (3 : Int32))), .val (.int (p3.toInt8.toInt32)), .val (.ref b4), .val (.int (p1 &&& (255 : Int32))), .val (.int ((p1 &&& (255 : Int32)) >>> ((4 : Int32) &&& 31))), .val (.int ((p1 &&& (255 : Int32)) &&& (15 : Int32))), .val (.int ((p2 &&& (3 : Int32)) + (3 : Int32)))] [(.int ((p1 &&& (255 : Int32)) &&& (15 : Int32))), (.int ((p1 &&& (255 : Int32)) >>> ((4 : Int32) &&& 31))), (.int (p2 &&& (3 : Int32))), (.int (3 : Int32)), (.ref b4)])) _
    refine XS.iload X14.here hx rfl (hb hby at_147) rfl ?_
    show Steps p.tables e below (T14.setTop (mkF m 149 #[.val (.int p1), .val (.int p2), .val (.int p3), .val (.int (p1.toInt8.toInt32)), .val (.int (p2 &&& (3 : Int32))), .val (.int (p3.toInt8.toInt32)), .val (.ref b4), .val (.int (p1 &&& (255 : Int32))), .val (.int ((p1 &&& (255 : Int32)) >>> ((4 : Int32) &&& 31))), .val (.int ((p1 &&& (255 : Int32)) &&& (15 : Int32))), .val (.int ((p2 &&& (3 : Int32)) + (3 : Int32)))] [(.int (p3.toInt8.toInt32)), (.int ((p1 &&& (255 : Int32)) &&& (15 : Int32))), (.int ((p1 &&& (255 : Int32)) >>> ((4 : Int32) &&& 31))), (.int (p2 &&& (3 : Int32))), (.int (3 : Int32)), (.ref b4)])) _
    refine st15 _ ?_
    show Steps p.tables e below (T15.setTop (mkF m 152 #[.val (.int p1), .val (.int p2), .val (.int p3), .val (.int (p1.toInt8.toInt32)), .val (.int (p2 &&& (3 : Int32))), .val (.int (p3.toInt8.toInt32)), .val (.ref b4), .val (.int (p1 &&& (255 : Int32))), .val (.int ((p1 &&& (255 : Int32)) >>> ((4 : Int32) &&& 31))), .val (.int ((p1 &&& (255 : Int32)) &&& (15 : Int32))), .val (.int ((p2 &&& (3 : Int32)) + (3 : Int32)))] [(.int (1 : Int32))])) _
    refine XS.ifNo X15.here hx rfl (hb hby at_152) rfl ((if0 _ _).trans (feq hc152).1) ?_
    show Steps p.tables e below (T15.setTop (mkF m 155 #[.val (.int p1), .val (.int p2), .val (.int p3), .val (.int (p1.toInt8.toInt32)), .val (.int (p2 &&& (3 : Int32))), .val (.int (p3.toInt8.toInt32)), .val (.ref b4), .val (.int (p1 &&& (255 : Int32))), .val (.int ((p1 &&& (255 : Int32)) >>> ((4 : Int32) &&& 31))), .val (.int ((p1 &&& (255 : Int32)) &&& (15 : Int32))), .val (.int ((p2 &&& (3 : Int32)) + (3 : Int32)))] [])) _
    refine XS.aload X15.here hx rfl (hb hby at_155) rfl rfl ?_
    show Steps p.tables e below (T15.setTop (mkF m 157 #[.val (.int p1), .val (.int p2), .val (.int p3), .val (.int (p1.toInt8.toInt32)), .val (.int (p2 &&& (3 : Int32))), .val (.int (p3.toInt8.toInt32)), .val (.ref b4), .val (.int (p1 &&& (255 : Int32))), .val (.int ((p1 &&& (255 : Int32)) >>> ((4 : Int32) &&& 31))), .val (.int ((p1 &&& (255 : Int32)) &&& (15 : Int32))), .val (.int ((p2 &&& (3 : Int32)) + (3 : Int32)))] [(.ref b4)])) _
    refine XS.iconst X15.here hx rfl (hb hby at_157) ?_
    show Steps p.tables e below (T15.setTop (mkF m 158 #[.val (.int p1), .val (.int p2), .val (.int p3), .val (.int (p1.toInt8.toInt32)), .val (.int (p2 &&& (3 : Int32))), .val (.int (p3.toInt8.toInt32)), .val (.ref b4), .val (.int (p1 &&& (255 : Int32))), .val (.int ((p1 &&& (255 : Int32)) >>> ((4 : Int32) &&& 31))), .val (.int ((p1 &&& (255 : Int32)) &&& (15 : Int32))), .val (.int ((p2 &&& (3 : Int32)) + (3 : Int32)))] [(.int (4 : Int32)), (.ref b4)])) _
    refine XS.iload X15.here hx rfl (hb hby at_158) rfl ?_
    show Steps p.tables e below (T15.setTop (mkF m 160 #[.val (.int p1), .val (.int p2), .val (.int p3), .val (.int (p1.toInt8.toInt32)), .val (.int (p2 &&& (3 : Int32))), .val (.int (p3.toInt8.toInt32)), .val (.ref b4), .val (.int (p1 &&& (255 : Int32))), .val (.int ((p1 &&& (255 : Int32)) >>> ((4 : Int32) &&& 31))), .val (.int ((p1 &&& (255 : Int32)) &&& (15 : Int32))), .val (.int ((p2 &&& (3 : Int32)) + (3 : Int32)))] [(.int (p2 &&& (3 : Int32))), (.int (4 : Int32)), (.ref b4)])) _
    refine XS.iload X15.here hx rfl (hb hby at_160) rfl ?_
    show Steps p.tables e below (T15.setTop (mkF m 162 #[.val (.int p1), .val (.int p2), .val (.int p3), .val (.int (p1.toInt8.toInt32)), .val (.int (p2 &&& (3 : Int32))), .val (.int (p3.toInt8.toInt32)), .val (.ref b4), .val (.int (p1 &&& (255 : Int32))), .val (.int ((p1 &&& (255 : Int32)) >>> ((4 : Int32) &&& 31))), .val (.int ((p1 &&& (255 : Int32)) &&& (15 : Int32))), .val (.int ((p2 &&& (3 : Int32)) + (3 : Int32)))] [(.int ((p1 &&& (255 : Int32)) >>> ((4 : Int32) &&& 31))), (.int (p2 &&& (3 : Int32))), (.int (4 : Int32)), (.ref b4)])) _
    refine XS.iload X15.here hx rfl (hb hby at_162) rfl ?_
    show Steps p.tables e below (T15.setTop (mkF m 164 #[.val (.int p1), .val (.int p2), .val (.int p3), .val (.int (p1.toInt8.toInt32)), .val (.int (p2 &&& (3 : Int32))), .val (.int (p3.toInt8.toInt32)), .val (.ref b4), .val (.int (p1 &&& (255 : Int32))), .val (.int ((p1 &&& (255 : Int32)) >>> ((4 : Int32) &&& 31))), .val (.int ((p1 &&& (255 : Int32)) &&& (15 : Int32))), .val (.int ((p2 &&& (3 : Int32)) + (3 : Int32)))] [(.int ((p1 &&& (255 : Int32)) &&& (15 : Int32))), (.int ((p1 &&& (255 : Int32)) >>> ((4 : Int32) &&& 31))), (.int (p2 &&& (3 : Int32))), (.int (4 : Int32)), (.ref b4)])) _
    refine XS.iload X15.here hx rfl (hb hby at_164) rfl ?_
    show Steps p.tables e below (T15.setTop (mkF m 166 #[.val (.int p1), .val (.int p2), .val (.int p3), .val (.int (p1.toInt8.toInt32)), .val (.int (p2 &&& (3 : Int32))), .val (.int (p3.toInt8.toInt32)), .val (.ref b4), .val (.int (p1 &&& (255 : Int32))), .val (.int ((p1 &&& (255 : Int32)) >>> ((4 : Int32) &&& 31))), .val (.int ((p1 &&& (255 : Int32)) &&& (15 : Int32))), .val (.int ((p2 &&& (3 : Int32)) + (3 : Int32)))] [(.int (p3.toInt8.toInt32)), (.int ((p1 &&& (255 : Int32)) &&& (15 : Int32))), (.int ((p1 &&& (255 : Int32)) >>> ((4 : Int32) &&& 31))), (.int (p2 &&& (3 : Int32))), (.int (4 : Int32)), (.ref b4)])) _
    refine st16 _ ?_
    show Steps p.tables e below (T16.setTop (mkF m 169 #[.val (.int p1), .val (.int p2), .val (.int p3), .val (.int (p1.toInt8.toInt32)), .val (.int (p2 &&& (3 : Int32))), .val (.int (p3.toInt8.toInt32)), .val (.ref b4), .val (.int (p1 &&& (255 : Int32))), .val (.int ((p1 &&& (255 : Int32)) >>> ((4 : Int32) &&& 31))), .val (.int ((p1 &&& (255 : Int32)) &&& (15 : Int32))), .val (.int ((p2 &&& (3 : Int32)) + (3 : Int32)))] [(.int (1 : Int32))])) _
    refine XS.ifNo X16.here hx rfl (hb hby at_169) rfl ((if0 _ _).trans (feq hc169).1) ?_
    show Steps p.tables e below (T16.setTop (mkF m 172 #[.val (.int p1), .val (.int p2), .val (.int p3), .val (.int (p1.toInt8.toInt32)), .val (.int (p2 &&& (3 : Int32))), .val (.int (p3.toInt8.toInt32)), .val (.ref b4), .val (.int (p1 &&& (255 : Int32))), .val (.int ((p1 &&& (255 : Int32)) >>> ((4 : Int32) &&& 31))), .val (.int ((p1 &&& (255 : Int32)) &&& (15 : Int32))), .val (.int ((p2 &&& (3 : Int32)) + (3 : Int32)))] [])) _
    refine XS.aload X16.here hx rfl (hb hby at_172) rfl rfl ?_
    show Steps p.tables e below (T16.setTop (mkF m 174 #[.val (.int p1), .val (.int p2), .val (.int p3), .val (.int (p1.toInt8.toInt32)), .val (.int (p2 &&& (3 : Int32))), .val (.int (p3.toInt8.toInt32)), .val (.ref b4), .val (.int (p1 &&& (255 : Int32))), .val (.int ((p1 &&& (255 : Int32)) >>> ((4 : Int32) &&& 31))), .val (.int ((p1 &&& (255 : Int32)) &&& (15 : Int32))), .val (.int ((p2 &&& (3 : Int32)) + (3 : Int32)))] [(.ref b4)])) _
    refine XS.iconst X16.here hx rfl (hb hby at_174) ?_
    show Steps p.tables e below (T16.setTop (mkF m 175 #[.val (.int p1), .val (.int p2), .val (.int p3), .val (.int (p1.toInt8.toInt32)), .val (.int (p2 &&& (3 : Int32))), .val (.int (p3.toInt8.toInt32)), .val (.ref b4), .val (.int (p1 &&& (255 : Int32))), .val (.int ((p1 &&& (255 : Int32)) >>> ((4 : Int32) &&& 31))), .val (.int ((p1 &&& (255 : Int32)) &&& (15 : Int32))), .val (.int ((p2 &&& (3 : Int32)) + (3 : Int32)))] [(.int (5 : Int32)), (.ref b4)])) _
    refine XS.iload X16.here hx rfl (hb hby at_175) rfl ?_
    show Steps p.tables e below (T16.setTop (mkF m 177 #[.val (.int p1), .val (.int p2), .val (.int p3), .val (.int (p1.toInt8.toInt32)), .val (.int (p2 &&& (3 : Int32))), .val (.int (p3.toInt8.toInt32)), .val (.ref b4), .val (.int (p1 &&& (255 : Int32))), .val (.int ((p1 &&& (255 : Int32)) >>> ((4 : Int32) &&& 31))), .val (.int ((p1 &&& (255 : Int32)) &&& (15 : Int32))), .val (.int ((p2 &&& (3 : Int32)) + (3 : Int32)))] [(.int (p2 &&& (3 : Int32))), (.int (5 : Int32)), (.ref b4)])) _
    refine XS.iload X16.here hx rfl (hb hby at_177) rfl ?_
    show Steps p.tables e below (T16.setTop (mkF m 179 #[.val (.int p1), .val (.int p2), .val (.int p3), .val (.int (p1.toInt8.toInt32)), .val (.int (p2 &&& (3 : Int32))), .val (.int (p3.toInt8.toInt32)), .val (.ref b4), .val (.int (p1 &&& (255 : Int32))), .val (.int ((p1 &&& (255 : Int32)) >>> ((4 : Int32) &&& 31))), .val (.int ((p1 &&& (255 : Int32)) &&& (15 : Int32))), .val (.int ((p2 &&& (3 : Int32)) + (3 : Int32)))] [(.int ((p1 &&& (255 : Int32)) >>> ((4 : Int32) &&& 31))), (.int (p2 &&& (3 : Int32))), (.int (5 : Int32)), (.ref b4)])) _
    refine XS.iload X16.here hx rfl (hb hby at_179) rfl ?_
    show Steps p.tables e below (T16.setTop (mkF m 181 #[.val (.int p1), .val (.int p2), .val (.int p3), .val (.int (p1.toInt8.toInt32)), .val (.int (p2 &&& (3 : Int32))), .val (.int (p3.toInt8.toInt32)), .val (.ref b4), .val (.int (p1 &&& (255 : Int32))), .val (.int ((p1 &&& (255 : Int32)) >>> ((4 : Int32) &&& 31))), .val (.int ((p1 &&& (255 : Int32)) &&& (15 : Int32))), .val (.int ((p2 &&& (3 : Int32)) + (3 : Int32)))] [(.int ((p1 &&& (255 : Int32)) &&& (15 : Int32))), (.int ((p1 &&& (255 : Int32)) >>> ((4 : Int32) &&& 31))), (.int (p2 &&& (3 : Int32))), (.int (5 : Int32)), (.ref b4)])) _
    refine XS.iload X16.here hx rfl (hb hby at_181) rfl ?_
    show Steps p.tables e below (T16.setTop (mkF m 183 #[.val (.int p1), .val (.int p2), .val (.int p3), .val (.int (p1.toInt8.toInt32)), .val (.int (p2 &&& (3 : Int32))), .val (.int (p3.toInt8.toInt32)), .val (.ref b4), .val (.int (p1 &&& (255 : Int32))), .val (.int ((p1 &&& (255 : Int32)) >>> ((4 : Int32) &&& 31))), .val (.int ((p1 &&& (255 : Int32)) &&& (15 : Int32))), .val (.int ((p2 &&& (3 : Int32)) + (3 : Int32)))] [(.int (p3.toInt8.toInt32)), (.int ((p1 &&& (255 : Int32)) &&& (15 : Int32))), (.int ((p1 &&& (255 : Int32)) >>> ((4 : Int32) &&& 31))), (.int (p2 &&& (3 : Int32))), (.int (5 : Int32)), (.ref b4)])) _
    refine st17 _ ?_
    show Steps p.tables e below (T17.setTop (mkF m 186 #[.val (.int p1), .val (.int p2), .val (.int p3), .val (.int (p1.toInt8.toInt32)), .val (.int (p2 &&& (3 : Int32))), .val (.int (p3.toInt8.toInt32)), .val (.ref b4), .val (.int (p1 &&& (255 : Int32))), .val (.int ((p1 &&& (255 : Int32)) >>> ((4 : Int32) &&& 31))), .val (.int ((p1 &&& (255 : Int32)) &&& (15 : Int32))), .val (.int ((p2 &&& (3 : Int32)) + (3 : Int32)))] [(.int (1 : Int32))])) _
    refine XS.ifNo X17.here hx rfl (hb hby at_186) rfl ((if0 _ _).trans (feq hc186).1) ?_
    show Steps p.tables e below (T17.setTop (mkF m 189 #[.val (.int p1), .val (.int p2), .val (.int p3), .val (.int (p1.toInt8.toInt32)), .val (.int (p2 &&& (3 : Int32))), .val (.int (p3.toInt8.toInt32)), .val (.ref b4), .val (.int (p1 &&& (255 : Int32))), .val (.int ((p1 &&& (255 : Int32)) >>> ((4 : Int32) &&& 31))), .val (.int ((p1 &&& (255 : Int32)) &&& (15 : Int32))), .val (.int ((p2 &&& (3 : Int32)) + (3 : Int32)))] [])) _
    refine XS.iconst X17.here hx rfl (hb hby at_189) ?_
    show Steps p.tables e below (T17.setTop (mkF m 190 #[.val (.int p1), .val (.int p2), .val (.int p3), .val (.int (p1.toInt8.toInt32)), .val (.int (p2 &&& (3 : Int32))), .val (.int (p3.toInt8.toInt32)), .val (.ref b4), .val (.int (p1 &&& (255 : Int32))), .val (.int ((p1 &&& (255 : Int32)) >>> ((4 : Int32) &&& 31))), .val (.int ((p1 &&& (255 : Int32)) &&& (15 : Int32))), .val (.int ((p2 &&& (3 : Int32)) + (3 : Int32)))] [(.int (1 : Int32))])) _
    refine XS.goto X17.here hx rfl (pc0 := 190) (pc' := 194) rfl (hb hby at_190) (by decide) (by decide) ?_
    show Steps p.tables e below (T17.setTop (mkF m 194 #[.val (.int p1), .val (.int p2), .val (.int p3), .val (.int (p1.toInt8.toInt32)), .val (.int (p2 &&& (3 : Int32))), .val (.int (p3.toInt8.toInt32)), .val (.ref b4), .val (.int (p1 &&& (255 : Int32))), .val (.int ((p1 &&& (255 : Int32)) >>> ((4 : Int32) &&& 31))), .val (.int ((p1 &&& (255 : Int32)) &&& (15 : Int32))), .val (.int ((p2 &&& (3 : Int32)) + (3 : Int32)))] [(.int (1 : Int32))])) _
    exact retN X17 hx (t := .boolean) Bd.returns (by simp) (hb hby at_194) hr
  · show Q0 Z p1 p2 p3 h0 n0 _ T17.heap _
    rw [e17c]
    exact ⟨rfl, N17⟩
theorem own_len {Z : State} {args : Array Value} {t : Term} {a : Addr} {cl : Cell} {ty : FieldType} {n : Int32} (et : t.eval args Z none [] Z = some (.ref a)) (A : Arr Z Z.heap a cl ty) (h : (Cond.eq (Term.length t) (Term.int n)).value args Z none Z [] = some true) :
    cl.slots.size.toInt32 = n ∧ cl.slots.size < 2 ^ 31 ∧ cl.slots.size = n.toNatClampNeg ∧ ¬ n < 0 := by
  have q := eqv_i (Term.int_eval n) h
  have ha : Z.arrayAt? a = some cl := A.fin (Vm.Alike.refl _)
  by_cases hl : cl.slots.size < 2 ^ 31
  · have e := Value.int.inj (Option.some.inj ((len_f et ha hl).symm.trans q))
    have r := len_toInt hl
    rw [e] at r
    refine ⟨e, hl, ?_, ?_⟩
    · show _ = n.toInt.toNat
      rw [r]; rfl
    · rw [Int32.lt_iff_toInt_lt, r]; simp
  · exfalso
    simp [Term.eval, et, ha, hl] at q
theorem own_dig {s : State} {args : Array Value} {t : Term} {a : Addr} {cl : Cell} (hfit : Fit s) (et : ∀ idx, t.eval args s none idx s = some (.ref a)) (A : Arr s s.heap a cl .byte) (Sz : cl.slots.size = (16 : Int32).toNatClampNeg)
    (h1 : (Jvm.Cond.all t (Jvm.Cond.or (Jvm.Cond.le (Jvm.Term.int (10 : Int32)) (Jvm.Term.index 0)) (Jvm.Cond.eq (Jvm.Term.op1 .i2l (Jvm.Term.elem t (Jvm.Term.index 0))) (Jvm.Term.op2 .ladd (Jvm.Term.op1 .i2l (Jvm.Term.index 0)) (Jvm.Term.long (48 : Int64)))))).value args s none s [] = some true)
    (h2 : (Jvm.Cond.all t (Jvm.Cond.or (Jvm.Cond.lt (Jvm.Term.index 0) (Jvm.Term.int (10 : Int32))) (Jvm.Cond.eq (Jvm.Term.op1 .i2l (Jvm.Term.elem t (Jvm.Term.index 0))) (Jvm.Term.op2 .ladd (Jvm.Term.op1 .i2l (Jvm.Term.index 0)) (Jvm.Term.long (55 : Int64)))))).value args s none s [] = some true)
    (j : Int32) (hj : 0 ≤ j.toInt ∧ j.toInt < 16) : ¬ (j < 0 ∨ cl.slots.size ≤ j.toNatClampNeg) ∧ cl.slots[j.toNatClampNeg]? = some (.int (own_hex j)) := by
  have z16 : (16 : Int32).toInt = 16 := by decide
  have z10 : (10 : Int32).toInt = 10 := by decide
  have z0 : (0 : Int32).toInt = 0 := by decide
  have nn : ¬ j < 0 := by rw [Int32.lt_iff_toInt_lt]; omega
  have hin := inb_of Sz (⟨nn, by rw [Int32.lt_iff_toInt_lt]; omega⟩ : ¬ j < 0 ∧ j < 16)
  refine ⟨hin, ?_⟩
  obtain ⟨v, ev, fv⟩ := elem_fit hfit A hin
  obtain ⟨x, rfl⟩ := fit_I fv (by simp)
  rw [ev]
  have hk : j.toNatClampNeg < cl.slots.size := Nat.lt_of_not_le fun y => hin (Or.inr y)
  have ei : (Jvm.Term.index 0).eval args s none [j.toNatClampNeg] s = some (.int j) := idx_at nn
  have ee : (Jvm.Term.elem t (Jvm.Term.index 0)).eval args s none [j.toNatClampNeg] s = some (.int x) := (elem_f (et _) ei (A.fin (Vm.Alike.refl _)) nn).trans ev
  have q1 := or_e2 (Cond.le_ints (Term.int_eval _) ei) (eq_L (i2l_at ee) (op2_f (f := .ladd) (i2l_at ei) (long_at (48 : Int64)))) (Cond.all_elim (et []) (A.fin (Vm.Alike.refl _)) h1 _ hk)
  have q2 := or_e2 (Cond.lt_ints ei (Term.int_eval _)) (eq_L (i2l_at ee) (op2_f (f := .ladd) (i2l_at ei) (long_at (55 : Int64)))) (Cond.all_elim (et []) (A.fin (Vm.Alike.refl _)) h2 _ hk)
  refine congrArg (fun z => some (Value.int z)) ?_
  rw [← Int32.toInt_inj]
  have ex := c_i2l x
  have ej := c_i2l j
  have y48 : (48 : Int64).toInt = 48 := by decide
  have y55 : (55 : Int64).toInt = 55 := by decide
  have z48 : (48 : Int32).toInt = 48 := by decide
  have z55 : (55 : Int32).toInt = 55 := by decide
  have a1 := c_ladd j.toInt64 (48 : Int64)
  have a2 := c_ladd j.toInt64 (55 : Int64)
  have r1 := rng64 (j.toInt64 + (48 : Int64))
  have r2 := rng64 (j.toInt64 + (55 : Int64))
  have b1 := c_iadd (48 : Int32) j
  have b2 := c_iadd (55 : Int32) j
  have s1 := rng32 ((48 : Int32) + j)
  have s2 := rng32 ((55 : Int32) + j)
  have rx := rng32 x
  unfold own_hex
  by_cases hc : j < (10 : Int32)
  · rw [if_pos hc]
    have hc' := Int32.lt_iff_toInt_lt.mp hc
    rcases q1 with q | q
    · have := Int32.le_iff_toInt_le.mp q; omega
    · have := congrArg Int64.toInt q; omega
  · rw [if_neg hc]
    rcases q2 with q | q
    · exact absurd q hc
    · have := congrArg Int64.toInt q; omega
set_option maxRecDepth 65536 in
set_option maxHeartbeats 40000000 in
theorem comes_1 {Post : Tables → Env → Array Value → State → Outcome → State → Prop} (hpost : ∀ tb e args s v u, (limb_1_1.after args s (.returned v) u = true ∧ limb_1_2.after args s (.returned v) u = true ∧ True) → FrameEnd s (.returned v) u (Jvm.fieldLocs frame_1_writes args s ++ Jvm.arrayLocs frame_1_arrays args s ++ Jvm.staticLocs frame_1_statics s) 16 128 → Post tb e args s (.returned v) u) :
    ArmFor flags0 classFile x code maxLocals ret World_1 tables_1 room_1 Calls_1 rest_1 Pre_1 Post := by
  intro l hfl _ _ p e ha hc hk s m args below hf hA hF happ hP
  obtain ⟨hcalls, hrest, hpre⟩ := hP
  obtain ⟨-, -, -, hnamed, -, -, -, hat⟩ := (Spec.applies_iff hf).mp happ
  obtain ⟨hg, hn⟩ := and_e (Cond.before_iff.mp (show (Jvm.Cond.and given_1 narrow_1).before args s = true from hpre))
  obtain ⟨g1, g2⟩ := and_e hg
  obtain ⟨v0, c0⟩ := and_e g2
  obtain ⟨v1, c1⟩ := and_e c0
  obtain ⟨w0, w1, w2, rfl⟩ : ∃ w0 w1 w2 : Value, args = #[w0, w1, w2] := by
    have hs : args.size = 3 := by simpa [Cond.value, given_1] using g1
    obtain ⟨L⟩ := args
    match L, hs with
    | [w0, w1, w2], _ => exact ⟨w0, w1, w2, rfl⟩
  have hw := fun d (hd : d ∈ tables_1) => atoms_spec (ws := Jvm.Cond.code x code maxLocals ret :: tables_1) hat d (List.mem_cons_of_mem _ hd)
  have hfit : Fit s := fun {y c} hc i hi => by
    obtain ⟨ha, rfl⟩ := Array.getElem?_eq_some_iff.mp hc
    have q := List.all_eq_true.mp ((Array.all_eq_true_iff_forall_mem.mp hF) _ (Array.getElem_mem ha)) i (List.mem_range.mpr hi)
    simpa [Array.getElem?_eq_getElem hi] using q
  obtain ⟨i0, ei0⟩ := is_v v0
  obtain rfl : w0 = (.int i0) := Option.some.inj ei0
  obtain ⟨i1, ei1⟩ := is_v v1
  obtain rfl : w1 = (.int i1) := Option.some.inj ei1
  obtain ⟨i2, ei2⟩ := is_v c1
  obtain rfl : w2 = (.int i2) := Option.some.inj ei2
  suffices M : MetFree l x (head1 (Jvm.Cond.code x code maxLocals ret :: tables_1) room_1) (fun a U => a = #[(.int i0), (.int i1), (.int i2)] ∧ s.Warmed39 U.vm ∧ U.heap = s.heap) (fun _ _ _ _ _ => True) (fun _ U o U' => ∃ v L, o = .returned v ∧ Q0 s i0 i1 i2 s.heap s.heap.size v U'.heap L ∧ FrameEnd U o U' L room_1.cells room_1.slots) by
    obtain ⟨n, o, h1, h2, h3, _, L, rfl, ⟨rfl, N⟩, hq⟩ := M p e ha hc hk s m _ below hf ((Spec.applies_iff_loose hf).mp happ).1 ⟨rfl, State.Warmed39.refl s, rfl⟩ trivial
    exact ⟨n, _, h1, h2, h3, hpost _ _ _ _ _ _ ⟨Cond.after_iff.mpr rfl, Cond.after_iff.mpr (eq_i res_at (Term.int_eval (1)) rfl), trivial⟩ ⟨hq.1, hq.2.1, (hq.2.2.sift fun y hy => Or.inr (N y hy)).mono (by decide) (by decide)⟩⟩
  obtain ⟨a0, b0⟩ := and_e hn
  obtain ⟨a1, b1⟩ := and_e b0
  obtain ⟨a2, a3⟩ := and_e b1
  obtain ⟨w, ew⟩ := arr_v a0
  obtain ⟨cl, A⟩ := Arr.start ew a0
  obtain ⟨-, -, Sz, -⟩ := own_len ew A a1
  have S := Sta.start ew (Or.inr ⟨(hw _ (List.mem_of_getElem? (i := 3) rfl)), (hw _ (List.mem_of_getElem? (i := 6) rfl))⟩)
  have D := own_dig hfit (fun _ => ew) A Sz a2 a3
  have nib := own_nib i0
  have nr := own_nibr i0
  have d1 := D _ nr.1
  have d2 := D _ nr.2
  exact rm0 l s _ hw tables_1 i0 i1 i2 w cl s.heap s.heap.size (Nat.le_refl _) (Old.start s) S A (by rw [nib.1]; exact d1.1) (by rw [nib.1]; exact d1.2) (by rw [nib.2]; exact d2.1) (by rw [nib.2]; exact d2.2) (by decide) (by decide) (by decide) (by decide) (by decide) (by decide)
theorem main_1_1 : Claimed_1_1 := comes_1 fun _ _ _ _ _ _ h hF => ⟨h.1, hF⟩
theorem main_1_2 : Claimed_1_2 := comes_1 fun _ _ _ _ _ _ h hF => ⟨h.2.1, hF⟩
end Jvm.Pilot.@@N@@
namespace Jvm.Pilot.@@N@@
open Jvm Jvm.ClassFile Sem Op Lib Jvm.Free Jvm.Stand Jvm.Pilot.@@N@@.Jvm.D
/-! MADE BY PROGRAM (witnessworld.py) out of the Statement's table words and the real class files: 7 classes; the members and pool entries that the words name. The judged class is class 1, her method 3. -/
namespace start1
open Jvm.ClassFile
def u (s : String) : CpInfo := .utf8 (stringToUtf16 s)
/-- a pool by its gaps: so many unusable entries, then the entry; so many at the end -/
def gap : Nat → List CpInfo → List CpInfo
  | 0, r => r
  | n + 1, r => .unusable :: gap n r
def poolList (es : List (Nat × CpInfo)) (last : Nat) : List CpInfo := es.foldr (fun e r => gap e.1 (e.2 :: r)) (gap last [])
def pool (es : List (Nat × CpInfo)) (last : Nat) : Array CpInfo := ⟨poolList es last⟩
def fileOf (pool : Array CpInfo) (this : Nat) (attrs : Array Attribute := #[]) (ms : Array MethodInfo := #[]) (fl : Nat := 33) (sup : Nat := 0) (ifs : Array Nat := #[]) (fds : Array FieldInfo := #[]) : ClassFile where
  minorVersion := 0
  majorVersion := 65
  constantPool := pool
  accessFlags := fl
  thisClass := this
  superClass := sup
  interfaces := ifs
  fields := fds
  methods := ms
  attributes := attrs
def plain (name : String) (sup : Option ClassId) : Class where
  name := name
  kind := .ordinary
  loader := none
  accessFlags := 33
  super := sup
  interfaces := #[]
  cf := none
  fields := #[]
  methods := #[]
  instanceTypes := #[]
  staticTypes := #[]
  resolved := #[]
  callSites := []
  init := .initialized
  statics := none
  mirror := none

def pool0 : Array CpInfo := pool [(5, u "<init>"), (0, u "()V"), (1, .class_ 10), (1, u "java/lang/Object")] 113

def k0m0 : Method := { name := "<init>", desc := "()V", sig := { parameters := [], returnType := none }, accessFlags := 1, code := none }
/-- java/lang/Object -/
def k0 : Class := { plain "java/lang/Object" none with
  accessFlags := 33
  interfaces := #[]
  cf := some (fileOf pool0 8 #[] #[{ accessFlags := 1, nameIndex := 5, descriptorIndex := 6, attributes := #[] }] 33 0 #[] #[])
  fields := #[]
  methods := #[k0m0]
  instanceTypes := #[]
  staticTypes := #[]
  resolved := Array.replicate 124 none
  statics := none }

def pool1 : Array CpInfo := pool [(2, .class_ 4), (1, u "java/lang/Object"), (0, u "<init>"), (0, u "()V"), (0, .methodref 8 9), (0, .class_ 10), (0, .nameAndType 11 12), (0, u "com/example/humble_escaper/humbleescaper/PercentEscapesWriteOctetPinLaw"), (0, u "hex"), (0, u "(I)I"), (0, .methodref 14 15), (0, .class_ 16), (0, .nameAndType 17 18), (0, u "com/example/humble_escaper/humbleescaper/PercentEscapes"), (0, u "writeOctet"), (0, u "(B[BI)I"), (0, .methodref 8 20), (0, .nameAndType 21 22), (0, u "at"), (0, u "([BIIIIB)Z"), (3, u "law"), (0, u "(III)Z")] 4

def k1m0 : Method := { name := "<init>", desc := "()V", sig := { parameters := [], returnType := none }, accessFlags := 2, code := none }
def k1c1 : Code := { maxStack := 2, maxLocals := 1, code := method_2_code, exceptionTable := #[], attributes := #[] }
def k1m1 : Method := { name := "hex", desc := "(I)I", sig := { parameters := [.int], returnType := some .int }, accessFlags := 10, code := some k1c1 }
def k1c2 : Code := { maxStack := 3, maxLocals := 7, code := method_3_code, exceptionTable := #[], attributes := #[] }
def k1m2 : Method := { name := "at", desc := "([BIIIIB)Z", sig := { parameters := [(.array .byte), .int, .int, .int, .int, .byte], returnType := some .boolean }, accessFlags := 10, code := some k1c2 }
def k1c3 : Code := { maxStack := 6, maxLocals := 11, code := code, exceptionTable := #[], attributes := #[] }
def k1m3 : Method := { name := "law", desc := "(III)Z", sig := { parameters := [.int, .int, .int], returnType := some .boolean }, accessFlags := 9, code := some k1c3 }
/-- com/example/humble_escaper/humbleescaper/PercentEscapesWriteOctetPinLaw -/
def k1 : Class := { plain "com/example/humble_escaper/humbleescaper/PercentEscapesWriteOctetPinLaw" (some 0) with
  accessFlags := 49
  interfaces := #[]
  cf := some (fileOf pool1 8 #[] #[{ accessFlags := 2, nameIndex := 5, descriptorIndex := 6, attributes := #[] }, { accessFlags := 10, nameIndex := 11, descriptorIndex := 12, attributes := #[] }, { accessFlags := 10, nameIndex := 21, descriptorIndex := 22, attributes := #[] }, { accessFlags := 9, nameIndex := 26, descriptorIndex := 27, attributes := #[] }] 49 2 #[] #[])
  fields := #[]
  methods := #[k1m0, k1m1, k1m2, k1m3]
  instanceTypes := #[]
  staticTypes := #[]
  resolved := Array.replicate 32 none
  statics := none }

def pool2 : Array CpInfo := pool [(1, .class_ 2), (0, u "com/example/humble_escaper/humbleescaper/PercentEscapes"), (1, .class_ 6), (1, u "java/lang/Object"), (0, u "<init>"), (0, u "()V"), (63, u "HEX_VALUES"), (0, u "[B"), (2, u "UTF8_LEADS"), (0, u "[I"), (2, u "UTF8_STATES"), (0, .fieldref 1 82), (0, .nameAndType 83 73), (0, u "UPPER_HEX_DIGITS"), (7, u "writeOctet"), (0, u "(B[BI)I"), (20, u "MULTI_OCTET_SEQUENCES"), (0, u "[[I"), (10, .class_ 126), (0, u "com/example/humble_escaper/humbleescaper/PercentEscapes$1"), (3, u "UTF_8"), (0, u "Lcom/example/humble_escaper/humbleescaper/EscapeWriter;"), (12, u "MAX_UTF8_ESCAPE_LENGTH"), (0, u "I"), (2, u "MAX_UTF8_ESCAPE_LENGTH_PER_UNIT"), (1, u "LOW_SHIFT"), (1, u "HIGH_SHIFT"), (1, u "UTF8_WHOLE"), (1, u "STATE_LENGTH"), (1, u "UTF8_ILL_FORMED"), (0, u "UTF8_CONTINUING"), (1, u "UTF8_AFTER_LEAD")] 24

def k2m0 : Method := { name := "<init>", desc := "()V", sig := { parameters := [], returnType := none }, accessFlags := 2, code := none }
def k2c1 : Code := { maxStack := 5, maxLocals := 3, code := prog_23_method_15_code, exceptionTable := #[], attributes := #[] }
def k2m1 : Method := { name := "writeOctet", desc := "(B[BI)I", sig := { parameters := [.byte, (.array .byte), .int], returnType := some .int }, accessFlags := 8, code := some k2c1 }
/-- com/example/humble_escaper/humbleescaper/PercentEscapes -/
def k2 : Class := { plain "com/example/humble_escaper/humbleescaper/PercentEscapes" (some 0) with
  accessFlags := 48
  interfaces := #[]
  cf := some (fileOf pool2 1 #[.nestMembers #[125]] #[{ accessFlags := 2, nameIndex := 7, descriptorIndex := 8, attributes := #[] }, { accessFlags := 8, nameIndex := 91, descriptorIndex := 92, attributes := #[] }] 48 4 #[] #[{ accessFlags := 24, nameIndex := 144, descriptorIndex := 145, attributes := #[] }, { accessFlags := 24, nameIndex := 130, descriptorIndex := 131, attributes := #[] }, { accessFlags := 26, nameIndex := 83, descriptorIndex := 73, attributes := #[] }, { accessFlags := 26, nameIndex := 72, descriptorIndex := 73, attributes := #[] }, { accessFlags := 26, nameIndex := 148, descriptorIndex := 145, attributes := #[] }, { accessFlags := 26, nameIndex := 113, descriptorIndex := 114, attributes := #[] }, { accessFlags := 26, nameIndex := 150, descriptorIndex := 145, attributes := #[] }, { accessFlags := 26, nameIndex := 152, descriptorIndex := 145, attributes := #[] }, { accessFlags := 26, nameIndex := 76, descriptorIndex := 77, attributes := #[] }, { accessFlags := 24, nameIndex := 154, descriptorIndex := 145, attributes := #[] }, { accessFlags := 26, nameIndex := 156, descriptorIndex := 145, attributes := #[] }, { accessFlags := 26, nameIndex := 158, descriptorIndex := 145, attributes := #[] }, { accessFlags := 26, nameIndex := 159, descriptorIndex := 145, attributes := #[] }, { accessFlags := 26, nameIndex := 161, descriptorIndex := 145, attributes := #[] }, { accessFlags := 26, nameIndex := 80, descriptorIndex := 77, attributes := #[] }])
  fields := #[{ name := "MAX_UTF8_ESCAPE_LENGTH", type := .int, accessFlags := 24, slot := 0, constantValue := 0 }, { name := "UTF_8", type := (.object "com/example/humble_escaper/humbleescaper/EscapeWriter"), accessFlags := 24, slot := 1, constantValue := 0 }, { name := "UPPER_HEX_DIGITS", type := (.array .byte), accessFlags := 26, slot := 2, constantValue := 0 }, { name := "HEX_VALUES", type := (.array .byte), accessFlags := 26, slot := 3, constantValue := 0 }, { name := "MAX_UTF8_ESCAPE_LENGTH_PER_UNIT", type := .int, accessFlags := 26, slot := 4, constantValue := 0 }, { name := "MULTI_OCTET_SEQUENCES", type := (.array (.array .int)), accessFlags := 26, slot := 5, constantValue := 0 }, { name := "LOW_SHIFT", type := .int, accessFlags := 26, slot := 6, constantValue := 0 }, { name := "HIGH_SHIFT", type := .int, accessFlags := 26, slot := 7, constantValue := 0 }, { name := "UTF8_LEADS", type := (.array .int), accessFlags := 26, slot := 8, constantValue := 0 }, { name := "UTF8_WHOLE", type := .int, accessFlags := 24, slot := 9, constantValue := 0 }, { name := "STATE_LENGTH", type := .int, accessFlags := 26, slot := 10, constantValue := 0 }, { name := "UTF8_ILL_FORMED", type := .int, accessFlags := 26, slot := 11, constantValue := 0 }, { name := "UTF8_CONTINUING", type := .int, accessFlags := 26, slot := 12, constantValue := 0 }, { name := "UTF8_AFTER_LEAD", type := .int, accessFlags := 26, slot := 13, constantValue := 0 }, { name := "UTF8_STATES", type := (.array .int), accessFlags := 26, slot := 14, constantValue := 0 }]
  methods := #[k2m0, k2m1]
  instanceTypes := #[]
  staticTypes := #[.int, (.object "com/example/humble_escaper/humbleescaper/EscapeWriter"), (.array .byte), (.array .byte), .int, (.array (.array .int)), .int, .int, (.array .int), .int, .int, .int, .int, .int, (.array .int)]
  resolved := Array.replicate 186 none
  statics := some 0 }

def pool3 : Array CpInfo := pool [(1, u "java/lang/Cloneable"), (0, .class_ 1), (0, u "java/lang/Object"), (0, .class_ 3)] 3

/-- java/lang/Cloneable -/
def k3 : Class := { plain "java/lang/Cloneable" (some 0) with
  accessFlags := 1537
  interfaces := #[]
  cf := some (fileOf pool3 2 #[] #[] 1537 4 #[] #[])
  fields := #[]
  methods := #[]
  instanceTypes := #[]
  staticTypes := #[]
  resolved := Array.replicate 8 none
  statics := none }

def pool4 : Array CpInfo := pool [(1, u "java/io/Serializable"), (0, .class_ 1), (0, u "java/lang/Object"), (0, .class_ 3)] 3

/-- java/io/Serializable -/
def k4 : Class := { plain "java/io/Serializable" (some 0) with
  accessFlags := 1537
  interfaces := #[]
  cf := some (fileOf pool4 2 #[] #[] 1537 4 #[] #[])
  fields := #[]
  methods := #[]
  instanceTypes := #[]
  staticTypes := #[]
  resolved := Array.replicate 8 none
  statics := none }

/-- the primitive byte -/
def k5 : Class := { plain "byte" none with kind := .primitive 'B', accessFlags := 0x411 }
/-- [B -/
def k6 : Class := { plain "[B" (some 0) with kind := .array 5 .byte, interfaces := #[3, 4], accessFlags := 1041 }

def heap : Heap := #[{ cls := 2, slots := #[.int 0, .null, .ref 1, .null, .int 0, .null, .int 0, .int 0, .null, .int 0, .int 0, .int 0, .int 0, .int 0, .null], vm := .statics 2 },
  { cls := 6, slots := #[.int 48, .int 49, .int 50, .int 51, .int 52, .int 53, .int 54, .int 55, .int 56, .int 57, .int 65, .int 66, .int 67, .int 68, .int 69, .int 70], vm := .none }]
def classes : Array Class := #[k0, k1, k2, k3, k4, k5, k6]
def interned : List (Array UInt16 × Addr) := []
def slotsUsed : Nat := 31
def theMethod : MethodId := ⟨1, 3⟩
def args0 : Array Value := #[.int 5, .int 6, .int 7]
def aboutOver (below : List Frame) : State where
  vm := { classes := classes, interned := interned.toArray }
  heap := heap
  slotsUsed := slotsUsed
  threads := #[{ frames := .invoking theMethod args0 :: below }]
def below0 : List Frame := [.native { method := ⟨0, 0⟩, args := #[] }]
def about1 : State := aboutOver below0
def p0 : Program := .bare "" "" ""
def e0 : Env := launch0.env 0 0 0
theorem w_frames : about1.frames = Frame.invoking theMethod args0 :: below0 := rfl
set_option maxRecDepth 65536 in
theorem w_args : argsFit about1.vm theMethod args0 = true := by decide +kernel
set_option maxRecDepth 65536 in
theorem w_heap : heapFits about1 = true := by decide +kernel
set_option maxRecDepth 65536 in
theorem w_runnable : about1.curStatus? = some .runnable := by decide +kernel
set_option maxRecDepth 65536 in
theorem w_alone : about1.alone = true := by decide +kernel
set_option maxRecDepth 65536 in
theorem w_named : about1.methodNamed? x = some theMethod := by decide +kernel
set_option maxRecDepth 65536 in
theorem w_hears : about1.hears theMethod below0 = true := by decide +kernel
set_option maxRecDepth 65536 in
theorem w_ripe : about1.ripe theMethod args0 below0 = true := by decide +kernel
theorem w_running : about1.status = .running := rfl
set_option maxRecDepth 65536 in
theorem w_room : about1.hasRoom e0.platform room_1 = true :=
  launch0.hasRoom_least _ room_1 (by decide +kernel) (by decide +kernel) (by decide +kernel) (by decide +kernel) (by decide +kernel) (by decide +kernel)
theorem allAtoms_all (ts : List Jvm.Cond) (a : Array Jvm.Value) (st : Jvm.State) : (allAtoms ts).before a st = ts.all (fun c => c.before a st) := by
  induction ts with
  | nil => rfl
  | cons c t ih =>
    show (Jvm.Cond.and c (allAtoms t)).before a st = _
    rw [Jvm.Cond.before_and, ih, List.all_cons]
def words1 : List Jvm.Cond := Jvm.Cond.code x code maxLocals ret :: tables_1
/-- a 'code' word, met by the world's own term for the bytes: nothing is compared byte by byte -/
theorem code_word {y : MethodName} {bytes : ByteArray} {mx : Nat} {rt : Option FieldType} {a : Array Value} {s : State} {m : MethodId} {meth : Method} {c : Code} (h1 : s.methodNamed? y = some m) (h2 : s.vm.method? m = some meth) (h3 : meth.code = some c) (h4 : c.code = bytes)
    (h5 : (c.maxLocals == mx && c.exceptionTable.isEmpty && decide (c.maxStack ≤ mostOperands) && decide (meth.sig.returnType = rt) && !meth.locks && decide (parseMethodDescriptor y.desc = some meth.sig)) = true) : (Jvm.Cond.code y bytes mx rt).before a s = true := by
  simp only [Bool.and_eq_true, beq_iff_eq, Bool.not_eq_true', decide_eq_true_eq] at h5
  obtain ⟨⟨⟨⟨⟨g1, g2⟩, g3⟩, g4⟩, g5⟩, g6⟩ := h5
  simp [Cond.before, Cond.holds, Cond.value, h1, h2, h3, h4, g1, g2, g3, g4, g5, g6]
def isCode : Jvm.Cond → Bool
  | .code _ _ _ _ => true
  | _ => false
theorem all_split {L : List Jvm.Cond} {P : Jvm.Cond → Bool} (h1 : L.all (fun c => isCode c || P c) = true) (h2 : ∀ c ∈ L.filter isCode, P c = true) : L.all P = true := by
  refine List.all_eq_true.mpr fun c hc => ?_
  have h := List.all_eq_true.mp h1 c hc
  rcases Bool.eq_false_or_eq_true (isCode c) with hi | hi
  · exact h2 c (List.mem_filter.mpr ⟨hc, hi⟩)
  · simpa [hi] using h
set_option maxRecDepth 65536 in
theorem w_c0 : (Jvm.Cond.code x code maxLocals ret).before args0 about1 = true := code_word (m := ⟨1, 3⟩) (meth := k1m3) (c := k1c3) (by decide +kernel) rfl rfl rfl (by decide +kernel)
set_option maxRecDepth 65536 in
theorem w_c1 : (Jvm.Cond.code ({ cls := "com/example/humble_escaper/humbleescaper/PercentEscapes", name := "writeOctet", desc := "(B[BI)I" } : Jvm.MethodName) prog_23_method_15_code (3 : Nat) (Option.some Jvm.ClassFile.FieldType.int)).before args0 about1 = true := code_word (m := ⟨2, 1⟩) (meth := k2m1) (c := k2c1) (by decide +kernel) rfl rfl rfl (by decide +kernel)
set_option maxRecDepth 65536 in
theorem w_c2 : (Jvm.Cond.code ({ cls := "com/example/humble_escaper/humbleescaper/PercentEscapesWriteOctetPinLaw", name := "at", desc := "([BIIIIB)Z" } : Jvm.MethodName) method_3_code (7 : Nat) (Option.some Jvm.ClassFile.FieldType.boolean)).before args0 about1 = true := code_word (m := ⟨1, 2⟩) (meth := k1m2) (c := k1c2) (by decide +kernel) rfl rfl rfl (by decide +kernel)
set_option maxRecDepth 65536 in
theorem w_c3 : (Jvm.Cond.code ({ cls := "com/example/humble_escaper/humbleescaper/PercentEscapesWriteOctetPinLaw", name := "hex", desc := "(I)I" } : Jvm.MethodName) method_2_code (1 : Nat) (Option.some Jvm.ClassFile.FieldType.int)).before args0 about1 = true := code_word (m := ⟨1, 1⟩) (meth := k1m1) (c := k1c1) (by decide +kernel) rfl rfl rfl (by decide +kernel)
def codes1 : List Jvm.Cond := [Jvm.Cond.code x code maxLocals ret, Jvm.Cond.code ({ cls := "com/example/humble_escaper/humbleescaper/PercentEscapes", name := "writeOctet", desc := "(B[BI)I" } : Jvm.MethodName) prog_23_method_15_code (3 : Nat) (Option.some Jvm.ClassFile.FieldType.int), Jvm.Cond.code ({ cls := "com/example/humble_escaper/humbleescaper/PercentEscapesWriteOctetPinLaw", name := "at", desc := "([BIIIIB)Z" } : Jvm.MethodName) method_3_code (7 : Nat) (Option.some Jvm.ClassFile.FieldType.boolean), Jvm.Cond.code ({ cls := "com/example/humble_escaper/humbleescaper/PercentEscapesWriteOctetPinLaw", name := "hex", desc := "(I)I" } : Jvm.MethodName) method_2_code (1 : Nat) (Option.some Jvm.ClassFile.FieldType.int)]
set_option maxRecDepth 65536 in
theorem codes_eq : words1.filter isCode = codes1 := rfl
theorem w_codes : ∀ c ∈ words1.filter isCode, c.before args0 about1 = true := by
  rw [codes_eq]
  intro c hc
  simp only [codes1, List.mem_cons, List.not_mem_nil, or_false] at hc
  rcases hc with rfl | rfl | rfl | rfl
  · exact w_c0
  · exact w_c1
  · exact w_c2
  · exact w_c3
set_option maxRecDepth 65536 in
theorem w_t1 : words1.all (fun c => isCode c || c.before args0 about1) = true := by decide +kernel
theorem w_tables : (allAtoms (Jvm.Cond.code x code maxLocals ret :: tables_1)).before args0 about1 = true := by
  rw [allAtoms_all]
  show words1.all (fun c => c.before args0 about1) = true
  refine all_split ?_ w_codes
  rw [w_t1]
set_option maxRecDepth 65536 in
theorem w_case : (Jvm.Cond.and given_1 narrow_1).before args0 about1 = true := by decide +kernel
theorem w_applies : (headSpec (Jvm.Cond.code x code maxLocals ret :: tables_1) room_1).applies x e0.platform about1 = true :=
  (Spec.applies_iff w_frames).mpr ⟨w_running, w_runnable, w_alone, w_named, w_hears, w_ripe, w_room, w_tables⟩
theorem atStart : AtStart classFile x code maxLocals ret World_1 tables_1 room_1 Calls_1 rest_1 Pre_1 launch0 p0 e0 about1 theMethod args0 below0 :=
  ⟨lists_1, trivial, launch0.admits_env _ _ _, launch0.least_env, fairChoices_fair.cas, fairChoices_fair.clock, w_frames, w_args, w_heap, w_applies, trivial, trivial, w_case⟩
end start1
theorem witness_1 : WitnessClaimed_1 := ⟨start1.p0, start1.e0, start1.about1, start1.theMethod, start1.args0, start1.below0, start1.atStart⟩
end Jvm.Pilot.@@N@@
