import JvmDerived
import JvmDerived.Pilot.@@N@@Statement
import JvmDerived.Pilot.@@N@@Code
set_option linter.unusedVariables false
set_option linter.unusedSimpArgs false
namespace Jvm.RoadKit
open Sem ClassFile Op Lib Jvm.Stand Jvm.Free Jvm.LawKit
section New
variable {p : Program} {l : Launch} {e : Env} {R : Room} {s : State} {m : MethodId} {args : Array Value} {below : List Frame} {meth : Method} {c : Code} {T : State} {locs : List Loc} {cells slots : Nat}
theorem retI (X : Stand p l e R s m args below meth c T locs cells slots) (hx : p.tables.exec = Jvm.exec) {pc : Nat} {Ls : Array Slot} {z : Int32} {rest : List Value} (hret : meth.sig.returnType = some .int) (hd : decode c.code pc = .ok (.ireturn, 1)) {fs : List Frame}
    (hl : ∀ (f : JFrame) (acts : List Action), f.method = m → f.locked = none → f.entered = [] → (doReturn e (T.setTop f) acts (some (.int z))).1 = T.setFrames fs) : Steps p.tables e below (T.setTop (mkF m pc Ls (.int z :: rest))) (T.setFrames fs) := by
  have hm' : T.vm.method? m = some meth := X.method'
  have hn : narrow .int (.int z) = .int z := rfl
  show Steps p.tables e below (T.setTop { method := m, pc := pc, locals := Ls, stack := _ :: rest, locked := none }) _
  jvm_step X.here [X.here.top, hx, hd, hm', hret, hn]
  first | (intro acts; rw [hl _ acts rfl rfl rfl]) | rw [hl _ _ rfl rfl rfl]
  exact Steps.refl _
end New
end Jvm.RoadKit
namespace Jvm.Pilot.@@N@@
open Jvm Jvm.ClassFile Sem Op Lib Jvm.Free Jvm.Stand Jvm.LawKit Jvm.RoadKit Bundle Jvm.Pilot.@@N@@.Jvm.D
theorem d1_0 : decode prog_13_method_2_code 0 = .ok (.iload_n 1, 1) := by decide +kernel
theorem d1_1 : decode prog_13_method_2_code 1 = .ok (.iconst 2, 1) := by decide +kernel
theorem d1_2 : decode prog_13_method_2_code 2 = .ok (.if_icmp .lt 32, 3) := by decide +kernel
theorem d1_34 : decode prog_13_method_2_code 34 = .ok (.iconst 0, 1) := by decide +kernel
theorem d1_35 : decode prog_13_method_2_code 35 = .ok (.ireturn, 1) := by decide +kernel
theorem pn_1 : plainName "com/example/rowsmith/rowsmith/io/GzipInput" = true := by first | (simp [plainName, overriddenIn]; done) | decide +kernel
theorem ef_1 (m : MethodId) (x0 : Addr) (x1 : Int32) : entryFrame m #[(.ref x0), (.int x1)] 2 = mkF m 0 #[.val (.ref x0), .val (.int x1)] [] := by first | (simp [entryFrame, mkF, argsToLocals, Value.category]; done) | rfl
theorem d1_5 : decode prog_13_method_2_code 5 = .ok (.aload_n 0, 1) := by decide +kernel
theorem d1_6 : decode prog_13_method_2_code 6 = .ok (.iconst 0, 1) := by decide +kernel
theorem d1_7 : decode prog_13_method_2_code 7 = .ok (.baload, 1) := by decide +kernel
theorem d1_8 : decode prog_13_method_2_code 8 = .ok (.sipush 255, 3) := by decide +kernel
theorem d1_11 : decode prog_13_method_2_code 11 = .ok (.iand, 1) := by decide +kernel
theorem d1_12 : decode prog_13_method_2_code 12 = .ok (.bipush 31, 2) := by decide +kernel
theorem d1_14 : decode prog_13_method_2_code 14 = .ok (.if_icmp .ne 20, 3) := by decide +kernel
theorem d1_17 : decode prog_13_method_2_code 17 = .ok (.aload_n 0, 1) := by decide +kernel
theorem d1_18 : decode prog_13_method_2_code 18 = .ok (.iconst 1, 1) := by decide +kernel
theorem d1_19 : decode prog_13_method_2_code 19 = .ok (.baload, 1) := by decide +kernel
theorem d1_20 : decode prog_13_method_2_code 20 = .ok (.sipush 255, 3) := by decide +kernel
theorem d1_23 : decode prog_13_method_2_code 23 = .ok (.iand, 1) := by decide +kernel
theorem d1_24 : decode prog_13_method_2_code 24 = .ok (.sipush 139, 3) := by decide +kernel
theorem d1_27 : decode prog_13_method_2_code 27 = .ok (.if_icmp .ne 7, 3) := by decide +kernel
theorem d1_30 : decode prog_13_method_2_code 30 = .ok (.iconst 1, 1) := by decide +kernel
theorem d1_31 : decode prog_13_method_2_code 31 = .ok (.goto 4, 3) := by decide +kernel
def Q1 (r : Int32) (n0 : Nat) (h0 : Heap) (v : Option Value) (h : Heap) (L : List Loc) : Prop := v = some (.int r) ∧ Fr n0 L ∧ h = h0
set_option maxRecDepth 65536 in
set_option maxHeartbeats 40000000 in
theorem rm1_t (l : Launch) (Z : State) (a0 : Array Value) (hw : ∀ d ∈ tables_1, d.before a0 Z = true) (ws : List Jvm.Cond) (a1 : Addr) (p2 : Int32) (h0 : Heap) (n0 : Nat) (Z0 : n0 ≤ h0.size) (hc2 : p2 < (2 : Int32)) :
    MetFree l (⟨"com/example/rowsmith/rowsmith/io/GzipInput", "begins", "([BI)Z"⟩ : MethodName) (head1 (Jvm.Cond.code (⟨"com/example/rowsmith/rowsmith/io/GzipInput", "begins", "([BI)Z"⟩ : MethodName) prog_13_method_2_code 2 (some .boolean) :: ws) ({ frames := 0, cells := 0, slots := 0, locals := 0 } : Room)) (fun a U => a = #[(.ref a1), (.int p2)] ∧ Z.Warmed39 U.vm ∧ U.heap = h0) (fun _ _ _ _ _ => True) (fun _ U o U' => ∃ v L, o = .returned v ∧ Q1 (0 : Int32) n0 h0 v U'.heap L ∧ FrameEnd U o U' L ({ frames := 0, cells := 0, slots := 0, locals := 0 } : Room).cells ({ frames := 0, cells := 0, slots := 0, locals := 0 } : Room).slots) := by
  refine MetFree.of_bodySF (plainFor_of_name pn_1) hisR ?_
  intro p e s m args below meth c s₁ Bd hml0 hP hK
  obtain ⟨rfl, hZ, hh⟩ := hP
  have hx := Bd.exec
  have hby := Bd.bytes
  have hml : c.maxLocals = 2 := hml0
  have hown : s.vm.findClass "com/example/rowsmith/rowsmith/io/GzipInput" = some m.cls := findClass_of_methodNamed Bd.named
  have hnm := (name_of_methodNamed Bd.named Bd.method).1
  have X0 : Stand p l e ({ frames := 0, cells := 0, slots := 0, locals := 0 } : Room) s m #[(.ref a1), (.int p2)] below meth c s₁ [] 0 0 := Stand.of_body Bd
  have e0 : s₁.heap = h0 := by rw [← hh, Bd.state]; rfl
  have N0 := Fr.nil n0
  have pre0 : ∀ t, Steps p.tables e below (s₁.setTop (mkF m 0 #[.val (.ref a1), .val (.int p2)] [])) t → Steps p.tables e below (s₁.setTop (entryFrame m #[(.ref a1), (.int p2)] 2)) t := fun t k => castTop (ef_1 m a1 p2) k

  obtain ⟨fs, hr, hrun, hended, hW, hsame⟩ := X0.leave (v := some (.int (0 : Int32))) (fun h => by rw [Bd.returns] at h; cases h)
  refine ⟨_, _, pre0 _ ?_, hrun, hended, _, _, rfl, ?_, ⟨_, rfl⟩, hW, hsame.mono (by decide) (by decide)⟩
  · show Steps p.tables e below (s₁.setTop (mkF m 0 #[.val (.ref a1), .val (.int p2)] [])) _
    refine XS.iloadN X0.here hx rfl (hb hby d1_0) rfl ?_
    show Steps p.tables e below (s₁.setTop (mkF m 1 #[.val (.ref a1), .val (.int p2)] [(.int p2)])) _
    refine XS.iconst X0.here hx rfl (hb hby d1_1) ?_
    show Steps p.tables e below (s₁.setTop (mkF m 2 #[.val (.ref a1), .val (.int p2)] [(.int (2 : Int32)), (.int p2)])) _
    refine XS.icmpYes X0.here hx rfl (pc0 := 2) (pc' := 34) rfl (hb hby d1_2) rfl (tlt hc2).1 (by decide) (by decide) ?_
    show Steps p.tables e below (s₁.setTop (mkF m 34 #[.val (.ref a1), .val (.int p2)] [])) _
    refine XS.iconst X0.here hx rfl (hb hby d1_34) ?_
    show Steps p.tables e below (s₁.setTop (mkF m 35 #[.val (.ref a1), .val (.int p2)] [(.int (0 : Int32))])) _
    exact retN X0 hx (t := .boolean) Bd.returns (by simp) (hb hby d1_35) hr
  · show Q1 (0 : Int32) n0 h0 _ s₁.heap _
    rw [e0]
    exact ⟨rfl, N0, rfl⟩
set_option maxRecDepth 65536 in
set_option maxHeartbeats 40000000 in
theorem rm1_ft (l : Launch) (Z : State) (a0 : Array Value) (hw : ∀ d ∈ tables_1, d.before a0 Z = true) (ws : List Jvm.Cond) (a1 : Addr) (p2 : Int32) (w3 : Int32) (cl_a1 : Cell) (h0 : Heap) (n0 : Nat) (Z0 : n0 ≤ h0.size) (Ar_a1 : Arr Z h0 a1 cl_a1 .byte) (hin7 : ¬ ((0 : Int32) < 0 ∨ cl_a1.slots.size ≤ ((0 : Int32)).toNatClampNeg)) (hat7 : cl_a1.slots[((0 : Int32)).toNatClampNeg]? = some (.int w3)) (hc2 : ¬ (p2 < (2 : Int32))) (hc14 : ¬ ((w3 &&& (255 : Int32)) = (31 : Int32))) :
    MetFree l (⟨"com/example/rowsmith/rowsmith/io/GzipInput", "begins", "([BI)Z"⟩ : MethodName) (head1 (Jvm.Cond.code (⟨"com/example/rowsmith/rowsmith/io/GzipInput", "begins", "([BI)Z"⟩ : MethodName) prog_13_method_2_code 2 (some .boolean) :: ws) ({ frames := 0, cells := 0, slots := 0, locals := 0 } : Room)) (fun a U => a = #[(.ref a1), (.int p2)] ∧ Z.Warmed39 U.vm ∧ U.heap = h0) (fun _ _ _ _ _ => True) (fun _ U o U' => ∃ v L, o = .returned v ∧ Q1 (0 : Int32) n0 h0 v U'.heap L ∧ FrameEnd U o U' L ({ frames := 0, cells := 0, slots := 0, locals := 0 } : Room).cells ({ frames := 0, cells := 0, slots := 0, locals := 0 } : Room).slots) := by
  refine MetFree.of_bodySF (plainFor_of_name pn_1) hisR ?_
  intro p e s m args below meth c s₁ Bd hml0 hP hK
  obtain ⟨rfl, hZ, hh⟩ := hP
  have hx := Bd.exec
  have hby := Bd.bytes
  have hml : c.maxLocals = 2 := hml0
  have hown : s.vm.findClass "com/example/rowsmith/rowsmith/io/GzipInput" = some m.cls := findClass_of_methodNamed Bd.named
  have hnm := (name_of_methodNamed Bd.named Bd.method).1
  have X0 : Stand p l e ({ frames := 0, cells := 0, slots := 0, locals := 0 } : Room) s m #[(.ref a1), (.int p2)] below meth c s₁ [] 0 0 := Stand.of_body Bd
  have e0 : s₁.heap = h0 := by rw [← hh, Bd.state]; rfl
  have N0 := Fr.nil n0
  have pre0 : ∀ t, Steps p.tables e below (s₁.setTop (mkF m 0 #[.val (.ref a1), .val (.int p2)] [])) t → Steps p.tables e below (s₁.setTop (entryFrame m #[(.ref a1), (.int p2)] 2)) t := fun t k => castTop (ef_1 m a1 p2) k

  obtain ⟨fs, hr, hrun, hended, hW, hsame⟩ := X0.leave (v := some (.int (0 : Int32))) (fun h => by rw [Bd.returns] at h; cases h)
  refine ⟨_, _, pre0 _ ?_, hrun, hended, _, _, rfl, ?_, ⟨_, rfl⟩, hW, hsame.mono (by decide) (by decide)⟩
  · show Steps p.tables e below (s₁.setTop (mkF m 0 #[.val (.ref a1), .val (.int p2)] [])) _
    refine XS.iloadN X0.here hx rfl (hb hby d1_0) rfl ?_
    show Steps p.tables e below (s₁.setTop (mkF m 1 #[.val (.ref a1), .val (.int p2)] [(.int p2)])) _
    refine XS.iconst X0.here hx rfl (hb hby d1_1) ?_
    show Steps p.tables e below (s₁.setTop (mkF m 2 #[.val (.ref a1), .val (.int p2)] [(.int (2 : Int32)), (.int p2)])) _
    refine XS.icmpNo X0.here hx rfl (hb hby d1_2) rfl (flt hc2).1 ?_
    show Steps p.tables e below (s₁.setTop (mkF m 5 #[.val (.ref a1), .val (.int p2)] [])) _
    refine XS.aloadN X0.here hx rfl (hb hby d1_5) rfl rfl ?_
    show Steps p.tables e below (s₁.setTop (mkF m 6 #[.val (.ref a1), .val (.int p2)] [(.ref a1)])) _
    refine XS.iconst X0.here hx rfl (hb hby d1_6) ?_
    show Steps p.tables e below (s₁.setTop (mkF m 7 #[.val (.ref a1), .val (.int p2)] [(.int (0 : Int32)), (.ref a1)])) _
    refine X0.baloadBytes hx (j := (0 : Int32)) (v := (.int w3)) (by rw [e0]; exact Ar_a1.1) (State.isArrayOf_alike hZ.alike Ar_a1.2.1) Ar_a1.2.2 hin7 hat7 (g := (mkF m 7 #[.val (.ref a1), .val (.int p2)] [(.int (0 : Int32)), (.ref a1)])) rfl rfl (hb hby d1_7) _ ?_
    show Steps p.tables e below (s₁.setTop (mkF m 8 #[.val (.ref a1), .val (.int p2)] [(.int w3)])) _
    refine XS.sipush X0.here hx rfl (hb hby d1_8) ?_
    show Steps p.tables e below (s₁.setTop (mkF m 11 #[.val (.ref a1), .val (.int p2)] [(.int (255 : Int32)), (.int w3)])) _
    refine XS.iand X0.here hx rfl (hb hby d1_11) rfl ?_
    show Steps p.tables e below (s₁.setTop (mkF m 12 #[.val (.ref a1), .val (.int p2)] [(.int (w3 &&& (255 : Int32)))])) _
    refine XS.bipush X0.here hx rfl (hb hby d1_12) ?_
    show Steps p.tables e below (s₁.setTop (mkF m 14 #[.val (.ref a1), .val (.int p2)] [(.int (31 : Int32)), (.int (w3 &&& (255 : Int32)))])) _
    refine XS.icmpYes X0.here hx rfl (pc0 := 14) (pc' := 34) rfl (hb hby d1_14) rfl (feq hc14).2 (by decide) (by decide) ?_
    show Steps p.tables e below (s₁.setTop (mkF m 34 #[.val (.ref a1), .val (.int p2)] [])) _
    refine XS.iconst X0.here hx rfl (hb hby d1_34) ?_
    show Steps p.tables e below (s₁.setTop (mkF m 35 #[.val (.ref a1), .val (.int p2)] [(.int (0 : Int32))])) _
    exact retN X0 hx (t := .boolean) Bd.returns (by simp) (hb hby d1_35) hr
  · show Q1 (0 : Int32) n0 h0 _ s₁.heap _
    rw [e0]
    exact ⟨rfl, N0, rfl⟩
set_option maxRecDepth 65536 in
set_option maxHeartbeats 40000000 in
theorem rm1_fft (l : Launch) (Z : State) (a0 : Array Value) (hw : ∀ d ∈ tables_1, d.before a0 Z = true) (ws : List Jvm.Cond) (a1 : Addr) (p2 : Int32) (w3 : Int32) (cl_a1 : Cell) (w4 : Int32) (h0 : Heap) (n0 : Nat) (Z0 : n0 ≤ h0.size) (Ar_a1 : Arr Z h0 a1 cl_a1 .byte) (hin7 : ¬ ((0 : Int32) < 0 ∨ cl_a1.slots.size ≤ ((0 : Int32)).toNatClampNeg)) (hat7 : cl_a1.slots[((0 : Int32)).toNatClampNeg]? = some (.int w3)) (hin19 : ¬ ((1 : Int32) < 0 ∨ cl_a1.slots.size ≤ ((1 : Int32)).toNatClampNeg)) (hat19 : cl_a1.slots[((1 : Int32)).toNatClampNeg]? = some (.int w4)) (hc2 : ¬ (p2 < (2 : Int32))) (hc14 : (w3 &&& (255 : Int32)) = (31 : Int32)) (hc27 : ¬ ((w4 &&& (255 : Int32)) = (139 : Int32))) :
    MetFree l (⟨"com/example/rowsmith/rowsmith/io/GzipInput", "begins", "([BI)Z"⟩ : MethodName) (head1 (Jvm.Cond.code (⟨"com/example/rowsmith/rowsmith/io/GzipInput", "begins", "([BI)Z"⟩ : MethodName) prog_13_method_2_code 2 (some .boolean) :: ws) ({ frames := 0, cells := 0, slots := 0, locals := 0 } : Room)) (fun a U => a = #[(.ref a1), (.int p2)] ∧ Z.Warmed39 U.vm ∧ U.heap = h0) (fun _ _ _ _ _ => True) (fun _ U o U' => ∃ v L, o = .returned v ∧ Q1 (0 : Int32) n0 h0 v U'.heap L ∧ FrameEnd U o U' L ({ frames := 0, cells := 0, slots := 0, locals := 0 } : Room).cells ({ frames := 0, cells := 0, slots := 0, locals := 0 } : Room).slots) := by
  refine MetFree.of_bodySF (plainFor_of_name pn_1) hisR ?_
  intro p e s m args below meth c s₁ Bd hml0 hP hK
  obtain ⟨rfl, hZ, hh⟩ := hP
  have hx := Bd.exec
  have hby := Bd.bytes
  have hml : c.maxLocals = 2 := hml0
  have hown : s.vm.findClass "com/example/rowsmith/rowsmith/io/GzipInput" = some m.cls := findClass_of_methodNamed Bd.named
  have hnm := (name_of_methodNamed Bd.named Bd.method).1
  have X0 : Stand p l e ({ frames := 0, cells := 0, slots := 0, locals := 0 } : Room) s m #[(.ref a1), (.int p2)] below meth c s₁ [] 0 0 := Stand.of_body Bd
  have e0 : s₁.heap = h0 := by rw [← hh, Bd.state]; rfl
  have N0 := Fr.nil n0
  have pre0 : ∀ t, Steps p.tables e below (s₁.setTop (mkF m 0 #[.val (.ref a1), .val (.int p2)] [])) t → Steps p.tables e below (s₁.setTop (entryFrame m #[(.ref a1), (.int p2)] 2)) t := fun t k => castTop (ef_1 m a1 p2) k

  obtain ⟨fs, hr, hrun, hended, hW, hsame⟩ := X0.leave (v := some (.int (0 : Int32))) (fun h => by rw [Bd.returns] at h; cases h)
  refine ⟨_, _, pre0 _ ?_, hrun, hended, _, _, rfl, ?_, ⟨_, rfl⟩, hW, hsame.mono (by decide) (by decide)⟩
  · show Steps p.tables e below (s₁.setTop (mkF m 0 #[.val (.ref a1), .val (.int p2)] [])) _
    refine XS.iloadN X0.here hx rfl (hb hby d1_0) rfl ?_
    show Steps p.tables e below (s₁.setTop (mkF m 1 #[.val (.ref a1), .val (.int p2)] [(.int p2)])) _
    refine XS.iconst X0.here hx rfl (hb hby d1_1) ?_
    show Steps p.tables e below (s₁.setTop (mkF m 2 #[.val (.ref a1), .val (.int p2)] [(.int (2 : Int32)), (.int p2)])) _
    refine XS.icmpNo X0.here hx rfl (hb hby d1_2) rfl (flt hc2).1 ?_
    show Steps p.tables e below (s₁.setTop (mkF m 5 #[.val (.ref a1), .val (.int p2)] [])) _
    refine XS.aloadN X0.here hx rfl (hb hby d1_5) rfl rfl ?_
    show Steps p.tables e below (s₁.setTop (mkF m 6 #[.val (.ref a1), .val (.int p2)] [(.ref a1)])) _
    refine XS.iconst X0.here hx rfl (hb hby d1_6) ?_
    show Steps p.tables e below (s₁.setTop (mkF m 7 #[.val (.ref a1), .val (.int p2)] [(.int (0 : Int32)), (.ref a1)])) _
    refine X0.baloadBytes hx (j := (0 : Int32)) (v := (.int w3)) (by rw [e0]; exact Ar_a1.1) (State.isArrayOf_alike hZ.alike Ar_a1.2.1) Ar_a1.2.2 hin7 hat7 (g := (mkF m 7 #[.val (.ref a1), .val (.int p2)] [(.int (0 : Int32)), (.ref a1)])) rfl rfl (hb hby d1_7) _ ?_
    show Steps p.tables e below (s₁.setTop (mkF m 8 #[.val (.ref a1), .val (.int p2)] [(.int w3)])) _
    refine XS.sipush X0.here hx rfl (hb hby d1_8) ?_
    show Steps p.tables e below (s₁.setTop (mkF m 11 #[.val (.ref a1), .val (.int p2)] [(.int (255 : Int32)), (.int w3)])) _
    refine XS.iand X0.here hx rfl (hb hby d1_11) rfl ?_
    show Steps p.tables e below (s₁.setTop (mkF m 12 #[.val (.ref a1), .val (.int p2)] [(.int (w3 &&& (255 : Int32)))])) _
    refine XS.bipush X0.here hx rfl (hb hby d1_12) ?_
    show Steps p.tables e below (s₁.setTop (mkF m 14 #[.val (.ref a1), .val (.int p2)] [(.int (31 : Int32)), (.int (w3 &&& (255 : Int32)))])) _
    refine XS.icmpNo X0.here hx rfl (hb hby d1_14) rfl (teq hc14).2 ?_
    show Steps p.tables e below (s₁.setTop (mkF m 17 #[.val (.ref a1), .val (.int p2)] [])) _
    refine XS.aloadN X0.here hx rfl (hb hby d1_17) rfl rfl ?_
    show Steps p.tables e below (s₁.setTop (mkF m 18 #[.val (.ref a1), .val (.int p2)] [(.ref a1)])) _
    refine XS.iconst X0.here hx rfl (hb hby d1_18) ?_
    show Steps p.tables e below (s₁.setTop (mkF m 19 #[.val (.ref a1), .val (.int p2)] [(.int (1 : Int32)), (.ref a1)])) _
    refine X0.baloadBytes hx (j := (1 : Int32)) (v := (.int w4)) (by rw [e0]; exact Ar_a1.1) (State.isArrayOf_alike hZ.alike Ar_a1.2.1) Ar_a1.2.2 hin19 hat19 (g := (mkF m 19 #[.val (.ref a1), .val (.int p2)] [(.int (1 : Int32)), (.ref a1)])) rfl rfl (hb hby d1_19) _ ?_
    show Steps p.tables e below (s₁.setTop (mkF m 20 #[.val (.ref a1), .val (.int p2)] [(.int w4)])) _
    refine XS.sipush X0.here hx rfl (hb hby d1_20) ?_
    show Steps p.tables e below (s₁.setTop (mkF m 23 #[.val (.ref a1), .val (.int p2)] [(.int (255 : Int32)), (.int w4)])) _
    refine XS.iand X0.here hx rfl (hb hby d1_23) rfl ?_
    show Steps p.tables e below (s₁.setTop (mkF m 24 #[.val (.ref a1), .val (.int p2)] [(.int (w4 &&& (255 : Int32)))])) _
    refine XS.sipush X0.here hx rfl (hb hby d1_24) ?_
    show Steps p.tables e below (s₁.setTop (mkF m 27 #[.val (.ref a1), .val (.int p2)] [(.int (139 : Int32)), (.int (w4 &&& (255 : Int32)))])) _
    refine XS.icmpYes X0.here hx rfl (pc0 := 27) (pc' := 34) rfl (hb hby d1_27) rfl (feq hc27).2 (by decide) (by decide) ?_
    show Steps p.tables e below (s₁.setTop (mkF m 34 #[.val (.ref a1), .val (.int p2)] [])) _
    refine XS.iconst X0.here hx rfl (hb hby d1_34) ?_
    show Steps p.tables e below (s₁.setTop (mkF m 35 #[.val (.ref a1), .val (.int p2)] [(.int (0 : Int32))])) _
    exact retN X0 hx (t := .boolean) Bd.returns (by simp) (hb hby d1_35) hr
  · show Q1 (0 : Int32) n0 h0 _ s₁.heap _
    rw [e0]
    exact ⟨rfl, N0, rfl⟩
set_option maxRecDepth 65536 in
set_option maxHeartbeats 40000000 in
theorem rm1_fff (l : Launch) (Z : State) (a0 : Array Value) (hw : ∀ d ∈ tables_1, d.before a0 Z = true) (ws : List Jvm.Cond) (a1 : Addr) (p2 : Int32) (w3 : Int32) (cl_a1 : Cell) (w4 : Int32) (h0 : Heap) (n0 : Nat) (Z0 : n0 ≤ h0.size) (Ar_a1 : Arr Z h0 a1 cl_a1 .byte) (hin7 : ¬ ((0 : Int32) < 0 ∨ cl_a1.slots.size ≤ ((0 : Int32)).toNatClampNeg)) (hat7 : cl_a1.slots[((0 : Int32)).toNatClampNeg]? = some (.int w3)) (hin19 : ¬ ((1 : Int32) < 0 ∨ cl_a1.slots.size ≤ ((1 : Int32)).toNatClampNeg)) (hat19 : cl_a1.slots[((1 : Int32)).toNatClampNeg]? = some (.int w4)) (hc2 : ¬ (p2 < (2 : Int32))) (hc14 : (w3 &&& (255 : Int32)) = (31 : Int32)) (hc27 : (w4 &&& (255 : Int32)) = (139 : Int32)) :
    MetFree l (⟨"com/example/rowsmith/rowsmith/io/GzipInput", "begins", "([BI)Z"⟩ : MethodName) (head1 (Jvm.Cond.code (⟨"com/example/rowsmith/rowsmith/io/GzipInput", "begins", "([BI)Z"⟩ : MethodName) prog_13_method_2_code 2 (some .boolean) :: ws) ({ frames := 0, cells := 0, slots := 0, locals := 0 } : Room)) (fun a U => a = #[(.ref a1), (.int p2)] ∧ Z.Warmed39 U.vm ∧ U.heap = h0) (fun _ _ _ _ _ => True) (fun _ U o U' => ∃ v L, o = .returned v ∧ Q1 (1 : Int32) n0 h0 v U'.heap L ∧ FrameEnd U o U' L ({ frames := 0, cells := 0, slots := 0, locals := 0 } : Room).cells ({ frames := 0, cells := 0, slots := 0, locals := 0 } : Room).slots) := by
  refine MetFree.of_bodySF (plainFor_of_name pn_1) hisR ?_
  intro p e s m args below meth c s₁ Bd hml0 hP hK
  obtain ⟨rfl, hZ, hh⟩ := hP
  have hx := Bd.exec
  have hby := Bd.bytes
  have hml : c.maxLocals = 2 := hml0
  have hown : s.vm.findClass "com/example/rowsmith/rowsmith/io/GzipInput" = some m.cls := findClass_of_methodNamed Bd.named
  have hnm := (name_of_methodNamed Bd.named Bd.method).1
  have X0 : Stand p l e ({ frames := 0, cells := 0, slots := 0, locals := 0 } : Room) s m #[(.ref a1), (.int p2)] below meth c s₁ [] 0 0 := Stand.of_body Bd
  have e0 : s₁.heap = h0 := by rw [← hh, Bd.state]; rfl
  have N0 := Fr.nil n0
  have pre0 : ∀ t, Steps p.tables e below (s₁.setTop (mkF m 0 #[.val (.ref a1), .val (.int p2)] [])) t → Steps p.tables e below (s₁.setTop (entryFrame m #[(.ref a1), (.int p2)] 2)) t := fun t k => castTop (ef_1 m a1 p2) k

  obtain ⟨fs, hr, hrun, hended, hW, hsame⟩ := X0.leave (v := some (.int (1 : Int32))) (fun h => by rw [Bd.returns] at h; cases h)
  refine ⟨_, _, pre0 _ ?_, hrun, hended, _, _, rfl, ?_, ⟨_, rfl⟩, hW, hsame.mono (by decide) (by decide)⟩
  · show Steps p.tables e below (s₁.setTop (mkF m 0 #[.val (.ref a1), .val (.int p2)] [])) _
    refine XS.iloadN X0.here hx rfl (hb hby d1_0) rfl ?_
    show Steps p.tables e below (s₁.setTop (mkF m 1 #[.val (.ref a1), .val (.int p2)] [(.int p2)])) _
    refine XS.iconst X0.here hx rfl (hb hby d1_1) ?_
    show Steps p.tables e below (s₁.setTop (mkF m 2 #[.val (.ref a1), .val (.int p2)] [(.int (2 : Int32)), (.int p2)])) _
    refine XS.icmpNo X0.here hx rfl (hb hby d1_2) rfl (flt hc2).1 ?_
    show Steps p.tables e below (s₁.setTop (mkF m 5 #[.val (.ref a1), .val (.int p2)] [])) _
    refine XS.aloadN X0.here hx rfl (hb hby d1_5) rfl rfl ?_
    show Steps p.tables e below (s₁.setTop (mkF m 6 #[.val (.ref a1), .val (.int p2)] [(.ref a1)])) _
    refine XS.iconst X0.here hx rfl (hb hby d1_6) ?_
    show Steps p.tables e below (s₁.setTop (mkF m 7 #[.val (.ref a1), .val (.int p2)] [(.int (0 : Int32)), (.ref a1)])) _
    refine X0.baloadBytes hx (j := (0 : Int32)) (v := (.int w3)) (by rw [e0]; exact Ar_a1.1) (State.isArrayOf_alike hZ.alike Ar_a1.2.1) Ar_a1.2.2 hin7 hat7 (g := (mkF m 7 #[.val (.ref a1), .val (.int p2)] [(.int (0 : Int32)), (.ref a1)])) rfl rfl (hb hby d1_7) _ ?_
    show Steps p.tables e below (s₁.setTop (mkF m 8 #[.val (.ref a1), .val (.int p2)] [(.int w3)])) _
    refine XS.sipush X0.here hx rfl (hb hby d1_8) ?_
    show Steps p.tables e below (s₁.setTop (mkF m 11 #[.val (.ref a1), .val (.int p2)] [(.int (255 : Int32)), (.int w3)])) _
    refine XS.iand X0.here hx rfl (hb hby d1_11) rfl ?_
    show Steps p.tables e below (s₁.setTop (mkF m 12 #[.val (.ref a1), .val (.int p2)] [(.int (w3 &&& (255 : Int32)))])) _
    refine XS.bipush X0.here hx rfl (hb hby d1_12) ?_
    show Steps p.tables e below (s₁.setTop (mkF m 14 #[.val (.ref a1), .val (.int p2)] [(.int (31 : Int32)), (.int (w3 &&& (255 : Int32)))])) _
    refine XS.icmpNo X0.here hx rfl (hb hby d1_14) rfl (teq hc14).2 ?_
    show Steps p.tables e below (s₁.setTop (mkF m 17 #[.val (.ref a1), .val (.int p2)] [])) _
    refine XS.aloadN X0.here hx rfl (hb hby d1_17) rfl rfl ?_
    show Steps p.tables e below (s₁.setTop (mkF m 18 #[.val (.ref a1), .val (.int p2)] [(.ref a1)])) _
    refine XS.iconst X0.here hx rfl (hb hby d1_18) ?_
    show Steps p.tables e below (s₁.setTop (mkF m 19 #[.val (.ref a1), .val (.int p2)] [(.int (1 : Int32)), (.ref a1)])) _
    refine X0.baloadBytes hx (j := (1 : Int32)) (v := (.int w4)) (by rw [e0]; exact Ar_a1.1) (State.isArrayOf_alike hZ.alike Ar_a1.2.1) Ar_a1.2.2 hin19 hat19 (g := (mkF m 19 #[.val (.ref a1), .val (.int p2)] [(.int (1 : Int32)), (.ref a1)])) rfl rfl (hb hby d1_19) _ ?_
    show Steps p.tables e below (s₁.setTop (mkF m 20 #[.val (.ref a1), .val (.int p2)] [(.int w4)])) _
    refine XS.sipush X0.here hx rfl (hb hby d1_20) ?_
    show Steps p.tables e below (s₁.setTop (mkF m 23 #[.val (.ref a1), .val (.int p2)] [(.int (255 : Int32)), (.int w4)])) _
    refine XS.iand X0.here hx rfl (hb hby d1_23) rfl ?_
    show Steps p.tables e below (s₁.setTop (mkF m 24 #[.val (.ref a1), .val (.int p2)] [(.int (w4 &&& (255 : Int32)))])) _
    refine XS.sipush X0.here hx rfl (hb hby d1_24) ?_
    show Steps p.tables e below (s₁.setTop (mkF m 27 #[.val (.ref a1), .val (.int p2)] [(.int (139 : Int32)), (.int (w4 &&& (255 : Int32)))])) _
    refine XS.icmpNo X0.here hx rfl (hb hby d1_27) rfl (teq hc27).2 ?_
    show Steps p.tables e below (s₁.setTop (mkF m 30 #[.val (.ref a1), .val (.int p2)] [])) _
    refine XS.iconst X0.here hx rfl (hb hby d1_30) ?_
    show Steps p.tables e below (s₁.setTop (mkF m 31 #[.val (.ref a1), .val (.int p2)] [(.int (1 : Int32))])) _
    refine XS.goto X0.here hx rfl (pc0 := 31) (pc' := 35) rfl (hb hby d1_31) (by decide) (by decide) ?_
    show Steps p.tables e below (s₁.setTop (mkF m 35 #[.val (.ref a1), .val (.int p2)] [(.int (1 : Int32))])) _
    exact retN X0 hx (t := .boolean) Bd.returns (by simp) (hb hby d1_35) hr
  · show Q1 (1 : Int32) n0 h0 _ s₁.heap _
    rw [e0]
    exact ⟨rfl, N0, rfl⟩
def own_f1 (a1 : Addr) (p2 : Int32) (w3 : Int32) (cl_a1 : Cell) (w4 : Int32) : Int32 := (if p2 < (2 : Int32) then (0 : Int32) else (if (w3 &&& (255 : Int32)) = (31 : Int32) then (if (w4 &&& (255 : Int32)) = (139 : Int32) then (1 : Int32) else (0 : Int32)) else (0 : Int32)))
set_option maxRecDepth 65536 in
theorem rm1 (l : Launch) (Z : State) (a0 : Array Value) (hw : ∀ d ∈ tables_1, d.before a0 Z = true) (ws : List Jvm.Cond) (a1 : Addr) (p2 : Int32) (w3 : Int32) (cl_a1 : Cell) (w4 : Int32) (h0 : Heap) (n0 : Nat) (Z0 : n0 ≤ h0.size) (Ar_a1 : Arr Z h0 a1 cl_a1 .byte) (hin7 : ¬ ((0 : Int32) < 0 ∨ cl_a1.slots.size ≤ ((0 : Int32)).toNatClampNeg)) (hat7 : cl_a1.slots[((0 : Int32)).toNatClampNeg]? = some (.int w3)) (hin19 : ¬ ((1 : Int32) < 0 ∨ cl_a1.slots.size ≤ ((1 : Int32)).toNatClampNeg)) (hat19 : cl_a1.slots[((1 : Int32)).toNatClampNeg]? = some (.int w4)) :
    MetFree l (⟨"com/example/rowsmith/rowsmith/io/GzipInput", "begins", "([BI)Z"⟩ : MethodName) (head1 (Jvm.Cond.code (⟨"com/example/rowsmith/rowsmith/io/GzipInput", "begins", "([BI)Z"⟩ : MethodName) prog_13_method_2_code 2 (some .boolean) :: ws) ({ frames := 0, cells := 0, slots := 0, locals := 0 } : Room)) (fun a U => a = #[(.ref a1), (.int p2)] ∧ Z.Warmed39 U.vm ∧ U.heap = h0) (fun _ _ _ _ _ => True) (fun _ U o U' => ∃ v L, o = .returned v ∧ Q1 (own_f1 a1 p2 w3 cl_a1 w4) n0 h0 v U'.heap L ∧ FrameEnd U o U' L ({ frames := 0, cells := 0, slots := 0, locals := 0 } : Room).cells ({ frames := 0, cells := 0, slots := 0, locals := 0 } : Room).slots) := by
  by_cases hc2 : p2 < (2 : Int32)
  · rw [show own_f1 a1 p2 w3 cl_a1 w4 = (0 : Int32) from by rw [own_f1, if_pos hc2]]
    exact rm1_t l Z a0 hw ws a1 p2 h0 n0 Z0 hc2
  · by_cases hc14 : (w3 &&& (255 : Int32)) = (31 : Int32)
    · by_cases hc27 : (w4 &&& (255 : Int32)) = (139 : Int32)
      · rw [show own_f1 a1 p2 w3 cl_a1 w4 = (1 : Int32) from by rw [own_f1, if_neg hc2, if_pos hc14, if_pos hc27]]
        exact rm1_fff l Z a0 hw ws a1 p2 w3 cl_a1 w4 h0 n0 Z0 Ar_a1 hin7 hat7 hin19 hat19 hc2 hc14 hc27
      · rw [show own_f1 a1 p2 w3 cl_a1 w4 = (0 : Int32) from by rw [own_f1, if_neg hc2, if_pos hc14, if_neg hc27]]
        exact rm1_fft l Z a0 hw ws a1 p2 w3 cl_a1 w4 h0 n0 Z0 Ar_a1 hin7 hat7 hin19 hat19 hc2 hc14 hc27
    · rw [show own_f1 a1 p2 w3 cl_a1 w4 = (0 : Int32) from by rw [own_f1, if_neg hc2, if_neg hc14]]
      exact rm1_ft l Z a0 hw ws a1 p2 w3 cl_a1 h0 n0 Z0 Ar_a1 hin7 hat7 hc2 hc14
theorem os0_14_0_t {z0 : Value} {s1 : Slot} {s2 : Slot} {s3 : Slot} {z4 : Value} {s5 : Slot} {s6 : Slot} {s7 : Slot} {s8 : Slot} {s9 : Slot} {s10 : Slot} {v : Int32} (h : One s5) : storeLocals #[.val z0, s1, s2, s3, .val z4, s5, s6, s7, s8, s9, s10] 5 (.int v) = some #[.val z0, s1, s2, s3, .val z4, .val (.int v), s6, s7, s8, s9, s10] := by
  rcases h with rfl | ⟨w, rfl, hw⟩
  · rfl
  · cases w <;> first | rfl | (simp [Value.category] at hw)
set_option maxRecDepth 65536 in
set_option maxHeartbeats 40000000 in
theorem tn0_0_16_t {p : Program} {l : Launch} {e : Env} {R : Room} {s : State} {m : MethodId} {args : Array Value} {below : List Frame} {meth : Method} {c : Code} {T0 : State} {locs : List Loc} {cells slots : Nat} {Z : State} {a0 : Array Value} {h0 : Heap} (i0 : Int32) (s1 : Slot) (s2 : Slot) (s3 : Slot) (i4 : Int32) (s5 : Slot) (s6 : Slot) (s7 : Slot) (s8 : Slot) (s9 : Slot) (s10 : Slot)
    (X0 : Stand p l e R s m args below meth c T0 locs cells slots) (hx : p.tables.exec = Jvm.exec) (hZ : Z.Warmed39 s.vm) (hw : ∀ d ∈ tables_1, d.before a0 Z = true) (hby : c.code = code) (hml : c.maxLocals = 11) (hown : s.vm.findClass "com/example/rowsmith/rowsmith/io/GzipInputBeginsPinLaw" = some m.cls) (e0 : T0.heap = h0) (hs5 : One s5) (hc4 : (i4 &&& (1 : Int32)) = (0 : Int32)) :
    ∃ (T' : State), Stand p l e R s m args below meth c T' locs cells slots ∧ T'.heap = h0 ∧
      ∀ target, Steps p.tables e below (T'.setTop (mkF m 16 #[.val (.int i0), s1, s2, s3, .val (.int i4), .val (.int (i0.toInt8.toInt32)), s6, s7, s8, s9, s10] [])) target → Steps p.tables e below (T0.setTop (mkF m 0 #[.val (.int i0), s1, s2, s3, .val (.int i4), s5, s6, s7, s8, s9, s10] [])) target := by

  refine ⟨T0, X0, e0, fun target kt => ?_⟩
  show Steps p.tables e below (T0.setTop (mkF m 0 #[.val (.int i0), s1, s2, s3, .val (.int i4), s5, s6, s7, s8, s9, s10] [])) _
  refine XS.iload X0.here hx rfl (hb hby at_0) rfl ?_
  show Steps p.tables e below (T0.setTop (mkF m 2 #[.val (.int i0), s1, s2, s3, .val (.int i4), s5, s6, s7, s8, s9, s10] [(.int i4)])) _
  refine XS.iconst X0.here hx rfl (hb hby at_2) ?_
  show Steps p.tables e below (T0.setTop (mkF m 3 #[.val (.int i0), s1, s2, s3, .val (.int i4), s5, s6, s7, s8, s9, s10] [(.int (1 : Int32)), (.int i4)])) _
  refine XS.iand X0.here hx rfl (hb hby at_3) rfl ?_
  show Steps p.tables e below (T0.setTop (mkF m 4 #[.val (.int i0), s1, s2, s3, .val (.int i4), s5, s6, s7, s8, s9, s10] [(.int (i4 &&& (1 : Int32)))])) _
  refine XS.ifYes X0.here hx rfl (pc0 := 4) (pc' := 12) rfl (hb hby at_4) rfl ((if0 _ _).trans (teq hc4).1) (by decide) (by decide) ?_
  show Steps p.tables e below (T0.setTop (mkF m 12 #[.val (.int i0), s1, s2, s3, .val (.int i4), s5, s6, s7, s8, s9, s10] [])) _
  refine XS.iloadN X0.here hx rfl (hb hby at_12) rfl ?_
  show Steps p.tables e below (T0.setTop (mkF m 13 #[.val (.int i0), s1, s2, s3, .val (.int i4), s5, s6, s7, s8, s9, s10] [(.int i0)])) _
  refine XS.i2b X0.here hx rfl (hb hby at_13) rfl ?_
  show Steps p.tables e below (T0.setTop (mkF m 14 #[.val (.int i0), s1, s2, s3, .val (.int i4), s5, s6, s7, s8, s9, s10] [(.int (i0.toInt8.toInt32))])) _
  refine XS.istore X0.here hx rfl (hb hby at_14) rfl (l' := #[.val (.int i0), s1, s2, s3, .val (.int i4), .val (.int (i0.toInt8.toInt32)), s6, s7, s8, s9, s10]) (os0_14_0_t hs5) ?_
  exact kt
theorem os0_14_0_f {s0 : Slot} {s1 : Slot} {s2 : Slot} {s3 : Slot} {z4 : Value} {s5 : Slot} {s6 : Slot} {s7 : Slot} {s8 : Slot} {s9 : Slot} {s10 : Slot} {v : Int32} (h : One s5) : storeLocals #[s0, s1, s2, s3, .val z4, s5, s6, s7, s8, s9, s10] 5 (.int v) = some #[s0, s1, s2, s3, .val z4, .val (.int v), s6, s7, s8, s9, s10] := by
  rcases h with rfl | ⟨w, rfl, hw⟩
  · rfl
  · cases w <;> first | rfl | (simp [Value.category] at hw)
set_option maxRecDepth 65536 in
set_option maxHeartbeats 40000000 in
theorem tn0_0_16_f {p : Program} {l : Launch} {e : Env} {R : Room} {s : State} {m : MethodId} {args : Array Value} {below : List Frame} {meth : Method} {c : Code} {T0 : State} {locs : List Loc} {cells slots : Nat} {Z : State} {a0 : Array Value} {h0 : Heap} (s0 : Slot) (s1 : Slot) (s2 : Slot) (s3 : Slot) (i4 : Int32) (s5 : Slot) (s6 : Slot) (s7 : Slot) (s8 : Slot) (s9 : Slot) (s10 : Slot)
    (X0 : Stand p l e R s m args below meth c T0 locs cells slots) (hx : p.tables.exec = Jvm.exec) (hZ : Z.Warmed39 s.vm) (hw : ∀ d ∈ tables_1, d.before a0 Z = true) (hby : c.code = code) (hml : c.maxLocals = 11) (hown : s.vm.findClass "com/example/rowsmith/rowsmith/io/GzipInputBeginsPinLaw" = some m.cls) (e0 : T0.heap = h0) (hs5 : One s5) (hc4 : ¬ ((i4 &&& (1 : Int32)) = (0 : Int32))) :
    ∃ (T' : State), Stand p l e R s m args below meth c T' locs cells slots ∧ T'.heap = h0 ∧
      ∀ target, Steps p.tables e below (T'.setTop (mkF m 16 #[s0, s1, s2, s3, .val (.int i4), .val (.int (31 : Int32)), s6, s7, s8, s9, s10] [])) target → Steps p.tables e below (T0.setTop (mkF m 0 #[s0, s1, s2, s3, .val (.int i4), s5, s6, s7, s8, s9, s10] [])) target := by

  refine ⟨T0, X0, e0, fun target kt => ?_⟩
  show Steps p.tables e below (T0.setTop (mkF m 0 #[s0, s1, s2, s3, .val (.int i4), s5, s6, s7, s8, s9, s10] [])) _
  refine XS.iload X0.here hx rfl (hb hby at_0) rfl ?_
  show Steps p.tables e below (T0.setTop (mkF m 2 #[s0, s1, s2, s3, .val (.int i4), s5, s6, s7, s8, s9, s10] [(.int i4)])) _
  refine XS.iconst X0.here hx rfl (hb hby at_2) ?_
  show Steps p.tables e below (T0.setTop (mkF m 3 #[s0, s1, s2, s3, .val (.int i4), s5, s6, s7, s8, s9, s10] [(.int (1 : Int32)), (.int i4)])) _
  refine XS.iand X0.here hx rfl (hb hby at_3) rfl ?_
  show Steps p.tables e below (T0.setTop (mkF m 4 #[s0, s1, s2, s3, .val (.int i4), s5, s6, s7, s8, s9, s10] [(.int (i4 &&& (1 : Int32)))])) _
  refine XS.ifNo X0.here hx rfl (hb hby at_4) rfl ((if0 _ _).trans (feq hc4).1) ?_
  show Steps p.tables e below (T0.setTop (mkF m 7 #[s0, s1, s2, s3, .val (.int i4), s5, s6, s7, s8, s9, s10] [])) _
  refine XS.bipush X0.here hx rfl (hb hby at_7) ?_
  show Steps p.tables e below (T0.setTop (mkF m 9 #[s0, s1, s2, s3, .val (.int i4), s5, s6, s7, s8, s9, s10] [(.int (31 : Int32))])) _
  refine XS.goto X0.here hx rfl (pc0 := 9) (pc' := 14) rfl (hb hby at_9) (by decide) (by decide) ?_
  show Steps p.tables e below (T0.setTop (mkF m 14 #[s0, s1, s2, s3, .val (.int i4), s5, s6, s7, s8, s9, s10] [(.int (31 : Int32))])) _
  refine XS.istore X0.here hx rfl (hb hby at_14) rfl (l' := #[s0, s1, s2, s3, .val (.int i4), .val (.int (31 : Int32)), s6, s7, s8, s9, s10]) (os0_14_0_f hs5) ?_
  exact kt
def own_s0_0_5 (i0 : Int32) (i4 : Int32) : Int32 := (if (i4 &&& (1 : Int32)) = (0 : Int32) then (i0.toInt8.toInt32) else (31 : Int32))
set_option maxRecDepth 65536 in
theorem seg0_0_16 {p : Program} {l : Launch} {e : Env} {R : Room} {s : State} {m : MethodId} {args : Array Value} {below : List Frame} {meth : Method} {c : Code} {T0 : State} {locs : List Loc} {cells slots : Nat} {Z : State} {a0 : Array Value} {h0 : Heap} (i0 : Int32) (s1 : Slot) (s2 : Slot) (s3 : Slot) (i4 : Int32) (s5 : Slot) (s6 : Slot) (s7 : Slot) (s8 : Slot) (s9 : Slot) (s10 : Slot)
    (X0 : Stand p l e R s m args below meth c T0 locs cells slots) (hx : p.tables.exec = Jvm.exec) (hZ : Z.Warmed39 s.vm) (hw : ∀ d ∈ tables_1, d.before a0 Z = true) (hby : c.code = code) (hml : c.maxLocals = 11) (hown : s.vm.findClass "com/example/rowsmith/rowsmith/io/GzipInputBeginsPinLaw" = some m.cls) (e0 : T0.heap = h0) (hs5 : One (s5)) :
    ∃ (T' : State), Stand p l e R s m args below meth c T' locs cells slots ∧ T'.heap = h0 ∧
      ∀ target, Steps p.tables e below (T'.setTop (mkF m 16 #[.val (.int i0), s1, s2, s3, .val (.int i4), .val (.int (own_s0_0_5 i0 i4)), s6, s7, s8, s9, s10] [])) target → Steps p.tables e below (T0.setTop (mkF m 0 #[.val (.int i0), s1, s2, s3, .val (.int i4), s5, s6, s7, s8, s9, s10] [])) target := by
  by_cases hc4 : (i4 &&& (1 : Int32)) = (0 : Int32)
  · simp only [own_s0_0_5, if_pos hc4]
    exact tn0_0_16_t i0 (s1) (s2) (s3) i4 (s5) (s6) (s7) (s8) (s9) (s10) X0 hx hZ hw hby hml hown e0 hs5 hc4
  · simp only [own_s0_0_5, if_neg hc4]
    exact tn0_0_16_f (.val (.int i0)) (s1) (s2) (s3) i4 (s5) (s6) (s7) (s8) (s9) (s10) X0 hx hZ hw hby hml hown e0 hs5 hc4
theorem os0_30_16_t {s0 : Slot} {z1 : Value} {s2 : Slot} {s3 : Slot} {z4 : Value} {s5 : Slot} {s6 : Slot} {s7 : Slot} {s8 : Slot} {s9 : Slot} {s10 : Slot} {v : Int32} (h : One s6) : storeLocals #[s0, .val z1, s2, s3, .val z4, s5, s6, s7, s8, s9, s10] 6 (.int v) = some #[s0, .val z1, s2, s3, .val z4, s5, .val (.int v), s7, s8, s9, s10] := by
  rcases h with rfl | ⟨w, rfl, hw⟩
  · rfl
  · cases w <;> first | rfl | (simp [Value.category] at hw)
set_option maxRecDepth 65536 in
set_option maxHeartbeats 40000000 in
theorem tn0_16_32_t {p : Program} {l : Launch} {e : Env} {R : Room} {s : State} {m : MethodId} {args : Array Value} {below : List Frame} {meth : Method} {c : Code} {T0 : State} {locs : List Loc} {cells slots : Nat} {Z : State} {a0 : Array Value} {h0 : Heap} (s0 : Slot) (i1 : Int32) (s2 : Slot) (s3 : Slot) (i4 : Int32) (s5 : Slot) (s6 : Slot) (s7 : Slot) (s8 : Slot) (s9 : Slot) (s10 : Slot)
    (X0 : Stand p l e R s m args below meth c T0 locs cells slots) (hx : p.tables.exec = Jvm.exec) (hZ : Z.Warmed39 s.vm) (hw : ∀ d ∈ tables_1, d.before a0 Z = true) (hby : c.code = code) (hml : c.maxLocals = 11) (hown : s.vm.findClass "com/example/rowsmith/rowsmith/io/GzipInputBeginsPinLaw" = some m.cls) (e0 : T0.heap = h0) (hs6 : One s6) (hc20 : (i4 &&& (2 : Int32)) = (0 : Int32)) :
    ∃ (T' : State), Stand p l e R s m args below meth c T' locs cells slots ∧ T'.heap = h0 ∧
      ∀ target, Steps p.tables e below (T'.setTop (mkF m 32 #[s0, .val (.int i1), s2, s3, .val (.int i4), s5, .val (.int (i1.toInt8.toInt32)), s7, s8, s9, s10] [])) target → Steps p.tables e below (T0.setTop (mkF m 16 #[s0, .val (.int i1), s2, s3, .val (.int i4), s5, s6, s7, s8, s9, s10] [])) target := by

  refine ⟨T0, X0, e0, fun target kt => ?_⟩
  show Steps p.tables e below (T0.setTop (mkF m 16 #[s0, .val (.int i1), s2, s3, .val (.int i4), s5, s6, s7, s8, s9, s10] [])) _
  refine XS.iload X0.here hx rfl (hb hby at_16) rfl ?_
  show Steps p.tables e below (T0.setTop (mkF m 18 #[s0, .val (.int i1), s2, s3, .val (.int i4), s5, s6, s7, s8, s9, s10] [(.int i4)])) _
  refine XS.iconst X0.here hx rfl (hb hby at_18) ?_
  show Steps p.tables e below (T0.setTop (mkF m 19 #[s0, .val (.int i1), s2, s3, .val (.int i4), s5, s6, s7, s8, s9, s10] [(.int (2 : Int32)), (.int i4)])) _
  refine XS.iand X0.here hx rfl (hb hby at_19) rfl ?_
  show Steps p.tables e below (T0.setTop (mkF m 20 #[s0, .val (.int i1), s2, s3, .val (.int i4), s5, s6, s7, s8, s9, s10] [(.int (i4 &&& (2 : Int32)))])) _
  refine XS.ifYes X0.here hx rfl (pc0 := 20) (pc' := 28) rfl (hb hby at_20) rfl ((if0 _ _).trans (teq hc20).1) (by decide) (by decide) ?_
  show Steps p.tables e below (T0.setTop (mkF m 28 #[s0, .val (.int i1), s2, s3, .val (.int i4), s5, s6, s7, s8, s9, s10] [])) _
  refine XS.iloadN X0.here hx rfl (hb hby at_28) rfl ?_
  show Steps p.tables e below (T0.setTop (mkF m 29 #[s0, .val (.int i1), s2, s3, .val (.int i4), s5, s6, s7, s8, s9, s10] [(.int i1)])) _
  refine XS.i2b X0.here hx rfl (hb hby at_29) rfl ?_
  show Steps p.tables e below (T0.setTop (mkF m 30 #[s0, .val (.int i1), s2, s3, .val (.int i4), s5, s6, s7, s8, s9, s10] [(.int (i1.toInt8.toInt32))])) _
  refine XS.istore X0.here hx rfl (hb hby at_30) rfl (l' := #[s0, .val (.int i1), s2, s3, .val (.int i4), s5, .val (.int (i1.toInt8.toInt32)), s7, s8, s9, s10]) (os0_30_16_t hs6) ?_
  exact kt
theorem os0_30_16_f {s0 : Slot} {s1 : Slot} {s2 : Slot} {s3 : Slot} {z4 : Value} {s5 : Slot} {s6 : Slot} {s7 : Slot} {s8 : Slot} {s9 : Slot} {s10 : Slot} {v : Int32} (h : One s6) : storeLocals #[s0, s1, s2, s3, .val z4, s5, s6, s7, s8, s9, s10] 6 (.int v) = some #[s0, s1, s2, s3, .val z4, s5, .val (.int v), s7, s8, s9, s10] := by
  rcases h with rfl | ⟨w, rfl, hw⟩
  · rfl
  · cases w <;> first | rfl | (simp [Value.category] at hw)
set_option maxRecDepth 65536 in
set_option maxHeartbeats 40000000 in
theorem tn0_16_32_f {p : Program} {l : Launch} {e : Env} {R : Room} {s : State} {m : MethodId} {args : Array Value} {below : List Frame} {meth : Method} {c : Code} {T0 : State} {locs : List Loc} {cells slots : Nat} {Z : State} {a0 : Array Value} {h0 : Heap} (s0 : Slot) (s1 : Slot) (s2 : Slot) (s3 : Slot) (i4 : Int32) (s5 : Slot) (s6 : Slot) (s7 : Slot) (s8 : Slot) (s9 : Slot) (s10 : Slot)
    (X0 : Stand p l e R s m args below meth c T0 locs cells slots) (hx : p.tables.exec = Jvm.exec) (hZ : Z.Warmed39 s.vm) (hw : ∀ d ∈ tables_1, d.before a0 Z = true) (hby : c.code = code) (hml : c.maxLocals = 11) (hown : s.vm.findClass "com/example/rowsmith/rowsmith/io/GzipInputBeginsPinLaw" = some m.cls) (e0 : T0.heap = h0) (hs6 : One s6) (hc20 : ¬ ((i4 &&& (2 : Int32)) = (0 : Int32))) :
    ∃ (T' : State), Stand p l e R s m args below meth c T' locs cells slots ∧ T'.heap = h0 ∧
      ∀ target, Steps p.tables e below (T'.setTop (mkF m 32 #[s0, s1, s2, s3, .val (.int i4), s5, .val (.int (-117 : Int32)), s7, s8, s9, s10] [])) target → Steps p.tables e below (T0.setTop (mkF m 16 #[s0, s1, s2, s3, .val (.int i4), s5, s6, s7, s8, s9, s10] [])) target := by

  refine ⟨T0, X0, e0, fun target kt => ?_⟩
  show Steps p.tables e below (T0.setTop (mkF m 16 #[s0, s1, s2, s3, .val (.int i4), s5, s6, s7, s8, s9, s10] [])) _
  refine XS.iload X0.here hx rfl (hb hby at_16) rfl ?_
  show Steps p.tables e below (T0.setTop (mkF m 18 #[s0, s1, s2, s3, .val (.int i4), s5, s6, s7, s8, s9, s10] [(.int i4)])) _
  refine XS.iconst X0.here hx rfl (hb hby at_18) ?_
  show Steps p.tables e below (T0.setTop (mkF m 19 #[s0, s1, s2, s3, .val (.int i4), s5, s6, s7, s8, s9, s10] [(.int (2 : Int32)), (.int i4)])) _
  refine XS.iand X0.here hx rfl (hb hby at_19) rfl ?_
  show Steps p.tables e below (T0.setTop (mkF m 20 #[s0, s1, s2, s3, .val (.int i4), s5, s6, s7, s8, s9, s10] [(.int (i4 &&& (2 : Int32)))])) _
  refine XS.ifNo X0.here hx rfl (hb hby at_20) rfl ((if0 _ _).trans (feq hc20).1) ?_
  show Steps p.tables e below (T0.setTop (mkF m 23 #[s0, s1, s2, s3, .val (.int i4), s5, s6, s7, s8, s9, s10] [])) _
  refine XS.bipush X0.here hx rfl (hb hby at_23) ?_
  show Steps p.tables e below (T0.setTop (mkF m 25 #[s0, s1, s2, s3, .val (.int i4), s5, s6, s7, s8, s9, s10] [(.int (-117 : Int32))])) _
  refine XS.goto X0.here hx rfl (pc0 := 25) (pc' := 30) rfl (hb hby at_25) (by decide) (by decide) ?_
  show Steps p.tables e below (T0.setTop (mkF m 30 #[s0, s1, s2, s3, .val (.int i4), s5, s6, s7, s8, s9, s10] [(.int (-117 : Int32))])) _
  refine XS.istore X0.here hx rfl (hb hby at_30) rfl (l' := #[s0, s1, s2, s3, .val (.int i4), s5, .val (.int (-117 : Int32)), s7, s8, s9, s10]) (os0_30_16_f hs6) ?_
  exact kt
def own_s0_16_6 (i1 : Int32) (i4 : Int32) : Int32 := (if (i4 &&& (2 : Int32)) = (0 : Int32) then (i1.toInt8.toInt32) else (-117 : Int32))
set_option maxRecDepth 65536 in
theorem seg0_16_32 {p : Program} {l : Launch} {e : Env} {R : Room} {s : State} {m : MethodId} {args : Array Value} {below : List Frame} {meth : Method} {c : Code} {T0 : State} {locs : List Loc} {cells slots : Nat} {Z : State} {a0 : Array Value} {h0 : Heap} (s0 : Slot) (i1 : Int32) (s2 : Slot) (s3 : Slot) (i4 : Int32) (s5 : Slot) (s6 : Slot) (s7 : Slot) (s8 : Slot) (s9 : Slot) (s10 : Slot)
    (X0 : Stand p l e R s m args below meth c T0 locs cells slots) (hx : p.tables.exec = Jvm.exec) (hZ : Z.Warmed39 s.vm) (hw : ∀ d ∈ tables_1, d.before a0 Z = true) (hby : c.code = code) (hml : c.maxLocals = 11) (hown : s.vm.findClass "com/example/rowsmith/rowsmith/io/GzipInputBeginsPinLaw" = some m.cls) (e0 : T0.heap = h0) (hs6 : One (s6)) :
    ∃ (T' : State), Stand p l e R s m args below meth c T' locs cells slots ∧ T'.heap = h0 ∧
      ∀ target, Steps p.tables e below (T'.setTop (mkF m 32 #[s0, .val (.int i1), s2, s3, .val (.int i4), s5, .val (.int (own_s0_16_6 i1 i4)), s7, s8, s9, s10] [])) target → Steps p.tables e below (T0.setTop (mkF m 16 #[s0, .val (.int i1), s2, s3, .val (.int i4), s5, s6, s7, s8, s9, s10] [])) target := by
  by_cases hc20 : (i4 &&& (2 : Int32)) = (0 : Int32)
  · simp only [own_s0_16_6, if_pos hc20]
    exact tn0_16_32_t (s0) i1 (s2) (s3) i4 (s5) (s6) (s7) (s8) (s9) (s10) X0 hx hZ hw hby hml hown e0 hs6 hc20
  · simp only [own_s0_16_6, if_neg hc20]
    exact tn0_16_32_f (s0) (.val (.int i1)) (s2) (s3) i4 (s5) (s6) (s7) (s8) (s9) (s10) X0 hx hZ hw hby hml hown e0 hs6 hc20
theorem os0_46_32_t {s0 : Slot} {s1 : Slot} {z2 : Value} {s3 : Slot} {z4 : Value} {s5 : Slot} {s6 : Slot} {s7 : Slot} {s8 : Slot} {s9 : Slot} {s10 : Slot} {v : Int32} (h : One s7) : storeLocals #[s0, s1, .val z2, s3, .val z4, s5, s6, s7, s8, s9, s10] 7 (.int v) = some #[s0, s1, .val z2, s3, .val z4, s5, s6, .val (.int v), s8, s9, s10] := by
  rcases h with rfl | ⟨w, rfl, hw⟩
  · rfl
  · cases w <;> first | rfl | (simp [Value.category] at hw)
set_option maxRecDepth 65536 in
set_option maxHeartbeats 40000000 in
theorem tn0_32_48_t {p : Program} {l : Launch} {e : Env} {R : Room} {s : State} {m : MethodId} {args : Array Value} {below : List Frame} {meth : Method} {c : Code} {T0 : State} {locs : List Loc} {cells slots : Nat} {Z : State} {a0 : Array Value} {h0 : Heap} (s0 : Slot) (s1 : Slot) (i2 : Int32) (s3 : Slot) (i4 : Int32) (s5 : Slot) (s6 : Slot) (s7 : Slot) (s8 : Slot) (s9 : Slot) (s10 : Slot)
    (X0 : Stand p l e R s m args below meth c T0 locs cells slots) (hx : p.tables.exec = Jvm.exec) (hZ : Z.Warmed39 s.vm) (hw : ∀ d ∈ tables_1, d.before a0 Z = true) (hby : c.code = code) (hml : c.maxLocals = 11) (hown : s.vm.findClass "com/example/rowsmith/rowsmith/io/GzipInputBeginsPinLaw" = some m.cls) (e0 : T0.heap = h0) (hs7 : One s7) (hc36 : (i4 &&& (4 : Int32)) = (0 : Int32)) :
    ∃ (T' : State), Stand p l e R s m args below meth c T' locs cells slots ∧ T'.heap = h0 ∧
      ∀ target, Steps p.tables e below (T'.setTop (mkF m 48 #[s0, s1, .val (.int i2), s3, .val (.int i4), s5, s6, .val (.int (i2.toInt8.toInt32)), s8, s9, s10] [])) target → Steps p.tables e below (T0.setTop (mkF m 32 #[s0, s1, .val (.int i2), s3, .val (.int i4), s5, s6, s7, s8, s9, s10] [])) target := by

  refine ⟨T0, X0, e0, fun target kt => ?_⟩
  show Steps p.tables e below (T0.setTop (mkF m 32 #[s0, s1, .val (.int i2), s3, .val (.int i4), s5, s6, s7, s8, s9, s10] [])) _
  refine XS.iload X0.here hx rfl (hb hby at_32) rfl ?_
  show Steps p.tables e below (T0.setTop (mkF m 34 #[s0, s1, .val (.int i2), s3, .val (.int i4), s5, s6, s7, s8, s9, s10] [(.int i4)])) _
  refine XS.iconst X0.here hx rfl (hb hby at_34) ?_
  show Steps p.tables e below (T0.setTop (mkF m 35 #[s0, s1, .val (.int i2), s3, .val (.int i4), s5, s6, s7, s8, s9, s10] [(.int (4 : Int32)), (.int i4)])) _
  refine XS.iand X0.here hx rfl (hb hby at_35) rfl ?_
  show Steps p.tables e below (T0.setTop (mkF m 36 #[s0, s1, .val (.int i2), s3, .val (.int i4), s5, s6, s7, s8, s9, s10] [(.int (i4 &&& (4 : Int32)))])) _
  refine XS.ifYes X0.here hx rfl (pc0 := 36) (pc' := 44) rfl (hb hby at_36) rfl ((if0 _ _).trans (teq hc36).1) (by decide) (by decide) ?_
  show Steps p.tables e below (T0.setTop (mkF m 44 #[s0, s1, .val (.int i2), s3, .val (.int i4), s5, s6, s7, s8, s9, s10] [])) _
  refine XS.iloadN X0.here hx rfl (hb hby at_44) rfl ?_
  show Steps p.tables e below (T0.setTop (mkF m 45 #[s0, s1, .val (.int i2), s3, .val (.int i4), s5, s6, s7, s8, s9, s10] [(.int i2)])) _
  refine XS.i2b X0.here hx rfl (hb hby at_45) rfl ?_
  show Steps p.tables e below (T0.setTop (mkF m 46 #[s0, s1, .val (.int i2), s3, .val (.int i4), s5, s6, s7, s8, s9, s10] [(.int (i2.toInt8.toInt32))])) _
  refine XS.istore X0.here hx rfl (hb hby at_46) rfl (l' := #[s0, s1, .val (.int i2), s3, .val (.int i4), s5, s6, .val (.int (i2.toInt8.toInt32)), s8, s9, s10]) (os0_46_32_t hs7) ?_
  exact kt
theorem os0_46_32_f {s0 : Slot} {s1 : Slot} {s2 : Slot} {s3 : Slot} {z4 : Value} {s5 : Slot} {s6 : Slot} {s7 : Slot} {s8 : Slot} {s9 : Slot} {s10 : Slot} {v : Int32} (h : One s7) : storeLocals #[s0, s1, s2, s3, .val z4, s5, s6, s7, s8, s9, s10] 7 (.int v) = some #[s0, s1, s2, s3, .val z4, s5, s6, .val (.int v), s8, s9, s10] := by
  rcases h with rfl | ⟨w, rfl, hw⟩
  · rfl
  · cases w <;> first | rfl | (simp [Value.category] at hw)
set_option maxRecDepth 65536 in
set_option maxHeartbeats 40000000 in
theorem tn0_32_48_f {p : Program} {l : Launch} {e : Env} {R : Room} {s : State} {m : MethodId} {args : Array Value} {below : List Frame} {meth : Method} {c : Code} {T0 : State} {locs : List Loc} {cells slots : Nat} {Z : State} {a0 : Array Value} {h0 : Heap} (s0 : Slot) (s1 : Slot) (s2 : Slot) (s3 : Slot) (i4 : Int32) (s5 : Slot) (s6 : Slot) (s7 : Slot) (s8 : Slot) (s9 : Slot) (s10 : Slot)
    (X0 : Stand p l e R s m args below meth c T0 locs cells slots) (hx : p.tables.exec = Jvm.exec) (hZ : Z.Warmed39 s.vm) (hw : ∀ d ∈ tables_1, d.before a0 Z = true) (hby : c.code = code) (hml : c.maxLocals = 11) (hown : s.vm.findClass "com/example/rowsmith/rowsmith/io/GzipInputBeginsPinLaw" = some m.cls) (e0 : T0.heap = h0) (hs7 : One s7) (hc36 : ¬ ((i4 &&& (4 : Int32)) = (0 : Int32))) :
    ∃ (T' : State), Stand p l e R s m args below meth c T' locs cells slots ∧ T'.heap = h0 ∧
      ∀ target, Steps p.tables e below (T'.setTop (mkF m 48 #[s0, s1, s2, s3, .val (.int i4), s5, s6, .val (.int (31 : Int32)), s8, s9, s10] [])) target → Steps p.tables e below (T0.setTop (mkF m 32 #[s0, s1, s2, s3, .val (.int i4), s5, s6, s7, s8, s9, s10] [])) target := by

  refine ⟨T0, X0, e0, fun target kt => ?_⟩
  show Steps p.tables e below (T0.setTop (mkF m 32 #[s0, s1, s2, s3, .val (.int i4), s5, s6, s7, s8, s9, s10] [])) _
  refine XS.iload X0.here hx rfl (hb hby at_32) rfl ?_
  show Steps p.tables e below (T0.setTop (mkF m 34 #[s0, s1, s2, s3, .val (.int i4), s5, s6, s7, s8, s9, s10] [(.int i4)])) _
  refine XS.iconst X0.here hx rfl (hb hby at_34) ?_
  show Steps p.tables e below (T0.setTop (mkF m 35 #[s0, s1, s2, s3, .val (.int i4), s5, s6, s7, s8, s9, s10] [(.int (4 : Int32)), (.int i4)])) _
  refine XS.iand X0.here hx rfl (hb hby at_35) rfl ?_
  show Steps p.tables e below (T0.setTop (mkF m 36 #[s0, s1, s2, s3, .val (.int i4), s5, s6, s7, s8, s9, s10] [(.int (i4 &&& (4 : Int32)))])) _
  refine XS.ifNo X0.here hx rfl (hb hby at_36) rfl ((if0 _ _).trans (feq hc36).1) ?_
  show Steps p.tables e below (T0.setTop (mkF m 39 #[s0, s1, s2, s3, .val (.int i4), s5, s6, s7, s8, s9, s10] [])) _
  refine XS.bipush X0.here hx rfl (hb hby at_39) ?_
  show Steps p.tables e below (T0.setTop (mkF m 41 #[s0, s1, s2, s3, .val (.int i4), s5, s6, s7, s8, s9, s10] [(.int (31 : Int32))])) _
  refine XS.goto X0.here hx rfl (pc0 := 41) (pc' := 46) rfl (hb hby at_41) (by decide) (by decide) ?_
  show Steps p.tables e below (T0.setTop (mkF m 46 #[s0, s1, s2, s3, .val (.int i4), s5, s6, s7, s8, s9, s10] [(.int (31 : Int32))])) _
  refine XS.istore X0.here hx rfl (hb hby at_46) rfl (l' := #[s0, s1, s2, s3, .val (.int i4), s5, s6, .val (.int (31 : Int32)), s8, s9, s10]) (os0_46_32_f hs7) ?_
  exact kt
def own_s0_32_7 (i2 : Int32) (i4 : Int32) : Int32 := (if (i4 &&& (4 : Int32)) = (0 : Int32) then (i2.toInt8.toInt32) else (31 : Int32))
set_option maxRecDepth 65536 in
theorem seg0_32_48 {p : Program} {l : Launch} {e : Env} {R : Room} {s : State} {m : MethodId} {args : Array Value} {below : List Frame} {meth : Method} {c : Code} {T0 : State} {locs : List Loc} {cells slots : Nat} {Z : State} {a0 : Array Value} {h0 : Heap} (s0 : Slot) (s1 : Slot) (i2 : Int32) (s3 : Slot) (i4 : Int32) (s5 : Slot) (s6 : Slot) (s7 : Slot) (s8 : Slot) (s9 : Slot) (s10 : Slot)
    (X0 : Stand p l e R s m args below meth c T0 locs cells slots) (hx : p.tables.exec = Jvm.exec) (hZ : Z.Warmed39 s.vm) (hw : ∀ d ∈ tables_1, d.before a0 Z = true) (hby : c.code = code) (hml : c.maxLocals = 11) (hown : s.vm.findClass "com/example/rowsmith/rowsmith/io/GzipInputBeginsPinLaw" = some m.cls) (e0 : T0.heap = h0) (hs7 : One (s7)) :
    ∃ (T' : State), Stand p l e R s m args below meth c T' locs cells slots ∧ T'.heap = h0 ∧
      ∀ target, Steps p.tables e below (T'.setTop (mkF m 48 #[s0, s1, .val (.int i2), s3, .val (.int i4), s5, s6, .val (.int (own_s0_32_7 i2 i4)), s8, s9, s10] [])) target → Steps p.tables e below (T0.setTop (mkF m 32 #[s0, s1, .val (.int i2), s3, .val (.int i4), s5, s6, s7, s8, s9, s10] [])) target := by
  by_cases hc36 : (i4 &&& (4 : Int32)) = (0 : Int32)
  · simp only [own_s0_32_7, if_pos hc36]
    exact tn0_32_48_t (s0) (s1) i2 (s3) i4 (s5) (s6) (s7) (s8) (s9) (s10) X0 hx hZ hw hby hml hown e0 hs7 hc36
  · simp only [own_s0_32_7, if_neg hc36]
    exact tn0_32_48_f (s0) (s1) (.val (.int i2)) (s3) i4 (s5) (s6) (s7) (s8) (s9) (s10) X0 hx hZ hw hby hml hown e0 hs7 hc36
theorem os0_101_76_t {s0 : Slot} {s1 : Slot} {s2 : Slot} {s3 : Slot} {s4 : Slot} {s5 : Slot} {s6 : Slot} {s7 : Slot} {s8 : Slot} {z9 : Value} {s10 : Slot} {v : Int32} (h : One s10) : storeLocals #[s0, s1, s2, s3, s4, s5, s6, s7, s8, .val z9, s10] 10 (.int v) = some #[s0, s1, s2, s3, s4, s5, s6, s7, s8, .val z9, .val (.int v)] := by
  rcases h with rfl | ⟨w, rfl, hw⟩
  · rfl
  · cases w <;> first | rfl | (simp [Value.category] at hw)
set_option maxRecDepth 65536 in
set_option maxHeartbeats 40000000 in
theorem tn0_76_103_t {p : Program} {l : Launch} {e : Env} {R : Room} {s : State} {m : MethodId} {args : Array Value} {below : List Frame} {meth : Method} {c : Code} {T0 : State} {locs : List Loc} {cells slots : Nat} {Z : State} {a0 : Array Value} {h0 : Heap} (s0 : Slot) (s1 : Slot) (s2 : Slot) (s3 : Slot) (s4 : Slot) (s5 : Slot) (s6 : Slot) (s7 : Slot) (s8 : Slot) (i9 : Int32) (s10 : Slot)
    (X0 : Stand p l e R s m args below meth c T0 locs cells slots) (hx : p.tables.exec = Jvm.exec) (hZ : Z.Warmed39 s.vm) (hw : ∀ d ∈ tables_1, d.before a0 Z = true) (hby : c.code = code) (hml : c.maxLocals = 11) (hown : s.vm.findClass "com/example/rowsmith/rowsmith/io/GzipInputBeginsPinLaw" = some m.cls) (e0 : T0.heap = h0) (hs10 : One s10) (hc79 : i9 < (2 : Int32)) :
    ∃ (T' : State), Stand p l e R s m args below meth c T' locs cells slots ∧ T'.heap = h0 ∧
      ∀ target, Steps p.tables e below (T'.setTop (mkF m 103 #[s0, s1, s2, s3, s4, s5, s6, s7, s8, .val (.int i9), .val (.int (0 : Int32))] [])) target → Steps p.tables e below (T0.setTop (mkF m 76 #[s0, s1, s2, s3, s4, s5, s6, s7, s8, .val (.int i9), s10] [])) target := by

  refine ⟨T0, X0, e0, fun target kt => ?_⟩
  show Steps p.tables e below (T0.setTop (mkF m 76 #[s0, s1, s2, s3, s4, s5, s6, s7, s8, .val (.int i9), s10] [])) _
  refine XS.iload X0.here hx rfl (hb hby at_76) rfl ?_
  show Steps p.tables e below (T0.setTop (mkF m 78 #[s0, s1, s2, s3, s4, s5, s6, s7, s8, .val (.int i9), s10] [(.int i9)])) _
  refine XS.iconst X0.here hx rfl (hb hby at_78) ?_
  show Steps p.tables e below (T0.setTop (mkF m 79 #[s0, s1, s2, s3, s4, s5, s6, s7, s8, .val (.int i9), s10] [(.int (2 : Int32)), (.int i9)])) _
  refine XS.icmpYes X0.here hx rfl (pc0 := 79) (pc' := 100) rfl (hb hby at_79) rfl (tlt hc79).1 (by decide) (by decide) ?_
  show Steps p.tables e below (T0.setTop (mkF m 100 #[s0, s1, s2, s3, s4, s5, s6, s7, s8, .val (.int i9), s10] [])) _
  refine XS.iconst X0.here hx rfl (hb hby at_100) ?_
  show Steps p.tables e below (T0.setTop (mkF m 101 #[s0, s1, s2, s3, s4, s5, s6, s7, s8, .val (.int i9), s10] [(.int (0 : Int32))])) _
  refine XS.istore X0.here hx rfl (hb hby at_101) rfl (l' := #[s0, s1, s2, s3, s4, s5, s6, s7, s8, .val (.int i9), .val (.int (0 : Int32))]) (os0_101_76_t hs10) ?_
  exact kt
theorem os0_101_76_ft {s0 : Slot} {s1 : Slot} {s2 : Slot} {s3 : Slot} {s4 : Slot} {z5 : Value} {s6 : Slot} {s7 : Slot} {s8 : Slot} {z9 : Value} {s10 : Slot} {v : Int32} (h : One s10) : storeLocals #[s0, s1, s2, s3, s4, .val z5, s6, s7, s8, .val z9, s10] 10 (.int v) = some #[s0, s1, s2, s3, s4, .val z5, s6, s7, s8, .val z9, .val (.int v)] := by
  rcases h with rfl | ⟨w, rfl, hw⟩
  · rfl
  · cases w <;> first | rfl | (simp [Value.category] at hw)
set_option maxRecDepth 65536 in
set_option maxHeartbeats 40000000 in
theorem tn0_76_103_ft {p : Program} {l : Launch} {e : Env} {R : Room} {s : State} {m : MethodId} {args : Array Value} {below : List Frame} {meth : Method} {c : Code} {T0 : State} {locs : List Loc} {cells slots : Nat} {Z : State} {a0 : Array Value} {h0 : Heap} (s0 : Slot) (s1 : Slot) (s2 : Slot) (s3 : Slot) (s4 : Slot) (i5 : Int32) (s6 : Slot) (s7 : Slot) (s8 : Slot) (i9 : Int32) (s10 : Slot)
    (X0 : Stand p l e R s m args below meth c T0 locs cells slots) (hx : p.tables.exec = Jvm.exec) (hZ : Z.Warmed39 s.vm) (hw : ∀ d ∈ tables_1, d.before a0 Z = true) (hby : c.code = code) (hml : c.maxLocals = 11) (hown : s.vm.findClass "com/example/rowsmith/rowsmith/io/GzipInputBeginsPinLaw" = some m.cls) (e0 : T0.heap = h0) (hs10 : One s10) (hc79 : ¬ (i9 < (2 : Int32))) (hc86 : ¬ (i5 = (31 : Int32))) :
    ∃ (T' : State), Stand p l e R s m args below meth c T' locs cells slots ∧ T'.heap = h0 ∧
      ∀ target, Steps p.tables e below (T'.setTop (mkF m 103 #[s0, s1, s2, s3, s4, .val (.int i5), s6, s7, s8, .val (.int i9), .val (.int (0 : Int32))] [])) target → Steps p.tables e below (T0.setTop (mkF m 76 #[s0, s1, s2, s3, s4, .val (.int i5), s6, s7, s8, .val (.int i9), s10] [])) target := by

  refine ⟨T0, X0, e0, fun target kt => ?_⟩
  show Steps p.tables e below (T0.setTop (mkF m 76 #[s0, s1, s2, s3, s4, .val (.int i5), s6, s7, s8, .val (.int i9), s10] [])) _
  refine XS.iload X0.here hx rfl (hb hby at_76) rfl ?_
  show Steps p.tables e below (T0.setTop (mkF m 78 #[s0, s1, s2, s3, s4, .val (.int i5), s6, s7, s8, .val (.int i9), s10] [(.int i9)])) _
  refine XS.iconst X0.here hx rfl (hb hby at_78) ?_
  show Steps p.tables e below (T0.setTop (mkF m 79 #[s0, s1, s2, s3, s4, .val (.int i5), s6, s7, s8, .val (.int i9), s10] [(.int (2 : Int32)), (.int i9)])) _
  refine XS.icmpNo X0.here hx rfl (hb hby at_79) rfl (flt hc79).1 ?_
  show Steps p.tables e below (T0.setTop (mkF m 82 #[s0, s1, s2, s3, s4, .val (.int i5), s6, s7, s8, .val (.int i9), s10] [])) _
  refine XS.iload X0.here hx rfl (hb hby at_82) rfl ?_
  show Steps p.tables e below (T0.setTop (mkF m 84 #[s0, s1, s2, s3, s4, .val (.int i5), s6, s7, s8, .val (.int i9), s10] [(.int i5)])) _
  refine XS.bipush X0.here hx rfl (hb hby at_84) ?_
  show Steps p.tables e below (T0.setTop (mkF m 86 #[s0, s1, s2, s3, s4, .val (.int i5), s6, s7, s8, .val (.int i9), s10] [(.int (31 : Int32)), (.int i5)])) _
  refine XS.icmpYes X0.here hx rfl (pc0 := 86) (pc' := 100) rfl (hb hby at_86) rfl (feq hc86).2 (by decide) (by decide) ?_
  show Steps p.tables e below (T0.setTop (mkF m 100 #[s0, s1, s2, s3, s4, .val (.int i5), s6, s7, s8, .val (.int i9), s10] [])) _
  refine XS.iconst X0.here hx rfl (hb hby at_100) ?_
  show Steps p.tables e below (T0.setTop (mkF m 101 #[s0, s1, s2, s3, s4, .val (.int i5), s6, s7, s8, .val (.int i9), s10] [(.int (0 : Int32))])) _
  refine XS.istore X0.here hx rfl (hb hby at_101) rfl (l' := #[s0, s1, s2, s3, s4, .val (.int i5), s6, s7, s8, .val (.int i9), .val (.int (0 : Int32))]) (os0_101_76_ft hs10) ?_
  exact kt
theorem os0_101_76_fft {s0 : Slot} {s1 : Slot} {s2 : Slot} {s3 : Slot} {s4 : Slot} {z5 : Value} {z6 : Value} {s7 : Slot} {s8 : Slot} {z9 : Value} {s10 : Slot} {v : Int32} (h : One s10) : storeLocals #[s0, s1, s2, s3, s4, .val z5, .val z6, s7, s8, .val z9, s10] 10 (.int v) = some #[s0, s1, s2, s3, s4, .val z5, .val z6, s7, s8, .val z9, .val (.int v)] := by
  rcases h with rfl | ⟨w, rfl, hw⟩
  · rfl
  · cases w <;> first | rfl | (simp [Value.category] at hw)
set_option maxRecDepth 65536 in
set_option maxHeartbeats 40000000 in
theorem tn0_76_103_fft {p : Program} {l : Launch} {e : Env} {R : Room} {s : State} {m : MethodId} {args : Array Value} {below : List Frame} {meth : Method} {c : Code} {T0 : State} {locs : List Loc} {cells slots : Nat} {Z : State} {a0 : Array Value} {h0 : Heap} (s0 : Slot) (s1 : Slot) (s2 : Slot) (s3 : Slot) (s4 : Slot) (i5 : Int32) (i6 : Int32) (s7 : Slot) (s8 : Slot) (i9 : Int32) (s10 : Slot)
    (X0 : Stand p l e R s m args below meth c T0 locs cells slots) (hx : p.tables.exec = Jvm.exec) (hZ : Z.Warmed39 s.vm) (hw : ∀ d ∈ tables_1, d.before a0 Z = true) (hby : c.code = code) (hml : c.maxLocals = 11) (hown : s.vm.findClass "com/example/rowsmith/rowsmith/io/GzipInputBeginsPinLaw" = some m.cls) (e0 : T0.heap = h0) (hs10 : One s10) (hc79 : ¬ (i9 < (2 : Int32))) (hc86 : i5 = (31 : Int32)) (hc93 : ¬ (i6 = (-117 : Int32))) :
    ∃ (T' : State), Stand p l e R s m args below meth c T' locs cells slots ∧ T'.heap = h0 ∧
      ∀ target, Steps p.tables e below (T'.setTop (mkF m 103 #[s0, s1, s2, s3, s4, .val (.int i5), .val (.int i6), s7, s8, .val (.int i9), .val (.int (0 : Int32))] [])) target → Steps p.tables e below (T0.setTop (mkF m 76 #[s0, s1, s2, s3, s4, .val (.int i5), .val (.int i6), s7, s8, .val (.int i9), s10] [])) target := by

  refine ⟨T0, X0, e0, fun target kt => ?_⟩
  show Steps p.tables e below (T0.setTop (mkF m 76 #[s0, s1, s2, s3, s4, .val (.int i5), .val (.int i6), s7, s8, .val (.int i9), s10] [])) _
  refine XS.iload X0.here hx rfl (hb hby at_76) rfl ?_
  show Steps p.tables e below (T0.setTop (mkF m 78 #[s0, s1, s2, s3, s4, .val (.int i5), .val (.int i6), s7, s8, .val (.int i9), s10] [(.int i9)])) _
  refine XS.iconst X0.here hx rfl (hb hby at_78) ?_
  show Steps p.tables e below (T0.setTop (mkF m 79 #[s0, s1, s2, s3, s4, .val (.int i5), .val (.int i6), s7, s8, .val (.int i9), s10] [(.int (2 : Int32)), (.int i9)])) _
  refine XS.icmpNo X0.here hx rfl (hb hby at_79) rfl (flt hc79).1 ?_
  show Steps p.tables e below (T0.setTop (mkF m 82 #[s0, s1, s2, s3, s4, .val (.int i5), .val (.int i6), s7, s8, .val (.int i9), s10] [])) _
  refine XS.iload X0.here hx rfl (hb hby at_82) rfl ?_
  show Steps p.tables e below (T0.setTop (mkF m 84 #[s0, s1, s2, s3, s4, .val (.int i5), .val (.int i6), s7, s8, .val (.int i9), s10] [(.int i5)])) _
  refine XS.bipush X0.here hx rfl (hb hby at_84) ?_
  show Steps p.tables e below (T0.setTop (mkF m 86 #[s0, s1, s2, s3, s4, .val (.int i5), .val (.int i6), s7, s8, .val (.int i9), s10] [(.int (31 : Int32)), (.int i5)])) _
  refine XS.icmpNo X0.here hx rfl (hb hby at_86) rfl (teq hc86).2 ?_
  show Steps p.tables e below (T0.setTop (mkF m 89 #[s0, s1, s2, s3, s4, .val (.int i5), .val (.int i6), s7, s8, .val (.int i9), s10] [])) _
  refine XS.iload X0.here hx rfl (hb hby at_89) rfl ?_
  show Steps p.tables e below (T0.setTop (mkF m 91 #[s0, s1, s2, s3, s4, .val (.int i5), .val (.int i6), s7, s8, .val (.int i9), s10] [(.int i6)])) _
  refine XS.bipush X0.here hx rfl (hb hby at_91) ?_
  show Steps p.tables e below (T0.setTop (mkF m 93 #[s0, s1, s2, s3, s4, .val (.int i5), .val (.int i6), s7, s8, .val (.int i9), s10] [(.int (-117 : Int32)), (.int i6)])) _
  refine XS.icmpYes X0.here hx rfl (pc0 := 93) (pc' := 100) rfl (hb hby at_93) rfl (feq hc93).2 (by decide) (by decide) ?_
  show Steps p.tables e below (T0.setTop (mkF m 100 #[s0, s1, s2, s3, s4, .val (.int i5), .val (.int i6), s7, s8, .val (.int i9), s10] [])) _
  refine XS.iconst X0.here hx rfl (hb hby at_100) ?_
  show Steps p.tables e below (T0.setTop (mkF m 101 #[s0, s1, s2, s3, s4, .val (.int i5), .val (.int i6), s7, s8, .val (.int i9), s10] [(.int (0 : Int32))])) _
  refine XS.istore X0.here hx rfl (hb hby at_101) rfl (l' := #[s0, s1, s2, s3, s4, .val (.int i5), .val (.int i6), s7, s8, .val (.int i9), .val (.int (0 : Int32))]) (os0_101_76_fft hs10) ?_
  exact kt
theorem os0_101_76_fff {s0 : Slot} {s1 : Slot} {s2 : Slot} {s3 : Slot} {s4 : Slot} {z5 : Value} {z6 : Value} {s7 : Slot} {s8 : Slot} {z9 : Value} {s10 : Slot} {v : Int32} (h : One s10) : storeLocals #[s0, s1, s2, s3, s4, .val z5, .val z6, s7, s8, .val z9, s10] 10 (.int v) = some #[s0, s1, s2, s3, s4, .val z5, .val z6, s7, s8, .val z9, .val (.int v)] := by
  rcases h with rfl | ⟨w, rfl, hw⟩
  · rfl
  · cases w <;> first | rfl | (simp [Value.category] at hw)
set_option maxRecDepth 65536 in
set_option maxHeartbeats 40000000 in
theorem tn0_76_103_fff {p : Program} {l : Launch} {e : Env} {R : Room} {s : State} {m : MethodId} {args : Array Value} {below : List Frame} {meth : Method} {c : Code} {T0 : State} {locs : List Loc} {cells slots : Nat} {Z : State} {a0 : Array Value} {h0 : Heap} (s0 : Slot) (s1 : Slot) (s2 : Slot) (s3 : Slot) (s4 : Slot) (i5 : Int32) (i6 : Int32) (s7 : Slot) (s8 : Slot) (i9 : Int32) (s10 : Slot)
    (X0 : Stand p l e R s m args below meth c T0 locs cells slots) (hx : p.tables.exec = Jvm.exec) (hZ : Z.Warmed39 s.vm) (hw : ∀ d ∈ tables_1, d.before a0 Z = true) (hby : c.code = code) (hml : c.maxLocals = 11) (hown : s.vm.findClass "com/example/rowsmith/rowsmith/io/GzipInputBeginsPinLaw" = some m.cls) (e0 : T0.heap = h0) (hs10 : One s10) (hc79 : ¬ (i9 < (2 : Int32))) (hc86 : i5 = (31 : Int32)) (hc93 : i6 = (-117 : Int32)) :
    ∃ (T' : State), Stand p l e R s m args below meth c T' locs cells slots ∧ T'.heap = h0 ∧
      ∀ target, Steps p.tables e below (T'.setTop (mkF m 103 #[s0, s1, s2, s3, s4, .val (.int i5), .val (.int i6), s7, s8, .val (.int i9), .val (.int (1 : Int32))] [])) target → Steps p.tables e below (T0.setTop (mkF m 76 #[s0, s1, s2, s3, s4, .val (.int i5), .val (.int i6), s7, s8, .val (.int i9), s10] [])) target := by

  refine ⟨T0, X0, e0, fun target kt => ?_⟩
  show Steps p.tables e below (T0.setTop (mkF m 76 #[s0, s1, s2, s3, s4, .val (.int i5), .val (.int i6), s7, s8, .val (.int i9), s10] [])) _
  refine XS.iload X0.here hx rfl (hb hby at_76) rfl ?_
  show Steps p.tables e below (T0.setTop (mkF m 78 #[s0, s1, s2, s3, s4, .val (.int i5), .val (.int i6), s7, s8, .val (.int i9), s10] [(.int i9)])) _
  refine XS.iconst X0.here hx rfl (hb hby at_78) ?_
  show Steps p.tables e below (T0.setTop (mkF m 79 #[s0, s1, s2, s3, s4, .val (.int i5), .val (.int i6), s7, s8, .val (.int i9), s10] [(.int (2 : Int32)), (.int i9)])) _
  refine XS.icmpNo X0.here hx rfl (hb hby at_79) rfl (flt hc79).1 ?_
  show Steps p.tables e below (T0.setTop (mkF m 82 #[s0, s1, s2, s3, s4, .val (.int i5), .val (.int i6), s7, s8, .val (.int i9), s10] [])) _
  refine XS.iload X0.here hx rfl (hb hby at_82) rfl ?_
  show Steps p.tables e below (T0.setTop (mkF m 84 #[s0, s1, s2, s3, s4, .val (.int i5), .val (.int i6), s7, s8, .val (.int i9), s10] [(.int i5)])) _
  refine XS.bipush X0.here hx rfl (hb hby at_84) ?_
  show Steps p.tables e below (T0.setTop (mkF m 86 #[s0, s1, s2, s3, s4, .val (.int i5), .val (.int i6), s7, s8, .val (.int i9), s10] [(.int (31 : Int32)), (.int i5)])) _
  refine XS.icmpNo X0.here hx rfl (hb hby at_86) rfl (teq hc86).2 ?_
  show Steps p.tables e below (T0.setTop (mkF m 89 #[s0, s1, s2, s3, s4, .val (.int i5), .val (.int i6), s7, s8, .val (.int i9), s10] [])) _
  refine XS.iload X0.here hx rfl (hb hby at_89) rfl ?_
  show Steps p.tables e below (T0.setTop (mkF m 91 #[s0, s1, s2, s3, s4, .val (.int i5), .val (.int i6), s7, s8, .val (.int i9), s10] [(.int i6)])) _
  refine XS.bipush X0.here hx rfl (hb hby at_91) ?_
  show Steps p.tables e below (T0.setTop (mkF m 93 #[s0, s1, s2, s3, s4, .val (.int i5), .val (.int i6), s7, s8, .val (.int i9), s10] [(.int (-117 : Int32)), (.int i6)])) _
  refine XS.icmpNo X0.here hx rfl (hb hby at_93) rfl (teq hc93).2 ?_
  show Steps p.tables e below (T0.setTop (mkF m 96 #[s0, s1, s2, s3, s4, .val (.int i5), .val (.int i6), s7, s8, .val (.int i9), s10] [])) _
  refine XS.iconst X0.here hx rfl (hb hby at_96) ?_
  show Steps p.tables e below (T0.setTop (mkF m 97 #[s0, s1, s2, s3, s4, .val (.int i5), .val (.int i6), s7, s8, .val (.int i9), s10] [(.int (1 : Int32))])) _
  refine XS.goto X0.here hx rfl (pc0 := 97) (pc' := 101) rfl (hb hby at_97) (by decide) (by decide) ?_
  show Steps p.tables e below (T0.setTop (mkF m 101 #[s0, s1, s2, s3, s4, .val (.int i5), .val (.int i6), s7, s8, .val (.int i9), s10] [(.int (1 : Int32))])) _
  refine XS.istore X0.here hx rfl (hb hby at_101) rfl (l' := #[s0, s1, s2, s3, s4, .val (.int i5), .val (.int i6), s7, s8, .val (.int i9), .val (.int (1 : Int32))]) (os0_101_76_fff hs10) ?_
  exact kt
def own_s0_76_10 (i5 : Int32) (i6 : Int32) (i9 : Int32) : Int32 := (if i9 < (2 : Int32) then (0 : Int32) else (if i5 = (31 : Int32) then (if i6 = (-117 : Int32) then (1 : Int32) else (0 : Int32)) else (0 : Int32)))
set_option maxRecDepth 65536 in
theorem seg0_76_103 {p : Program} {l : Launch} {e : Env} {R : Room} {s : State} {m : MethodId} {args : Array Value} {below : List Frame} {meth : Method} {c : Code} {T0 : State} {locs : List Loc} {cells slots : Nat} {Z : State} {a0 : Array Value} {h0 : Heap} (s0 : Slot) (s1 : Slot) (s2 : Slot) (s3 : Slot) (s4 : Slot) (i5 : Int32) (i6 : Int32) (s7 : Slot) (s8 : Slot) (i9 : Int32) (s10 : Slot)
    (X0 : Stand p l e R s m args below meth c T0 locs cells slots) (hx : p.tables.exec = Jvm.exec) (hZ : Z.Warmed39 s.vm) (hw : ∀ d ∈ tables_1, d.before a0 Z = true) (hby : c.code = code) (hml : c.maxLocals = 11) (hown : s.vm.findClass "com/example/rowsmith/rowsmith/io/GzipInputBeginsPinLaw" = some m.cls) (e0 : T0.heap = h0) (hs10 : One (s10)) :
    ∃ (T' : State), Stand p l e R s m args below meth c T' locs cells slots ∧ T'.heap = h0 ∧
      ∀ target, Steps p.tables e below (T'.setTop (mkF m 103 #[s0, s1, s2, s3, s4, .val (.int i5), .val (.int i6), s7, s8, .val (.int i9), .val (.int (own_s0_76_10 i5 i6 i9))] [])) target → Steps p.tables e below (T0.setTop (mkF m 76 #[s0, s1, s2, s3, s4, .val (.int i5), .val (.int i6), s7, s8, .val (.int i9), s10] [])) target := by
  by_cases hc79 : i9 < (2 : Int32)
  · simp only [own_s0_76_10, if_pos hc79]
    exact tn0_76_103_t (s0) (s1) (s2) (s3) (s4) (.val (.int i5)) (.val (.int i6)) (s7) (s8) i9 (s10) X0 hx hZ hw hby hml hown e0 hs10 hc79
  · by_cases hc86 : i5 = (31 : Int32)
    · by_cases hc93 : i6 = (-117 : Int32)
      · simp only [own_s0_76_10, if_neg hc79, if_pos hc86, if_pos hc93]
        exact tn0_76_103_fff (s0) (s1) (s2) (s3) (s4) i5 i6 (s7) (s8) i9 (s10) X0 hx hZ hw hby hml hown e0 hs10 hc79 hc86 hc93
      · simp only [own_s0_76_10, if_neg hc79, if_pos hc86, if_neg hc93]
        exact tn0_76_103_fft (s0) (s1) (s2) (s3) (s4) i5 i6 (s7) (s8) i9 (s10) X0 hx hZ hw hby hml hown e0 hs10 hc79 hc86 hc93
    · simp only [own_s0_76_10, if_neg hc79, if_neg hc86]
      exact tn0_76_103_ft (s0) (s1) (s2) (s3) (s4) i5 (.val (.int i6)) (s7) (s8) i9 (s10) X0 hx hZ hw hby hml hown e0 hs10 hc79 hc86
theorem own_b0 (i f : Int32) : -128 ≤ (own_s0_0_5 i f).toInt ∧ (own_s0_0_5 i f).toInt < 128 := by
  unfold own_s0_0_5; split
  · exact (c_i2b i).2
  · decide
theorem own_b1 (i f : Int32) : -128 ≤ (own_s0_16_6 i f).toInt ∧ (own_s0_16_6 i f).toInt < 128 := by
  unfold own_s0_16_6; split
  · exact (c_i2b i).2
  · decide
theorem own_eq (a : Addr) (n : Int32) (c : Cell) (x y : Int32) (hx : -128 ≤ x.toInt ∧ x.toInt < 128) (hy : -128 ≤ y.toInt ∧ y.toInt < 128) : own_f1 a n x.toInt8.toInt32 c y.toInt8.toInt32 = own_s0_76_10 x y n := by
  unfold own_f1 own_s0_76_10
  have e1 : (x.toInt8.toInt32 &&& (255 : Int32)) = 31 ↔ x = 31 := by
    rw [← Int32.toInt_inj, ← Int32.toInt_inj, c_mask _ 255 8 (by decide) (by decide), show (31 : Int32).toInt = 31 from rfl, show ((2 ^ 8 : Nat) : Int) = 256 from rfl]
    have := c_i2b x; omega
  have e2 : (y.toInt8.toInt32 &&& (255 : Int32)) = 139 ↔ y = -117 := by
    rw [← Int32.toInt_inj, ← Int32.toInt_inj, c_mask _ 255 8 (by decide) (by decide), show (139 : Int32).toInt = 139 from rfl, show (-117 : Int32).toInt = -117 from rfl, show ((2 ^ 8 : Nat) : Int) = 256 from rfl]
    have := c_i2b y; omega
  simp only [e1, e2]
theorem pn_0 : plainName "com/example/rowsmith/rowsmith/io/GzipInputBeginsPinLaw" = true := by first | (simp [plainName, overriddenIn]; done) | decide +kernel
theorem pd_0_0 : parseMethodDescriptor "([BI)Z" = some ⟨[(.array .byte), .int], some .boolean⟩ := by decide +kernel
theorem ef_0 (m : MethodId) (x0 : Int32) (x1 : Int32) (x2 : Int32) (x3 : Int32) (x4 : Int32) : entryFrame m #[(.int x0), (.int x1), (.int x2), (.int x3), (.int x4)] maxLocals = mkF m 0 #[.val (.int x0), .val (.int x1), .val (.int x2), .val (.int x3), .val (.int x4), .unset, .unset, .unset, .unset, .unset, .unset] [] := by first | (simp [entryFrame, mkF, argsToLocals, Value.category, maxLocals]; done) | rfl
def Q0 (Z : State) (p1 : Int32) (p2 : Int32) (p3 : Int32) (p4 : Int32) (p5 : Int32) (h0 : Heap) (n0 : Nat) (v : Option Value) (h : Heap) (L : List Loc) : Prop := v = some (.int (1 : Int32)) ∧ Fr n0 L
set_option maxRecDepth 65536 in
set_option maxHeartbeats 40000000 in
theorem rm0_f (l : Launch) (Z : State) (a0 : Array Value) (hw : ∀ d ∈ tables_1, d.before a0 Z = true) (ws : List Jvm.Cond) (p1 : Int32) (p2 : Int32) (p3 : Int32) (p4 : Int32) (p5 : Int32) (h0 : Heap) (n0 : Nat) (Z0 : n0 ≤ h0.size) :
    MetFree l x (head1 (Jvm.Cond.code x code maxLocals ret :: ws) room_1) (fun a U => a = #[(.int p1), (.int p2), (.int p3), (.int p4), (.int p5)] ∧ Z.Warmed39 U.vm ∧ U.heap = h0) (fun _ _ _ _ _ => True) (fun _ U o U' => ∃ v L, o = .returned v ∧ Q0 Z p1 p2 p3 p4 p5 h0 n0 v U'.heap L ∧ FrameEnd U o U' L room_1.cells room_1.slots) := by
  refine MetFree.of_bodySF (plainFor_of_name pn_0) hisR ?_
  intro p e s m args below meth c s₁ Bd hml0 hP hK
  obtain ⟨rfl, hZ, hh⟩ := hP
  have hx := Bd.exec
  have hby := Bd.bytes
  have hml : c.maxLocals = 11 := hml0
  have hown : s.vm.findClass "com/example/rowsmith/rowsmith/io/GzipInputBeginsPinLaw" = some m.cls := findClass_of_methodNamed Bd.named
  have hnm := (name_of_methodNamed Bd.named Bd.method).1
  have X0 : Stand p l e room_1 s m #[(.int p1), (.int p2), (.int p3), (.int p4), (.int p5)] below meth c s₁ [] 0 0 := Stand.of_body Bd
  have e0 : s₁.heap = h0 := by rw [← hh, Bd.state]; rfl
  have N0 := Fr.nil n0
  have pre0 : ∀ t, Steps p.tables e below (s₁.setTop (mkF m 0 #[.val (.int p1), .val (.int p2), .val (.int p3), .val (.int p4), .val (.int p5), .unset, .unset, .unset, .unset, .unset, .unset] [])) t → Steps p.tables e below (s₁.setTop (entryFrame m #[(.int p1), (.int p2), (.int p3), (.int p4), (.int p5)] maxLocals)) t := fun t k => castTop (ef_0 m p1 p2 p3 p4 p5) k
  obtain ⟨T6, X6, e6, st6⟩ := seg0_0_16 p1 (.val (.int p2)) (.val (.int p3)) (.val (.int p4)) p5 (.unset) (.unset) (.unset) (.unset) (.unset) (.unset) X0 hx hZ hw hby hml hown e0 One.u
  obtain ⟨T7, X7, e7, st7⟩ := seg0_16_32 (.val (.int p1)) p2 (.val (.int p3)) (.val (.int p4)) p5 (.val (.int (own_s0_0_5 p1 p5))) (.unset) (.unset) (.unset) (.unset) (.unset) X6 hx hZ hw hby hml hown e6 One.u
  obtain ⟨T8, X8, e8, st8⟩ := seg0_32_48 (.val (.int p1)) (.val (.int p2)) p3 (.val (.int p4)) p5 (.val (.int (own_s0_0_5 p1 p5))) (.val (.int (own_s0_16_6 p2 p5))) (.unset) (.unset) (.unset) (.unset) X7 hx hZ hw hby hml hown e7 One.u
  obtain ⟨T9, h9, k9, X9, e9, E9, A9, st9⟩ := newP X8 hx hZ (hw _ (List.mem_of_getElem? (i := 0) rfl)) e8 (g := (mkF m 49 #[.val (.int p1), .val (.int p2), .val (.int p3), .val (.int p4), .val (.int p5), .val (.int (own_s0_0_5 p1 p5)), .val (.int (own_s0_16_6 p2 p5)), .val (.int (own_s0_32_7 p3 p5)), .unset, .unset, .unset] [(.int (3 : Int32))])) rfl (hb hby at_49) rfl (by decide) (cap := 3) (by decide) (by decide) (by decide) (by decide)
  obtain ⟨b9, g9⟩ : ∃ z, z = h0.size := ⟨_, rfl⟩
  rw [← g9] at A9 st9
  have V_b9 : Arv Z h9 b9 k9 .byte (3 : Int32) [(.int (0 : Int32)), (.int (0 : Int32)), (.int (0 : Int32))] (.int (0 : Int32)) := (Arv.new A9 (by decide)).pad (pad_rep [] (.int (0 : Int32)) 3)
  have g_b9 : n0 ≤ b9 := Nat.le_trans Z0 (Nat.le_of_eq g9.symm)
  have sz_b9 : h0.size ≤ b9 := (Nat.le_trans (Keep.refl h0 []).1 (Nat.le_of_eq g9.symm))
  have K9 : Keep h0 h9 [] := (Keep.refl h0 []).ext E9
  obtain ⟨cl_b9_55, Ar_b9, q_b9, S_b9, N_b9, H_b9, G_b9⟩ := V_b9
  have hin55 : ¬ ((0 : Int32) < 0 ∨ cl_b9_55.slots.size ≤ ((0 : Int32)).toNatClampNeg) := inb_of S_b9 ⟨by decide, by decide⟩
  obtain ⟨T10, h10, X10, e10, W10, st10⟩ := stB X9 hx hZ e9 Ar_b9 (j := (0 : Int32)) hin55 (g := (mkF m 55 #[.val (.int p1), .val (.int p2), .val (.int p3), .val (.int p4), .val (.int p5), .val (.int (own_s0_0_5 p1 p5)), .val (.int (own_s0_16_6 p2 p5)), .val (.int (own_s0_32_7 p3 p5)), .unset, .unset, .unset] [(.int (own_s0_0_5 p1 p5)), (.int (0 : Int32)), (.ref b9), (.ref b9)])) rfl rfl (hb hby at_55)
  have V_b9_10 := Arv.set Ar_b9 q_b9 S_b9 N_b9 H_b9 G_b9 (fits_nar_byte _) W10 0 rfl (Nat.le_of_ble_eq_true rfl)
  have K10 : Keep h0 h10 [] := K9.wr W10 (Or.inr sz_b9)
  have N10 := Fr.snoc X10 N0 g_b9
  obtain ⟨cl_b9_60, Ar_b9, q_b9, S_b9, N_b9, H_b9, G_b9⟩ := V_b9_10
  have hin60 : ¬ ((1 : Int32) < 0 ∨ cl_b9_60.slots.size ≤ ((1 : Int32)).toNatClampNeg) := inb_of S_b9 ⟨by decide, by decide⟩
  obtain ⟨T11, h11, X11, e11, W11, st11⟩ := stB X10 hx hZ e10 Ar_b9 (j := (1 : Int32)) hin60 (g := (mkF m 60 #[.val (.int p1), .val (.int p2), .val (.int p3), .val (.int p4), .val (.int p5), .val (.int (own_s0_0_5 p1 p5)), .val (.int (own_s0_16_6 p2 p5)), .val (.int (own_s0_32_7 p3 p5)), .unset, .unset, .unset] [(.int (own_s0_16_6 p2 p5)), (.int (1 : Int32)), (.ref b9), (.ref b9)])) rfl rfl (hb hby at_60)
  have V_b9_11 := Arv.set Ar_b9 q_b9 S_b9 N_b9 H_b9 G_b9 (fits_nar_byte _) W11 1 rfl (Nat.le_of_ble_eq_true rfl)
  have K11 : Keep h0 h11 [] := K10.wr W11 (Or.inr sz_b9)
  have N11 := Fr.snoc X11 N10 g_b9
  obtain ⟨cl_b9_65, Ar_b9, q_b9, S_b9, N_b9, H_b9, G_b9⟩ := V_b9_11
  have hin65 : ¬ ((2 : Int32) < 0 ∨ cl_b9_65.slots.size ≤ ((2 : Int32)).toNatClampNeg) := inb_of S_b9 ⟨by decide, by decide⟩
  obtain ⟨T12, h12, X12, e12, W12, st12⟩ := stB X11 hx hZ e11 Ar_b9 (j := (2 : Int32)) hin65 (g := (mkF m 65 #[.val (.int p1), .val (.int p2), .val (.int p3), .val (.int p4), .val (.int p5), .val (.int (own_s0_0_5 p1 p5)), .val (.int (own_s0_16_6 p2 p5)), .val (.int (own_s0_32_7 p3 p5)), .unset, .unset, .unset] [(.int (own_s0_32_7 p3 p5)), (.int (2 : Int32)), (.ref b9), (.ref b9)])) rfl rfl (hb hby at_65)
  have V_b9_12 := Arv.set Ar_b9 q_b9 S_b9 N_b9 H_b9 G_b9 (fits_nar_byte _) W12 2 rfl (Nat.le_of_ble_eq_true rfl)
  have K12 : Keep h0 h12 [] := K11.wr W12 (Or.inr sz_b9)
  have N12 := Fr.snoc X12 N11 g_b9
  obtain ⟨T13, X13, e13, st13⟩ := seg0_76_103 (.val (.int p1)) (.val (.int p2)) (.val (.int p3)) (.val (.int p4)) (.val (.int p5)) (own_s0_0_5 p1 p5) (own_s0_16_6 p2 p5) (.val (.int (own_s0_32_7 p3 p5))) (.val (.ref b9)) ((p4 &&& (2147483647 : Int32)) - ((p4 &&& (2147483647 : Int32)) / (4 : Int32)) * (4 : Int32)) (.unset) X12 hx hZ hw hby hml hown e12 One.u
  obtain ⟨clw, Arw, -, Sw, -, Hw, -⟩ := V_b9_12
  obtain ⟨_, _, ⟨T14, L14, k14, n14⟩, -, X14, ⟨Lc14, hQ14, l14, y14, z14⟩, st14⟩ := Jvm.LawKit.callS X13 hx (y := (⟨"com/example/rowsmith/rowsmith/io/GzipInput", "begins", "([BI)Z"⟩ : MethodName)) hown (mvT hZ (hw _ (List.mem_of_getElem? (i := 2) rfl))) (mvT hZ (hw _ (List.mem_of_getElem? (i := 3) rfl))) (mvT hZ (hw _ (List.mem_of_getElem? (i := 4) rfl))) (mvT hZ (hw _ (List.mem_of_getElem? (i := 5) rfl))) (by decide) (backOf (W := 0) (rm1 l Z a0 hw [] b9 ((p4 &&& (2147483647 : Int32)) - ((p4 &&& (2147483647 : Int32)) / (4 : Int32)) * (4 : Int32)) (own_s0_0_5 p1 p5).toInt8.toInt32 clw (own_s0_16_6 p2 p5).toInt8.toInt32 h12 n0 (Nat.le_trans Z0 K12.1) Arw (inb_of Sw ⟨by decide, by decide⟩) (Hw 0 (by rw [Sw]; decide)) (inb_of Sw ⟨by decide, by decide⟩) (Hw 1 (by rw [Sw]; decide))) hZ (hw _ (List.mem_of_getElem? (i := 5) rfl)) (hw _ (List.mem_of_getElem? (i := 4) rfl)) (by decide) (by decide)) (g := (mkF m 107 #[.val (.int p1), .val (.int p2), .val (.int p3), .val (.int p4), .val (.int p5), .val (.int (own_s0_0_5 p1 p5)), .val (.int (own_s0_16_6 p2 p5)), .val (.int (own_s0_32_7 p3 p5)), .val (.ref b9), .val (.int ((p4 &&& (2147483647 : Int32)) - ((p4 &&& (2147483647 : Int32)) / (4 : Int32)) * (4 : Int32))), .val (.int (own_s0_76_10 (own_s0_0_5 p1 p5) (own_s0_16_6 p2 p5) ((p4 &&& (2147483647 : Int32)) - ((p4 &&& (2147483647 : Int32)) / (4 : Int32)) * (4 : Int32))))] [(.int ((p4 &&& (2147483647 : Int32)) - ((p4 &&& (2147483647 : Int32)) / (4 : Int32)) * (4 : Int32))), (.ref b9)])) rfl (by rw [hml]; rfl) (argsL := [(.ref b9), (.int ((p4 &&& (2147483647 : Int32)) - ((p4 &&& (2147483647 : Int32)) / (4 : Int32)) * (4 : Int32)))]) (rest := []) (lenOf pd_0_0 rfl) rfl (by show 2 * 0 + _ ≤ _; exact Nat.le_of_eq rfl) (hb hby at_107) (fun _ _ => ⟨rfl, e13, (by decide : 1 + 0 ≤ _), (by decide : 3 + 0 ≤ _)⟩)
  dsimp only [Pt.U, Pt.locs, Pt.cells, Pt.slots] at X14 l14 y14 z14 st14 hQ14
  subst l14 y14 z14
  obtain ⟨rfl, N14q, eq1⟩ := hQ14
  have N14 := Fr.app N12 N14q
  obtain ⟨fs, hr, hrun, hended, hW, hsame⟩ := X14.leave (v := some (.int (1 : Int32))) (fun h => by rw [Bd.returns] at h; cases h)
  refine ⟨_, _, pre0 _ ?_, hrun, hended, _, _, rfl, ?_, ⟨_, rfl⟩, hW, hsame.mono (by decide) (by decide)⟩
  · show Steps p.tables e below (s₁.setTop (mkF m 0 #[.val (.int p1), .val (.int p2), .val (.int p3), .val (.int p4), .val (.int p5), .unset, .unset, .unset, .unset, .unset, .unset] [])) _
    refine st6 _ ?_
    show Steps p.tables e below (T6.setTop (mkF m 16 #[.val (.int p1), .val (.int p2), .val (.int p3), .val (.int p4), .val (.int p5), .val (.int (own_s0_0_5 p1 p5)), .unset, .unset, .unset, .unset, .unset] [])) _
    refine st7 _ ?_
    show Steps p.tables e below (T7.setTop (mkF m 32 #[.val (.int p1), .val (.int p2), .val (.int p3), .val (.int p4), .val (.int p5), .val (.int (own_s0_0_5 p1 p5)), .val (.int (own_s0_16_6 p2 p5)), .unset, .unset, .unset, .unset] [])) _
    refine st8 _ ?_
    show Steps p.tables e below (T8.setTop (mkF m 48 #[.val (.int p1), .val (.int p2), .val (.int p3), .val (.int p4), .val (.int p5), .val (.int (own_s0_0_5 p1 p5)), .val (.int (own_s0_16_6 p2 p5)), .val (.int (own_s0_32_7 p3 p5)), .unset, .unset, .unset] [])) _
    refine XS.iconst X8.here hx rfl (hb hby at_48) ?_
    show Steps p.tables e below (T8.setTop (mkF m 49 #[.val (.int p1), .val (.int p2), .val (.int p3), .val (.int p4), .val (.int p5), .val (.int (own_s0_0_5 p1 p5)), .val (.int (own_s0_16_6 p2 p5)), .val (.int (own_s0_32_7 p3 p5)), .unset, .unset, .unset] [(.int (3 : Int32))])) _
    refine st9 _ ?_
    show Steps p.tables e below (T9.setTop (mkF m 51 #[.val (.int p1), .val (.int p2), .val (.int p3), .val (.int p4), .val (.int p5), .val (.int (own_s0_0_5 p1 p5)), .val (.int (own_s0_16_6 p2 p5)), .val (.int (own_s0_32_7 p3 p5)), .unset, .unset, .unset] [(.ref b9)])) _
    refine XS.dup X9.here hx rfl (hb hby at_51) rfl rfl ?_
    show Steps p.tables e below (T9.setTop (mkF m 52 #[.val (.int p1), .val (.int p2), .val (.int p3), .val (.int p4), .val (.int p5), .val (.int (own_s0_0_5 p1 p5)), .val (.int (own_s0_16_6 p2 p5)), .val (.int (own_s0_32_7 p3 p5)), .unset, .unset, .unset] [(.ref b9), (.ref b9)])) _
    refine XS.iconst X9.here hx rfl (hb hby at_52) ?_
    show Steps p.tables e below (T9.setTop (mkF m 53 #[.val (.int p1), .val (.int p2), .val (.int p3), .val (.int p4), .val (.int p5), .val (.int (own_s0_0_5 p1 p5)), .val (.int (own_s0_16_6 p2 p5)), .val (.int (own_s0_32_7 p3 p5)), .unset, .unset, .unset] [(.int (0 : Int32)), (.ref b9), (.ref b9)])) _
    refine XS.iload X9.here hx rfl (hb hby at_53) rfl ?_
    show Steps p.tables e below (T9.setTop (mkF m 55 #[.val (.int p1), .val (.int p2), .val (.int p3), .val (.int p4), .val (.int p5), .val (.int (own_s0_0_5 p1 p5)), .val (.int (own_s0_16_6 p2 p5)), .val (.int (own_s0_32_7 p3 p5)), .unset, .unset, .unset] [(.int (own_s0_0_5 p1 p5)), (.int (0 : Int32)), (.ref b9), (.ref b9)])) _
    refine st10 _ ?_
    show Steps p.tables e below (T10.setTop (mkF m 56 #[.val (.int p1), .val (.int p2), .val (.int p3), .val (.int p4), .val (.int p5), .val (.int (own_s0_0_5 p1 p5)), .val (.int (own_s0_16_6 p2 p5)), .val (.int (own_s0_32_7 p3 p5)), .unset, .unset, .unset] [(.ref b9)])) _
    refine XS.dup X10.here hx rfl (hb hby at_56) rfl rfl ?_
    show Steps p.tables e below (T10.setTop (mkF m 57 #[.val (.int p1), .val (.int p2), .val (.int p3), .val (.int p4), .val (.int p5), .val (.int (own_s0_0_5 p1 p5)), .val (.int (own_s0_16_6 p2 p5)), .val (.int (own_s0_32_7 p3 p5)), .unset, .unset, .unset] [(.ref b9), (.ref b9)])) _
    refine XS.iconst X10.here hx rfl (hb hby at_57) ?_
    show Steps p.tables e below (T10.setTop (mkF m 58 #[.val (.int p1), .val (.int p2), .val (.int p3), .val (.int p4), .val (.int p5), .val (.int (own_s0_0_5 p1 p5)), .val (.int (own_s0_16_6 p2 p5)), .val (.int (own_s0_32_7 p3 p5)), .unset, .unset, .unset] [(.int (1 : Int32)), (.ref b9), (.ref b9)])) _
    refine XS.iload X10.here hx rfl (hb hby at_58) rfl ?_
    show Steps p.tables e below (T10.setTop (mkF m 60 #[.val (.int p1), .val (.int p2), .val (.int p3), .val (.int p4), .val (.int p5), .val (.int (own_s0_0_5 p1 p5)), .val (.int (own_s0_16_6 p2 p5)), .val (.int (own_s0_32_7 p3 p5)), .unset, .unset, .unset] [(.int (own_s0_16_6 p2 p5)), (.int (1 : Int32)), (.ref b9), (.ref b9)])) _
    refine st11 _ ?_
    show Steps p.tables e below (T11.setTop (mkF m 61 #[.val (.int p1), .val (.int p2), .val (.int p3), .val (.int p4), .val (.int p5), .val (.int (own_s0_0_5 p1 p5)), .val (.int (own_s0_16_6 p2 p5)), .val (.int (own_s0_32_7 p3 p5)), .unset, .unset, .unset] [(.ref b9)])) _
    refine XS.dup X11.here hx rfl (hb hby at_61) rfl rfl ?_
    show Steps p.tables e below (T11.setTop (mkF m 62 #[.val (.int p1), .val (.int p2), .val (.int p3), .val (.int p4), .val (.int p5), .val (.int (own_s0_0_5 p1 p5)), .val (.int (own_s0_16_6 p2 p5)), .val (.int (own_s0_32_7 p3 p5)), .unset, .unset, .unset] [(.ref b9), (.ref b9)])) _
    refine XS.iconst X11.here hx rfl (hb hby at_62) ?_
    show Steps p.tables e below (T11.setTop (mkF m 63 #[.val (.int p1), .val (.int p2), .val (.int p3), .val (.int p4), .val (.int p5), .val (.int (own_s0_0_5 p1 p5)), .val (.int (own_s0_16_6 p2 p5)), .val (.int (own_s0_32_7 p3 p5)), .unset, .unset, .unset] [(.int (2 : Int32)), (.ref b9), (.ref b9)])) _
    refine XS.iload X11.here hx rfl (hb hby at_63) rfl ?_
    show Steps p.tables e below (T11.setTop (mkF m 65 #[.val (.int p1), .val (.int p2), .val (.int p3), .val (.int p4), .val (.int p5), .val (.int (own_s0_0_5 p1 p5)), .val (.int (own_s0_16_6 p2 p5)), .val (.int (own_s0_32_7 p3 p5)), .unset, .unset, .unset] [(.int (own_s0_32_7 p3 p5)), (.int (2 : Int32)), (.ref b9), (.ref b9)])) _
    refine st12 _ ?_
    show Steps p.tables e below (T12.setTop (mkF m 66 #[.val (.int p1), .val (.int p2), .val (.int p3), .val (.int p4), .val (.int p5), .val (.int (own_s0_0_5 p1 p5)), .val (.int (own_s0_16_6 p2 p5)), .val (.int (own_s0_32_7 p3 p5)), .unset, .unset, .unset] [(.ref b9)])) _
    refine XS.astore X12.here hx rfl (hb hby at_66) rfl rfl (l' := #[.val (.int p1), .val (.int p2), .val (.int p3), .val (.int p4), .val (.int p5), .val (.int (own_s0_0_5 p1 p5)), .val (.int (own_s0_16_6 p2 p5)), .val (.int (own_s0_32_7 p3 p5)), .val (.ref b9), .unset, .unset]) rfl ?_
    show Steps p.tables e below (T12.setTop (mkF m 68 #[.val (.int p1), .val (.int p2), .val (.int p3), .val (.int p4), .val (.int p5), .val (.int (own_s0_0_5 p1 p5)), .val (.int (own_s0_16_6 p2 p5)), .val (.int (own_s0_32_7 p3 p5)), .val (.ref b9), .unset, .unset] [])) _
    refine XS.iloadN X12.here hx rfl (hb hby at_68) rfl ?_
    show Steps p.tables e below (T12.setTop (mkF m 69 #[.val (.int p1), .val (.int p2), .val (.int p3), .val (.int p4), .val (.int p5), .val (.int (own_s0_0_5 p1 p5)), .val (.int (own_s0_16_6 p2 p5)), .val (.int (own_s0_32_7 p3 p5)), .val (.ref b9), .unset, .unset] [(.int p4)])) _
    refine X12.ldcInt hx hown (mvT hZ (hw _ (List.mem_of_getElem? (i := 1) rfl))) (g := (mkF m 69 #[.val (.int p1), .val (.int p2), .val (.int p3), .val (.int p4), .val (.int p5), .val (.int (own_s0_0_5 p1 p5)), .val (.int (own_s0_16_6 p2 p5)), .val (.int (own_s0_32_7 p3 p5)), .val (.ref b9), .unset, .unset] [(.int p4)])) rfl (hb hby at_69) _ ?_
    show Steps p.tables e below (T12.setTop (mkF m 71 #[.val (.int p1), .val (.int p2), .val (.int p3), .val (.int p4), .val (.int p5), .val (.int (own_s0_0_5 p1 p5)), .val (.int (own_s0_16_6 p2 p5)), .val (.int (own_s0_32_7 p3 p5)), .val (.ref b9), .unset, .unset] [(.int (2147483647 : Int32)), (.int p4)])) _
    refine XS.iand X12.here hx rfl (hb hby at_71) rfl ?_
    show Steps p.tables e below (T12.setTop (mkF m 72 #[.val (.int p1), .val (.int p2), .val (.int p3), .val (.int p4), .val (.int p5), .val (.int (own_s0_0_5 p1 p5)), .val (.int (own_s0_16_6 p2 p5)), .val (.int (own_s0_32_7 p3 p5)), .val (.ref b9), .unset, .unset] [(.int (p4 &&& (2147483647 : Int32)))])) _
    refine XS.iconst X12.here hx rfl (hb hby at_72) ?_
    show Steps p.tables e below (T12.setTop (mkF m 73 #[.val (.int p1), .val (.int p2), .val (.int p3), .val (.int p4), .val (.int p5), .val (.int (own_s0_0_5 p1 p5)), .val (.int (own_s0_16_6 p2 p5)), .val (.int (own_s0_32_7 p3 p5)), .val (.ref b9), .unset, .unset] [(.int (4 : Int32)), (.int (p4 &&& (2147483647 : Int32)))])) _
    refine XS.irem X12.here hx rfl (hb hby at_73) rfl (by decide : ¬ ((4 : Int32) = (0 : Int32))) ?_
    show Steps p.tables e below (T12.setTop (mkF m 74 #[.val (.int p1), .val (.int p2), .val (.int p3), .val (.int p4), .val (.int p5), .val (.int (own_s0_0_5 p1 p5)), .val (.int (own_s0_16_6 p2 p5)), .val (.int (own_s0_32_7 p3 p5)), .val (.ref b9), .unset, .unset] [(.int ((p4 &&& (2147483647 : Int32)) - ((p4 &&& (2147483647 : Int32)) / (4 : Int32)) * (4 : Int32)))])) _
    refine XS.istore X12.here hx rfl (hb hby at_74) rfl (l' := #[.val (.int p1), .val (.int p2), .val (.int p3), .val (.int p4), .val (.int p5), .val (.int (own_s0_0_5 p1 p5)), .val (.int (own_s0_16_6 p2 p5)), .val (.int (own_s0_32_7 p3 p5)), .val (.ref b9), .val (.int ((p4 &&& (2147483647 : Int32)) - ((p4 &&& (2147483647 : Int32)) / (4 : Int32)) * (4 : Int32))), .unset]) rfl ?_
    show Steps p.tables e below (T12.setTop (mkF m 76 #[.val (.int p1), .val (.int p2), .val (.int p3), .val (.int p4), .val (.int p5), .val (.int (own_s0_0_5 p1 p5)), .val (.int (own_s0_16_6 p2 p5)), .val (.int (own_s0_32_7 p3 p5)), .val (.ref b9), .val (.int ((p4 &&& (2147483647 : Int32)) - ((p4 &&& (2147483647 : Int32)) / (4 : Int32)) * (4 : Int32))), .unset] [])) _
    refine st13 _ ?_
    show Steps p.tables e below (T13.setTop (mkF m 103 #[.val (.int p1), .val (.int p2), .val (.int p3), .val (.int p4), .val (.int p5), .val (.int (own_s0_0_5 p1 p5)), .val (.int (own_s0_16_6 p2 p5)), .val (.int (own_s0_32_7 p3 p5)), .val (.ref b9), .val (.int ((p4 &&& (2147483647 : Int32)) - ((p4 &&& (2147483647 : Int32)) / (4 : Int32)) * (4 : Int32))), .val (.int (own_s0_76_10 (own_s0_0_5 p1 p5) (own_s0_16_6 p2 p5) ((p4 &&& (2147483647 : Int32)) - ((p4 &&& (2147483647 : Int32)) / (4 : Int32)) * (4 : Int32))))] [])) _
    refine XS.aload X13.here hx rfl (hb hby at_103) rfl rfl ?_
    show Steps p.tables e below (T13.setTop (mkF m 105 #[.val (.int p1), .val (.int p2), .val (.int p3), .val (.int p4), .val (.int p5), .val (.int (own_s0_0_5 p1 p5)), .val (.int (own_s0_16_6 p2 p5)), .val (.int (own_s0_32_7 p3 p5)), .val (.ref b9), .val (.int ((p4 &&& (2147483647 : Int32)) - ((p4 &&& (2147483647 : Int32)) / (4 : Int32)) * (4 : Int32))), .val (.int (own_s0_76_10 (own_s0_0_5 p1 p5) (own_s0_16_6 p2 p5) ((p4 &&& (2147483647 : Int32)) - ((p4 &&& (2147483647 : Int32)) / (4 : Int32)) * (4 : Int32))))] [(.ref b9)])) _
    refine XS.iload X13.here hx rfl (hb hby at_105) rfl ?_
    show Steps p.tables e below (T13.setTop (mkF m 107 #[.val (.int p1), .val (.int p2), .val (.int p3), .val (.int p4), .val (.int p5), .val (.int (own_s0_0_5 p1 p5)), .val (.int (own_s0_16_6 p2 p5)), .val (.int (own_s0_32_7 p3 p5)), .val (.ref b9), .val (.int ((p4 &&& (2147483647 : Int32)) - ((p4 &&& (2147483647 : Int32)) / (4 : Int32)) * (4 : Int32))), .val (.int (own_s0_76_10 (own_s0_0_5 p1 p5) (own_s0_16_6 p2 p5) ((p4 &&& (2147483647 : Int32)) - ((p4 &&& (2147483647 : Int32)) / (4 : Int32)) * (4 : Int32))))] [(.int ((p4 &&& (2147483647 : Int32)) - ((p4 &&& (2147483647 : Int32)) / (4 : Int32)) * (4 : Int32))), (.ref b9)])) _
    refine st14 _ ?_
    show Steps p.tables e below (T14.setTop (mkF m 110 #[.val (.int p1), .val (.int p2), .val (.int p3), .val (.int p4), .val (.int p5), .val (.int (own_s0_0_5 p1 p5)), .val (.int (own_s0_16_6 p2 p5)), .val (.int (own_s0_32_7 p3 p5)), .val (.ref b9), .val (.int ((p4 &&& (2147483647 : Int32)) - ((p4 &&& (2147483647 : Int32)) / (4 : Int32)) * (4 : Int32))), .val (.int (own_s0_76_10 (own_s0_0_5 p1 p5) (own_s0_16_6 p2 p5) ((p4 &&& (2147483647 : Int32)) - ((p4 &&& (2147483647 : Int32)) / (4 : Int32)) * (4 : Int32))))] [(.int (own_f1 b9 ((p4 &&& (2147483647 : Int32)) - ((p4 &&& (2147483647 : Int32)) / (4 : Int32)) * (4 : Int32)) (own_s0_0_5 p1 p5).toInt8.toInt32 clw (own_s0_16_6 p2 p5).toInt8.toInt32))])) _
    refine XS.iload X14.here hx rfl (hb hby at_110) rfl ?_
    show Steps p.tables e below (T14.setTop (mkF m 112 #[.val (.int p1), .val (.int p2), .val (.int p3), .val (.int p4), .val (.int p5), .val (.int (own_s0_0_5 p1 p5)), .val (.int (own_s0_16_6 p2 p5)), .val (.int (own_s0_32_7 p3 p5)), .val (.ref b9), .val (.int ((p4 &&& (2147483647 : Int32)) - ((p4 &&& (2147483647 : Int32)) / (4 : Int32)) * (4 : Int32))), .val (.int (own_s0_76_10 (own_s0_0_5 p1 p5) (own_s0_16_6 p2 p5) ((p4 &&& (2147483647 : Int32)) - ((p4 &&& (2147483647 : Int32)) / (4 : Int32)) * (4 : Int32))))] [(.int (own_s0_76_10 (own_s0_0_5 p1 p5) (own_s0_16_6 p2 p5) ((p4 &&& (2147483647 : Int32)) - ((p4 &&& (2147483647 : Int32)) / (4 : Int32)) * (4 : Int32)))), (.int (own_f1 b9 ((p4 &&& (2147483647 : Int32)) - ((p4 &&& (2147483647 : Int32)) / (4 : Int32)) * (4 : Int32)) (own_s0_0_5 p1 p5).toInt8.toInt32 clw (own_s0_16_6 p2 p5).toInt8.toInt32))])) _
    refine XS.icmpNo X14.here hx rfl (hb hby at_112) rfl (teq (own_eq _ _ _ _ _ (own_b0 _ _) (own_b1 _ _))).2 ?_
    show Steps p.tables e below (T14.setTop (mkF m 115 #[.val (.int p1), .val (.int p2), .val (.int p3), .val (.int p4), .val (.int p5), .val (.int (own_s0_0_5 p1 p5)), .val (.int (own_s0_16_6 p2 p5)), .val (.int (own_s0_32_7 p3 p5)), .val (.ref b9), .val (.int ((p4 &&& (2147483647 : Int32)) - ((p4 &&& (2147483647 : Int32)) / (4 : Int32)) * (4 : Int32))), .val (.int (own_s0_76_10 (own_s0_0_5 p1 p5) (own_s0_16_6 p2 p5) ((p4 &&& (2147483647 : Int32)) - ((p4 &&& (2147483647 : Int32)) / (4 : Int32)) * (4 : Int32))))] [])) _
    refine XS.iconst X14.here hx rfl (hb hby at_115) ?_
    show Steps p.tables e below (T14.setTop (mkF m 116 #[.val (.int p1), .val (.int p2), .val (.int p3), .val (.int p4), .val (.int p5), .val (.int (own_s0_0_5 p1 p5)), .val (.int (own_s0_16_6 p2 p5)), .val (.int (own_s0_32_7 p3 p5)), .val (.ref b9), .val (.int ((p4 &&& (2147483647 : Int32)) - ((p4 &&& (2147483647 : Int32)) / (4 : Int32)) * (4 : Int32))), .val (.int (own_s0_76_10 (own_s0_0_5 p1 p5) (own_s0_16_6 p2 p5) ((p4 &&& (2147483647 : Int32)) - ((p4 &&& (2147483647 : Int32)) / (4 : Int32)) * (4 : Int32))))] [(.int (1 : Int32))])) _
    refine XS.goto X14.here hx rfl (pc0 := 116) (pc' := 120) rfl (hb hby at_116) (by decide) (by decide) ?_
    show Steps p.tables e below (T14.setTop (mkF m 120 #[.val (.int p1), .val (.int p2), .val (.int p3), .val (.int p4), .val (.int p5), .val (.int (own_s0_0_5 p1 p5)), .val (.int (own_s0_16_6 p2 p5)), .val (.int (own_s0_32_7 p3 p5)), .val (.ref b9), .val (.int ((p4 &&& (2147483647 : Int32)) - ((p4 &&& (2147483647 : Int32)) / (4 : Int32)) * (4 : Int32))), .val (.int (own_s0_76_10 (own_s0_0_5 p1 p5) (own_s0_16_6 p2 p5) ((p4 &&& (2147483647 : Int32)) - ((p4 &&& (2147483647 : Int32)) / (4 : Int32)) * (4 : Int32))))] [(.int (1 : Int32))])) _
    exact retN X14 hx (t := .boolean) Bd.returns (by simp) (hb hby at_120) hr
  · show Q0 Z p1 p2 p3 p4 p5 h0 n0 _ T14.heap _
    exact ⟨rfl, N14⟩
set_option maxRecDepth 65536 in
theorem rm0 (l : Launch) (Z : State) (a0 : Array Value) (hw : ∀ d ∈ tables_1, d.before a0 Z = true) (ws : List Jvm.Cond) (p1 : Int32) (p2 : Int32) (p3 : Int32) (p4 : Int32) (p5 : Int32) (h0 : Heap) (n0 : Nat) (Z0 : n0 ≤ h0.size) :
    MetFree l x (head1 (Jvm.Cond.code x code maxLocals ret :: ws) room_1) (fun a U => a = #[(.int p1), (.int p2), (.int p3), (.int p4), (.int p5)] ∧ Z.Warmed39 U.vm ∧ U.heap = h0) (fun _ _ _ _ _ => True) (fun _ U o U' => ∃ v L, o = .returned v ∧ Q0 Z p1 p2 p3 p4 p5 h0 n0 v U'.heap L ∧ FrameEnd U o U' L room_1.cells room_1.slots) := by
  exact rm0_f l Z a0 hw ws p1 p2 p3 p4 p5 h0 n0 Z0
set_option maxRecDepth 65536 in
set_option maxHeartbeats 40000000 in
theorem comes_1 {Post : Tables → Env → Array Value → State → Outcome → State → Prop} (hpost : ∀ tb e args s v u, (limb_1_1.after args s (.returned v) u = true ∧ limb_1_2.after args s (.returned v) u = true ∧ True) → FrameEnd s (.returned v) u (Jvm.fieldLocs frame_1_writes args s ++ Jvm.arrayLocs frame_1_arrays args s ++ Jvm.staticLocs frame_1_statics s) 16 128 → Post tb e args s (.returned v) u) :
    ArmFor flags0 classFile x code maxLocals ret World_1 tables_1 room_1 Calls_1 rest_1 Pre_1 Post := by
  intro l hfl _ _ p e ha hc hk s m args below hf hA hF happ hP
  obtain ⟨hcalls, hrest, hpre⟩ := hP
  obtain ⟨-, -, -, hnamed, -, -, -, hat⟩ := (Spec.applies_iff hf).mp happ
  obtain ⟨hg, hn⟩ := and_e (Cond.before_iff.mp (show (Jvm.Cond.and given_1 narrow_1).before args s = true from hpre))
  obtain ⟨g15, g16⟩ := and_e hg
  obtain ⟨g17, g18⟩ := and_e g16
  obtain ⟨g19, g20⟩ := and_e g18
  obtain ⟨g21, g22⟩ := and_e g20
  obtain ⟨g23, g24⟩ := and_e g22
  obtain ⟨w0, w1, w2, w3, w4, rfl⟩ : ∃ w0 w1 w2 w3 w4 : Value, args = #[w0, w1, w2, w3, w4] := by
    have hs : args.size = 5 := by simpa [Cond.value, given_1] using g15
    obtain ⟨L⟩ := args
    match L, hs with
    | [w0, w1, w2, w3, w4], _ => exact ⟨w0, w1, w2, w3, w4, rfl⟩
  have hw := fun d (hd : d ∈ tables_1) => atoms_spec (ws := Jvm.Cond.code x code maxLocals ret :: tables_1) hat d (List.mem_cons_of_mem _ hd)
  have hfit : Fit s := fun {y c} hc i hi => by
    obtain ⟨ha, rfl⟩ := Array.getElem?_eq_some_iff.mp hc
    have q := List.all_eq_true.mp ((Array.all_eq_true_iff_forall_mem.mp hF) _ (Array.getElem_mem ha)) i (List.mem_range.mpr hi)
    simpa [Array.getElem?_eq_getElem hi] using q
  obtain ⟨i0, ei0⟩ := is_v g17
  obtain rfl : w0 = (.int i0) := Option.some.inj ei0
  obtain ⟨i1, ei1⟩ := is_v g19
  obtain rfl : w1 = (.int i1) := Option.some.inj ei1
  obtain ⟨i2, ei2⟩ := is_v g21
  obtain rfl : w2 = (.int i2) := Option.some.inj ei2
  obtain ⟨i3, ei3⟩ := is_v g23
  obtain rfl : w3 = (.int i3) := Option.some.inj ei3
  obtain ⟨i4, ei4⟩ := is_v g24
  obtain rfl : w4 = (.int i4) := Option.some.inj ei4
  obtain ⟨n, o, h1, h2, h3, _, L, rfl, ⟨rfl, N⟩, hq⟩ := rm0 l s _ hw tables_1 i0 i1 i2 i3 i4 s.heap s.heap.size (Nat.le_refl _) p e ha hc hk s m _ below hf ((Spec.applies_iff_loose hf).mp happ).1 ⟨rfl, State.Warmed39.refl s, rfl⟩ trivial
  refine ⟨n, _, h1, h2, h3, hpost _ _ _ _ _ _ ⟨Cond.after_iff.mpr rfl, Cond.after_iff.mpr (eq_i res_at (Term.int_eval (1)) rfl), trivial⟩ ⟨hq.1, hq.2.1, (hq.2.2.sift fun y hy => Or.inr (N y hy)).mono (by decide) (by decide)⟩⟩
theorem main_1_1 : Claimed_1_1 := comes_1 fun _ _ _ _ _ _ h hF => ⟨h.1, hF⟩
theorem main_1_2 : Claimed_1_2 := comes_1 fun _ _ _ _ _ _ h hF => ⟨h.2.1, hF⟩
end Jvm.Pilot.@@N@@
namespace Jvm.Pilot.@@N@@
open Jvm Jvm.ClassFile Sem Op Lib Jvm.Free Jvm.Stand Jvm.Pilot.@@N@@.Jvm.D
/-! MADE BY PROGRAM (witnessworld.py) out of the Statement's table words and the real class files: 12 classes; the members and pool entries that the words name. The judged class is class 1, her method 1. -/
namespace start1
open Jvm.ClassFile
def u (s : String) : CpInfo := .utf8 (stringToUtf16 s)
/-- a pool by its gaps: so many unusable entries, then the entry; so many at the end -/
def gap : Nat → List CpInfo → List CpInfo
  | 0, r => r
  | n + 1, r => .unusable :: gap n r
def poolList (es : List (Nat × CpInfo)) (last : Nat) : List CpInfo := es.foldr (fun e r => gap e.1 (e.2 :: r)) (gap last [])
def pool (es : List (Nat × CpInfo)) (last : Nat) : Array CpInfo := ⟨poolList es last⟩
def fileOf (pool : Array CpInfo) (this : Nat) (attrs : Array Attribute := #[]) (ms : Array MethodInfo := #[]) (fl : Nat := 33) (sup : Nat := 0) (ifs : Array Nat := #[]) (fds : Array FieldInfo := #[]) : ClassFile where
  minorVersion := 0
  majorVersion := 65
  constantPool := pool
  accessFlags := fl
  thisClass := this
  superClass := sup
  interfaces := ifs
  fields := fds
  methods := ms
  attributes := attrs
def plain (name : String) (sup : Option ClassId) : Class where
  name := name
  kind := .ordinary
  loader := none
  accessFlags := 33
  super := sup
  interfaces := #[]
  cf := none
  fields := #[]
  methods := #[]
  instanceTypes := #[]
  staticTypes := #[]
  resolved := #[]
  callSites := []
  init := .initialized
  statics := none
  mirror := none

def pool0 : Array CpInfo := pool [(5, u "<init>"), (0, u "()V"), (1, .class_ 10), (1, u "java/lang/Object")] 113

def k0m0 : Method := { name := "<init>", desc := "()V", sig := { parameters := [], returnType := none }, accessFlags := 1, code := none }
/-- java/lang/Object -/
def k0 : Class := { plain "java/lang/Object" none with
  accessFlags := 33
  interfaces := #[]
  cf := some (fileOf pool0 8 #[] #[{ accessFlags := 1, nameIndex := 5, descriptorIndex := 6, attributes := #[] }] 33 0 #[] #[])
  fields := #[]
  methods := #[k0m0]
  instanceTypes := #[]
  staticTypes := #[]
  resolved := Array.replicate 124 none
  statics := none }

def pool1 : Array CpInfo := pool [(2, .class_ 4), (1, u "java/lang/Object"), (0, u "<init>"), (0, u "()V"), (0, .integer 2147483647), (0, .methodref 9 10), (0, .class_ 11), (0, .nameAndType 12 13), (0, u "com/example/rowsmith/rowsmith/io/GzipInput"), (0, u "begins"), (0, u "([BI)Z"), (0, .class_ 15), (0, u "com/example/rowsmith/rowsmith/io/GzipInputBeginsPinLaw"), (2, u "law"), (0, u "(IIIII)Z")] 5

def k1m0 : Method := { name := "<init>", desc := "()V", sig := { parameters := [], returnType := none }, accessFlags := 1, code := none }
def k1c1 : Code := { maxStack := 4, maxLocals := 11, code := code, exceptionTable := #[], attributes := #[] }
def k1m1 : Method := { name := "law", desc := "(IIIII)Z", sig := { parameters := [.int, .int, .int, .int, .int], returnType := some .boolean }, accessFlags := 9, code := some k1c1 }
/-- com/example/rowsmith/rowsmith/io/GzipInputBeginsPinLaw -/
def k1 : Class := { plain "com/example/rowsmith/rowsmith/io/GzipInputBeginsPinLaw" (some 0) with
  accessFlags := 49
  interfaces := #[]
  cf := some (fileOf pool1 14 #[] #[{ accessFlags := 1, nameIndex := 5, descriptorIndex := 6, attributes := #[] }, { accessFlags := 9, nameIndex := 18, descriptorIndex := 19, attributes := #[] }] 49 2 #[] #[])
  fields := #[]
  methods := #[k1m0, k1m1]
  instanceTypes := #[]
  staticTypes := #[]
  resolved := Array.replicate 25 none
  statics := none }

def pool2 : Array CpInfo := pool [(1, .class_ 2), (0, u "java/lang/AutoCloseable"), (0, .class_ 4), (0, u "java/lang/Object")] 7

/-- java/lang/AutoCloseable -/
def k2 : Class := { plain "java/lang/AutoCloseable" (some 0) with
  accessFlags := 1537
  interfaces := #[]
  cf := some (fileOf pool2 1 #[] #[] 1537 3 #[] #[])
  fields := #[]
  methods := #[]
  instanceTypes := #[]
  staticTypes := #[]
  resolved := Array.replicate 12 none
  statics := none }

def pool3 : Array CpInfo := pool [(1, .class_ 2), (0, u "java/io/Closeable"), (0, .class_ 4), (0, u "java/lang/Object"), (0, .class_ 6), (0, u "java/lang/AutoCloseable")] 7

/-- java/io/Closeable -/
def k3 : Class := { plain "java/io/Closeable" (some 0) with
  accessFlags := 1537
  interfaces := #[2]
  cf := some (fileOf pool3 1 #[] #[] 1537 3 #[5] #[])
  fields := #[]
  methods := #[]
  instanceTypes := #[]
  staticTypes := #[]
  resolved := Array.replicate 14 none
  statics := none }

def pool4 : Array CpInfo := pool [(4, .class_ 6), (1, u "java/lang/Object"), (0, u "<init>"), (0, u "()V"), (0, .class_ 10), (0, u "java/io/InputStream$1"), (2, .class_ 15), (1, u "java/io/InputStream"), (116, .class_ 133), (0, u "java/io/Closeable"), (0, u "MAX_SKIP_BUFFER_SIZE"), (0, u "I"), (2, u "DEFAULT_BUFFER_SIZE"), (1, u "MAX_BUFFER_SIZE")] 54

def k4m0 : Method := { name := "<init>", desc := "()V", sig := { parameters := [], returnType := none }, accessFlags := 1, code := none }
/-- java/io/InputStream -/
def k4 : Class := { plain "java/io/InputStream" (some 0) with
  accessFlags := 1057
  interfaces := #[3]
  cf := some (fileOf pool4 13 #[.nestMembers #[9]] #[{ accessFlags := 1, nameIndex := 7, descriptorIndex := 8, attributes := #[] }] 1057 4 #[132] #[{ accessFlags := 26, nameIndex := 134, descriptorIndex := 135, attributes := #[] }, { accessFlags := 26, nameIndex := 138, descriptorIndex := 135, attributes := #[] }, { accessFlags := 26, nameIndex := 140, descriptorIndex := 135, attributes := #[] }])
  fields := #[{ name := "MAX_SKIP_BUFFER_SIZE", type := .int, accessFlags := 26, slot := 0, constantValue := 0 }, { name := "DEFAULT_BUFFER_SIZE", type := .int, accessFlags := 26, slot := 1, constantValue := 0 }, { name := "MAX_BUFFER_SIZE", type := .int, accessFlags := 26, slot := 2, constantValue := 0 }]
  methods := #[k4m0]
  instanceTypes := #[]
  staticTypes := #[.int, .int, .int]
  resolved := Array.replicate 195 none
  statics := none }

def pool5 : Array CpInfo := pool [(2, .class_ 4), (1, u "java/io/InputStream"), (2, .class_ 8), (0, u "com/example/rowsmith/rowsmith/io/GzipInput"), (3, u "buffer"), (0, u "[B"), (7, u "inflater"), (0, u "Ljava/util/zip/Inflater;"), (5, u "crc"), (0, u "Ljava/util/zip/CRC32;"), (2, u "compressed"), (0, u "Ljava/io/InputStream;"), (6, u "ended"), (0, u "Z"), (2, u "inMember"), (22, u "size"), (0, u "J"), (6, u "limit"), (0, u "I"), (6, u "position"), (21, u "begun"), (6, .class_ 113), (0, u "com/example/rowsmith/rowsmith/io/GzipInput$Broken"), (47, u "ID1"), (2, u "ID2"), (1, u "DEFLATE"), (1, u "FHCRC"), (1, u "FEXTRA"), (1, u "FNAME"), (0, u "FCOMMENT"), (1, u "RESERVED"), (1, u "BUFFER_SIZE"), (3, u "begins"), (0, u "([BI)Z")] 26

def k5c0 : Code := { maxStack := 2, maxLocals := 2, code := prog_13_method_2_code, exceptionTable := #[], attributes := #[] }
def k5m0 : Method := { name := "begins", desc := "([BI)Z", sig := { parameters := [(.array .byte), .int], returnType := some .boolean }, accessFlags := 8, code := some k5c0 }
/-- com/example/rowsmith/rowsmith/io/GzipInput -/
def k5 : Class := { plain "com/example/rowsmith/rowsmith/io/GzipInput" (some 4) with
  accessFlags := 48
  interfaces := #[]
  cf := some (fileOf pool5 7 #[.nestMembers #[112]] #[{ accessFlags := 8, nameIndex := 181, descriptorIndex := 182, attributes := #[] }] 48 2 #[] #[{ accessFlags := 26, nameIndex := 161, descriptorIndex := 76, attributes := #[] }, { accessFlags := 26, nameIndex := 164, descriptorIndex := 76, attributes := #[] }, { accessFlags := 26, nameIndex := 166, descriptorIndex := 76, attributes := #[] }, { accessFlags := 26, nameIndex := 168, descriptorIndex := 76, attributes := #[] }, { accessFlags := 26, nameIndex := 170, descriptorIndex := 76, attributes := #[] }, { accessFlags := 26, nameIndex := 172, descriptorIndex := 76, attributes := #[] }, { accessFlags := 26, nameIndex := 173, descriptorIndex := 76, attributes := #[] }, { accessFlags := 26, nameIndex := 175, descriptorIndex := 76, attributes := #[] }, { accessFlags := 26, nameIndex := 177, descriptorIndex := 76, attributes := #[] }, { accessFlags := 18, nameIndex := 32, descriptorIndex := 33, attributes := #[] }, { accessFlags := 18, nameIndex := 12, descriptorIndex := 13, attributes := #[] }, { accessFlags := 2, nameIndex := 83, descriptorIndex := 76, attributes := #[] }, { accessFlags := 2, nameIndex := 75, descriptorIndex := 76, attributes := #[] }, { accessFlags := 18, nameIndex := 21, descriptorIndex := 22, attributes := #[] }, { accessFlags := 18, nameIndex := 28, descriptorIndex := 29, attributes := #[] }, { accessFlags := 2, nameIndex := 67, descriptorIndex := 68, attributes := #[] }, { accessFlags := 2, nameIndex := 44, descriptorIndex := 41, attributes := #[] }, { accessFlags := 2, nameIndex := 105, descriptorIndex := 41, attributes := #[] }, { accessFlags := 2, nameIndex := 40, descriptorIndex := 41, attributes := #[] }])
  fields := #[{ name := "ID1", type := .int, accessFlags := 26, slot := 0, constantValue := 0 }, { name := "ID2", type := .int, accessFlags := 26, slot := 1, constantValue := 0 }, { name := "DEFLATE", type := .int, accessFlags := 26, slot := 2, constantValue := 0 }, { name := "FHCRC", type := .int, accessFlags := 26, slot := 3, constantValue := 0 }, { name := "FEXTRA", type := .int, accessFlags := 26, slot := 4, constantValue := 0 }, { name := "FNAME", type := .int, accessFlags := 26, slot := 5, constantValue := 0 }, { name := "FCOMMENT", type := .int, accessFlags := 26, slot := 6, constantValue := 0 }, { name := "RESERVED", type := .int, accessFlags := 26, slot := 7, constantValue := 0 }, { name := "BUFFER_SIZE", type := .int, accessFlags := 26, slot := 8, constantValue := 0 }, { name := "compressed", type := (.object "java/io/InputStream"), accessFlags := 18, slot := 0, constantValue := 0 }, { name := "buffer", type := (.array .byte), accessFlags := 18, slot := 1, constantValue := 0 }, { name := "position", type := .int, accessFlags := 2, slot := 2, constantValue := 0 }, { name := "limit", type := .int, accessFlags := 2, slot := 3, constantValue := 0 }, { name := "inflater", type := (.object "java/util/zip/Inflater"), accessFlags := 18, slot := 4, constantValue := 0 }, { name := "crc", type := (.object "java/util/zip/CRC32"), accessFlags := 18, slot := 5, constantValue := 0 }, { name := "size", type := .long, accessFlags := 2, slot := 6, constantValue := 0 }, { name := "inMember", type := .boolean, accessFlags := 2, slot := 7, constantValue := 0 }, { name := "begun", type := .boolean, accessFlags := 2, slot := 8, constantValue := 0 }, { name := "ended", type := .boolean, accessFlags := 2, slot := 9, constantValue := 0 }]
  methods := #[k5m0]
  instanceTypes := #[(.object "java/io/InputStream"), (.array .byte), .int, .int, (.object "java/util/zip/Inflater"), (.object "java/util/zip/CRC32"), .long, .boolean, .boolean, .boolean]
  staticTypes := #[.int, .int, .int, .int, .int, .int, .int, .int, .int]
  resolved := Array.replicate 209 none
  statics := none }

def pool6 : Array CpInfo := pool [(1, u "java/lang/Cloneable"), (0, .class_ 1), (0, u "java/lang/Object"), (0, .class_ 3)] 3

/-- java/lang/Cloneable -/
def k6 : Class := { plain "java/lang/Cloneable" (some 0) with
  accessFlags := 1537
  interfaces := #[]
  cf := some (fileOf pool6 2 #[] #[] 1537 4 #[] #[])
  fields := #[]
  methods := #[]
  instanceTypes := #[]
  staticTypes := #[]
  resolved := Array.replicate 8 none
  statics := none }

def pool7 : Array CpInfo := pool [(1, u "java/io/Serializable"), (0, .class_ 1), (0, u "java/lang/Object"), (0, .class_ 3)] 3

/-- java/io/Serializable -/
def k7 : Class := { plain "java/io/Serializable" (some 0) with
  accessFlags := 1537
  interfaces := #[]
  cf := some (fileOf pool7 2 #[] #[] 1537 4 #[] #[])
  fields := #[]
  methods := #[]
  instanceTypes := #[]
  staticTypes := #[]
  resolved := Array.replicate 8 none
  statics := none }

/-- the primitive byte -/
def k8 : Class := { plain "byte" none with kind := .primitive 'B', accessFlags := 0x411 }
/-- [B -/
def k9 : Class := { plain "[B" (some 0) with kind := .array 8 .byte, interfaces := #[6, 7], accessFlags := 1041 }

/-- the primitive int -/
def k10 : Class := { plain "int" none with kind := .primitive 'I', accessFlags := 0x411 }
/-- [I -/
def k11 : Class := { plain "[I" (some 0) with kind := .array 10 .int, interfaces := #[6, 7], accessFlags := 1041 }

def heap : Heap := #[]
def classes : Array Class := #[k0, k1, k2, k3, k4, k5, k6, k7, k8, k9, k10, k11]
def interned : List (Array UInt16 × Addr) := []
def slotsUsed : Nat := 0
def theMethod : MethodId := ⟨1, 1⟩
def args0 : Array Value := #[.int 5, .int 6, .int 7, .int 2, .int 0]
def aboutOver (below : List Frame) : State where
  vm := { classes := classes, interned := interned.toArray }
  heap := heap
  slotsUsed := slotsUsed
  threads := #[{ frames := .invoking theMethod args0 :: below }]
def below0 : List Frame := [.native { method := ⟨0, 0⟩, args := #[] }]
def about1 : State := aboutOver below0
def p0 : Program := .bare "" "" ""
def e0 : Env := launch0.env 0 0 0
theorem w_frames : about1.frames = Frame.invoking theMethod args0 :: below0 := rfl
set_option maxRecDepth 65536 in
theorem w_args : argsFit about1.vm theMethod args0 = true := by decide +kernel
set_option maxRecDepth 65536 in
theorem w_heap : heapFits about1 = true := by decide +kernel
set_option maxRecDepth 65536 in
theorem w_runnable : about1.curStatus? = some .runnable := by decide +kernel
set_option maxRecDepth 65536 in
theorem w_alone : about1.alone = true := by decide +kernel
set_option maxRecDepth 65536 in
theorem w_named : about1.methodNamed? x = some theMethod := by decide +kernel
set_option maxRecDepth 65536 in
theorem w_hears : about1.hears theMethod below0 = true := by decide +kernel
set_option maxRecDepth 65536 in
theorem w_ripe : about1.ripe theMethod args0 below0 = true := by decide +kernel
theorem w_running : about1.status = .running := rfl
set_option maxRecDepth 65536 in
theorem w_room : about1.hasRoom e0.platform room_1 = true :=
  launch0.hasRoom_least _ room_1 (by decide +kernel) (by decide +kernel) (by decide +kernel) (by decide +kernel) (by decide +kernel) (by decide +kernel)
theorem allAtoms_all (ts : List Jvm.Cond) (a : Array Jvm.Value) (st : Jvm.State) : (allAtoms ts).before a st = ts.all (fun c => c.before a st) := by
  induction ts with
  | nil => rfl
  | cons c t ih =>
    show (Jvm.Cond.and c (allAtoms t)).before a st = _
    rw [Jvm.Cond.before_and, ih, List.all_cons]
def words1 : List Jvm.Cond := Jvm.Cond.code x code maxLocals ret :: tables_1
/-- a 'code' word, met by the world's own term for the bytes: nothing is compared byte by byte -/
theorem code_word {y : MethodName} {bytes : ByteArray} {mx : Nat} {rt : Option FieldType} {a : Array Value} {s : State} {m : MethodId} {meth : Method} {c : Code} (h1 : s.methodNamed? y = some m) (h2 : s.vm.method? m = some meth) (h3 : meth.code = some c) (h4 : c.code = bytes)
    (h5 : (c.maxLocals == mx && c.exceptionTable.isEmpty && decide (c.maxStack ≤ mostOperands) && decide (meth.sig.returnType = rt) && !meth.locks && decide (parseMethodDescriptor y.desc = some meth.sig)) = true) : (Jvm.Cond.code y bytes mx rt).before a s = true := by
  simp only [Bool.and_eq_true, beq_iff_eq, Bool.not_eq_true', decide_eq_true_eq] at h5
  obtain ⟨⟨⟨⟨⟨g1, g2⟩, g3⟩, g4⟩, g5⟩, g6⟩ := h5
  simp [Cond.before, Cond.holds, Cond.value, h1, h2, h3, h4, g1, g2, g3, g4, g5, g6]
def isCode : Jvm.Cond → Bool
  | .code _ _ _ _ => true
  | _ => false
theorem all_split {L : List Jvm.Cond} {P : Jvm.Cond → Bool} (h1 : L.all (fun c => isCode c || P c) = true) (h2 : ∀ c ∈ L.filter isCode, P c = true) : L.all P = true := by
  refine List.all_eq_true.mpr fun c hc => ?_
  have h := List.all_eq_true.mp h1 c hc
  rcases Bool.eq_false_or_eq_true (isCode c) with hi | hi
  · exact h2 c (List.mem_filter.mpr ⟨hc, hi⟩)
  · simpa [hi] using h
set_option maxRecDepth 65536 in
theorem w_c0 : (Jvm.Cond.code x code maxLocals ret).before args0 about1 = true := code_word (m := ⟨1, 1⟩) (meth := k1m1) (c := k1c1) (by decide +kernel) rfl rfl rfl (by decide +kernel)
set_option maxRecDepth 65536 in
theorem w_c1 : (Jvm.Cond.code ({ cls := "com/example/rowsmith/rowsmith/io/GzipInput", name := "begins", desc := "([BI)Z" } : Jvm.MethodName) prog_13_method_2_code (2 : Nat) (Option.some Jvm.ClassFile.FieldType.boolean)).before args0 about1 = true := code_word (m := ⟨5, 0⟩) (meth := k5m0) (c := k5c0) (by decide +kernel) rfl rfl rfl (by decide +kernel)
def codes1 : List Jvm.Cond := [Jvm.Cond.code x code maxLocals ret, Jvm.Cond.code ({ cls := "com/example/rowsmith/rowsmith/io/GzipInput", name := "begins", desc := "([BI)Z" } : Jvm.MethodName) prog_13_method_2_code (2 : Nat) (Option.some Jvm.ClassFile.FieldType.boolean)]
set_option maxRecDepth 65536 in
theorem codes_eq : words1.filter isCode = codes1 := rfl
theorem w_codes : ∀ c ∈ words1.filter isCode, c.before args0 about1 = true := by
  rw [codes_eq]
  intro c hc
  simp only [codes1, List.mem_cons, List.not_mem_nil, or_false] at hc
  rcases hc with rfl | rfl
  · exact w_c0
  · exact w_c1
set_option maxRecDepth 65536 in
theorem w_t1 : words1.all (fun c => isCode c || c.before args0 about1) = true := by decide +kernel
theorem w_tables : (allAtoms (Jvm.Cond.code x code maxLocals ret :: tables_1)).before args0 about1 = true := by
  rw [allAtoms_all]
  show words1.all (fun c => c.before args0 about1) = true
  refine all_split ?_ w_codes
  rw [w_t1]
set_option maxRecDepth 65536 in
theorem w_case : (Jvm.Cond.and given_1 narrow_1).before args0 about1 = true := by decide +kernel
theorem w_applies : (headSpec (Jvm.Cond.code x code maxLocals ret :: tables_1) room_1).applies x e0.platform about1 = true :=
  (Spec.applies_iff w_frames).mpr ⟨w_running, w_runnable, w_alone, w_named, w_hears, w_ripe, w_room, w_tables⟩
theorem atStart : AtStart classFile x code maxLocals ret World_1 tables_1 room_1 Calls_1 rest_1 Pre_1 launch0 p0 e0 about1 theMethod args0 below0 :=
  ⟨lists_1, trivial, launch0.admits_env _ _ _, launch0.least_env, fairChoices_fair.cas, fairChoices_fair.clock, w_frames, w_args, w_heap, w_applies, trivial, trivial, w_case⟩
end start1
theorem witness_1 : WitnessClaimed_1 := ⟨start1.p0, start1.e0, start1.about1, start1.theMethod, start1.args0, start1.below0, start1.atStart⟩
end Jvm.Pilot.@@N@@
