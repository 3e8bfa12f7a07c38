import JvmDerived
import JvmDerived.Pilot.@@N@@Statement
import JvmDerived.Pilot.@@N@@Code
set_option linter.unusedVariables false
set_option linter.unusedSimpArgs false
namespace Jvm.RoadKit
open Sem ClassFile Op Lib Jvm.Stand Jvm.Free Jvm.LawKit
section New
variable {p : Program} {l : Launch} {e : Env} {R : Room} {s : State} {m : MethodId} {args : Array Value} {below : List Frame} {meth : Method} {c : Code} {T : State} {locs : List Loc} {cells slots : Nat}
theorem retI (X : Stand p l e R s m args below meth c T locs cells slots) (hx : p.tables.exec = Jvm.exec) {pc : Nat} {Ls : Array Slot} {z : Int32} {rest : List Value} (hret : meth.sig.returnType = some .int) (hd : decode c.code pc = .ok (.ireturn, 1)) {fs : List Frame}
    (hl : ∀ (f : JFrame) (acts : List Action), f.method = m → f.locked = none → f.entered = [] → (doReturn e (T.setTop f) acts (some (.int z))).1 = T.setFrames fs) : Steps p.tables e below (T.setTop (mkF m pc Ls (.int z :: rest))) (T.setFrames fs) := by
  have hm' : T.vm.method? m = some meth := X.method'
  have hn : narrow .int (.int z) = .int z := rfl
  show Steps p.tables e below (T.setTop { method := m, pc := pc, locals := Ls, stack := _ :: rest, locked := none }) _
  jvm_step X.here [X.here.top, hx, hd, hm', hret, hn]
  first | (intro acts; rw [hl _ acts rfl rfl rfl]) | rw [hl _ _ rfl rfl rfl]
  exact Steps.refl _
end New
end Jvm.RoadKit
namespace Jvm.Pilot.@@N@@
open Jvm Jvm.ClassFile Sem Op Lib Jvm.Free Jvm.Stand Jvm.LawKit Jvm.RoadKit Bundle Jvm.Pilot.@@N@@.Jvm.D
theorem d1_0 : decode method_3_code 0 = .ok (.iload_n 1, 1) := by decide +kernel
theorem d1_1 : decode method_3_code 1 = .ok (.iload_n 2, 1) := by decide +kernel
theorem d1_2 : decode method_3_code 2 = .ok (.ishr, 1) := by decide +kernel
theorem d1_3 : decode method_3_code 3 = .ok (.iconst 1, 1) := by decide +kernel
theorem d1_4 : decode method_3_code 4 = .ok (.iand, 1) := by decide +kernel
theorem d1_5 : decode method_3_code 5 = .ok (.ifCond .eq 8, 3) := by decide +kernel
theorem d1_13 : decode method_3_code 13 = .ok (.iload_n 0, 1) := by decide +kernel
theorem d1_14 : decode method_3_code 14 = .ok (.bipush 8, 2) := by decide +kernel
theorem d1_16 : decode method_3_code 16 = .ok (.iload_n 2, 1) := by decide +kernel
theorem d1_17 : decode method_3_code 17 = .ok (.imul, 1) := by decide +kernel
theorem d1_18 : decode method_3_code 18 = .ok (.ishr, 1) := by decide +kernel
theorem d1_19 : decode method_3_code 19 = .ok (.i2b, 1) := by decide +kernel
theorem d1_20 : decode method_3_code 20 = .ok (.ireturn, 1) := by decide +kernel
theorem pn_1 : plainName "com/example/loop1/loop1/http/HttpSyntaxLineFeedPinLaw" = true := by first | (simp [plainName, overriddenIn]; done) | decide +kernel
theorem ef_1 (m : MethodId) (x0 : Int32) (x1 : Int32) (x2 : Int32) : entryFrame m #[(.int x0), (.int x1), (.int x2)] 3 = mkF m 0 #[.val (.int x0), .val (.int x1), .val (.int x2)] [] := by first | (simp [entryFrame, mkF, argsToLocals, Value.category]; done) | rfl
theorem d1_8 : decode method_3_code 8 = .ok (.bipush 10, 2) := by decide +kernel
theorem d1_10 : decode method_3_code 10 = .ok (.goto 10, 3) := by decide +kernel
def Q1 (r : Int32) (n0 : Nat) (h0 : Heap) (v : Option Value) (h : Heap) (L : List Loc) : Prop := v = some (.int r) ∧ Fr n0 L ∧ h = h0
set_option maxRecDepth 65536 in
set_option maxHeartbeats 40000000 in
theorem rm1_t (l : Launch) (Z : State) (a0 : Array Value) (hw : ∀ d ∈ tables_1, d.before a0 Z = true) (ws : List Jvm.Cond) (p1 : Int32) (p2 : Int32) (p3 : Int32) (h0 : Heap) (n0 : Nat) (Z0 : n0 ≤ h0.size) (hc5 : ((p2 >>> (p3 &&& 31)) &&& (1 : Int32)) = (0 : Int32)) :
    MetFree l (⟨"com/example/loop1/loop1/http/HttpSyntaxLineFeedPinLaw", "pick", "(III)B"⟩ : MethodName) (head1 (Jvm.Cond.code (⟨"com/example/loop1/loop1/http/HttpSyntaxLineFeedPinLaw", "pick", "(III)B"⟩ : MethodName) method_3_code 3 (some .byte) :: ws) ({ frames := 0, cells := 0, slots := 0, locals := 0 } : Room)) (fun a U => a = #[(.int p1), (.int p2), (.int p3)] ∧ Z.Warmed39 U.vm ∧ U.heap = h0) (fun _ _ _ _ _ => True) (fun _ U o U' => ∃ v L, o = .returned v ∧ Q1 (((p1 >>> (((8 : Int32) * p3) &&& 31)).toInt8.toInt32).toInt8.toInt32) n0 h0 v U'.heap L ∧ FrameEnd U o U' L ({ frames := 0, cells := 0, slots := 0, locals := 0 } : Room).cells ({ frames := 0, cells := 0, slots := 0, locals := 0 } : Room).slots) := by
  refine MetFree.of_bodySF (plainFor_of_name pn_1) hisR ?_
  intro p e s m args below meth c s₁ Bd hml0 hP hK
  obtain ⟨rfl, hZ, hh⟩ := hP
  have hx := Bd.exec
  have hby := Bd.bytes
  have hml : c.maxLocals = 3 := hml0
  have hown : s.vm.findClass "com/example/loop1/loop1/http/HttpSyntaxLineFeedPinLaw" = some m.cls := findClass_of_methodNamed Bd.named
  have hnm := (name_of_methodNamed Bd.named Bd.method).1
  have X0 : Stand p l e ({ frames := 0, cells := 0, slots := 0, locals := 0 } : Room) s m #[(.int p1), (.int p2), (.int p3)] below meth c s₁ [] 0 0 := Stand.of_body Bd
  have e0 : s₁.heap = h0 := by rw [← hh, Bd.state]; rfl
  have N0 := Fr.nil n0
  have pre0 : ∀ t, Steps p.tables e below (s₁.setTop (mkF m 0 #[.val (.int p1), .val (.int p2), .val (.int p3)] [])) t → Steps p.tables e below (s₁.setTop (entryFrame m #[(.int p1), (.int p2), (.int p3)] 3)) t := fun t k => castTop (ef_1 m p1 p2 p3) k

  obtain ⟨fs, hr, hrun, hended, hW, hsame⟩ := X0.leave (v := some (.int (((p1 >>> (((8 : Int32) * p3) &&& 31)).toInt8.toInt32).toInt8.toInt32))) (fun h => by rw [Bd.returns] at h; cases h)
  refine ⟨_, _, pre0 _ ?_, hrun, hended, _, _, rfl, ?_, ⟨_, rfl⟩, hW, hsame.mono (by decide) (by decide)⟩
  · show Steps p.tables e below (s₁.setTop (mkF m 0 #[.val (.int p1), .val (.int p2), .val (.int p3)] [])) _
    refine XS.iloadN X0.here hx rfl (hb hby d1_0) rfl ?_
    show Steps p.tables e below (s₁.setTop (mkF m 1 #[.val (.int p1), .val (.int p2), .val (.int p3)] [(.int p2)])) _
    refine XS.iloadN X0.here hx rfl (hb hby d1_1) rfl ?_
    show Steps p.tables e below (s₁.setTop (mkF m 2 #[.val (.int p1), .val (.int p2), .val (.int p3)] [(.int p3), (.int p2)])) _
    refine XS.ishr X0.here hx rfl (hb hby d1_2) rfl ?_
    show Steps p.tables e below (s₁.setTop (mkF m 3 #[.val (.int p1), .val (.int p2), .val (.int p3)] [(.int (p2 >>> (p3 &&& 31)))])) _
    refine XS.iconst X0.here hx rfl (hb hby d1_3) ?_
    show Steps p.tables e below (s₁.setTop (mkF m 4 #[.val (.int p1), .val (.int p2), .val (.int p3)] [(.int (1 : Int32)), (.int (p2 >>> (p3 &&& 31)))])) _
    refine XS.iand X0.here hx rfl (hb hby d1_4) rfl ?_
    show Steps p.tables e below (s₁.setTop (mkF m 5 #[.val (.int p1), .val (.int p2), .val (.int p3)] [(.int ((p2 >>> (p3 &&& 31)) &&& (1 : Int32)))])) _
    refine XS.ifYes X0.here hx rfl (pc0 := 5) (pc' := 13) rfl (hb hby d1_5) rfl ((if0 _ _).trans (teq hc5).1) (by decide) (by decide) ?_
    show Steps p.tables e below (s₁.setTop (mkF m 13 #[.val (.int p1), .val (.int p2), .val (.int p3)] [])) _
    refine XS.iloadN X0.here hx rfl (hb hby d1_13) rfl ?_
    show Steps p.tables e below (s₁.setTop (mkF m 14 #[.val (.int p1), .val (.int p2), .val (.int p3)] [(.int p1)])) _
    refine XS.bipush X0.here hx rfl (hb hby d1_14) ?_
    show Steps p.tables e below (s₁.setTop (mkF m 16 #[.val (.int p1), .val (.int p2), .val (.int p3)] [(.int (8 : Int32)), (.int p1)])) _
    refine XS.iloadN X0.here hx rfl (hb hby d1_16) rfl ?_
    show Steps p.tables e below (s₁.setTop (mkF m 17 #[.val (.int p1), .val (.int p2), .val (.int p3)] [(.int p3), (.int (8 : Int32)), (.int p1)])) _
    refine XS.imul X0.here hx rfl (hb hby d1_17) rfl ?_
    show Steps p.tables e below (s₁.setTop (mkF m 18 #[.val (.int p1), .val (.int p2), .val (.int p3)] [(.int ((8 : Int32) * p3)), (.int p1)])) _
    refine XS.ishr X0.here hx rfl (hb hby d1_18) rfl ?_
    show Steps p.tables e below (s₁.setTop (mkF m 19 #[.val (.int p1), .val (.int p2), .val (.int p3)] [(.int (p1 >>> (((8 : Int32) * p3) &&& 31)))])) _
    refine XS.i2b X0.here hx rfl (hb hby d1_19) rfl ?_
    show Steps p.tables e below (s₁.setTop (mkF m 20 #[.val (.int p1), .val (.int p2), .val (.int p3)] [(.int ((p1 >>> (((8 : Int32) * p3) &&& 31)).toInt8.toInt32))])) _
    exact retN X0 hx (t := .byte) Bd.returns (by simp) (hb hby d1_20) hr
  · show Q1 (((p1 >>> (((8 : Int32) * p3) &&& 31)).toInt8.toInt32).toInt8.toInt32) n0 h0 _ s₁.heap _
    rw [e0]
    exact ⟨rfl, N0, rfl⟩
set_option maxRecDepth 65536 in
set_option maxHeartbeats 40000000 in
theorem rm1_f (l : Launch) (Z : State) (a0 : Array Value) (hw : ∀ d ∈ tables_1, d.before a0 Z = true) (ws : List Jvm.Cond) (p1 : Int32) (p2 : Int32) (p3 : Int32) (h0 : Heap) (n0 : Nat) (Z0 : n0 ≤ h0.size) (hc5 : ¬ (((p2 >>> (p3 &&& 31)) &&& (1 : Int32)) = (0 : Int32))) :
    MetFree l (⟨"com/example/loop1/loop1/http/HttpSyntaxLineFeedPinLaw", "pick", "(III)B"⟩ : MethodName) (head1 (Jvm.Cond.code (⟨"com/example/loop1/loop1/http/HttpSyntaxLineFeedPinLaw", "pick", "(III)B"⟩ : MethodName) method_3_code 3 (some .byte) :: ws) ({ frames := 0, cells := 0, slots := 0, locals := 0 } : Room)) (fun a U => a = #[(.int p1), (.int p2), (.int p3)] ∧ Z.Warmed39 U.vm ∧ U.heap = h0) (fun _ _ _ _ _ => True) (fun _ U o U' => ∃ v L, o = .returned v ∧ Q1 (10 : Int32) n0 h0 v U'.heap L ∧ FrameEnd U o U' L ({ frames := 0, cells := 0, slots := 0, locals := 0 } : Room).cells ({ frames := 0, cells := 0, slots := 0, locals := 0 } : Room).slots) := by
  refine MetFree.of_bodySF (plainFor_of_name pn_1) hisR ?_
  intro p e s m args below meth c s₁ Bd hml0 hP hK
  obtain ⟨rfl, hZ, hh⟩ := hP
  have hx := Bd.exec
  have hby := Bd.bytes
  have hml : c.maxLocals = 3 := hml0
  have hown : s.vm.findClass "com/example/loop1/loop1/http/HttpSyntaxLineFeedPinLaw" = some m.cls := findClass_of_methodNamed Bd.named
  have hnm := (name_of_methodNamed Bd.named Bd.method).1
  have X0 : Stand p l e ({ frames := 0, cells := 0, slots := 0, locals := 0 } : Room) s m #[(.int p1), (.int p2), (.int p3)] below meth c s₁ [] 0 0 := Stand.of_body Bd
  have e0 : s₁.heap = h0 := by rw [← hh, Bd.state]; rfl
  have N0 := Fr.nil n0
  have pre0 : ∀ t, Steps p.tables e below (s₁.setTop (mkF m 0 #[.val (.int p1), .val (.int p2), .val (.int p3)] [])) t → Steps p.tables e below (s₁.setTop (entryFrame m #[(.int p1), (.int p2), (.int p3)] 3)) t := fun t k => castTop (ef_1 m p1 p2 p3) k

  obtain ⟨fs, hr, hrun, hended, hW, hsame⟩ := X0.leave (v := some (.int (10 : Int32))) (fun h => by rw [Bd.returns] at h; cases h)
  refine ⟨_, _, pre0 _ ?_, hrun, hended, _, _, rfl, ?_, ⟨_, rfl⟩, hW, hsame.mono (by decide) (by decide)⟩
  · show Steps p.tables e below (s₁.setTop (mkF m 0 #[.val (.int p1), .val (.int p2), .val (.int p3)] [])) _
    refine XS.iloadN X0.here hx rfl (hb hby d1_0) rfl ?_
    show Steps p.tables e below (s₁.setTop (mkF m 1 #[.val (.int p1), .val (.int p2), .val (.int p3)] [(.int p2)])) _
    refine XS.iloadN X0.here hx rfl (hb hby d1_1) rfl ?_
    show Steps p.tables e below (s₁.setTop (mkF m 2 #[.val (.int p1), .val (.int p2), .val (.int p3)] [(.int p3), (.int p2)])) _
    refine XS.ishr X0.here hx rfl (hb hby d1_2) rfl ?_
    show Steps p.tables e below (s₁.setTop (mkF m 3 #[.val (.int p1), .val (.int p2), .val (.int p3)] [(.int (p2 >>> (p3 &&& 31)))])) _
    refine XS.iconst X0.here hx rfl (hb hby d1_3) ?_
    show Steps p.tables e below (s₁.setTop (mkF m 4 #[.val (.int p1), .val (.int p2), .val (.int p3)] [(.int (1 : Int32)), (.int (p2 >>> (p3 &&& 31)))])) _
    refine XS.iand X0.here hx rfl (hb hby d1_4) rfl ?_
    show Steps p.tables e below (s₁.setTop (mkF m 5 #[.val (.int p1), .val (.int p2), .val (.int p3)] [(.int ((p2 >>> (p3 &&& 31)) &&& (1 : Int32)))])) _
    refine XS.ifNo X0.here hx rfl (hb hby d1_5) rfl ((if0 _ _).trans (feq hc5).1) ?_
    show Steps p.tables e below (s₁.setTop (mkF m 8 #[.val (.int p1), .val (.int p2), .val (.int p3)] [])) _
    refine XS.bipush X0.here hx rfl (hb hby d1_8) ?_
    show Steps p.tables e below (s₁.setTop (mkF m 10 #[.val (.int p1), .val (.int p2), .val (.int p3)] [(.int (10 : Int32))])) _
    refine XS.goto X0.here hx rfl (pc0 := 10) (pc' := 20) rfl (hb hby d1_10) (by decide) (by decide) ?_
    show Steps p.tables e below (s₁.setTop (mkF m 20 #[.val (.int p1), .val (.int p2), .val (.int p3)] [(.int (10 : Int32))])) _
    exact retN X0 hx (t := .byte) Bd.returns (by simp) (hb hby d1_20) hr
  · show Q1 (10 : Int32) n0 h0 _ s₁.heap _
    rw [e0]
    exact ⟨rfl, N0, rfl⟩
def own_f1 (p1 : Int32) (p2 : Int32) (p3 : Int32) : Int32 := (if ((p2 >>> (p3 &&& 31)) &&& (1 : Int32)) = (0 : Int32) then (((p1 >>> (((8 : Int32) * p3) &&& 31)).toInt8.toInt32).toInt8.toInt32) else (10 : Int32))
set_option maxRecDepth 65536 in
theorem rm1 (l : Launch) (Z : State) (a0 : Array Value) (hw : ∀ d ∈ tables_1, d.before a0 Z = true) (ws : List Jvm.Cond) (p1 : Int32) (p2 : Int32) (p3 : Int32) (h0 : Heap) (n0 : Nat) (Z0 : n0 ≤ h0.size) :
    MetFree l (⟨"com/example/loop1/loop1/http/HttpSyntaxLineFeedPinLaw", "pick", "(III)B"⟩ : MethodName) (head1 (Jvm.Cond.code (⟨"com/example/loop1/loop1/http/HttpSyntaxLineFeedPinLaw", "pick", "(III)B"⟩ : MethodName) method_3_code 3 (some .byte) :: ws) ({ frames := 0, cells := 0, slots := 0, locals := 0 } : Room)) (fun a U => a = #[(.int p1), (.int p2), (.int p3)] ∧ Z.Warmed39 U.vm ∧ U.heap = h0) (fun _ _ _ _ _ => True) (fun _ U o U' => ∃ v L, o = .returned v ∧ Q1 (own_f1 p1 p2 p3) n0 h0 v U'.heap L ∧ FrameEnd U o U' L ({ frames := 0, cells := 0, slots := 0, locals := 0 } : Room).cells ({ frames := 0, cells := 0, slots := 0, locals := 0 } : Room).slots) := by
  by_cases hc5 : ((p2 >>> (p3 &&& 31)) &&& (1 : Int32)) = (0 : Int32)
  · rw [show own_f1 p1 p2 p3 = (((p1 >>> (((8 : Int32) * p3) &&& 31)).toInt8.toInt32).toInt8.toInt32) from by rw [own_f1, if_pos hc5]]
    exact rm1_t l Z a0 hw ws p1 p2 p3 h0 n0 Z0 hc5
  · rw [show own_f1 p1 p2 p3 = (10 : Int32) from by rw [own_f1, if_neg hc5]]
    exact rm1_f l Z a0 hw ws p1 p2 p3 h0 n0 Z0 hc5
theorem d2_0 : decode method_4_code 0 = .ok (.iload_n 1, 1) := by decide +kernel
theorem d2_1 : decode method_4_code 1 = .ok (.iload_n 2, 1) := by decide +kernel
theorem d2_2 : decode method_4_code 2 = .ok (.if_icmp .lt 20, 3) := by decide +kernel
theorem d2_22 : decode method_4_code 22 = .ok (.iconst 0, 1) := by decide +kernel
theorem d2_23 : decode method_4_code 23 = .ok (.ireturn, 1) := by decide +kernel
theorem pn_2 : plainName "com/example/loop1/loop1/http/HttpSyntaxLineFeedPinLaw" = true := by first | (simp [plainName, overriddenIn]; done) | decide +kernel
theorem ef_2 (m : MethodId) (x0 : Addr) (x1 : Int32) (x2 : Int32) (x3 : Int32) : entryFrame m #[(.ref x0), (.int x1), (.int x2), (.int x3)] 4 = mkF m 0 #[.val (.ref x0), .val (.int x1), .val (.int x2), .val (.int x3)] [] := by first | (simp [entryFrame, mkF, argsToLocals, Value.category]; done) | rfl
theorem d2_5 : decode method_4_code 5 = .ok (.iload_n 1, 1) := by decide +kernel
theorem d2_6 : decode method_4_code 6 = .ok (.iload_n 3, 1) := by decide +kernel
theorem d2_7 : decode method_4_code 7 = .ok (.if_icmp .ge 15, 3) := by decide +kernel
theorem d2_10 : decode method_4_code 10 = .ok (.aload_n 0, 1) := by decide +kernel
theorem d2_11 : decode method_4_code 11 = .ok (.iload_n 1, 1) := by decide +kernel
theorem d2_12 : decode method_4_code 12 = .ok (.baload, 1) := by decide +kernel
theorem d2_13 : decode method_4_code 13 = .ok (.bipush 10, 2) := by decide +kernel
theorem d2_15 : decode method_4_code 15 = .ok (.if_icmp .ne 7, 3) := by decide +kernel
theorem d2_18 : decode method_4_code 18 = .ok (.iconst 1, 1) := by decide +kernel
theorem d2_19 : decode method_4_code 19 = .ok (.goto 4, 3) := by decide +kernel
def Q2 (r : Int32) (n0 : Nat) (h0 : Heap) (v : Option Value) (h : Heap) (L : List Loc) : Prop := v = some (.int r) ∧ Fr n0 L ∧ h = h0
set_option maxRecDepth 65536 in
set_option maxHeartbeats 40000000 in
theorem rm2_t (l : Launch) (Z : State) (a0 : Array Value) (hw : ∀ d ∈ tables_1, d.before a0 Z = true) (ws : List Jvm.Cond) (a1 : Addr) (p2 : Int32) (p3 : Int32) (p4 : Int32) (h0 : Heap) (n0 : Nat) (Z0 : n0 ≤ h0.size) (hc2 : p2 < p3) :
    MetFree l (⟨"com/example/loop1/loop1/http/HttpSyntaxLineFeedPinLaw", "hit", "([BIII)Z"⟩ : MethodName) (head1 (Jvm.Cond.code (⟨"com/example/loop1/loop1/http/HttpSyntaxLineFeedPinLaw", "hit", "([BIII)Z"⟩ : MethodName) method_4_code 4 (some .boolean) :: ws) ({ frames := 0, cells := 0, slots := 0, locals := 0 } : Room)) (fun a U => a = #[(.ref a1), (.int p2), (.int p3), (.int p4)] ∧ Z.Warmed39 U.vm ∧ U.heap = h0) (fun _ _ _ _ _ => True) (fun _ U o U' => ∃ v L, o = .returned v ∧ Q2 (0 : Int32) n0 h0 v U'.heap L ∧ FrameEnd U o U' L ({ frames := 0, cells := 0, slots := 0, locals := 0 } : Room).cells ({ frames := 0, cells := 0, slots := 0, locals := 0 } : Room).slots) := by
  refine MetFree.of_bodySF (plainFor_of_name pn_2) hisR ?_
  intro p e s m args below meth c s₁ Bd hml0 hP hK
  obtain ⟨rfl, hZ, hh⟩ := hP
  have hx := Bd.exec
  have hby := Bd.bytes
  have hml : c.maxLocals = 4 := hml0
  have hown : s.vm.findClass "com/example/loop1/loop1/http/HttpSyntaxLineFeedPinLaw" = some m.cls := findClass_of_methodNamed Bd.named
  have hnm := (name_of_methodNamed Bd.named Bd.method).1
  have X0 : Stand p l e ({ frames := 0, cells := 0, slots := 0, locals := 0 } : Room) s m #[(.ref a1), (.int p2), (.int p3), (.int p4)] below meth c s₁ [] 0 0 := Stand.of_body Bd
  have e0 : s₁.heap = h0 := by rw [← hh, Bd.state]; rfl
  have N0 := Fr.nil n0
  have pre0 : ∀ t, Steps p.tables e below (s₁.setTop (mkF m 0 #[.val (.ref a1), .val (.int p2), .val (.int p3), .val (.int p4)] [])) t → Steps p.tables e below (s₁.setTop (entryFrame m #[(.ref a1), (.int p2), (.int p3), (.int p4)] 4)) t := fun t k => castTop (ef_2 m a1 p2 p3 p4) k

  obtain ⟨fs, hr, hrun, hended, hW, hsame⟩ := X0.leave (v := some (.int (0 : Int32))) (fun h => by rw [Bd.returns] at h; cases h)
  refine ⟨_, _, pre0 _ ?_, hrun, hended, _, _, rfl, ?_, ⟨_, rfl⟩, hW, hsame.mono (by decide) (by decide)⟩
  · show Steps p.tables e below (s₁.setTop (mkF m 0 #[.val (.ref a1), .val (.int p2), .val (.int p3), .val (.int p4)] [])) _
    refine XS.iloadN X0.here hx rfl (hb hby d2_0) rfl ?_
    show Steps p.tables e below (s₁.setTop (mkF m 1 #[.val (.ref a1), .val (.int p2), .val (.int p3), .val (.int p4)] [(.int p2)])) _
    refine XS.iloadN X0.here hx rfl (hb hby d2_1) rfl ?_
    show Steps p.tables e below (s₁.setTop (mkF m 2 #[.val (.ref a1), .val (.int p2), .val (.int p3), .val (.int p4)] [(.int p3), (.int p2)])) _
    refine XS.icmpYes X0.here hx rfl (pc0 := 2) (pc' := 22) rfl (hb hby d2_2) rfl (tlt hc2).1 (by decide) (by decide) ?_
    show Steps p.tables e below (s₁.setTop (mkF m 22 #[.val (.ref a1), .val (.int p2), .val (.int p3), .val (.int p4)] [])) _
    refine XS.iconst X0.here hx rfl (hb hby d2_22) ?_
    show Steps p.tables e below (s₁.setTop (mkF m 23 #[.val (.ref a1), .val (.int p2), .val (.int p3), .val (.int p4)] [(.int (0 : Int32))])) _
    exact retN X0 hx (t := .boolean) Bd.returns (by simp) (hb hby d2_23) hr
  · show Q2 (0 : Int32) n0 h0 _ s₁.heap _
    rw [e0]
    exact ⟨rfl, N0, rfl⟩
set_option maxRecDepth 65536 in
set_option maxHeartbeats 40000000 in
theorem rm2_ft (l : Launch) (Z : State) (a0 : Array Value) (hw : ∀ d ∈ tables_1, d.before a0 Z = true) (ws : List Jvm.Cond) (a1 : Addr) (p2 : Int32) (p3 : Int32) (p4 : Int32) (h0 : Heap) (n0 : Nat) (Z0 : n0 ≤ h0.size) (hc2 : ¬ (p2 < p3)) (hc7 : ¬ (p2 < p4)) :
    MetFree l (⟨"com/example/loop1/loop1/http/HttpSyntaxLineFeedPinLaw", "hit", "([BIII)Z"⟩ : MethodName) (head1 (Jvm.Cond.code (⟨"com/example/loop1/loop1/http/HttpSyntaxLineFeedPinLaw", "hit", "([BIII)Z"⟩ : MethodName) method_4_code 4 (some .boolean) :: ws) ({ frames := 0, cells := 0, slots := 0, locals := 0 } : Room)) (fun a U => a = #[(.ref a1), (.int p2), (.int p3), (.int p4)] ∧ Z.Warmed39 U.vm ∧ U.heap = h0) (fun _ _ _ _ _ => True) (fun _ U o U' => ∃ v L, o = .returned v ∧ Q2 (0 : Int32) n0 h0 v U'.heap L ∧ FrameEnd U o U' L ({ frames := 0, cells := 0, slots := 0, locals := 0 } : Room).cells ({ frames := 0, cells := 0, slots := 0, locals := 0 } : Room).slots) := by
  refine MetFree.of_bodySF (plainFor_of_name pn_2) hisR ?_
  intro p e s m args below meth c s₁ Bd hml0 hP hK
  obtain ⟨rfl, hZ, hh⟩ := hP
  have hx := Bd.exec
  have hby := Bd.bytes
  have hml : c.maxLocals = 4 := hml0
  have hown : s.vm.findClass "com/example/loop1/loop1/http/HttpSyntaxLineFeedPinLaw" = some m.cls := findClass_of_methodNamed Bd.named
  have hnm := (name_of_methodNamed Bd.named Bd.method).1
  have X0 : Stand p l e ({ frames := 0, cells := 0, slots := 0, locals := 0 } : Room) s m #[(.ref a1), (.int p2), (.int p3), (.int p4)] below meth c s₁ [] 0 0 := Stand.of_body Bd
  have e0 : s₁.heap = h0 := by rw [← hh, Bd.state]; rfl
  have N0 := Fr.nil n0
  have pre0 : ∀ t, Steps p.tables e below (s₁.setTop (mkF m 0 #[.val (.ref a1), .val (.int p2), .val (.int p3), .val (.int p4)] [])) t → Steps p.tables e below (s₁.setTop (entryFrame m #[(.ref a1), (.int p2), (.int p3), (.int p4)] 4)) t := fun t k => castTop (ef_2 m a1 p2 p3 p4) k

  obtain ⟨fs, hr, hrun, hended, hW, hsame⟩ := X0.leave (v := some (.int (0 : Int32))) (fun h => by rw [Bd.returns] at h; cases h)
  refine ⟨_, _, pre0 _ ?_, hrun, hended, _, _, rfl, ?_, ⟨_, rfl⟩, hW, hsame.mono (by decide) (by decide)⟩
  · show Steps p.tables e below (s₁.setTop (mkF m 0 #[.val (.ref a1), .val (.int p2), .val (.int p3), .val (.int p4)] [])) _
    refine XS.iloadN X0.here hx rfl (hb hby d2_0) rfl ?_
    show Steps p.tables e below (s₁.setTop (mkF m 1 #[.val (.ref a1), .val (.int p2), .val (.int p3), .val (.int p4)] [(.int p2)])) _
    refine XS.iloadN X0.here hx rfl (hb hby d2_1) rfl ?_
    show Steps p.tables e below (s₁.setTop (mkF m 2 #[.val (.ref a1), .val (.int p2), .val (.int p3), .val (.int p4)] [(.int p3), (.int p2)])) _
    refine XS.icmpNo X0.here hx rfl (hb hby d2_2) rfl (flt hc2).1 ?_
    show Steps p.tables e below (s₁.setTop (mkF m 5 #[.val (.ref a1), .val (.int p2), .val (.int p3), .val (.int p4)] [])) _
    refine XS.iloadN X0.here hx rfl (hb hby d2_5) rfl ?_
    show Steps p.tables e below (s₁.setTop (mkF m 6 #[.val (.ref a1), .val (.int p2), .val (.int p3), .val (.int p4)] [(.int p2)])) _
    refine XS.iloadN X0.here hx rfl (hb hby d2_6) rfl ?_
    show Steps p.tables e below (s₁.setTop (mkF m 7 #[.val (.ref a1), .val (.int p2), .val (.int p3), .val (.int p4)] [(.int p4), (.int p2)])) _
    refine XS.icmpYes X0.here hx rfl (pc0 := 7) (pc' := 22) rfl (hb hby d2_7) rfl (flt hc7).2.1 (by decide) (by decide) ?_
    show Steps p.tables e below (s₁.setTop (mkF m 22 #[.val (.ref a1), .val (.int p2), .val (.int p3), .val (.int p4)] [])) _
    refine XS.iconst X0.here hx rfl (hb hby d2_22) ?_
    show Steps p.tables e below (s₁.setTop (mkF m 23 #[.val (.ref a1), .val (.int p2), .val (.int p3), .val (.int p4)] [(.int (0 : Int32))])) _
    exact retN X0 hx (t := .boolean) Bd.returns (by simp) (hb hby d2_23) hr
  · show Q2 (0 : Int32) n0 h0 _ s₁.heap _
    rw [e0]
    exact ⟨rfl, N0, rfl⟩
set_option maxRecDepth 65536 in
set_option maxHeartbeats 40000000 in
theorem rm2_fft (l : Launch) (Z : State) (a0 : Array Value) (hw : ∀ d ∈ tables_1, d.before a0 Z = true) (ws : List Jvm.Cond) (a1 : Addr) (p2 : Int32) (p3 : Int32) (p4 : Int32) (w5 : Int32) (cl_a1 : Cell) (h0 : Heap) (n0 : Nat) (Z0 : n0 ≤ h0.size) (Ar_a1 : Arr Z h0 a1 cl_a1 .byte) (hin12 : ¬ (p2 < 0 ∨ cl_a1.slots.size ≤ (p2).toNatClampNeg)) (hat12 : cl_a1.slots[(p2).toNatClampNeg]? = some (.int w5)) (hc2 : ¬ (p2 < p3)) (hc7 : p2 < p4) (hc15 : ¬ (w5 = (10 : Int32))) :
    MetFree l (⟨"com/example/loop1/loop1/http/HttpSyntaxLineFeedPinLaw", "hit", "([BIII)Z"⟩ : MethodName) (head1 (Jvm.Cond.code (⟨"com/example/loop1/loop1/http/HttpSyntaxLineFeedPinLaw", "hit", "([BIII)Z"⟩ : MethodName) method_4_code 4 (some .boolean) :: ws) ({ frames := 0, cells := 0, slots := 0, locals := 0 } : Room)) (fun a U => a = #[(.ref a1), (.int p2), (.int p3), (.int p4)] ∧ Z.Warmed39 U.vm ∧ U.heap = h0) (fun _ _ _ _ _ => True) (fun _ U o U' => ∃ v L, o = .returned v ∧ Q2 (0 : Int32) n0 h0 v U'.heap L ∧ FrameEnd U o U' L ({ frames := 0, cells := 0, slots := 0, locals := 0 } : Room).cells ({ frames := 0, cells := 0, slots := 0, locals := 0 } : Room).slots) := by
  refine MetFree.of_bodySF (plainFor_of_name pn_2) hisR ?_
  intro p e s m args below meth c s₁ Bd hml0 hP hK
  obtain ⟨rfl, hZ, hh⟩ := hP
  have hx := Bd.exec
  have hby := Bd.bytes
  have hml : c.maxLocals = 4 := hml0
  have hown : s.vm.findClass "com/example/loop1/loop1/http/HttpSyntaxLineFeedPinLaw" = some m.cls := findClass_of_methodNamed Bd.named
  have hnm := (name_of_methodNamed Bd.named Bd.method).1
  have X0 : Stand p l e ({ frames := 0, cells := 0, slots := 0, locals := 0 } : Room) s m #[(.ref a1), (.int p2), (.int p3), (.int p4)] below meth c s₁ [] 0 0 := Stand.of_body Bd
  have e0 : s₁.heap = h0 := by rw [← hh, Bd.state]; rfl
  have N0 := Fr.nil n0
  have pre0 : ∀ t, Steps p.tables e below (s₁.setTop (mkF m 0 #[.val (.ref a1), .val (.int p2), .val (.int p3), .val (.int p4)] [])) t → Steps p.tables e below (s₁.setTop (entryFrame m #[(.ref a1), (.int p2), (.int p3), (.int p4)] 4)) t := fun t k => castTop (ef_2 m a1 p2 p3 p4) k

  obtain ⟨fs, hr, hrun, hended, hW, hsame⟩ := X0.leave (v := some (.int (0 : Int32))) (fun h => by rw [Bd.returns] at h; cases h)
  refine ⟨_, _, pre0 _ ?_, hrun, hended, _, _, rfl, ?_, ⟨_, rfl⟩, hW, hsame.mono (by decide) (by decide)⟩
  · show Steps p.tables e below (s₁.setTop (mkF m 0 #[.val (.ref a1), .val (.int p2), .val (.int p3), .val (.int p4)] [])) _
    refine XS.iloadN X0.here hx rfl (hb hby d2_0) rfl ?_
    show Steps p.tables e below (s₁.setTop (mkF m 1 #[.val (.ref a1), .val (.int p2), .val (.int p3), .val (.int p4)] [(.int p2)])) _
    refine XS.iloadN X0.here hx rfl (hb hby d2_1) rfl ?_
    show Steps p.tables e below (s₁.setTop (mkF m 2 #[.val (.ref a1), .val (.int p2), .val (.int p3), .val (.int p4)] [(.int p3), (.int p2)])) _
    refine XS.icmpNo X0.here hx rfl (hb hby d2_2) rfl (flt hc2).1 ?_
    show Steps p.tables e below (s₁.setTop (mkF m 5 #[.val (.ref a1), .val (.int p2), .val (.int p3), .val (.int p4)] [])) _
    refine XS.iloadN X0.here hx rfl (hb hby d2_5) rfl ?_
    show Steps p.tables e below (s₁.setTop (mkF m 6 #[.val (.ref a1), .val (.int p2), .val (.int p3), .val (.int p4)] [(.int p2)])) _
    refine XS.iloadN X0.here hx rfl (hb hby d2_6) rfl ?_
    show Steps p.tables e below (s₁.setTop (mkF m 7 #[.val (.ref a1), .val (.int p2), .val (.int p3), .val (.int p4)] [(.int p4), (.int p2)])) _
    refine XS.icmpNo X0.here hx rfl (hb hby d2_7) rfl (tlt hc7).2.1 ?_
    show Steps p.tables e below (s₁.setTop (mkF m 10 #[.val (.ref a1), .val (.int p2), .val (.int p3), .val (.int p4)] [])) _
    refine XS.aloadN X0.here hx rfl (hb hby d2_10) rfl rfl ?_
    show Steps p.tables e below (s₁.setTop (mkF m 11 #[.val (.ref a1), .val (.int p2), .val (.int p3), .val (.int p4)] [(.ref a1)])) _
    refine XS.iloadN X0.here hx rfl (hb hby d2_11) rfl ?_
    show Steps p.tables e below (s₁.setTop (mkF m 12 #[.val (.ref a1), .val (.int p2), .val (.int p3), .val (.int p4)] [(.int p2), (.ref a1)])) _
    refine X0.baloadBytes hx (j := p2) (v := (.int w5)) (by rw [e0]; exact Ar_a1.1) (State.isArrayOf_alike hZ.alike Ar_a1.2.1) Ar_a1.2.2 hin12 hat12 (g := (mkF m 12 #[.val (.ref a1), .val (.int p2), .val (.int p3), .val (.int p4)] [(.int p2), (.ref a1)])) rfl rfl (hb hby d2_12) _ ?_
    show Steps p.tables e below (s₁.setTop (mkF m 13 #[.val (.ref a1), .val (.int p2), .val (.int p3), .val (.int p4)] [(.int w5)])) _
    refine XS.bipush X0.here hx rfl (hb hby d2_13) ?_
    show Steps p.tables e below (s₁.setTop (mkF m 15 #[.val (.ref a1), .val (.int p2), .val (.int p3), .val (.int p4)] [(.int (10 : Int32)), (.int w5)])) _
    refine XS.icmpYes X0.here hx rfl (pc0 := 15) (pc' := 22) rfl (hb hby d2_15) rfl (feq hc15).2 (by decide) (by decide) ?_
    show Steps p.tables e below (s₁.setTop (mkF m 22 #[.val (.ref a1), .val (.int p2), .val (.int p3), .val (.int p4)] [])) _
    refine XS.iconst X0.here hx rfl (hb hby d2_22) ?_
    show Steps p.tables e below (s₁.setTop (mkF m 23 #[.val (.ref a1), .val (.int p2), .val (.int p3), .val (.int p4)] [(.int (0 : Int32))])) _
    exact retN X0 hx (t := .boolean) Bd.returns (by simp) (hb hby d2_23) hr
  · show Q2 (0 : Int32) n0 h0 _ s₁.heap _
    rw [e0]
    exact ⟨rfl, N0, rfl⟩
set_option maxRecDepth 65536 in
set_option maxHeartbeats 40000000 in
theorem rm2_fff (l : Launch) (Z : State) (a0 : Array Value) (hw : ∀ d ∈ tables_1, d.before a0 Z = true) (ws : List Jvm.Cond) (a1 : Addr) (p2 : Int32) (p3 : Int32) (p4 : Int32) (w5 : Int32) (cl_a1 : Cell) (h0 : Heap) (n0 : Nat) (Z0 : n0 ≤ h0.size) (Ar_a1 : Arr Z h0 a1 cl_a1 .byte) (hin12 : ¬ (p2 < 0 ∨ cl_a1.slots.size ≤ (p2).toNatClampNeg)) (hat12 : cl_a1.slots[(p2).toNatClampNeg]? = some (.int w5)) (hc2 : ¬ (p2 < p3)) (hc7 : p2 < p4) (hc15 : w5 = (10 : Int32)) :
    MetFree l (⟨"com/example/loop1/loop1/http/HttpSyntaxLineFeedPinLaw", "hit", "([BIII)Z"⟩ : MethodName) (head1 (Jvm.Cond.code (⟨"com/example/loop1/loop1/http/HttpSyntaxLineFeedPinLaw", "hit", "([BIII)Z"⟩ : MethodName) method_4_code 4 (some .boolean) :: ws) ({ frames := 0, cells := 0, slots := 0, locals := 0 } : Room)) (fun a U => a = #[(.ref a1), (.int p2), (.int p3), (.int p4)] ∧ Z.Warmed39 U.vm ∧ U.heap = h0) (fun _ _ _ _ _ => True) (fun _ U o U' => ∃ v L, o = .returned v ∧ Q2 (1 : Int32) n0 h0 v U'.heap L ∧ FrameEnd U o U' L ({ frames := 0, cells := 0, slots := 0, locals := 0 } : Room).cells ({ frames := 0, cells := 0, slots := 0, locals := 0 } : Room).slots) := by
  refine MetFree.of_bodySF (plainFor_of_name pn_2) hisR ?_
  intro p e s m args below meth c s₁ Bd hml0 hP hK
  obtain ⟨rfl, hZ, hh⟩ := hP
  have hx := Bd.exec
  have hby := Bd.bytes
  have hml : c.maxLocals = 4 := hml0
  have hown : s.vm.findClass "com/example/loop1/loop1/http/HttpSyntaxLineFeedPinLaw" = some m.cls := findClass_of_methodNamed Bd.named
  have hnm := (name_of_methodNamed Bd.named Bd.method).1
  have X0 : Stand p l e ({ frames := 0, cells := 0, slots := 0, locals := 0 } : Room) s m #[(.ref a1), (.int p2), (.int p3), (.int p4)] below meth c s₁ [] 0 0 := Stand.of_body Bd
  have e0 : s₁.heap = h0 := by rw [← hh, Bd.state]; rfl
  have N0 := Fr.nil n0
  have pre0 : ∀ t, Steps p.tables e below (s₁.setTop (mkF m 0 #[.val (.ref a1), .val (.int p2), .val (.int p3), .val (.int p4)] [])) t → Steps p.tables e below (s₁.setTop (entryFrame m #[(.ref a1), (.int p2), (.int p3), (.int p4)] 4)) t := fun t k => castTop (ef_2 m a1 p2 p3 p4) k

  obtain ⟨fs, hr, hrun, hended, hW, hsame⟩ := X0.leave (v := some (.int (1 : Int32))) (fun h => by rw [Bd.returns] at h; cases h)
  refine ⟨_, _, pre0 _ ?_, hrun, hended, _, _, rfl, ?_, ⟨_, rfl⟩, hW, hsame.mono (by decide) (by decide)⟩
  · show Steps p.tables e below (s₁.setTop (mkF m 0 #[.val (.ref a1), .val (.int p2), .val (.int p3), .val (.int p4)] [])) _
    refine XS.iloadN X0.here hx rfl (hb hby d2_0) rfl ?_
    show Steps p.tables e below (s₁.setTop (mkF m 1 #[.val (.ref a1), .val (.int p2), .val (.int p3), .val (.int p4)] [(.int p2)])) _
    refine XS.iloadN X0.here hx rfl (hb hby d2_1) rfl ?_
    show Steps p.tables e below (s₁.setTop (mkF m 2 #[.val (.ref a1), .val (.int p2), .val (.int p3), .val (.int p4)] [(.int p3), (.int p2)])) _
    refine XS.icmpNo X0.here hx rfl (hb hby d2_2) rfl (flt hc2).1 ?_
    show Steps p.tables e below (s₁.setTop (mkF m 5 #[.val (.ref a1), .val (.int p2), .val (.int p3), .val (.int p4)] [])) _
    refine XS.iloadN X0.here hx rfl (hb hby d2_5) rfl ?_
    show Steps p.tables e below (s₁.setTop (mkF m 6 #[.val (.ref a1), .val (.int p2), .val (.int p3), .val (.int p4)] [(.int p2)])) _
    refine XS.iloadN X0.here hx rfl (hb hby d2_6) rfl ?_
    show Steps p.tables e below (s₁.setTop (mkF m 7 #[.val (.ref a1), .val (.int p2), .val (.int p3), .val (.int p4)] [(.int p4), (.int p2)])) _
    refine XS.icmpNo X0.here hx rfl (hb hby d2_7) rfl (tlt hc7).2.1 ?_
    show Steps p.tables e below (s₁.setTop (mkF m 10 #[.val (.ref a1), .val (.int p2), .val (.int p3), .val (.int p4)] [])) _
    refine XS.aloadN X0.here hx rfl (hb hby d2_10) rfl rfl ?_
    show Steps p.tables e below (s₁.setTop (mkF m 11 #[.val (.ref a1), .val (.int p2), .val (.int p3), .val (.int p4)] [(.ref a1)])) _
    refine XS.iloadN X0.here hx rfl (hb hby d2_11) rfl ?_
    show Steps p.tables e below (s₁.setTop (mkF m 12 #[.val (.ref a1), .val (.int p2), .val (.int p3), .val (.int p4)] [(.int p2), (.ref a1)])) _
    refine X0.baloadBytes hx (j := p2) (v := (.int w5)) (by rw [e0]; exact Ar_a1.1) (State.isArrayOf_alike hZ.alike Ar_a1.2.1) Ar_a1.2.2 hin12 hat12 (g := (mkF m 12 #[.val (.ref a1), .val (.int p2), .val (.int p3), .val (.int p4)] [(.int p2), (.ref a1)])) rfl rfl (hb hby d2_12) _ ?_
    show Steps p.tables e below (s₁.setTop (mkF m 13 #[.val (.ref a1), .val (.int p2), .val (.int p3), .val (.int p4)] [(.int w5)])) _
    refine XS.bipush X0.here hx rfl (hb hby d2_13) ?_
    show Steps p.tables e below (s₁.setTop (mkF m 15 #[.val (.ref a1), .val (.int p2), .val (.int p3), .val (.int p4)] [(.int (10 : Int32)), (.int w5)])) _
    refine XS.icmpNo X0.here hx rfl (hb hby d2_15) rfl (teq hc15).2 ?_
    show Steps p.tables e below (s₁.setTop (mkF m 18 #[.val (.ref a1), .val (.int p2), .val (.int p3), .val (.int p4)] [])) _
    refine XS.iconst X0.here hx rfl (hb hby d2_18) ?_
    show Steps p.tables e below (s₁.setTop (mkF m 19 #[.val (.ref a1), .val (.int p2), .val (.int p3), .val (.int p4)] [(.int (1 : Int32))])) _
    refine XS.goto X0.here hx rfl (pc0 := 19) (pc' := 23) rfl (hb hby d2_19) (by decide) (by decide) ?_
    show Steps p.tables e below (s₁.setTop (mkF m 23 #[.val (.ref a1), .val (.int p2), .val (.int p3), .val (.int p4)] [(.int (1 : Int32))])) _
    exact retN X0 hx (t := .boolean) Bd.returns (by simp) (hb hby d2_23) hr
  · show Q2 (1 : Int32) n0 h0 _ s₁.heap _
    rw [e0]
    exact ⟨rfl, N0, rfl⟩
def own_f2 (a1 : Addr) (p2 : Int32) (p3 : Int32) (p4 : Int32) (w5 : Int32) (cl_a1 : Cell) : Int32 := (if p2 < p3 then (0 : Int32) else (if p2 < p4 then (if w5 = (10 : Int32) then (1 : Int32) else (0 : Int32)) else (0 : Int32)))
set_option maxRecDepth 65536 in
theorem rm2 (l : Launch) (Z : State) (a0 : Array Value) (hw : ∀ d ∈ tables_1, d.before a0 Z = true) (ws : List Jvm.Cond) (a1 : Addr) (p2 : Int32) (p3 : Int32) (p4 : Int32) (w5 : Int32) (cl_a1 : Cell) (h0 : Heap) (n0 : Nat) (Z0 : n0 ≤ h0.size) (Ar_a1 : Arr Z h0 a1 cl_a1 .byte) (hin12 : ¬ (p2 < 0 ∨ cl_a1.slots.size ≤ (p2).toNatClampNeg)) (hat12 : cl_a1.slots[(p2).toNatClampNeg]? = some (.int w5)) :
    MetFree l (⟨"com/example/loop1/loop1/http/HttpSyntaxLineFeedPinLaw", "hit", "([BIII)Z"⟩ : MethodName) (head1 (Jvm.Cond.code (⟨"com/example/loop1/loop1/http/HttpSyntaxLineFeedPinLaw", "hit", "([BIII)Z"⟩ : MethodName) method_4_code 4 (some .boolean) :: ws) ({ frames := 0, cells := 0, slots := 0, locals := 0 } : Room)) (fun a U => a = #[(.ref a1), (.int p2), (.int p3), (.int p4)] ∧ Z.Warmed39 U.vm ∧ U.heap = h0) (fun _ _ _ _ _ => True) (fun _ U o U' => ∃ v L, o = .returned v ∧ Q2 (own_f2 a1 p2 p3 p4 w5 cl_a1) n0 h0 v U'.heap L ∧ FrameEnd U o U' L ({ frames := 0, cells := 0, slots := 0, locals := 0 } : Room).cells ({ frames := 0, cells := 0, slots := 0, locals := 0 } : Room).slots) := by
  by_cases hc2 : p2 < p3
  · rw [show own_f2 a1 p2 p3 p4 w5 cl_a1 = (0 : Int32) from by rw [own_f2, if_pos hc2]]
    exact rm2_t l Z a0 hw ws a1 p2 p3 p4 h0 n0 Z0 hc2
  · by_cases hc7 : p2 < p4
    · by_cases hc15 : w5 = (10 : Int32)
      · rw [show own_f2 a1 p2 p3 p4 w5 cl_a1 = (1 : Int32) from by rw [own_f2, if_neg hc2, if_pos hc7, if_pos hc15]]
        exact rm2_fff l Z a0 hw ws a1 p2 p3 p4 w5 cl_a1 h0 n0 Z0 Ar_a1 hin12 hat12 hc2 hc7 hc15
      · rw [show own_f2 a1 p2 p3 p4 w5 cl_a1 = (0 : Int32) from by rw [own_f2, if_neg hc2, if_pos hc7, if_neg hc15]]
        exact rm2_fft l Z a0 hw ws a1 p2 p3 p4 w5 cl_a1 h0 n0 Z0 Ar_a1 hin12 hat12 hc2 hc7 hc15
    · rw [show own_f2 a1 p2 p3 p4 w5 cl_a1 = (0 : Int32) from by rw [own_f2, if_neg hc2, if_neg hc7]]
      exact rm2_ft l Z a0 hw ws a1 p2 p3 p4 h0 n0 Z0 hc2 hc7
theorem d3_2 : decode prog_40_method_2_code 2 = .ok (.iload_n 3, 1) := by decide +kernel
theorem d3_3 : decode prog_40_method_2_code 3 = .ok (.iload_n 2, 1) := by decide +kernel
theorem d3_4 : decode prog_40_method_2_code 4 = .ok (.if_icmp .ge 17, 3) := by decide +kernel
theorem d3_7 : decode prog_40_method_2_code 7 = .ok (.aload_n 0, 1) := by decide +kernel
theorem d3_8 : decode prog_40_method_2_code 8 = .ok (.iload_n 3, 1) := by decide +kernel
theorem d3_9 : decode prog_40_method_2_code 9 = .ok (.baload, 1) := by decide +kernel
theorem d3_10 : decode prog_40_method_2_code 10 = .ok (.bipush 10, 2) := by decide +kernel
theorem d3_12 : decode prog_40_method_2_code 12 = .ok (.if_icmp .eq 9, 3) := by decide +kernel
theorem d3_15 : decode prog_40_method_2_code 15 = .ok (.iinc 3 1, 3) := by decide +kernel
theorem d3_18 : decode prog_40_method_2_code 18 = .ok (.goto (-16), 3) := by decide +kernel
set_option maxRecDepth 65536 in
set_option maxHeartbeats 40000000 in
theorem tn3_2_2_ff {p : Program} {l : Launch} {e : Env} {R : Room} {s : State} {m : MethodId} {args : Array Value} {below : List Frame} {meth : Method} {c : Code} {T0 : State} {locs : List Loc} {cells slots : Nat} {Z : State} {a0 : Array Value} {h0 : Heap} (o0 : Addr) (s1 : Slot) (i2 : Int32) (i3 : Int32) (w4 : Int32) (cl_o0 : Cell)
    (X0 : Stand p l e R s m args below meth c T0 locs cells slots) (hx : p.tables.exec = Jvm.exec) (hZ : Z.Warmed39 s.vm) (hw : ∀ d ∈ tables_1, d.before a0 Z = true) (hby : c.code = prog_40_method_2_code) (hml : c.maxLocals = 4) (hown : s.vm.findClass "com/example/loop1/loop1/http/HttpSyntax" = some m.cls) (e0 : T0.heap = h0) (Ar_o0 : Arr Z h0 o0 cl_o0 .byte) (hin9 : ¬ (i3 < 0 ∨ cl_o0.slots.size ≤ (i3).toNatClampNeg)) (hat9 : cl_o0.slots[(i3).toNatClampNeg]? = some (.int w4)) (hc4 : i3 < i2) (hc12 : ¬ (w4 = (10 : Int32))) :
    ∃ (T' : State), Stand p l e R s m args below meth c T' locs cells slots ∧ T'.heap = h0 ∧
      ∀ target, Steps p.tables e below (T'.setTop (mkF m 2 #[.val (.ref o0), s1, .val (.int i2), .val (.int (i3 + (1 : Int32)))] [])) target → Steps p.tables e below (T0.setTop (mkF m 2 #[.val (.ref o0), s1, .val (.int i2), .val (.int i3)] [])) target := by

  refine ⟨T0, X0, e0, fun target kt => ?_⟩
  show Steps p.tables e below (T0.setTop (mkF m 2 #[.val (.ref o0), s1, .val (.int i2), .val (.int i3)] [])) _
  refine XS.iloadN X0.here hx rfl (hb hby d3_2) rfl ?_
  show Steps p.tables e below (T0.setTop (mkF m 3 #[.val (.ref o0), s1, .val (.int i2), .val (.int i3)] [(.int i3)])) _
  refine XS.iloadN X0.here hx rfl (hb hby d3_3) rfl ?_
  show Steps p.tables e below (T0.setTop (mkF m 4 #[.val (.ref o0), s1, .val (.int i2), .val (.int i3)] [(.int i2), (.int i3)])) _
  refine XS.icmpNo X0.here hx rfl (hb hby d3_4) rfl (tlt hc4).2.1 ?_
  show Steps p.tables e below (T0.setTop (mkF m 7 #[.val (.ref o0), s1, .val (.int i2), .val (.int i3)] [])) _
  refine XS.aloadN X0.here hx rfl (hb hby d3_7) rfl rfl ?_
  show Steps p.tables e below (T0.setTop (mkF m 8 #[.val (.ref o0), s1, .val (.int i2), .val (.int i3)] [(.ref o0)])) _
  refine XS.iloadN X0.here hx rfl (hb hby d3_8) rfl ?_
  show Steps p.tables e below (T0.setTop (mkF m 9 #[.val (.ref o0), s1, .val (.int i2), .val (.int i3)] [(.int i3), (.ref o0)])) _
  refine X0.baloadBytes hx (j := i3) (v := (.int w4)) (by rw [e0]; exact Ar_o0.1) (State.isArrayOf_alike hZ.alike Ar_o0.2.1) Ar_o0.2.2 hin9 hat9 (g := (mkF m 9 #[.val (.ref o0), s1, .val (.int i2), .val (.int i3)] [(.int i3), (.ref o0)])) rfl rfl (hb hby d3_9) _ ?_
  show Steps p.tables e below (T0.setTop (mkF m 10 #[.val (.ref o0), s1, .val (.int i2), .val (.int i3)] [(.int w4)])) _
  refine XS.bipush X0.here hx rfl (hb hby d3_10) ?_
  show Steps p.tables e below (T0.setTop (mkF m 12 #[.val (.ref o0), s1, .val (.int i2), .val (.int i3)] [(.int (10 : Int32)), (.int w4)])) _
  refine XS.icmpNo X0.here hx rfl (hb hby d3_12) rfl (feq hc12).1 ?_
  show Steps p.tables e below (T0.setTop (mkF m 15 #[.val (.ref o0), s1, .val (.int i2), .val (.int i3)] [])) _
  refine XS.iinc X0.here hx rfl (hb hby d3_15) rfl (l' := #[.val (.ref o0), s1, .val (.int i2), .val (.int (i3 + (1 : Int32)))]) rfl ?_
  show Steps p.tables e below (T0.setTop (mkF m 18 #[.val (.ref o0), s1, .val (.int i2), .val (.int (i3 + (1 : Int32)))] [])) _
  refine XS.goto X0.here hx rfl (pc0 := 18) (pc' := 2) rfl (hb hby d3_18) (by decide) (by decide) ?_
  exact kt
set_option maxRecDepth 65536 in
set_option maxHeartbeats 40000000 in
theorem tn3_2_21_t {p : Program} {l : Launch} {e : Env} {R : Room} {s : State} {m : MethodId} {args : Array Value} {below : List Frame} {meth : Method} {c : Code} {T0 : State} {locs : List Loc} {cells slots : Nat} {Z : State} {a0 : Array Value} {h0 : Heap} (s0 : Slot) (s1 : Slot) (i2 : Int32) (i3 : Int32)
    (X0 : Stand p l e R s m args below meth c T0 locs cells slots) (hx : p.tables.exec = Jvm.exec) (hZ : Z.Warmed39 s.vm) (hw : ∀ d ∈ tables_1, d.before a0 Z = true) (hby : c.code = prog_40_method_2_code) (hml : c.maxLocals = 4) (hown : s.vm.findClass "com/example/loop1/loop1/http/HttpSyntax" = some m.cls) (e0 : T0.heap = h0) (hc4 : ¬ (i3 < i2)) :
    ∃ (T' : State), Stand p l e R s m args below meth c T' locs cells slots ∧ T'.heap = h0 ∧
      ∀ target, Steps p.tables e below (T'.setTop (mkF m 21 #[s0, s1, .val (.int i2), .val (.int i3)] [])) target → Steps p.tables e below (T0.setTop (mkF m 2 #[s0, s1, .val (.int i2), .val (.int i3)] [])) target := by

  refine ⟨T0, X0, e0, fun target kt => ?_⟩
  show Steps p.tables e below (T0.setTop (mkF m 2 #[s0, s1, .val (.int i2), .val (.int i3)] [])) _
  refine XS.iloadN X0.here hx rfl (hb hby d3_2) rfl ?_
  show Steps p.tables e below (T0.setTop (mkF m 3 #[s0, s1, .val (.int i2), .val (.int i3)] [(.int i3)])) _
  refine XS.iloadN X0.here hx rfl (hb hby d3_3) rfl ?_
  show Steps p.tables e below (T0.setTop (mkF m 4 #[s0, s1, .val (.int i2), .val (.int i3)] [(.int i2), (.int i3)])) _
  refine XS.icmpYes X0.here hx rfl (pc0 := 4) (pc' := 21) rfl (hb hby d3_4) rfl (flt hc4).2.1 (by decide) (by decide) ?_
  exact kt
set_option maxRecDepth 65536 in
set_option maxHeartbeats 40000000 in
theorem tn3_2_21_ft {p : Program} {l : Launch} {e : Env} {R : Room} {s : State} {m : MethodId} {args : Array Value} {below : List Frame} {meth : Method} {c : Code} {T0 : State} {locs : List Loc} {cells slots : Nat} {Z : State} {a0 : Array Value} {h0 : Heap} (o0 : Addr) (s1 : Slot) (i2 : Int32) (i3 : Int32) (w4 : Int32) (cl_o0 : Cell)
    (X0 : Stand p l e R s m args below meth c T0 locs cells slots) (hx : p.tables.exec = Jvm.exec) (hZ : Z.Warmed39 s.vm) (hw : ∀ d ∈ tables_1, d.before a0 Z = true) (hby : c.code = prog_40_method_2_code) (hml : c.maxLocals = 4) (hown : s.vm.findClass "com/example/loop1/loop1/http/HttpSyntax" = some m.cls) (e0 : T0.heap = h0) (Ar_o0 : Arr Z h0 o0 cl_o0 .byte) (hin9 : ¬ (i3 < 0 ∨ cl_o0.slots.size ≤ (i3).toNatClampNeg)) (hat9 : cl_o0.slots[(i3).toNatClampNeg]? = some (.int w4)) (hc4 : i3 < i2) (hc12 : w4 = (10 : Int32)) :
    ∃ (T' : State), Stand p l e R s m args below meth c T' locs cells slots ∧ T'.heap = h0 ∧
      ∀ target, Steps p.tables e below (T'.setTop (mkF m 21 #[.val (.ref o0), s1, .val (.int i2), .val (.int i3)] [])) target → Steps p.tables e below (T0.setTop (mkF m 2 #[.val (.ref o0), s1, .val (.int i2), .val (.int i3)] [])) target := by

  refine ⟨T0, X0, e0, fun target kt => ?_⟩
  show Steps p.tables e below (T0.setTop (mkF m 2 #[.val (.ref o0), s1, .val (.int i2), .val (.int i3)] [])) _
  refine XS.iloadN X0.here hx rfl (hb hby d3_2) rfl ?_
  show Steps p.tables e below (T0.setTop (mkF m 3 #[.val (.ref o0), s1, .val (.int i2), .val (.int i3)] [(.int i3)])) _
  refine XS.iloadN X0.here hx rfl (hb hby d3_3) rfl ?_
  show Steps p.tables e below (T0.setTop (mkF m 4 #[.val (.ref o0), s1, .val (.int i2), .val (.int i3)] [(.int i2), (.int i3)])) _
  refine XS.icmpNo X0.here hx rfl (hb hby d3_4) rfl (tlt hc4).2.1 ?_
  show Steps p.tables e below (T0.setTop (mkF m 7 #[.val (.ref o0), s1, .val (.int i2), .val (.int i3)] [])) _
  refine XS.aloadN X0.here hx rfl (hb hby d3_7) rfl rfl ?_
  show Steps p.tables e below (T0.setTop (mkF m 8 #[.val (.ref o0), s1, .val (.int i2), .val (.int i3)] [(.ref o0)])) _
  refine XS.iloadN X0.here hx rfl (hb hby d3_8) rfl ?_
  show Steps p.tables e below (T0.setTop (mkF m 9 #[.val (.ref o0), s1, .val (.int i2), .val (.int i3)] [(.int i3), (.ref o0)])) _
  refine X0.baloadBytes hx (j := i3) (v := (.int w4)) (by rw [e0]; exact Ar_o0.1) (State.isArrayOf_alike hZ.alike Ar_o0.2.1) Ar_o0.2.2 hin9 hat9 (g := (mkF m 9 #[.val (.ref o0), s1, .val (.int i2), .val (.int i3)] [(.int i3), (.ref o0)])) rfl rfl (hb hby d3_9) _ ?_
  show Steps p.tables e below (T0.setTop (mkF m 10 #[.val (.ref o0), s1, .val (.int i2), .val (.int i3)] [(.int w4)])) _
  refine XS.bipush X0.here hx rfl (hb hby d3_10) ?_
  show Steps p.tables e below (T0.setTop (mkF m 12 #[.val (.ref o0), s1, .val (.int i2), .val (.int i3)] [(.int (10 : Int32)), (.int w4)])) _
  refine XS.icmpYes X0.here hx rfl (pc0 := 12) (pc' := 21) rfl (hb hby d3_12) rfl (teq hc12).1 (by decide) (by decide) ?_
  exact kt
/-- the loop's counter when it is left: the first place from i on that holds a line feed, or the end -/
def own_scan (f : Int32 → Int32) (e : Int32) : Nat → Int32 → Int32
  | 0, i => i
  | k + 1, i => if i < e then (if f i = (10 : Int32) then i else own_scan f e k (i + (1 : Int32))) else i
theorem own_inb {c : Cell} {i : Int32} (S : c.slots.size = 4) (h0 : 0 ≤ i.toInt) (h1 : i.toInt < 4) : ¬ (i < 0 ∨ c.slots.size ≤ i.toNatClampNeg) := by
  rw [Int32.lt_iff_toInt_lt, S, show (0 : Int32).toInt = 0 from rfl]
  show ¬ (_ ∨ 4 ≤ i.toInt.toNat)
  omega
set_option maxRecDepth 65536 in
theorem loop3 {p : Program} {l : Launch} {e : Env} {R : Room} {s : State} {m : MethodId} {args : Array Value} {below : List Frame} {meth : Method} {c : Code} {locs : List Loc} {cells slots : Nat} {Z : State} {a0 : Array Value} {h0 : Heap} (o0 : Addr) (s1 : Slot) (i2 : Int32) (f : Int32 → Int32) (cl : Cell)
    (hx : p.tables.exec = Jvm.exec) (hZ : Z.Warmed39 s.vm) (hw : ∀ d ∈ tables_1, d.before a0 Z = true) (hby : c.code = prog_40_method_2_code) (hml : c.maxLocals = 4) (hown : s.vm.findClass "com/example/loop1/loop1/http/HttpSyntax" = some m.cls) (Ar : Arr Z h0 o0 cl .byte) (S : cl.slots.size = 4) (hat : ∀ j : Int32, 0 ≤ j.toInt → j.toInt < 4 → cl.slots[j.toNatClampNeg]? = some (.int (f j))) (he : i2.toInt ≤ 4) :
    ∀ (k : Nat) (i3 : Int32) (T0 : State), 0 ≤ i3.toInt → i2.toInt - i3.toInt ≤ k → Stand p l e R s m args below meth c T0 locs cells slots → T0.heap = h0 →
    ∃ (T' : State), Stand p l e R s m args below meth c T' locs cells slots ∧ T'.heap = h0 ∧
      ∀ target, Steps p.tables e below (T'.setTop (mkF m 21 #[.val (.ref o0), s1, .val (.int i2), .val (.int (own_scan f i2 k i3))] [])) target → Steps p.tables e below (T0.setTop (mkF m 2 #[.val (.ref o0), s1, .val (.int i2), .val (.int i3)] [])) target := by
  intro k
  induction k with
  | zero =>
    intro i3 T0 h0' hk X0 e0
    exact tn3_2_21_t (.val (.ref o0)) s1 i2 i3 X0 hx hZ hw hby hml hown e0 (by rw [Int32.lt_iff_toInt_lt]; omega)
  | succ k ih =>
    intro i3 T0 h0' hk X0 e0
    by_cases hc4 : i3 < i2
    · have hlt := hc4
      rw [Int32.lt_iff_toInt_lt] at hlt
      by_cases hc12 : f i3 = (10 : Int32)
      · rw [own_scan, if_pos hc4, if_pos hc12]
        exact tn3_2_21_ft o0 s1 i2 i3 (f i3) cl X0 hx hZ hw hby hml hown e0 Ar (own_inb S h0' (by omega)) (hat i3 h0' (by omega)) hc4 hc12
      · rw [own_scan, if_pos hc4, if_neg hc12]
        have e1 : (i3 + (1 : Int32)).toInt = i3.toInt + 1 := by
          have a := c_iadd i3 1
          have b := rng32 (i3 + (1 : Int32))
          rw [show (1 : Int32).toInt = 1 from rfl] at a
          omega
        obtain ⟨T1, X1, e1', st1⟩ := tn3_2_2_ff o0 s1 i2 i3 (f i3) cl X0 hx hZ hw hby hml hown e0 Ar (own_inb S h0' (by omega)) (hat i3 h0' (by omega)) hc4 hc12
        obtain ⟨T2, X2, e2, st2⟩ := ih (i3 + (1 : Int32)) T1 (by omega) (by omega) X1 e1'
        exact ⟨T2, X2, e2, fun target h => st1 target (st2 target h)⟩
    · rw [own_scan, if_neg hc4]
      exact tn3_2_21_t (.val (.ref o0)) s1 i2 i3 X0 hx hZ hw hby hml hown e0 hc4
theorem loop3' {p : Program} {l : Launch} {e : Env} {R : Room} {s : State} {m : MethodId} {args : Array Value} {below : List Frame} {meth : Method} {c : Code} {T0 : State} {locs : List Loc} {cells slots : Nat} {Z : State} {a0 : Array Value} {h0 : Heap} (o0 : Addr) (s1 : Slot) (i2 : Int32) (i3 : Int32) (f : Int32 → Int32) (cl : Cell)
    (X0 : Stand p l e R s m args below meth c T0 locs cells slots) (hx : p.tables.exec = Jvm.exec) (hZ : Z.Warmed39 s.vm) (hw : ∀ d ∈ tables_1, d.before a0 Z = true) (hby : c.code = prog_40_method_2_code) (hml : c.maxLocals = 4) (hown : s.vm.findClass "com/example/loop1/loop1/http/HttpSyntax" = some m.cls) (e0 : T0.heap = h0) (Ar : Arr Z h0 o0 cl .byte) (S : cl.slots.size = 4) (hat : ∀ j : Int32, 0 ≤ j.toInt → j.toInt < 4 → cl.slots[j.toNatClampNeg]? = some (.int (f j))) (he : i2.toInt ≤ 4) (hi : 0 ≤ i3.toInt) :
    ∃ (T' : State), Stand p l e R s m args below meth c T' locs cells slots ∧ T'.heap = h0 ∧
      ∀ target, Steps p.tables e below (T'.setTop (mkF m 21 #[.val (.ref o0), s1, .val (.int i2), .val (.int (own_scan f i2 4 i3))] [])) target → Steps p.tables e below (T0.setTop (mkF m 2 #[.val (.ref o0), s1, .val (.int i2), .val (.int i3)] [])) target :=
  loop3 o0 s1 i2 f cl hx hZ hw hby hml hown Ar S hat he 4 i3 T0 hi (by omega) X0 e0
theorem d3_0 : decode prog_40_method_2_code 0 = .ok (.iload_n 1, 1) := by decide +kernel
theorem d3_1 : decode prog_40_method_2_code 1 = .ok (.istore_n 3, 1) := by decide +kernel
theorem d3_21 : decode prog_40_method_2_code 21 = .ok (.iload_n 3, 1) := by decide +kernel
theorem d3_22 : decode prog_40_method_2_code 22 = .ok (.iload_n 2, 1) := by decide +kernel
theorem d3_23 : decode prog_40_method_2_code 23 = .ok (.if_icmp .ge 7, 3) := by decide +kernel
theorem d3_30 : decode prog_40_method_2_code 30 = .ok (.iconst (-1), 1) := by decide +kernel
theorem d3_31 : decode prog_40_method_2_code 31 = .ok (.ireturn, 1) := by decide +kernel
theorem pn_3 : plainName "com/example/loop1/loop1/http/HttpSyntax" = true := by first | (simp [plainName, overriddenIn]; done) | decide +kernel
theorem ef_3 (m : MethodId) (x0 : Addr) (x1 : Int32) (x2 : Int32) : entryFrame m #[(.ref x0), (.int x1), (.int x2)] 4 = mkF m 0 #[.val (.ref x0), .val (.int x1), .val (.int x2), .unset] [] := by first | (simp [entryFrame, mkF, argsToLocals, Value.category]; done) | rfl
theorem d3_26 : decode prog_40_method_2_code 26 = .ok (.iload_n 3, 1) := by decide +kernel
theorem d3_27 : decode prog_40_method_2_code 27 = .ok (.goto 4, 3) := by decide +kernel
def Q3 (r : Int32) (n0 : Nat) (h0 : Heap) (v : Option Value) (h : Heap) (L : List Loc) : Prop := v = some (.int r) ∧ Fr n0 L ∧ h = h0
set_option maxRecDepth 65536 in
set_option maxHeartbeats 40000000 in
theorem rm3_t (l : Launch) (Z : State) (a0 : Array Value) (hw : ∀ d ∈ tables_1, d.before a0 Z = true) (ws : List Jvm.Cond) (a1 : Addr) (p2 : Int32) (p3 : Int32) (f : Int32 → Int32) (cl : Cell) (h0 : Heap) (n0 : Nat) (Z0 : n0 ≤ h0.size) (Ar : Arr Z h0 a1 cl .byte) (S : cl.slots.size = 4) (hat : ∀ j : Int32, 0 ≤ j.toInt → j.toInt < 4 → cl.slots[j.toNatClampNeg]? = some (.int (f j))) (he : p3.toInt ≤ 4) (hi : 0 ≤ p2.toInt) (hc23 : ¬ ((own_scan f p3 4 p2) < p3)) :
    MetFree l (⟨"com/example/loop1/loop1/http/HttpSyntax", "lineFeed", "([BII)I"⟩ : MethodName) (head1 (Jvm.Cond.code (⟨"com/example/loop1/loop1/http/HttpSyntax", "lineFeed", "([BII)I"⟩ : MethodName) prog_40_method_2_code 4 (some .int) :: ws) ({ frames := 0, cells := 0, slots := 0, locals := 0 } : Room)) (fun a U => a = #[(.ref a1), (.int p2), (.int p3)] ∧ Z.Warmed39 U.vm ∧ U.heap = h0) (fun _ _ _ _ _ => True) (fun _ U o U' => ∃ v L, o = .returned v ∧ Q3 (-1 : Int32) n0 h0 v U'.heap L ∧ FrameEnd U o U' L ({ frames := 0, cells := 0, slots := 0, locals := 0 } : Room).cells ({ frames := 0, cells := 0, slots := 0, locals := 0 } : Room).slots) := by
  refine MetFree.of_bodySF (plainFor_of_name pn_3) hisR ?_
  intro p e s m args below meth c s₁ Bd hml0 hP hK
  obtain ⟨rfl, hZ, hh⟩ := hP
  have hx := Bd.exec
  have hby := Bd.bytes
  have hml : c.maxLocals = 4 := hml0
  have hown : s.vm.findClass "com/example/loop1/loop1/http/HttpSyntax" = some m.cls := findClass_of_methodNamed Bd.named
  have hnm := (name_of_methodNamed Bd.named Bd.method).1
  have X0 : Stand p l e ({ frames := 0, cells := 0, slots := 0, locals := 0 } : Room) s m #[(.ref a1), (.int p2), (.int p3)] below meth c s₁ [] 0 0 := Stand.of_body Bd
  have e0 : s₁.heap = h0 := by rw [← hh, Bd.state]; rfl
  have N0 := Fr.nil n0
  have pre0 : ∀ t, Steps p.tables e below (s₁.setTop (mkF m 0 #[.val (.ref a1), .val (.int p2), .val (.int p3), .unset] [])) t → Steps p.tables e below (s₁.setTop (entryFrame m #[(.ref a1), (.int p2), (.int p3)] 4)) t := fun t k => castTop (ef_3 m a1 p2 p3) k
  obtain ⟨T4, X4, e4, st4⟩ := loop3' a1 (.val (.int p2)) p3 p2 f cl X0 hx hZ hw hby hml hown e0 Ar S hat he hi
  obtain ⟨fs, hr, hrun, hended, hW, hsame⟩ := X4.leave (v := some (.int (-1 : Int32))) (fun h => by rw [Bd.returns] at h; cases h)
  refine ⟨_, _, pre0 _ ?_, hrun, hended, _, _, rfl, ?_, ⟨_, rfl⟩, hW, hsame.mono (by decide) (by decide)⟩
  · show Steps p.tables e below (s₁.setTop (mkF m 0 #[.val (.ref a1), .val (.int p2), .val (.int p3), .unset] [])) _
    refine XS.iloadN X0.here hx rfl (hb hby d3_0) rfl ?_
    show Steps p.tables e below (s₁.setTop (mkF m 1 #[.val (.ref a1), .val (.int p2), .val (.int p3), .unset] [(.int p2)])) _
    refine XS.istoreN X0.here hx rfl (hb hby d3_1) rfl (l' := #[.val (.ref a1), .val (.int p2), .val (.int p3), .val (.int p2)]) rfl ?_
    show Steps p.tables e below (s₁.setTop (mkF m 2 #[.val (.ref a1), .val (.int p2), .val (.int p3), .val (.int p2)] [])) _
    refine st4 _ ?_
    show Steps p.tables e below (T4.setTop (mkF m 21 #[.val (.ref a1), .val (.int p2), .val (.int p3), .val (.int (own_scan f p3 4 p2))] [])) _
    refine XS.iloadN X4.here hx rfl (hb hby d3_21) rfl ?_
    show Steps p.tables e below (T4.setTop (mkF m 22 #[.val (.ref a1), .val (.int p2), .val (.int p3), .val (.int (own_scan f p3 4 p2))] [(.int (own_scan f p3 4 p2))])) _
    refine XS.iloadN X4.here hx rfl (hb hby d3_22) rfl ?_
    show Steps p.tables e below (T4.setTop (mkF m 23 #[.val (.ref a1), .val (.int p2), .val (.int p3), .val (.int (own_scan f p3 4 p2))] [(.int p3), (.int (own_scan f p3 4 p2))])) _
    refine XS.icmpYes X4.here hx rfl (pc0 := 23) (pc' := 30) rfl (hb hby d3_23) rfl (flt hc23).2.1 (by decide) (by decide) ?_
    show Steps p.tables e below (T4.setTop (mkF m 30 #[.val (.ref a1), .val (.int p2), .val (.int p3), .val (.int (own_scan f p3 4 p2))] [])) _
    refine XS.iconst X4.here hx rfl (hb hby d3_30) ?_
    show Steps p.tables e below (T4.setTop (mkF m 31 #[.val (.ref a1), .val (.int p2), .val (.int p3), .val (.int (own_scan f p3 4 p2))] [(.int (-1 : Int32))])) _
    exact retI X4 hx Bd.returns (hb hby d3_31) hr
  · show Q3 (-1 : Int32) n0 h0 _ T4.heap _
    rw [e4]
    exact ⟨rfl, N0, rfl⟩
set_option maxRecDepth 65536 in
set_option maxHeartbeats 40000000 in
theorem rm3_f (l : Launch) (Z : State) (a0 : Array Value) (hw : ∀ d ∈ tables_1, d.before a0 Z = true) (ws : List Jvm.Cond) (a1 : Addr) (p2 : Int32) (p3 : Int32) (f : Int32 → Int32) (cl : Cell) (h0 : Heap) (n0 : Nat) (Z0 : n0 ≤ h0.size) (Ar : Arr Z h0 a1 cl .byte) (S : cl.slots.size = 4) (hat : ∀ j : Int32, 0 ≤ j.toInt → j.toInt < 4 → cl.slots[j.toNatClampNeg]? = some (.int (f j))) (he : p3.toInt ≤ 4) (hi : 0 ≤ p2.toInt) (hc23 : (own_scan f p3 4 p2) < p3) :
    MetFree l (⟨"com/example/loop1/loop1/http/HttpSyntax", "lineFeed", "([BII)I"⟩ : MethodName) (head1 (Jvm.Cond.code (⟨"com/example/loop1/loop1/http/HttpSyntax", "lineFeed", "([BII)I"⟩ : MethodName) prog_40_method_2_code 4 (some .int) :: ws) ({ frames := 0, cells := 0, slots := 0, locals := 0 } : Room)) (fun a U => a = #[(.ref a1), (.int p2), (.int p3)] ∧ Z.Warmed39 U.vm ∧ U.heap = h0) (fun _ _ _ _ _ => True) (fun _ U o U' => ∃ v L, o = .returned v ∧ Q3 (own_scan f p3 4 p2) n0 h0 v U'.heap L ∧ FrameEnd U o U' L ({ frames := 0, cells := 0, slots := 0, locals := 0 } : Room).cells ({ frames := 0, cells := 0, slots := 0, locals := 0 } : Room).slots) := by
  refine MetFree.of_bodySF (plainFor_of_name pn_3) hisR ?_
  intro p e s m args below meth c s₁ Bd hml0 hP hK
  obtain ⟨rfl, hZ, hh⟩ := hP
  have hx := Bd.exec
  have hby := Bd.bytes
  have hml : c.maxLocals = 4 := hml0
  have hown : s.vm.findClass "com/example/loop1/loop1/http/HttpSyntax" = some m.cls := findClass_of_methodNamed Bd.named
  have hnm := (name_of_methodNamed Bd.named Bd.method).1
  have X0 : Stand p l e ({ frames := 0, cells := 0, slots := 0, locals := 0 } : Room) s m #[(.ref a1), (.int p2), (.int p3)] below meth c s₁ [] 0 0 := Stand.of_body Bd
  have e0 : s₁.heap = h0 := by rw [← hh, Bd.state]; rfl
  have N0 := Fr.nil n0
  have pre0 : ∀ t, Steps p.tables e below (s₁.setTop (mkF m 0 #[.val (.ref a1), .val (.int p2), .val (.int p3), .unset] [])) t → Steps p.tables e below (s₁.setTop (entryFrame m #[(.ref a1), (.int p2), (.int p3)] 4)) t := fun t k => castTop (ef_3 m a1 p2 p3) k
  obtain ⟨T4, X4, e4, st4⟩ := loop3' a1 (.val (.int p2)) p3 p2 f cl X0 hx hZ hw hby hml hown e0 Ar S hat he hi
  obtain ⟨fs, hr, hrun, hended, hW, hsame⟩ := X4.leave (v := some (.int (own_scan f p3 4 p2))) (fun h => by rw [Bd.returns] at h; cases h)
  refine ⟨_, _, pre0 _ ?_, hrun, hended, _, _, rfl, ?_, ⟨_, rfl⟩, hW, hsame.mono (by decide) (by decide)⟩
  · show Steps p.tables e below (s₁.setTop (mkF m 0 #[.val (.ref a1), .val (.int p2), .val (.int p3), .unset] [])) _
    refine XS.iloadN X0.here hx rfl (hb hby d3_0) rfl ?_
    show Steps p.tables e below (s₁.setTop (mkF m 1 #[.val (.ref a1), .val (.int p2), .val (.int p3), .unset] [(.int p2)])) _
    refine XS.istoreN X0.here hx rfl (hb hby d3_1) rfl (l' := #[.val (.ref a1), .val (.int p2), .val (.int p3), .val (.int p2)]) rfl ?_
    show Steps p.tables e below (s₁.setTop (mkF m 2 #[.val (.ref a1), .val (.int p2), .val (.int p3), .val (.int p2)] [])) _
    refine st4 _ ?_
    show Steps p.tables e below (T4.setTop (mkF m 21 #[.val (.ref a1), .val (.int p2), .val (.int p3), .val (.int (own_scan f p3 4 p2))] [])) _
    refine XS.iloadN X4.here hx rfl (hb hby d3_21) rfl ?_
    show Steps p.tables e below (T4.setTop (mkF m 22 #[.val (.ref a1), .val (.int p2), .val (.int p3), .val (.int (own_scan f p3 4 p2))] [(.int (own_scan f p3 4 p2))])) _
    refine XS.iloadN X4.here hx rfl (hb hby d3_22) rfl ?_
    show Steps p.tables e below (T4.setTop (mkF m 23 #[.val (.ref a1), .val (.int p2), .val (.int p3), .val (.int (own_scan f p3 4 p2))] [(.int p3), (.int (own_scan f p3 4 p2))])) _
    refine XS.icmpNo X4.here hx rfl (hb hby d3_23) rfl (tlt hc23).2.1 ?_
    show Steps p.tables e below (T4.setTop (mkF m 26 #[.val (.ref a1), .val (.int p2), .val (.int p3), .val (.int (own_scan f p3 4 p2))] [])) _
    refine XS.iloadN X4.here hx rfl (hb hby d3_26) rfl ?_
    show Steps p.tables e below (T4.setTop (mkF m 27 #[.val (.ref a1), .val (.int p2), .val (.int p3), .val (.int (own_scan f p3 4 p2))] [(.int (own_scan f p3 4 p2))])) _
    refine XS.goto X4.here hx rfl (pc0 := 27) (pc' := 31) rfl (hb hby d3_27) (by decide) (by decide) ?_
    show Steps p.tables e below (T4.setTop (mkF m 31 #[.val (.ref a1), .val (.int p2), .val (.int p3), .val (.int (own_scan f p3 4 p2))] [(.int (own_scan f p3 4 p2))])) _
    exact retI X4 hx Bd.returns (hb hby d3_31) hr
  · show Q3 (own_scan f p3 4 p2) n0 h0 _ T4.heap _
    rw [e4]
    exact ⟨rfl, N0, rfl⟩
def own_f3 (a1 : Addr) (p2 : Int32) (p3 : Int32) (f : Int32 → Int32) (cl : Cell) : Int32 := (if (own_scan f p3 4 p2) < p3 then (own_scan f p3 4 p2) else (-1 : Int32))
set_option maxRecDepth 65536 in
theorem rm3 (l : Launch) (Z : State) (a0 : Array Value) (hw : ∀ d ∈ tables_1, d.before a0 Z = true) (ws : List Jvm.Cond) (a1 : Addr) (p2 : Int32) (p3 : Int32) (f : Int32 → Int32) (cl : Cell) (h0 : Heap) (n0 : Nat) (Z0 : n0 ≤ h0.size) (Ar : Arr Z h0 a1 cl .byte) (S : cl.slots.size = 4) (hat : ∀ j : Int32, 0 ≤ j.toInt → j.toInt < 4 → cl.slots[j.toNatClampNeg]? = some (.int (f j))) (he : p3.toInt ≤ 4) (hi : 0 ≤ p2.toInt) :
    MetFree l (⟨"com/example/loop1/loop1/http/HttpSyntax", "lineFeed", "([BII)I"⟩ : MethodName) (head1 (Jvm.Cond.code (⟨"com/example/loop1/loop1/http/HttpSyntax", "lineFeed", "([BII)I"⟩ : MethodName) prog_40_method_2_code 4 (some .int) :: ws) ({ frames := 0, cells := 0, slots := 0, locals := 0 } : Room)) (fun a U => a = #[(.ref a1), (.int p2), (.int p3)] ∧ Z.Warmed39 U.vm ∧ U.heap = h0) (fun _ _ _ _ _ => True) (fun _ U o U' => ∃ v L, o = .returned v ∧ Q3 (own_f3 a1 p2 p3 f cl) n0 h0 v U'.heap L ∧ FrameEnd U o U' L ({ frames := 0, cells := 0, slots := 0, locals := 0 } : Room).cells ({ frames := 0, cells := 0, slots := 0, locals := 0 } : Room).slots) := by
  by_cases hc23 : (own_scan f p3 4 p2) < p3
  · rw [show own_f3 a1 p2 p3 f cl = (own_scan f p3 4 p2) from by rw [own_f3, if_pos hc23]]
    exact rm3_f l Z a0 hw ws a1 p2 p3 f cl h0 n0 Z0 Ar S hat he hi hc23
  · rw [show own_f3 a1 p2 p3 f cl = (-1 : Int32) from by rw [own_f3, if_neg hc23]]
    exact rm3_t l Z a0 hw ws a1 p2 p3 f cl h0 n0 Z0 Ar S hat he hi hc23
theorem pd_0_1 : parseMethodDescriptor "([BIII)Z" = some ⟨[(.array .byte), .int, .int, .int], some .boolean⟩ := by decide +kernel
set_option maxRecDepth 65536 in
set_option maxHeartbeats 40000000 in
theorem tn0_64_80_t {p : Program} {l : Launch} {e : Env} {s : State} {m : MethodId} {args : Array Value} {below : List Frame} {meth : Method} {c : Code} {T0 : State} {locs : List Loc} {cells slots : Nat} {Z : State} {a0 : Array Value} {h0 : Heap} (n0 : Nat) (s0 : Slot) (s1 : Slot) (s2 : Slot) (s3 : Slot) (o4 : Addr) (i5 : Int32) (i6 : Int32) (i7 : Int32) (wh : Int32) (cl_o4 : Cell)
    (X0 : Stand p l e room_1 s m args below meth c T0 locs cells slots) (hx : p.tables.exec = Jvm.exec) (hZ : Z.Warmed39 s.vm) (hw : ∀ d ∈ tables_1, d.before a0 Z = true) (hby : c.code = code) (hml : c.maxLocals = 8) (hown : s.vm.findClass "com/example/loop1/loop1/http/HttpSyntaxLineFeedPinLaw" = some m.cls) (e0 : T0.heap = h0) (N0 : Fr n0 locs) (Z0 : n0 ≤ h0.size) (hcl : cells + 0 ≤ room_1.cells) (hsl : slots + 0 ≤ room_1.slots) (Ar_o4 : Arr Z h0 o4 cl_o4 .byte) (hinh : ¬ ((3 : Int32) < 0 ∨ cl_o4.slots.size ≤ ((3 : Int32)).toNatClampNeg)) (hath : cl_o4.slots[((3 : Int32)).toNatClampNeg]? = some (.int wh)) (hc74 : (own_f2 o4 (3 : Int32) i5 i6 wh cl_o4) = (0 : Int32)) :
    ∃ (T' : State) (locs' : List Loc), Stand p l e room_1 s m args below meth c T' locs' cells slots ∧ Fr n0 locs' ∧ T'.heap = h0 ∧
      ∀ target, Steps p.tables e below (T'.setTop (mkF m 80 #[s0, s1, s2, s3, .val (.ref o4), .val (.int i5), .val (.int i6), .val (.int i7)] [])) target → Steps p.tables e below (T0.setTop (mkF m 64 #[s0, s1, s2, s3, .val (.ref o4), .val (.int i5), .val (.int i6), .val (.int i7)] [])) target := by
  obtain ⟨_, _, ⟨T5, L5, k5, n5⟩, -, X5, ⟨Lc5, hQ5, l5, y5, z5⟩, st5⟩ := Jvm.LawKit.callS X0 hx (y := (⟨"com/example/loop1/loop1/http/HttpSyntaxLineFeedPinLaw", "hit", "([BIII)Z"⟩ : MethodName)) hown (mvT hZ (hw _ (List.mem_of_getElem? (i := 6) rfl))) (mvT hZ (hw _ (List.mem_of_getElem? (i := 7) rfl))) (mvT hZ (hw _ (List.mem_of_getElem? (i := 3) rfl))) (mvT hZ (hw _ (List.mem_of_getElem? (i := 8) rfl))) (by decide) (backOf (W := 0) (rm2 l Z a0 hw [] o4 (3 : Int32) i5 i6 wh cl_o4 h0 n0 Z0 Ar_o4 hinh hath) hZ (hw _ (List.mem_of_getElem? (i := 8) rfl)) (hw _ (List.mem_of_getElem? (i := 3) rfl)) (by decide) (by decide)) (g := (mkF m 71 #[s0, s1, s2, s3, .val (.ref o4), .val (.int i5), .val (.int i6), .val (.int i7)] [(.int i6), (.int i5), (.int (3 : Int32)), (.ref o4)])) rfl (by rw [hml]; rfl) (argsL := [(.ref o4), (.int (3 : Int32)), (.int i5), (.int i6)]) (rest := []) (lenOf pd_0_1 rfl) rfl (by show 2 * 0 + _ ≤ _; exact Nat.le_of_eq rfl) (hb hby at_71) (fun _ _ => ⟨rfl, e0, hcl, hsl⟩)
  dsimp only [Pt.U, Pt.locs, Pt.cells, Pt.slots] at X5 l5 y5 z5 st5 hQ5
  subst l5 y5 z5
  obtain ⟨rfl, N5q, e5q0⟩ := hQ5
  have e5q : T5.heap = h0 := e5q0
  have N5 := Fr.app N0 N5q
  refine ⟨T5, _, X5, N5, e5q, fun target kt => ?_⟩
  show Steps p.tables e below (T0.setTop (mkF m 64 #[s0, s1, s2, s3, .val (.ref o4), .val (.int i5), .val (.int i6), .val (.int i7)] [])) _
  refine XS.aload X0.here hx rfl (hb hby at_64) rfl rfl ?_
  show Steps p.tables e below (T0.setTop (mkF m 66 #[s0, s1, s2, s3, .val (.ref o4), .val (.int i5), .val (.int i6), .val (.int i7)] [(.ref o4)])) _
  refine XS.iconst X0.here hx rfl (hb hby at_66) ?_
  show Steps p.tables e below (T0.setTop (mkF m 67 #[s0, s1, s2, s3, .val (.ref o4), .val (.int i5), .val (.int i6), .val (.int i7)] [(.int (3 : Int32)), (.ref o4)])) _
  refine XS.iload X0.here hx rfl (hb hby at_67) rfl ?_
  show Steps p.tables e below (T0.setTop (mkF m 69 #[s0, s1, s2, s3, .val (.ref o4), .val (.int i5), .val (.int i6), .val (.int i7)] [(.int i5), (.int (3 : Int32)), (.ref o4)])) _
  refine XS.iload X0.here hx rfl (hb hby at_69) rfl ?_
  show Steps p.tables e below (T0.setTop (mkF m 71 #[s0, s1, s2, s3, .val (.ref o4), .val (.int i5), .val (.int i6), .val (.int i7)] [(.int i6), (.int i5), (.int (3 : Int32)), (.ref o4)])) _
  refine st5 _ ?_
  show Steps p.tables e below (T5.setTop (mkF m 74 #[s0, s1, s2, s3, .val (.ref o4), .val (.int i5), .val (.int i6), .val (.int i7)] [(.int (own_f2 o4 (3 : Int32) i5 i6 wh cl_o4))])) _
  refine XS.ifYes X5.here hx rfl (pc0 := 74) (pc' := 80) rfl (hb hby at_74) rfl ((if0 _ _).trans (teq hc74).1) (by decide) (by decide) ?_
  exact kt
set_option maxRecDepth 65536 in
set_option maxHeartbeats 40000000 in
theorem tn0_64_80_f {p : Program} {l : Launch} {e : Env} {s : State} {m : MethodId} {args : Array Value} {below : List Frame} {meth : Method} {c : Code} {T0 : State} {locs : List Loc} {cells slots : Nat} {Z : State} {a0 : Array Value} {h0 : Heap} (n0 : Nat) (s0 : Slot) (s1 : Slot) (s2 : Slot) (s3 : Slot) (o4 : Addr) (i5 : Int32) (i6 : Int32) (i7 : Int32) (wh : Int32) (cl_o4 : Cell)
    (X0 : Stand p l e room_1 s m args below meth c T0 locs cells slots) (hx : p.tables.exec = Jvm.exec) (hZ : Z.Warmed39 s.vm) (hw : ∀ d ∈ tables_1, d.before a0 Z = true) (hby : c.code = code) (hml : c.maxLocals = 8) (hown : s.vm.findClass "com/example/loop1/loop1/http/HttpSyntaxLineFeedPinLaw" = some m.cls) (e0 : T0.heap = h0) (N0 : Fr n0 locs) (Z0 : n0 ≤ h0.size) (hcl : cells + 0 ≤ room_1.cells) (hsl : slots + 0 ≤ room_1.slots) (Ar_o4 : Arr Z h0 o4 cl_o4 .byte) (hinh : ¬ ((3 : Int32) < 0 ∨ cl_o4.slots.size ≤ ((3 : Int32)).toNatClampNeg)) (hath : cl_o4.slots[((3 : Int32)).toNatClampNeg]? = some (.int wh)) (hc74 : ¬ ((own_f2 o4 (3 : Int32) i5 i6 wh cl_o4) = (0 : Int32))) :
    ∃ (T' : State) (locs' : List Loc), Stand p l e room_1 s m args below meth c T' locs' cells slots ∧ Fr n0 locs' ∧ T'.heap = h0 ∧
      ∀ target, Steps p.tables e below (T'.setTop (mkF m 80 #[s0, s1, s2, s3, .val (.ref o4), .val (.int i5), .val (.int i6), .val (.int (3 : Int32))] [])) target → Steps p.tables e below (T0.setTop (mkF m 64 #[s0, s1, s2, s3, .val (.ref o4), .val (.int i5), .val (.int i6), .val (.int i7)] [])) target := by
  obtain ⟨_, _, ⟨T5, L5, k5, n5⟩, -, X5, ⟨Lc5, hQ5, l5, y5, z5⟩, st5⟩ := Jvm.LawKit.callS X0 hx (y := (⟨"com/example/loop1/loop1/http/HttpSyntaxLineFeedPinLaw", "hit", "([BIII)Z"⟩ : MethodName)) hown (mvT hZ (hw _ (List.mem_of_getElem? (i := 6) rfl))) (mvT hZ (hw _ (List.mem_of_getElem? (i := 7) rfl))) (mvT hZ (hw _ (List.mem_of_getElem? (i := 3) rfl))) (mvT hZ (hw _ (List.mem_of_getElem? (i := 8) rfl))) (by decide) (backOf (W := 0) (rm2 l Z a0 hw [] o4 (3 : Int32) i5 i6 wh cl_o4 h0 n0 Z0 Ar_o4 hinh hath) hZ (hw _ (List.mem_of_getElem? (i := 8) rfl)) (hw _ (List.mem_of_getElem? (i := 3) rfl)) (by decide) (by decide)) (g := (mkF m 71 #[s0, s1, s2, s3, .val (.ref o4), .val (.int i5), .val (.int i6), .val (.int i7)] [(.int i6), (.int i5), (.int (3 : Int32)), (.ref o4)])) rfl (by rw [hml]; rfl) (argsL := [(.ref o4), (.int (3 : Int32)), (.int i5), (.int i6)]) (rest := []) (lenOf pd_0_1 rfl) rfl (by show 2 * 0 + _ ≤ _; exact Nat.le_of_eq rfl) (hb hby at_71) (fun _ _ => ⟨rfl, e0, hcl, hsl⟩)
  dsimp only [Pt.U, Pt.locs, Pt.cells, Pt.slots] at X5 l5 y5 z5 st5 hQ5
  subst l5 y5 z5
  obtain ⟨rfl, N5q, e5q0⟩ := hQ5
  have e5q : T5.heap = h0 := e5q0
  have N5 := Fr.app N0 N5q
  refine ⟨T5, _, X5, N5, e5q, fun target kt => ?_⟩
  show Steps p.tables e below (T0.setTop (mkF m 64 #[s0, s1, s2, s3, .val (.ref o4), .val (.int i5), .val (.int i6), .val (.int i7)] [])) _
  refine XS.aload X0.here hx rfl (hb hby at_64) rfl rfl ?_
  show Steps p.tables e below (T0.setTop (mkF m 66 #[s0, s1, s2, s3, .val (.ref o4), .val (.int i5), .val (.int i6), .val (.int i7)] [(.ref o4)])) _
  refine XS.iconst X0.here hx rfl (hb hby at_66) ?_
  show Steps p.tables e below (T0.setTop (mkF m 67 #[s0, s1, s2, s3, .val (.ref o4), .val (.int i5), .val (.int i6), .val (.int i7)] [(.int (3 : Int32)), (.ref o4)])) _
  refine XS.iload X0.here hx rfl (hb hby at_67) rfl ?_
  show Steps p.tables e below (T0.setTop (mkF m 69 #[s0, s1, s2, s3, .val (.ref o4), .val (.int i5), .val (.int i6), .val (.int i7)] [(.int i5), (.int (3 : Int32)), (.ref o4)])) _
  refine XS.iload X0.here hx rfl (hb hby at_69) rfl ?_
  show Steps p.tables e below (T0.setTop (mkF m 71 #[s0, s1, s2, s3, .val (.ref o4), .val (.int i5), .val (.int i6), .val (.int i7)] [(.int i6), (.int i5), (.int (3 : Int32)), (.ref o4)])) _
  refine st5 _ ?_
  show Steps p.tables e below (T5.setTop (mkF m 74 #[s0, s1, s2, s3, .val (.ref o4), .val (.int i5), .val (.int i6), .val (.int i7)] [(.int (own_f2 o4 (3 : Int32) i5 i6 wh cl_o4))])) _
  refine XS.ifNo X5.here hx rfl (hb hby at_74) rfl ((if0 _ _).trans (feq hc74).1) ?_
  show Steps p.tables e below (T5.setTop (mkF m 77 #[s0, s1, s2, s3, .val (.ref o4), .val (.int i5), .val (.int i6), .val (.int i7)] [])) _
  refine XS.iconst X5.here hx rfl (hb hby at_77) ?_
  show Steps p.tables e below (T5.setTop (mkF m 78 #[s0, s1, s2, s3, .val (.ref o4), .val (.int i5), .val (.int i6), .val (.int i7)] [(.int (3 : Int32))])) _
  refine XS.istore X5.here hx rfl (hb hby at_78) rfl (l' := #[s0, s1, s2, s3, .val (.ref o4), .val (.int i5), .val (.int i6), .val (.int (3 : Int32))]) rfl ?_
  exact kt
def own_s0_64_7 (o4 : Addr) (i5 : Int32) (i6 : Int32) (i7 : Int32) (wh : Int32) (cl_o4 : Cell) : Int32 := (if (own_f2 o4 (3 : Int32) i5 i6 wh cl_o4) = (0 : Int32) then i7 else (3 : Int32))
set_option maxRecDepth 65536 in
theorem seg0_64_80 {p : Program} {l : Launch} {e : Env} {s : State} {m : MethodId} {args : Array Value} {below : List Frame} {meth : Method} {c : Code} {T0 : State} {locs : List Loc} {cells slots : Nat} {Z : State} {a0 : Array Value} {h0 : Heap} (n0 : Nat) (s0 : Slot) (s1 : Slot) (s2 : Slot) (s3 : Slot) (o4 : Addr) (i5 : Int32) (i6 : Int32) (i7 : Int32) (wh : Int32) (cl_o4 : Cell)
    (X0 : Stand p l e room_1 s m args below meth c T0 locs cells slots) (hx : p.tables.exec = Jvm.exec) (hZ : Z.Warmed39 s.vm) (hw : ∀ d ∈ tables_1, d.before a0 Z = true) (hby : c.code = code) (hml : c.maxLocals = 8) (hown : s.vm.findClass "com/example/loop1/loop1/http/HttpSyntaxLineFeedPinLaw" = some m.cls) (e0 : T0.heap = h0) (N0 : Fr n0 locs) (Z0 : n0 ≤ h0.size) (hcl : cells + 0 ≤ room_1.cells) (hsl : slots + 0 ≤ room_1.slots) (Ar_o4 : Arr Z h0 o4 cl_o4 .byte) (hinh : ¬ ((3 : Int32) < 0 ∨ cl_o4.slots.size ≤ ((3 : Int32)).toNatClampNeg)) (hath : cl_o4.slots[((3 : Int32)).toNatClampNeg]? = some (.int wh)) :
    ∃ (T' : State) (locs' : List Loc), Stand p l e room_1 s m args below meth c T' locs' cells slots ∧ Fr n0 locs' ∧ T'.heap = h0 ∧
      ∀ target, Steps p.tables e below (T'.setTop (mkF m 80 #[s0, s1, s2, s3, .val (.ref o4), .val (.int i5), .val (.int i6), .val (.int (own_s0_64_7 o4 i5 i6 i7 wh cl_o4))] [])) target → Steps p.tables e below (T0.setTop (mkF m 64 #[s0, s1, s2, s3, .val (.ref o4), .val (.int i5), .val (.int i6), .val (.int i7)] [])) target := by
  by_cases hc74 : (own_f2 o4 (3 : Int32) i5 i6 wh cl_o4) = (0 : Int32)
  · simp only [own_s0_64_7, if_pos hc74]
    exact tn0_64_80_t n0 (s0) (s1) (s2) (s3) o4 i5 i6 i7 wh cl_o4 X0 hx hZ hw hby hml hown e0 N0 Z0 hcl hsl Ar_o4 hinh hath hc74
  · simp only [own_s0_64_7, if_neg hc74]
    exact tn0_64_80_f n0 (s0) (s1) (s2) (s3) o4 i5 i6 i7 wh cl_o4 X0 hx hZ hw hby hml hown e0 N0 Z0 hcl hsl Ar_o4 hinh hath hc74
set_option maxRecDepth 65536 in
set_option maxHeartbeats 40000000 in
theorem tn0_80_96_t {p : Program} {l : Launch} {e : Env} {s : State} {m : MethodId} {args : Array Value} {below : List Frame} {meth : Method} {c : Code} {T0 : State} {locs : List Loc} {cells slots : Nat} {Z : State} {a0 : Array Value} {h0 : Heap} (n0 : Nat) (s0 : Slot) (s1 : Slot) (s2 : Slot) (s3 : Slot) (o4 : Addr) (i5 : Int32) (i6 : Int32) (i7 : Int32) (wh : Int32) (cl_o4 : Cell)
    (X0 : Stand p l e room_1 s m args below meth c T0 locs cells slots) (hx : p.tables.exec = Jvm.exec) (hZ : Z.Warmed39 s.vm) (hw : ∀ d ∈ tables_1, d.before a0 Z = true) (hby : c.code = code) (hml : c.maxLocals = 8) (hown : s.vm.findClass "com/example/loop1/loop1/http/HttpSyntaxLineFeedPinLaw" = some m.cls) (e0 : T0.heap = h0) (N0 : Fr n0 locs) (Z0 : n0 ≤ h0.size) (hcl : cells + 0 ≤ room_1.cells) (hsl : slots + 0 ≤ room_1.slots) (Ar_o4 : Arr Z h0 o4 cl_o4 .byte) (hinh : ¬ ((2 : Int32) < 0 ∨ cl_o4.slots.size ≤ ((2 : Int32)).toNatClampNeg)) (hath : cl_o4.slots[((2 : Int32)).toNatClampNeg]? = some (.int wh)) (hc90 : (own_f2 o4 (2 : Int32) i5 i6 wh cl_o4) = (0 : Int32)) :
    ∃ (T' : State) (locs' : List Loc), Stand p l e room_1 s m args below meth c T' locs' cells slots ∧ Fr n0 locs' ∧ T'.heap = h0 ∧
      ∀ target, Steps p.tables e below (T'.setTop (mkF m 96 #[s0, s1, s2, s3, .val (.ref o4), .val (.int i5), .val (.int i6), .val (.int i7)] [])) target → Steps p.tables e below (T0.setTop (mkF m 80 #[s0, s1, s2, s3, .val (.ref o4), .val (.int i5), .val (.int i6), .val (.int i7)] [])) target := by
  obtain ⟨_, _, ⟨T5, L5, k5, n5⟩, -, X5, ⟨Lc5, hQ5, l5, y5, z5⟩, st5⟩ := Jvm.LawKit.callS X0 hx (y := (⟨"com/example/loop1/loop1/http/HttpSyntaxLineFeedPinLaw", "hit", "([BIII)Z"⟩ : MethodName)) hown (mvT hZ (hw _ (List.mem_of_getElem? (i := 6) rfl))) (mvT hZ (hw _ (List.mem_of_getElem? (i := 7) rfl))) (mvT hZ (hw _ (List.mem_of_getElem? (i := 3) rfl))) (mvT hZ (hw _ (List.mem_of_getElem? (i := 8) rfl))) (by decide) (backOf (W := 0) (rm2 l Z a0 hw [] o4 (2 : Int32) i5 i6 wh cl_o4 h0 n0 Z0 Ar_o4 hinh hath) hZ (hw _ (List.mem_of_getElem? (i := 8) rfl)) (hw _ (List.mem_of_getElem? (i := 3) rfl)) (by decide) (by decide)) (g := (mkF m 87 #[s0, s1, s2, s3, .val (.ref o4), .val (.int i5), .val (.int i6), .val (.int i7)] [(.int i6), (.int i5), (.int (2 : Int32)), (.ref o4)])) rfl (by rw [hml]; rfl) (argsL := [(.ref o4), (.int (2 : Int32)), (.int i5), (.int i6)]) (rest := []) (lenOf pd_0_1 rfl) rfl (by show 2 * 0 + _ ≤ _; exact Nat.le_of_eq rfl) (hb hby at_87) (fun _ _ => ⟨rfl, e0, hcl, hsl⟩)
  dsimp only [Pt.U, Pt.locs, Pt.cells, Pt.slots] at X5 l5 y5 z5 st5 hQ5
  subst l5 y5 z5
  obtain ⟨rfl, N5q, e5q0⟩ := hQ5
  have e5q : T5.heap = h0 := e5q0
  have N5 := Fr.app N0 N5q
  refine ⟨T5, _, X5, N5, e5q, fun target kt => ?_⟩
  show Steps p.tables e below (T0.setTop (mkF m 80 #[s0, s1, s2, s3, .val (.ref o4), .val (.int i5), .val (.int i6), .val (.int i7)] [])) _
  refine XS.aload X0.here hx rfl (hb hby at_80) rfl rfl ?_
  show Steps p.tables e below (T0.setTop (mkF m 82 #[s0, s1, s2, s3, .val (.ref o4), .val (.int i5), .val (.int i6), .val (.int i7)] [(.ref o4)])) _
  refine XS.iconst X0.here hx rfl (hb hby at_82) ?_
  show Steps p.tables e below (T0.setTop (mkF m 83 #[s0, s1, s2, s3, .val (.ref o4), .val (.int i5), .val (.int i6), .val (.int i7)] [(.int (2 : Int32)), (.ref o4)])) _
  refine XS.iload X0.here hx rfl (hb hby at_83) rfl ?_
  show Steps p.tables e below (T0.setTop (mkF m 85 #[s0, s1, s2, s3, .val (.ref o4), .val (.int i5), .val (.int i6), .val (.int i7)] [(.int i5), (.int (2 : Int32)), (.ref o4)])) _
  refine XS.iload X0.here hx rfl (hb hby at_85) rfl ?_
  show Steps p.tables e below (T0.setTop (mkF m 87 #[s0, s1, s2, s3, .val (.ref o4), .val (.int i5), .val (.int i6), .val (.int i7)] [(.int i6), (.int i5), (.int (2 : Int32)), (.ref o4)])) _
  refine st5 _ ?_
  show Steps p.tables e below (T5.setTop (mkF m 90 #[s0, s1, s2, s3, .val (.ref o4), .val (.int i5), .val (.int i6), .val (.int i7)] [(.int (own_f2 o4 (2 : Int32) i5 i6 wh cl_o4))])) _
  refine XS.ifYes X5.here hx rfl (pc0 := 90) (pc' := 96) rfl (hb hby at_90) rfl ((if0 _ _).trans (teq hc90).1) (by decide) (by decide) ?_
  exact kt
set_option maxRecDepth 65536 in
set_option maxHeartbeats 40000000 in
theorem tn0_80_96_f {p : Program} {l : Launch} {e : Env} {s : State} {m : MethodId} {args : Array Value} {below : List Frame} {meth : Method} {c : Code} {T0 : State} {locs : List Loc} {cells slots : Nat} {Z : State} {a0 : Array Value} {h0 : Heap} (n0 : Nat) (s0 : Slot) (s1 : Slot) (s2 : Slot) (s3 : Slot) (o4 : Addr) (i5 : Int32) (i6 : Int32) (i7 : Int32) (wh : Int32) (cl_o4 : Cell)
    (X0 : Stand p l e room_1 s m args below meth c T0 locs cells slots) (hx : p.tables.exec = Jvm.exec) (hZ : Z.Warmed39 s.vm) (hw : ∀ d ∈ tables_1, d.before a0 Z = true) (hby : c.code = code) (hml : c.maxLocals = 8) (hown : s.vm.findClass "com/example/loop1/loop1/http/HttpSyntaxLineFeedPinLaw" = some m.cls) (e0 : T0.heap = h0) (N0 : Fr n0 locs) (Z0 : n0 ≤ h0.size) (hcl : cells + 0 ≤ room_1.cells) (hsl : slots + 0 ≤ room_1.slots) (Ar_o4 : Arr Z h0 o4 cl_o4 .byte) (hinh : ¬ ((2 : Int32) < 0 ∨ cl_o4.slots.size ≤ ((2 : Int32)).toNatClampNeg)) (hath : cl_o4.slots[((2 : Int32)).toNatClampNeg]? = some (.int wh)) (hc90 : ¬ ((own_f2 o4 (2 : Int32) i5 i6 wh cl_o4) = (0 : Int32))) :
    ∃ (T' : State) (locs' : List Loc), Stand p l e room_1 s m args below meth c T' locs' cells slots ∧ Fr n0 locs' ∧ T'.heap = h0 ∧
      ∀ target, Steps p.tables e below (T'.setTop (mkF m 96 #[s0, s1, s2, s3, .val (.ref o4), .val (.int i5), .val (.int i6), .val (.int (2 : Int32))] [])) target → Steps p.tables e below (T0.setTop (mkF m 80 #[s0, s1, s2, s3, .val (.ref o4), .val (.int i5), .val (.int i6), .val (.int i7)] [])) target := by
  obtain ⟨_, _, ⟨T5, L5, k5, n5⟩, -, X5, ⟨Lc5, hQ5, l5, y5, z5⟩, st5⟩ := Jvm.LawKit.callS X0 hx (y := (⟨"com/example/loop1/loop1/http/HttpSyntaxLineFeedPinLaw", "hit", "([BIII)Z"⟩ : MethodName)) hown (mvT hZ (hw _ (List.mem_of_getElem? (i := 6) rfl))) (mvT hZ (hw _ (List.mem_of_getElem? (i := 7) rfl))) (mvT hZ (hw _ (List.mem_of_getElem? (i := 3) rfl))) (mvT hZ (hw _ (List.mem_of_getElem? (i := 8) rfl))) (by decide) (backOf (W := 0) (rm2 l Z a0 hw [] o4 (2 : Int32) i5 i6 wh cl_o4 h0 n0 Z0 Ar_o4 hinh hath) hZ (hw _ (List.mem_of_getElem? (i := 8) rfl)) (hw _ (List.mem_of_getElem? (i := 3) rfl)) (by decide) (by decide)) (g := (mkF m 87 #[s0, s1, s2, s3, .val (.ref o4), .val (.int i5), .val (.int i6), .val (.int i7)] [(.int i6), (.int i5), (.int (2 : Int32)), (.ref o4)])) rfl (by rw [hml]; rfl) (argsL := [(.ref o4), (.int (2 : Int32)), (.int i5), (.int i6)]) (rest := []) (lenOf pd_0_1 rfl) rfl (by show 2 * 0 + _ ≤ _; exact Nat.le_of_eq rfl) (hb hby at_87) (fun _ _ => ⟨rfl, e0, hcl, hsl⟩)
  dsimp only [Pt.U, Pt.locs, Pt.cells, Pt.slots] at X5 l5 y5 z5 st5 hQ5
  subst l5 y5 z5
  obtain ⟨rfl, N5q, e5q0⟩ := hQ5
  have e5q : T5.heap = h0 := e5q0
  have N5 := Fr.app N0 N5q
  refine ⟨T5, _, X5, N5, e5q, fun target kt => ?_⟩
  show Steps p.tables e below (T0.setTop (mkF m 80 #[s0, s1, s2, s3, .val (.ref o4), .val (.int i5), .val (.int i6), .val (.int i7)] [])) _
  refine XS.aload X0.here hx rfl (hb hby at_80) rfl rfl ?_
  show Steps p.tables e below (T0.setTop (mkF m 82 #[s0, s1, s2, s3, .val (.ref o4), .val (.int i5), .val (.int i6), .val (.int i7)] [(.ref o4)])) _
  refine XS.iconst X0.here hx rfl (hb hby at_82) ?_
  show Steps p.tables e below (T0.setTop (mkF m 83 #[s0, s1, s2, s3, .val (.ref o4), .val (.int i5), .val (.int i6), .val (.int i7)] [(.int (2 : Int32)), (.ref o4)])) _
  refine XS.iload X0.here hx rfl (hb hby at_83) rfl ?_
  show Steps p.tables e below (T0.setTop (mkF m 85 #[s0, s1, s2, s3, .val (.ref o4), .val (.int i5), .val (.int i6), .val (.int i7)] [(.int i5), (.int (2 : Int32)), (.ref o4)])) _
  refine XS.iload X0.here hx rfl (hb hby at_85) rfl ?_
  show Steps p.tables e below (T0.setTop (mkF m 87 #[s0, s1, s2, s3, .val (.ref o4), .val (.int i5), .val (.int i6), .val (.int i7)] [(.int i6), (.int i5), (.int (2 : Int32)), (.ref o4)])) _
  refine st5 _ ?_
  show Steps p.tables e below (T5.setTop (mkF m 90 #[s0, s1, s2, s3, .val (.ref o4), .val (.int i5), .val (.int i6), .val (.int i7)] [(.int (own_f2 o4 (2 : Int32) i5 i6 wh cl_o4))])) _
  refine XS.ifNo X5.here hx rfl (hb hby at_90) rfl ((if0 _ _).trans (feq hc90).1) ?_
  show Steps p.tables e below (T5.setTop (mkF m 93 #[s0, s1, s2, s3, .val (.ref o4), .val (.int i5), .val (.int i6), .val (.int i7)] [])) _
  refine XS.iconst X5.here hx rfl (hb hby at_93) ?_
  show Steps p.tables e below (T5.setTop (mkF m 94 #[s0, s1, s2, s3, .val (.ref o4), .val (.int i5), .val (.int i6), .val (.int i7)] [(.int (2 : Int32))])) _
  refine XS.istore X5.here hx rfl (hb hby at_94) rfl (l' := #[s0, s1, s2, s3, .val (.ref o4), .val (.int i5), .val (.int i6), .val (.int (2 : Int32))]) rfl ?_
  exact kt
def own_s0_80_7 (o4 : Addr) (i5 : Int32) (i6 : Int32) (i7 : Int32) (wh : Int32) (cl_o4 : Cell) : Int32 := (if (own_f2 o4 (2 : Int32) i5 i6 wh cl_o4) = (0 : Int32) then i7 else (2 : Int32))
set_option maxRecDepth 65536 in
theorem seg0_80_96 {p : Program} {l : Launch} {e : Env} {s : State} {m : MethodId} {args : Array Value} {below : List Frame} {meth : Method} {c : Code} {T0 : State} {locs : List Loc} {cells slots : Nat} {Z : State} {a0 : Array Value} {h0 : Heap} (n0 : Nat) (s0 : Slot) (s1 : Slot) (s2 : Slot) (s3 : Slot) (o4 : Addr) (i5 : Int32) (i6 : Int32) (i7 : Int32) (wh : Int32) (cl_o4 : Cell)
    (X0 : Stand p l e room_1 s m args below meth c T0 locs cells slots) (hx : p.tables.exec = Jvm.exec) (hZ : Z.Warmed39 s.vm) (hw : ∀ d ∈ tables_1, d.before a0 Z = true) (hby : c.code = code) (hml : c.maxLocals = 8) (hown : s.vm.findClass "com/example/loop1/loop1/http/HttpSyntaxLineFeedPinLaw" = some m.cls) (e0 : T0.heap = h0) (N0 : Fr n0 locs) (Z0 : n0 ≤ h0.size) (hcl : cells + 0 ≤ room_1.cells) (hsl : slots + 0 ≤ room_1.slots) (Ar_o4 : Arr Z h0 o4 cl_o4 .byte) (hinh : ¬ ((2 : Int32) < 0 ∨ cl_o4.slots.size ≤ ((2 : Int32)).toNatClampNeg)) (hath : cl_o4.slots[((2 : Int32)).toNatClampNeg]? = some (.int wh)) :
    ∃ (T' : State) (locs' : List Loc), Stand p l e room_1 s m args below meth c T' locs' cells slots ∧ Fr n0 locs' ∧ T'.heap = h0 ∧
      ∀ target, Steps p.tables e below (T'.setTop (mkF m 96 #[s0, s1, s2, s3, .val (.ref o4), .val (.int i5), .val (.int i6), .val (.int (own_s0_80_7 o4 i5 i6 i7 wh cl_o4))] [])) target → Steps p.tables e below (T0.setTop (mkF m 80 #[s0, s1, s2, s3, .val (.ref o4), .val (.int i5), .val (.int i6), .val (.int i7)] [])) target := by
  by_cases hc90 : (own_f2 o4 (2 : Int32) i5 i6 wh cl_o4) = (0 : Int32)
  · simp only [own_s0_80_7, if_pos hc90]
    exact tn0_80_96_t n0 (s0) (s1) (s2) (s3) o4 i5 i6 i7 wh cl_o4 X0 hx hZ hw hby hml hown e0 N0 Z0 hcl hsl Ar_o4 hinh hath hc90
  · simp only [own_s0_80_7, if_neg hc90]
    exact tn0_80_96_f n0 (s0) (s1) (s2) (s3) o4 i5 i6 i7 wh cl_o4 X0 hx hZ hw hby hml hown e0 N0 Z0 hcl hsl Ar_o4 hinh hath hc90
set_option maxRecDepth 65536 in
set_option maxHeartbeats 40000000 in
theorem tn0_96_112_t {p : Program} {l : Launch} {e : Env} {s : State} {m : MethodId} {args : Array Value} {below : List Frame} {meth : Method} {c : Code} {T0 : State} {locs : List Loc} {cells slots : Nat} {Z : State} {a0 : Array Value} {h0 : Heap} (n0 : Nat) (s0 : Slot) (s1 : Slot) (s2 : Slot) (s3 : Slot) (o4 : Addr) (i5 : Int32) (i6 : Int32) (i7 : Int32) (wh : Int32) (cl_o4 : Cell)
    (X0 : Stand p l e room_1 s m args below meth c T0 locs cells slots) (hx : p.tables.exec = Jvm.exec) (hZ : Z.Warmed39 s.vm) (hw : ∀ d ∈ tables_1, d.before a0 Z = true) (hby : c.code = code) (hml : c.maxLocals = 8) (hown : s.vm.findClass "com/example/loop1/loop1/http/HttpSyntaxLineFeedPinLaw" = some m.cls) (e0 : T0.heap = h0) (N0 : Fr n0 locs) (Z0 : n0 ≤ h0.size) (hcl : cells + 0 ≤ room_1.cells) (hsl : slots + 0 ≤ room_1.slots) (Ar_o4 : Arr Z h0 o4 cl_o4 .byte) (hinh : ¬ ((1 : Int32) < 0 ∨ cl_o4.slots.size ≤ ((1 : Int32)).toNatClampNeg)) (hath : cl_o4.slots[((1 : Int32)).toNatClampNeg]? = some (.int wh)) (hc106 : (own_f2 o4 (1 : Int32) i5 i6 wh cl_o4) = (0 : Int32)) :
    ∃ (T' : State) (locs' : List Loc), Stand p l e room_1 s m args below meth c T' locs' cells slots ∧ Fr n0 locs' ∧ T'.heap = h0 ∧
      ∀ target, Steps p.tables e below (T'.setTop (mkF m 112 #[s0, s1, s2, s3, .val (.ref o4), .val (.int i5), .val (.int i6), .val (.int i7)] [])) target → Steps p.tables e below (T0.setTop (mkF m 96 #[s0, s1, s2, s3, .val (.ref o4), .val (.int i5), .val (.int i6), .val (.int i7)] [])) target := by
  obtain ⟨_, _, ⟨T5, L5, k5, n5⟩, -, X5, ⟨Lc5, hQ5, l5, y5, z5⟩, st5⟩ := Jvm.LawKit.callS X0 hx (y := (⟨"com/example/loop1/loop1/http/HttpSyntaxLineFeedPinLaw", "hit", "([BIII)Z"⟩ : MethodName)) hown (mvT hZ (hw _ (List.mem_of_getElem? (i := 6) rfl))) (mvT hZ (hw _ (List.mem_of_getElem? (i := 7) rfl))) (mvT hZ (hw _ (List.mem_of_getElem? (i := 3) rfl))) (mvT hZ (hw _ (List.mem_of_getElem? (i := 8) rfl))) (by decide) (backOf (W := 0) (rm2 l Z a0 hw [] o4 (1 : Int32) i5 i6 wh cl_o4 h0 n0 Z0 Ar_o4 hinh hath) hZ (hw _ (List.mem_of_getElem? (i := 8) rfl)) (hw _ (List.mem_of_getElem? (i := 3) rfl)) (by decide) (by decide)) (g := (mkF m 103 #[s0, s1, s2, s3, .val (.ref o4), .val (.int i5), .val (.int i6), .val (.int i7)] [(.int i6), (.int i5), (.int (1 : Int32)), (.ref o4)])) rfl (by rw [hml]; rfl) (argsL := [(.ref o4), (.int (1 : Int32)), (.int i5), (.int i6)]) (rest := []) (lenOf pd_0_1 rfl) rfl (by show 2 * 0 + _ ≤ _; exact Nat.le_of_eq rfl) (hb hby at_103) (fun _ _ => ⟨rfl, e0, hcl, hsl⟩)
  dsimp only [Pt.U, Pt.locs, Pt.cells, Pt.slots] at X5 l5 y5 z5 st5 hQ5
  subst l5 y5 z5
  obtain ⟨rfl, N5q, e5q0⟩ := hQ5
  have e5q : T5.heap = h0 := e5q0
  have N5 := Fr.app N0 N5q
  refine ⟨T5, _, X5, N5, e5q, fun target kt => ?_⟩
  show Steps p.tables e below (T0.setTop (mkF m 96 #[s0, s1, s2, s3, .val (.ref o4), .val (.int i5), .val (.int i6), .val (.int i7)] [])) _
  refine XS.aload X0.here hx rfl (hb hby at_96) rfl rfl ?_
  show Steps p.tables e below (T0.setTop (mkF m 98 #[s0, s1, s2, s3, .val (.ref o4), .val (.int i5), .val (.int i6), .val (.int i7)] [(.ref o4)])) _
  refine XS.iconst X0.here hx rfl (hb hby at_98) ?_
  show Steps p.tables e below (T0.setTop (mkF m 99 #[s0, s1, s2, s3, .val (.ref o4), .val (.int i5), .val (.int i6), .val (.int i7)] [(.int (1 : Int32)), (.ref o4)])) _
  refine XS.iload X0.here hx rfl (hb hby at_99) rfl ?_
  show Steps p.tables e below (T0.setTop (mkF m 101 #[s0, s1, s2, s3, .val (.ref o4), .val (.int i5), .val (.int i6), .val (.int i7)] [(.int i5), (.int (1 : Int32)), (.ref o4)])) _
  refine XS.iload X0.here hx rfl (hb hby at_101) rfl ?_
  show Steps p.tables e below (T0.setTop (mkF m 103 #[s0, s1, s2, s3, .val (.ref o4), .val (.int i5), .val (.int i6), .val (.int i7)] [(.int i6), (.int i5), (.int (1 : Int32)), (.ref o4)])) _
  refine st5 _ ?_
  show Steps p.tables e below (T5.setTop (mkF m 106 #[s0, s1, s2, s3, .val (.ref o4), .val (.int i5), .val (.int i6), .val (.int i7)] [(.int (own_f2 o4 (1 : Int32) i5 i6 wh cl_o4))])) _
  refine XS.ifYes X5.here hx rfl (pc0 := 106) (pc' := 112) rfl (hb hby at_106) rfl ((if0 _ _).trans (teq hc106).1) (by decide) (by decide) ?_
  exact kt
set_option maxRecDepth 65536 in
set_option maxHeartbeats 40000000 in
theorem tn0_96_112_f {p : Program} {l : Launch} {e : Env} {s : State} {m : MethodId} {args : Array Value} {below : List Frame} {meth : Method} {c : Code} {T0 : State} {locs : List Loc} {cells slots : Nat} {Z : State} {a0 : Array Value} {h0 : Heap} (n0 : Nat) (s0 : Slot) (s1 : Slot) (s2 : Slot) (s3 : Slot) (o4 : Addr) (i5 : Int32) (i6 : Int32) (i7 : Int32) (wh : Int32) (cl_o4 : Cell)
    (X0 : Stand p l e room_1 s m args below meth c T0 locs cells slots) (hx : p.tables.exec = Jvm.exec) (hZ : Z.Warmed39 s.vm) (hw : ∀ d ∈ tables_1, d.before a0 Z = true) (hby : c.code = code) (hml : c.maxLocals = 8) (hown : s.vm.findClass "com/example/loop1/loop1/http/HttpSyntaxLineFeedPinLaw" = some m.cls) (e0 : T0.heap = h0) (N0 : Fr n0 locs) (Z0 : n0 ≤ h0.size) (hcl : cells + 0 ≤ room_1.cells) (hsl : slots + 0 ≤ room_1.slots) (Ar_o4 : Arr Z h0 o4 cl_o4 .byte) (hinh : ¬ ((1 : Int32) < 0 ∨ cl_o4.slots.size ≤ ((1 : Int32)).toNatClampNeg)) (hath : cl_o4.slots[((1 : Int32)).toNatClampNeg]? = some (.int wh)) (hc106 : ¬ ((own_f2 o4 (1 : Int32) i5 i6 wh cl_o4) = (0 : Int32))) :
    ∃ (T' : State) (locs' : List Loc), Stand p l e room_1 s m args below meth c T' locs' cells slots ∧ Fr n0 locs' ∧ T'.heap = h0 ∧
      ∀ target, Steps p.tables e below (T'.setTop (mkF m 112 #[s0, s1, s2, s3, .val (.ref o4), .val (.int i5), .val (.int i6), .val (.int (1 : Int32))] [])) target → Steps p.tables e below (T0.setTop (mkF m 96 #[s0, s1, s2, s3, .val (.ref o4), .val (.int i5), .val (.int i6), .val (.int i7)] [])) target := by
  obtain ⟨_, _, ⟨T5, L5, k5, n5⟩, -, X5, ⟨Lc5, hQ5, l5, y5, z5⟩, st5⟩ := Jvm.LawKit.callS X0 hx (y := (⟨"com/example/loop1/loop1/http/HttpSyntaxLineFeedPinLaw", "hit", "([BIII)Z"⟩ : MethodName)) hown (mvT hZ (hw _ (List.mem_of_getElem? (i := 6) rfl))) (mvT hZ (hw _ (List.mem_of_getElem? (i := 7) rfl))) (mvT hZ (hw _ (List.mem_of_getElem? (i := 3) rfl))) (mvT hZ (hw _ (List.mem_of_getElem? (i := 8) rfl))) (by decide) (backOf (W := 0) (rm2 l Z a0 hw [] o4 (1 : Int32) i5 i6 wh cl_o4 h0 n0 Z0 Ar_o4 hinh hath) hZ (hw _ (List.mem_of_getElem? (i := 8) rfl)) (hw _ (List.mem_of_getElem? (i := 3) rfl)) (by decide) (by decide)) (g := (mkF m 103 #[s0, s1, s2, s3, .val (.ref o4), .val (.int i5), .val (.int i6), .val (.int i7)] [(.int i6), (.int i5), (.int (1 : Int32)), (.ref o4)])) rfl (by rw [hml]; rfl) (argsL := [(.ref o4), (.int (1 : Int32)), (.int i5), (.int i6)]) (rest := []) (lenOf pd_0_1 rfl) rfl (by show 2 * 0 + _ ≤ _; exact Nat.le_of_eq rfl) (hb hby at_103) (fun _ _ => ⟨rfl, e0, hcl, hsl⟩)
  dsimp only [Pt.U, Pt.locs, Pt.cells, Pt.slots] at X5 l5 y5 z5 st5 hQ5
  subst l5 y5 z5
  obtain ⟨rfl, N5q, e5q0⟩ := hQ5
  have e5q : T5.heap = h0 := e5q0
  have N5 := Fr.app N0 N5q
  refine ⟨T5, _, X5, N5, e5q, fun target kt => ?_⟩
  show Steps p.tables e below (T0.setTop (mkF m 96 #[s0, s1, s2, s3, .val (.ref o4), .val (.int i5), .val (.int i6), .val (.int i7)] [])) _
  refine XS.aload X0.here hx rfl (hb hby at_96) rfl rfl ?_
  show Steps p.tables e below (T0.setTop (mkF m 98 #[s0, s1, s2, s3, .val (.ref o4), .val (.int i5), .val (.int i6), .val (.int i7)] [(.ref o4)])) _
  refine XS.iconst X0.here hx rfl (hb hby at_98) ?_
  show Steps p.tables e below (T0.setTop (mkF m 99 #[s0, s1, s2, s3, .val (.ref o4), .val (.int i5), .val (.int i6), .val (.int i7)] [(.int (1 : Int32)), (.ref o4)])) _
  refine XS.iload X0.here hx rfl (hb hby at_99) rfl ?_
  show Steps p.tables e below (T0.setTop (mkF m 101 #[s0, s1, s2, s3, .val (.ref o4), .val (.int i5), .val (.int i6), .val (.int i7)] [(.int i5), (.int (1 : Int32)), (.ref o4)])) _
  refine XS.iload X0.here hx rfl (hb hby at_101) rfl ?_
  show Steps p.tables e below (T0.setTop (mkF m 103 #[s0, s1, s2, s3, .val (.ref o4), .val (.int i5), .val (.int i6), .val (.int i7)] [(.int i6), (.int i5), (.int (1 : Int32)), (.ref o4)])) _
  refine st5 _ ?_
  show Steps p.tables e below (T5.setTop (mkF m 106 #[s0, s1, s2, s3, .val (.ref o4), .val (.int i5), .val (.int i6), .val (.int i7)] [(.int (own_f2 o4 (1 : Int32) i5 i6 wh cl_o4))])) _
  refine XS.ifNo X5.here hx rfl (hb hby at_106) rfl ((if0 _ _).trans (feq hc106).1) ?_
  show Steps p.tables e below (T5.setTop (mkF m 109 #[s0, s1, s2, s3, .val (.ref o4), .val (.int i5), .val (.int i6), .val (.int i7)] [])) _
  refine XS.iconst X5.here hx rfl (hb hby at_109) ?_
  show Steps p.tables e below (T5.setTop (mkF m 110 #[s0, s1, s2, s3, .val (.ref o4), .val (.int i5), .val (.int i6), .val (.int i7)] [(.int (1 : Int32))])) _
  refine XS.istore X5.here hx rfl (hb hby at_110) rfl (l' := #[s0, s1, s2, s3, .val (.ref o4), .val (.int i5), .val (.int i6), .val (.int (1 : Int32))]) rfl ?_
  exact kt
def own_s0_96_7 (o4 : Addr) (i5 : Int32) (i6 : Int32) (i7 : Int32) (wh : Int32) (cl_o4 : Cell) : Int32 := (if (own_f2 o4 (1 : Int32) i5 i6 wh cl_o4) = (0 : Int32) then i7 else (1 : Int32))
set_option maxRecDepth 65536 in
theorem seg0_96_112 {p : Program} {l : Launch} {e : Env} {s : State} {m : MethodId} {args : Array Value} {below : List Frame} {meth : Method} {c : Code} {T0 : State} {locs : List Loc} {cells slots : Nat} {Z : State} {a0 : Array Value} {h0 : Heap} (n0 : Nat) (s0 : Slot) (s1 : Slot) (s2 : Slot) (s3 : Slot) (o4 : Addr) (i5 : Int32) (i6 : Int32) (i7 : Int32) (wh : Int32) (cl_o4 : Cell)
    (X0 : Stand p l e room_1 s m args below meth c T0 locs cells slots) (hx : p.tables.exec = Jvm.exec) (hZ : Z.Warmed39 s.vm) (hw : ∀ d ∈ tables_1, d.before a0 Z = true) (hby : c.code = code) (hml : c.maxLocals = 8) (hown : s.vm.findClass "com/example/loop1/loop1/http/HttpSyntaxLineFeedPinLaw" = some m.cls) (e0 : T0.heap = h0) (N0 : Fr n0 locs) (Z0 : n0 ≤ h0.size) (hcl : cells + 0 ≤ room_1.cells) (hsl : slots + 0 ≤ room_1.slots) (Ar_o4 : Arr Z h0 o4 cl_o4 .byte) (hinh : ¬ ((1 : Int32) < 0 ∨ cl_o4.slots.size ≤ ((1 : Int32)).toNatClampNeg)) (hath : cl_o4.slots[((1 : Int32)).toNatClampNeg]? = some (.int wh)) :
    ∃ (T' : State) (locs' : List Loc), Stand p l e room_1 s m args below meth c T' locs' cells slots ∧ Fr n0 locs' ∧ T'.heap = h0 ∧
      ∀ target, Steps p.tables e below (T'.setTop (mkF m 112 #[s0, s1, s2, s3, .val (.ref o4), .val (.int i5), .val (.int i6), .val (.int (own_s0_96_7 o4 i5 i6 i7 wh cl_o4))] [])) target → Steps p.tables e below (T0.setTop (mkF m 96 #[s0, s1, s2, s3, .val (.ref o4), .val (.int i5), .val (.int i6), .val (.int i7)] [])) target := by
  by_cases hc106 : (own_f2 o4 (1 : Int32) i5 i6 wh cl_o4) = (0 : Int32)
  · simp only [own_s0_96_7, if_pos hc106]
    exact tn0_96_112_t n0 (s0) (s1) (s2) (s3) o4 i5 i6 i7 wh cl_o4 X0 hx hZ hw hby hml hown e0 N0 Z0 hcl hsl Ar_o4 hinh hath hc106
  · simp only [own_s0_96_7, if_neg hc106]
    exact tn0_96_112_f n0 (s0) (s1) (s2) (s3) o4 i5 i6 i7 wh cl_o4 X0 hx hZ hw hby hml hown e0 N0 Z0 hcl hsl Ar_o4 hinh hath hc106
set_option maxRecDepth 65536 in
set_option maxHeartbeats 40000000 in
theorem tn0_112_128_t {p : Program} {l : Launch} {e : Env} {s : State} {m : MethodId} {args : Array Value} {below : List Frame} {meth : Method} {c : Code} {T0 : State} {locs : List Loc} {cells slots : Nat} {Z : State} {a0 : Array Value} {h0 : Heap} (n0 : Nat) (s0 : Slot) (s1 : Slot) (s2 : Slot) (s3 : Slot) (o4 : Addr) (i5 : Int32) (i6 : Int32) (i7 : Int32) (wh : Int32) (cl_o4 : Cell)
    (X0 : Stand p l e room_1 s m args below meth c T0 locs cells slots) (hx : p.tables.exec = Jvm.exec) (hZ : Z.Warmed39 s.vm) (hw : ∀ d ∈ tables_1, d.before a0 Z = true) (hby : c.code = code) (hml : c.maxLocals = 8) (hown : s.vm.findClass "com/example/loop1/loop1/http/HttpSyntaxLineFeedPinLaw" = some m.cls) (e0 : T0.heap = h0) (N0 : Fr n0 locs) (Z0 : n0 ≤ h0.size) (hcl : cells + 0 ≤ room_1.cells) (hsl : slots + 0 ≤ room_1.slots) (Ar_o4 : Arr Z h0 o4 cl_o4 .byte) (hinh : ¬ ((0 : Int32) < 0 ∨ cl_o4.slots.size ≤ ((0 : Int32)).toNatClampNeg)) (hath : cl_o4.slots[((0 : Int32)).toNatClampNeg]? = some (.int wh)) (hc122 : (own_f2 o4 (0 : Int32) i5 i6 wh cl_o4) = (0 : Int32)) :
    ∃ (T' : State) (locs' : List Loc), Stand p l e room_1 s m args below meth c T' locs' cells slots ∧ Fr n0 locs' ∧ T'.heap = h0 ∧
      ∀ target, Steps p.tables e below (T'.setTop (mkF m 128 #[s0, s1, s2, s3, .val (.ref o4), .val (.int i5), .val (.int i6), .val (.int i7)] [])) target → Steps p.tables e below (T0.setTop (mkF m 112 #[s0, s1, s2, s3, .val (.ref o4), .val (.int i5), .val (.int i6), .val (.int i7)] [])) target := by
  obtain ⟨_, _, ⟨T5, L5, k5, n5⟩, -, X5, ⟨Lc5, hQ5, l5, y5, z5⟩, st5⟩ := Jvm.LawKit.callS X0 hx (y := (⟨"com/example/loop1/loop1/http/HttpSyntaxLineFeedPinLaw", "hit", "([BIII)Z"⟩ : MethodName)) hown (mvT hZ (hw _ (List.mem_of_getElem? (i := 6) rfl))) (mvT hZ (hw _ (List.mem_of_getElem? (i := 7) rfl))) (mvT hZ (hw _ (List.mem_of_getElem? (i := 3) rfl))) (mvT hZ (hw _ (List.mem_of_getElem? (i := 8) rfl))) (by decide) (backOf (W := 0) (rm2 l Z a0 hw [] o4 (0 : Int32) i5 i6 wh cl_o4 h0 n0 Z0 Ar_o4 hinh hath) hZ (hw _ (List.mem_of_getElem? (i := 8) rfl)) (hw _ (List.mem_of_getElem? (i := 3) rfl)) (by decide) (by decide)) (g := (mkF m 119 #[s0, s1, s2, s3, .val (.ref o4), .val (.int i5), .val (.int i6), .val (.int i7)] [(.int i6), (.int i5), (.int (0 : Int32)), (.ref o4)])) rfl (by rw [hml]; rfl) (argsL := [(.ref o4), (.int (0 : Int32)), (.int i5), (.int i6)]) (rest := []) (lenOf pd_0_1 rfl) rfl (by show 2 * 0 + _ ≤ _; exact Nat.le_of_eq rfl) (hb hby at_119) (fun _ _ => ⟨rfl, e0, hcl, hsl⟩)
  dsimp only [Pt.U, Pt.locs, Pt.cells, Pt.slots] at X5 l5 y5 z5 st5 hQ5
  subst l5 y5 z5
  obtain ⟨rfl, N5q, e5q0⟩ := hQ5
  have e5q : T5.heap = h0 := e5q0
  have N5 := Fr.app N0 N5q
  refine ⟨T5, _, X5, N5, e5q, fun target kt => ?_⟩
  show Steps p.tables e below (T0.setTop (mkF m 112 #[s0, s1, s2, s3, .val (.ref o4), .val (.int i5), .val (.int i6), .val (.int i7)] [])) _
  refine XS.aload X0.here hx rfl (hb hby at_112) rfl rfl ?_
  show Steps p.tables e below (T0.setTop (mkF m 114 #[s0, s1, s2, s3, .val (.ref o4), .val (.int i5), .val (.int i6), .val (.int i7)] [(.ref o4)])) _
  refine XS.iconst X0.here hx rfl (hb hby at_114) ?_
  show Steps p.tables e below (T0.setTop (mkF m 115 #[s0, s1, s2, s3, .val (.ref o4), .val (.int i5), .val (.int i6), .val (.int i7)] [(.int (0 : Int32)), (.ref o4)])) _
  refine XS.iload X0.here hx rfl (hb hby at_115) rfl ?_
  show Steps p.tables e below (T0.setTop (mkF m 117 #[s0, s1, s2, s3, .val (.ref o4), .val (.int i5), .val (.int i6), .val (.int i7)] [(.int i5), (.int (0 : Int32)), (.ref o4)])) _
  refine XS.iload X0.here hx rfl (hb hby at_117) rfl ?_
  show Steps p.tables e below (T0.setTop (mkF m 119 #[s0, s1, s2, s3, .val (.ref o4), .val (.int i5), .val (.int i6), .val (.int i7)] [(.int i6), (.int i5), (.int (0 : Int32)), (.ref o4)])) _
  refine st5 _ ?_
  show Steps p.tables e below (T5.setTop (mkF m 122 #[s0, s1, s2, s3, .val (.ref o4), .val (.int i5), .val (.int i6), .val (.int i7)] [(.int (own_f2 o4 (0 : Int32) i5 i6 wh cl_o4))])) _
  refine XS.ifYes X5.here hx rfl (pc0 := 122) (pc' := 128) rfl (hb hby at_122) rfl ((if0 _ _).trans (teq hc122).1) (by decide) (by decide) ?_
  exact kt
set_option maxRecDepth 65536 in
set_option maxHeartbeats 40000000 in
theorem tn0_112_128_f {p : Program} {l : Launch} {e : Env} {s : State} {m : MethodId} {args : Array Value} {below : List Frame} {meth : Method} {c : Code} {T0 : State} {locs : List Loc} {cells slots : Nat} {Z : State} {a0 : Array Value} {h0 : Heap} (n0 : Nat) (s0 : Slot) (s1 : Slot) (s2 : Slot) (s3 : Slot) (o4 : Addr) (i5 : Int32) (i6 : Int32) (i7 : Int32) (wh : Int32) (cl_o4 : Cell)
    (X0 : Stand p l e room_1 s m args below meth c T0 locs cells slots) (hx : p.tables.exec = Jvm.exec) (hZ : Z.Warmed39 s.vm) (hw : ∀ d ∈ tables_1, d.before a0 Z = true) (hby : c.code = code) (hml : c.maxLocals = 8) (hown : s.vm.findClass "com/example/loop1/loop1/http/HttpSyntaxLineFeedPinLaw" = some m.cls) (e0 : T0.heap = h0) (N0 : Fr n0 locs) (Z0 : n0 ≤ h0.size) (hcl : cells + 0 ≤ room_1.cells) (hsl : slots + 0 ≤ room_1.slots) (Ar_o4 : Arr Z h0 o4 cl_o4 .byte) (hinh : ¬ ((0 : Int32) < 0 ∨ cl_o4.slots.size ≤ ((0 : Int32)).toNatClampNeg)) (hath : cl_o4.slots[((0 : Int32)).toNatClampNeg]? = some (.int wh)) (hc122 : ¬ ((own_f2 o4 (0 : Int32) i5 i6 wh cl_o4) = (0 : Int32))) :
    ∃ (T' : State) (locs' : List Loc), Stand p l e room_1 s m args below meth c T' locs' cells slots ∧ Fr n0 locs' ∧ T'.heap = h0 ∧
      ∀ target, Steps p.tables e below (T'.setTop (mkF m 128 #[s0, s1, s2, s3, .val (.ref o4), .val (.int i5), .val (.int i6), .val (.int (0 : Int32))] [])) target → Steps p.tables e below (T0.setTop (mkF m 112 #[s0, s1, s2, s3, .val (.ref o4), .val (.int i5), .val (.int i6), .val (.int i7)] [])) target := by
  obtain ⟨_, _, ⟨T5, L5, k5, n5⟩, -, X5, ⟨Lc5, hQ5, l5, y5, z5⟩, st5⟩ := Jvm.LawKit.callS X0 hx (y := (⟨"com/example/loop1/loop1/http/HttpSyntaxLineFeedPinLaw", "hit", "([BIII)Z"⟩ : MethodName)) hown (mvT hZ (hw _ (List.mem_of_getElem? (i := 6) rfl))) (mvT hZ (hw _ (List.mem_of_getElem? (i := 7) rfl))) (mvT hZ (hw _ (List.mem_of_getElem? (i := 3) rfl))) (mvT hZ (hw _ (List.mem_of_getElem? (i := 8) rfl))) (by decide) (backOf (W := 0) (rm2 l Z a0 hw [] o4 (0 : Int32) i5 i6 wh cl_o4 h0 n0 Z0 Ar_o4 hinh hath) hZ (hw _ (List.mem_of_getElem? (i := 8) rfl)) (hw _ (List.mem_of_getElem? (i := 3) rfl)) (by decide) (by decide)) (g := (mkF m 119 #[s0, s1, s2, s3, .val (.ref o4), .val (.int i5), .val (.int i6), .val (.int i7)] [(.int i6), (.int i5), (.int (0 : Int32)), (.ref o4)])) rfl (by rw [hml]; rfl) (argsL := [(.ref o4), (.int (0 : Int32)), (.int i5), (.int i6)]) (rest := []) (lenOf pd_0_1 rfl) rfl (by show 2 * 0 + _ ≤ _; exact Nat.le_of_eq rfl) (hb hby at_119) (fun _ _ => ⟨rfl, e0, hcl, hsl⟩)
  dsimp only [Pt.U, Pt.locs, Pt.cells, Pt.slots] at X5 l5 y5 z5 st5 hQ5
  subst l5 y5 z5
  obtain ⟨rfl, N5q, e5q0⟩ := hQ5
  have e5q : T5.heap = h0 := e5q0
  have N5 := Fr.app N0 N5q
  refine ⟨T5, _, X5, N5, e5q, fun target kt => ?_⟩
  show Steps p.tables e below (T0.setTop (mkF m 112 #[s0, s1, s2, s3, .val (.ref o4), .val (.int i5), .val (.int i6), .val (.int i7)] [])) _
  refine XS.aload X0.here hx rfl (hb hby at_112) rfl rfl ?_
  show Steps p.tables e below (T0.setTop (mkF m 114 #[s0, s1, s2, s3, .val (.ref o4), .val (.int i5), .val (.int i6), .val (.int i7)] [(.ref o4)])) _
  refine XS.iconst X0.here hx rfl (hb hby at_114) ?_
  show Steps p.tables e below (T0.setTop (mkF m 115 #[s0, s1, s2, s3, .val (.ref o4), .val (.int i5), .val (.int i6), .val (.int i7)] [(.int (0 : Int32)), (.ref o4)])) _
  refine XS.iload X0.here hx rfl (hb hby at_115) rfl ?_
  show Steps p.tables e below (T0.setTop (mkF m 117 #[s0, s1, s2, s3, .val (.ref o4), .val (.int i5), .val (.int i6), .val (.int i7)] [(.int i5), (.int (0 : Int32)), (.ref o4)])) _
  refine XS.iload X0.here hx rfl (hb hby at_117) rfl ?_
  show Steps p.tables e below (T0.setTop (mkF m 119 #[s0, s1, s2, s3, .val (.ref o4), .val (.int i5), .val (.int i6), .val (.int i7)] [(.int i6), (.int i5), (.int (0 : Int32)), (.ref o4)])) _
  refine st5 _ ?_
  show Steps p.tables e below (T5.setTop (mkF m 122 #[s0, s1, s2, s3, .val (.ref o4), .val (.int i5), .val (.int i6), .val (.int i7)] [(.int (own_f2 o4 (0 : Int32) i5 i6 wh cl_o4))])) _
  refine XS.ifNo X5.here hx rfl (hb hby at_122) rfl ((if0 _ _).trans (feq hc122).1) ?_
  show Steps p.tables e below (T5.setTop (mkF m 125 #[s0, s1, s2, s3, .val (.ref o4), .val (.int i5), .val (.int i6), .val (.int i7)] [])) _
  refine XS.iconst X5.here hx rfl (hb hby at_125) ?_
  show Steps p.tables e below (T5.setTop (mkF m 126 #[s0, s1, s2, s3, .val (.ref o4), .val (.int i5), .val (.int i6), .val (.int i7)] [(.int (0 : Int32))])) _
  refine XS.istore X5.here hx rfl (hb hby at_126) rfl (l' := #[s0, s1, s2, s3, .val (.ref o4), .val (.int i5), .val (.int i6), .val (.int (0 : Int32))]) rfl ?_
  exact kt
def own_s0_112_7 (o4 : Addr) (i5 : Int32) (i6 : Int32) (i7 : Int32) (wh : Int32) (cl_o4 : Cell) : Int32 := (if (own_f2 o4 (0 : Int32) i5 i6 wh cl_o4) = (0 : Int32) then i7 else (0 : Int32))
set_option maxRecDepth 65536 in
theorem seg0_112_128 {p : Program} {l : Launch} {e : Env} {s : State} {m : MethodId} {args : Array Value} {below : List Frame} {meth : Method} {c : Code} {T0 : State} {locs : List Loc} {cells slots : Nat} {Z : State} {a0 : Array Value} {h0 : Heap} (n0 : Nat) (s0 : Slot) (s1 : Slot) (s2 : Slot) (s3 : Slot) (o4 : Addr) (i5 : Int32) (i6 : Int32) (i7 : Int32) (wh : Int32) (cl_o4 : Cell)
    (X0 : Stand p l e room_1 s m args below meth c T0 locs cells slots) (hx : p.tables.exec = Jvm.exec) (hZ : Z.Warmed39 s.vm) (hw : ∀ d ∈ tables_1, d.before a0 Z = true) (hby : c.code = code) (hml : c.maxLocals = 8) (hown : s.vm.findClass "com/example/loop1/loop1/http/HttpSyntaxLineFeedPinLaw" = some m.cls) (e0 : T0.heap = h0) (N0 : Fr n0 locs) (Z0 : n0 ≤ h0.size) (hcl : cells + 0 ≤ room_1.cells) (hsl : slots + 0 ≤ room_1.slots) (Ar_o4 : Arr Z h0 o4 cl_o4 .byte) (hinh : ¬ ((0 : Int32) < 0 ∨ cl_o4.slots.size ≤ ((0 : Int32)).toNatClampNeg)) (hath : cl_o4.slots[((0 : Int32)).toNatClampNeg]? = some (.int wh)) :
    ∃ (T' : State) (locs' : List Loc), Stand p l e room_1 s m args below meth c T' locs' cells slots ∧ Fr n0 locs' ∧ T'.heap = h0 ∧
      ∀ target, Steps p.tables e below (T'.setTop (mkF m 128 #[s0, s1, s2, s3, .val (.ref o4), .val (.int i5), .val (.int i6), .val (.int (own_s0_112_7 o4 i5 i6 i7 wh cl_o4))] [])) target → Steps p.tables e below (T0.setTop (mkF m 112 #[s0, s1, s2, s3, .val (.ref o4), .val (.int i5), .val (.int i6), .val (.int i7)] [])) target := by
  by_cases hc122 : (own_f2 o4 (0 : Int32) i5 i6 wh cl_o4) = (0 : Int32)
  · simp only [own_s0_112_7, if_pos hc122]
    exact tn0_112_128_t n0 (s0) (s1) (s2) (s3) o4 i5 i6 i7 wh cl_o4 X0 hx hZ hw hby hml hown e0 N0 Z0 hcl hsl Ar_o4 hinh hath hc122
  · simp only [own_s0_112_7, if_neg hc122]
    exact tn0_112_128_f n0 (s0) (s1) (s2) (s3) o4 i5 i6 i7 wh cl_o4 X0 hx hZ hw hby hml hown e0 N0 Z0 hcl hsl Ar_o4 hinh hath hc122
/-- the j-th byte that the law writes -/
def own_v (p q j : Int32) : Int32 := (own_f1 p q j).toInt8.toInt32
def own_at (v0 v1 v2 v3 : Int32) (j : Int32) : Int32 := if j = 0 then v0 else if j = 1 then v1 else if j = 2 then v2 else v3
theorem own_5 (z : Int32) (h1 : 0 ≤ z.toInt) (h2 : z.toInt ≤ 4) : z = 0 ∨ z = 1 ∨ z = 2 ∨ z = 3 ∨ z = 4 := by
  simp only [← Int32.toInt_inj]
  change z.toInt = 0 ∨ z.toInt = 1 ∨ z.toInt = 2 ∨ z.toInt = 3 ∨ z.toInt = 4
  omega
theorem own_mod (x y : Int32) : x - (x / y) * y = x % y := by
  apply Int32.toInt_inj.mp
  have h1 := Int32.le_toInt (x % y)
  have h2 := Int32.toInt_lt (x % y)
  rw [Int32.toInt_sub, Int32.toInt_mul, Int32.toInt_div, Int.bmod_mul_bmod, Int.sub_bmod_bmod, Int.mul_comm (x.toInt.tdiv y.toInt), ← Int.tmod_def, ← Int32.toInt_mod]
  exact Int.bmod_eq_of_le_mul_two (by omega) (by omega)
theorem own_r5 (x : Int32) : 0 ≤ ((x &&& (2147483647 : Int32)) - ((x &&& (2147483647 : Int32)) / (5 : Int32)) * (5 : Int32)).toInt ∧ ((x &&& (2147483647 : Int32)) - ((x &&& (2147483647 : Int32)) / (5 : Int32)) * (5 : Int32)).toInt ≤ 4 := by
  have a := c_mask x 2147483647 31 (by decide) (by decide)
  rw [show ((2 ^ 31 : Nat) : Int) = 2147483648 from rfl] at a
  have b := (c_irem (x &&& (2147483647 : Int32)) 5 5 rfl).1 (by omega)
  rw [own_mod, b]; omega
theorem own_eq (a : Addr) (c : Cell) (fr en v0 v1 v2 v3 : Int32) (hf : 0 ≤ fr.toInt ∧ fr.toInt ≤ 4) (he : 0 ≤ en.toInt ∧ en.toInt ≤ 4) :
    own_f3 a fr en (own_at v0 v1 v2 v3) c = own_s0_112_7 a fr en (own_s0_96_7 a fr en (own_s0_80_7 a fr en (own_s0_64_7 a fr en (-1 : Int32) v3 c) v2 c) v1 c) v0 c := by

  unfold own_s0_112_7 own_s0_96_7 own_s0_80_7 own_s0_64_7 own_f3 own_f2
  rcases own_5 fr hf.1 hf.2 with rfl | rfl | rfl | rfl | rfl <;> rcases own_5 en he.1 he.2 with rfl | rfl | rfl | rfl | rfl <;>
    simp +decide only [own_scan, own_at, if_true, if_false, ite_true, ite_false] <;> (repeat' split) <;> simp_all +decide
theorem pn_0 : plainName "com/example/loop1/loop1/http/HttpSyntaxLineFeedPinLaw" = true := by first | (simp [plainName, overriddenIn]; done) | decide +kernel
theorem pd_0_0 : parseMethodDescriptor "(III)B" = some ⟨[.int, .int, .int], some .byte⟩ := by decide +kernel
theorem pd_0_2 : parseMethodDescriptor "([BII)I" = some ⟨[(.array .byte), .int, .int], some .int⟩ := by decide +kernel
theorem ef_0 (m : MethodId) (x0 : Int32) (x1 : Int32) (x2 : Int32) (x3 : Int32) : entryFrame m #[(.int x0), (.int x1), (.int x2), (.int x3)] maxLocals = mkF m 0 #[.val (.int x0), .val (.int x1), .val (.int x2), .val (.int x3), .unset, .unset, .unset, .unset] [] := by first | (simp [entryFrame, mkF, argsToLocals, Value.category, maxLocals]; done) | rfl
def Q0 (Z : State) (p1 : Int32) (p2 : Int32) (p3 : Int32) (p4 : Int32) (h0 : Heap) (n0 : Nat) (v : Option Value) (h : Heap) (L : List Loc) : Prop := v = some (.int (1 : Int32)) ∧ Fr n0 L
set_option maxRecDepth 65536 in
set_option maxHeartbeats 40000000 in
theorem rm0_f (l : Launch) (Z : State) (a0 : Array Value) (hw : ∀ d ∈ tables_1, d.before a0 Z = true) (ws : List Jvm.Cond) (p1 : Int32) (p2 : Int32) (p3 : Int32) (p4 : Int32) (h0 : Heap) (n0 : Nat) (Z0 : n0 ≤ h0.size) :
    MetFree l x (head1 (Jvm.Cond.code x code maxLocals ret :: ws) room_1) (fun a U => a = #[(.int p1), (.int p2), (.int p3), (.int p4)] ∧ Z.Warmed39 U.vm ∧ U.heap = h0) (fun _ _ _ _ _ => True) (fun _ U o U' => ∃ v L, o = .returned v ∧ Q0 Z p1 p2 p3 p4 h0 n0 v U'.heap L ∧ FrameEnd U o U' L room_1.cells room_1.slots) := by
  refine MetFree.of_bodySF (plainFor_of_name pn_0) hisR ?_
  intro p e s m args below meth c s₁ Bd hml0 hP hK
  obtain ⟨rfl, hZ, hh⟩ := hP
  have hx := Bd.exec
  have hby := Bd.bytes
  have hml : c.maxLocals = 8 := hml0
  have hown : s.vm.findClass "com/example/loop1/loop1/http/HttpSyntaxLineFeedPinLaw" = some m.cls := findClass_of_methodNamed Bd.named
  have hnm := (name_of_methodNamed Bd.named Bd.method).1
  have X0 : Stand p l e room_1 s m #[(.int p1), (.int p2), (.int p3), (.int p4)] below meth c s₁ [] 0 0 := Stand.of_body Bd
  have e0 : s₁.heap = h0 := by rw [← hh, Bd.state]; rfl
  have N0 := Fr.nil n0
  have pre0 : ∀ t, Steps p.tables e below (s₁.setTop (mkF m 0 #[.val (.int p1), .val (.int p2), .val (.int p3), .val (.int p4), .unset, .unset, .unset, .unset] [])) t → Steps p.tables e below (s₁.setTop (entryFrame m #[(.int p1), (.int p2), (.int p3), (.int p4)] maxLocals)) t := fun t k => castTop (ef_0 m p1 p2 p3 p4) k
  obtain ⟨T5, h5, k5, X5, e5, E5, A5, st5⟩ := newP X0 hx hZ (hw _ (List.mem_of_getElem? (i := 0) rfl)) e0 (g := (mkF m 1 #[.val (.int p1), .val (.int p2), .val (.int p3), .val (.int p4), .unset, .unset, .unset, .unset] [(.int (4 : Int32))])) rfl (hb hby at_1) rfl (by decide) (cap := 4) (by decide) (by decide) (by decide) (by decide)
  obtain ⟨b5, g5⟩ : ∃ z, z = h0.size := ⟨_, rfl⟩
  rw [← g5] at A5 st5
  have V_b5 : Arv Z h5 b5 k5 .byte (4 : Int32) [(.int (0 : Int32)), (.int (0 : Int32)), (.int (0 : Int32)), (.int (0 : Int32))] (.int (0 : Int32)) := (Arv.new A5 (by decide)).pad (pad_rep [] (.int (0 : Int32)) 4)
  have g_b5 : n0 ≤ b5 := Nat.le_trans Z0 (Nat.le_of_eq g5.symm)
  have sz_b5 : h0.size ≤ b5 := (Nat.le_trans (Keep.refl h0 []).1 (Nat.le_of_eq g5.symm))
  have K5 : Keep h0 h5 [] := (Keep.refl h0 []).ext E5
  obtain ⟨_, _, ⟨T6, L6, k6, n6⟩, -, X6, ⟨Lc6, hQ6, l6, y6, z6⟩, st6⟩ := Jvm.LawKit.callS X5 hx (y := (⟨"com/example/loop1/loop1/http/HttpSyntaxLineFeedPinLaw", "pick", "(III)B"⟩ : MethodName)) hown (mvT hZ (hw _ (List.mem_of_getElem? (i := 1) rfl))) (mvT hZ (hw _ (List.mem_of_getElem? (i := 2) rfl))) (mvT hZ (hw _ (List.mem_of_getElem? (i := 3) rfl))) (mvT hZ (hw _ (List.mem_of_getElem? (i := 4) rfl))) (by decide) (backOf (W := 2) (rm1 l Z a0 hw [] p1 p2 (0 : Int32)  h5 n0 (Nat.le_trans Z0 E5.1) ) hZ (hw _ (List.mem_of_getElem? (i := 4) rfl)) (hw _ (List.mem_of_getElem? (i := 3) rfl)) (by decide) (by decide)) (g := (mkF m 11 #[.val (.int p1), .val (.int p2), .val (.int p3), .val (.int p4), .val (.ref b5), .unset, .unset, .unset] [(.int (0 : Int32)), (.int p2), (.int p1), (.int (0 : Int32)), (.ref b5)])) rfl (by rw [hml]; rfl) (argsL := [(.int p1), (.int p2), (.int (0 : Int32))]) (rest := [(.int (0 : Int32)), (.ref b5)]) (lenOf pd_0_0 rfl) rfl (by show 2 * 0 + _ ≤ _; exact Nat.le_of_eq rfl) (hb hby at_11) (fun _ _ => ⟨rfl, e5, (by decide : 1 + 0 ≤ _), (by decide : 4 + 0 ≤ _)⟩)
  dsimp only [Pt.U, Pt.locs, Pt.cells, Pt.slots] at X6 l6 y6 z6 st6 hQ6
  subst l6 y6 z6
  obtain ⟨rfl, N6q, e6q0⟩ := hQ6
  have e6q : T6.heap = h5 := e6q0
  have N6 := Fr.app N0 N6q
  obtain ⟨cl_b5_14, Ar_b5, q_b5, S_b5, N_b5, H_b5, G_b5⟩ := V_b5
  have hin14 : ¬ ((0 : Int32) < 0 ∨ cl_b5_14.slots.size ≤ ((0 : Int32)).toNatClampNeg) := inb_of S_b5 ⟨by decide, by decide⟩
  obtain ⟨T7, h7, X7, e7, W7, st7⟩ := stB X6 hx hZ e6q Ar_b5 (j := (0 : Int32)) hin14 (g := (mkF m 14 #[.val (.int p1), .val (.int p2), .val (.int p3), .val (.int p4), .val (.ref b5), .unset, .unset, .unset] [(.int (own_f1 p1 p2 (0 : Int32))), (.int (0 : Int32)), (.ref b5)])) rfl rfl (hb hby at_14)
  have V_b5_7 := Arv.set Ar_b5 q_b5 S_b5 N_b5 H_b5 G_b5 (fits_nar_byte _) W7 0 rfl (Nat.le_of_ble_eq_true rfl)
  have K7 : Keep h0 h7 [] := K5.wr W7 (Or.inr sz_b5)
  have N7 := Fr.snoc X7 N6 g_b5
  obtain ⟨_, _, ⟨T8, L8, k8, n8⟩, -, X8, ⟨Lc8, hQ8, l8, y8, z8⟩, st8⟩ := Jvm.LawKit.callS X7 hx (y := (⟨"com/example/loop1/loop1/http/HttpSyntaxLineFeedPinLaw", "pick", "(III)B"⟩ : MethodName)) hown (mvT hZ (hw _ (List.mem_of_getElem? (i := 1) rfl))) (mvT hZ (hw _ (List.mem_of_getElem? (i := 2) rfl))) (mvT hZ (hw _ (List.mem_of_getElem? (i := 3) rfl))) (mvT hZ (hw _ (List.mem_of_getElem? (i := 4) rfl))) (by decide) (backOf (W := 2) (rm1 l Z a0 hw [] p1 p2 (1 : Int32)  h7 n0 (Nat.le_trans (Nat.le_trans Z0 E5.1) (Keep.of_wr W7).1) ) hZ (hw _ (List.mem_of_getElem? (i := 4) rfl)) (hw _ (List.mem_of_getElem? (i := 3) rfl)) (by decide) (by decide)) (g := (mkF m 21 #[.val (.int p1), .val (.int p2), .val (.int p3), .val (.int p4), .val (.ref b5), .unset, .unset, .unset] [(.int (1 : Int32)), (.int p2), (.int p1), (.int (1 : Int32)), (.ref b5)])) rfl (by rw [hml]; rfl) (argsL := [(.int p1), (.int p2), (.int (1 : Int32))]) (rest := [(.int (1 : Int32)), (.ref b5)]) (lenOf pd_0_0 rfl) rfl (by show 2 * 0 + _ ≤ _; exact Nat.le_of_eq rfl) (hb hby at_21) (fun _ _ => ⟨rfl, e7, (by decide : 1 + 0 ≤ _), (by decide : 4 + 0 ≤ _)⟩)
  dsimp only [Pt.U, Pt.locs, Pt.cells, Pt.slots] at X8 l8 y8 z8 st8 hQ8
  subst l8 y8 z8
  obtain ⟨rfl, N8q, e8q0⟩ := hQ8
  have e8q : T8.heap = h7 := e8q0
  have N8 := Fr.app N7 N8q
  obtain ⟨cl_b5_24, Ar_b5, q_b5, S_b5, N_b5, H_b5, G_b5⟩ := V_b5_7
  have hin24 : ¬ ((1 : Int32) < 0 ∨ cl_b5_24.slots.size ≤ ((1 : Int32)).toNatClampNeg) := inb_of S_b5 ⟨by decide, by decide⟩
  obtain ⟨T9, h9, X9, e9, W9, st9⟩ := stB X8 hx hZ e8q Ar_b5 (j := (1 : Int32)) hin24 (g := (mkF m 24 #[.val (.int p1), .val (.int p2), .val (.int p3), .val (.int p4), .val (.ref b5), .unset, .unset, .unset] [(.int (own_f1 p1 p2 (1 : Int32))), (.int (1 : Int32)), (.ref b5)])) rfl rfl (hb hby at_24)
  have V_b5_9 := Arv.set Ar_b5 q_b5 S_b5 N_b5 H_b5 G_b5 (fits_nar_byte _) W9 1 rfl (Nat.le_of_ble_eq_true rfl)
  have K9 : Keep h0 h9 [] := K7.wr W9 (Or.inr sz_b5)
  have N9 := Fr.snoc X9 N8 g_b5
  obtain ⟨_, _, ⟨T10, L10, k10, n10⟩, -, X10, ⟨Lc10, hQ10, l10, y10, z10⟩, st10⟩ := Jvm.LawKit.callS X9 hx (y := (⟨"com/example/loop1/loop1/http/HttpSyntaxLineFeedPinLaw", "pick", "(III)B"⟩ : MethodName)) hown (mvT hZ (hw _ (List.mem_of_getElem? (i := 1) rfl))) (mvT hZ (hw _ (List.mem_of_getElem? (i := 2) rfl))) (mvT hZ (hw _ (List.mem_of_getElem? (i := 3) rfl))) (mvT hZ (hw _ (List.mem_of_getElem? (i := 4) rfl))) (by decide) (backOf (W := 2) (rm1 l Z a0 hw [] p1 p2 (2 : Int32)  h9 n0 (Nat.le_trans (Nat.le_trans (Nat.le_trans Z0 E5.1) (Keep.of_wr W7).1) (Keep.of_wr W9).1) ) hZ (hw _ (List.mem_of_getElem? (i := 4) rfl)) (hw _ (List.mem_of_getElem? (i := 3) rfl)) (by decide) (by decide)) (g := (mkF m 31 #[.val (.int p1), .val (.int p2), .val (.int p3), .val (.int p4), .val (.ref b5), .unset, .unset, .unset] [(.int (2 : Int32)), (.int p2), (.int p1), (.int (2 : Int32)), (.ref b5)])) rfl (by rw [hml]; rfl) (argsL := [(.int p1), (.int p2), (.int (2 : Int32))]) (rest := [(.int (2 : Int32)), (.ref b5)]) (lenOf pd_0_0 rfl) rfl (by show 2 * 0 + _ ≤ _; exact Nat.le_of_eq rfl) (hb hby at_31) (fun _ _ => ⟨rfl, e9, (by decide : 1 + 0 ≤ _), (by decide : 4 + 0 ≤ _)⟩)
  dsimp only [Pt.U, Pt.locs, Pt.cells, Pt.slots] at X10 l10 y10 z10 st10 hQ10
  subst l10 y10 z10
  obtain ⟨rfl, N10q, e10q0⟩ := hQ10
  have e10q : T10.heap = h9 := e10q0
  have N10 := Fr.app N9 N10q
  obtain ⟨cl_b5_34, Ar_b5, q_b5, S_b5, N_b5, H_b5, G_b5⟩ := V_b5_9
  have hin34 : ¬ ((2 : Int32) < 0 ∨ cl_b5_34.slots.size ≤ ((2 : Int32)).toNatClampNeg) := inb_of S_b5 ⟨by decide, by decide⟩
  obtain ⟨T11, h11, X11, e11, W11, st11⟩ := stB X10 hx hZ e10q Ar_b5 (j := (2 : Int32)) hin34 (g := (mkF m 34 #[.val (.int p1), .val (.int p2), .val (.int p3), .val (.int p4), .val (.ref b5), .unset, .unset, .unset] [(.int (own_f1 p1 p2 (2 : Int32))), (.int (2 : Int32)), (.ref b5)])) rfl rfl (hb hby at_34)
  have V_b5_11 := Arv.set Ar_b5 q_b5 S_b5 N_b5 H_b5 G_b5 (fits_nar_byte _) W11 2 rfl (Nat.le_of_ble_eq_true rfl)
  have K11 : Keep h0 h11 [] := K9.wr W11 (Or.inr sz_b5)
  have N11 := Fr.snoc X11 N10 g_b5
  obtain ⟨_, _, ⟨T12, L12, k12, n12⟩, -, X12, ⟨Lc12, hQ12, l12, y12, z12⟩, st12⟩ := Jvm.LawKit.callS X11 hx (y := (⟨"com/example/loop1/loop1/http/HttpSyntaxLineFeedPinLaw", "pick", "(III)B"⟩ : MethodName)) hown (mvT hZ (hw _ (List.mem_of_getElem? (i := 1) rfl))) (mvT hZ (hw _ (List.mem_of_getElem? (i := 2) rfl))) (mvT hZ (hw _ (List.mem_of_getElem? (i := 3) rfl))) (mvT hZ (hw _ (List.mem_of_getElem? (i := 4) rfl))) (by decide) (backOf (W := 2) (rm1 l Z a0 hw [] p1 p2 (3 : Int32)  h11 n0 (Nat.le_trans (Nat.le_trans (Nat.le_trans (Nat.le_trans Z0 E5.1) (Keep.of_wr W7).1) (Keep.of_wr W9).1) (Keep.of_wr W11).1) ) hZ (hw _ (List.mem_of_getElem? (i := 4) rfl)) (hw _ (List.mem_of_getElem? (i := 3) rfl)) (by decide) (by decide)) (g := (mkF m 41 #[.val (.int p1), .val (.int p2), .val (.int p3), .val (.int p4), .val (.ref b5), .unset, .unset, .unset] [(.int (3 : Int32)), (.int p2), (.int p1), (.int (3 : Int32)), (.ref b5)])) rfl (by rw [hml]; rfl) (argsL := [(.int p1), (.int p2), (.int (3 : Int32))]) (rest := [(.int (3 : Int32)), (.ref b5)]) (lenOf pd_0_0 rfl) rfl (by show 2 * 0 + _ ≤ _; exact Nat.le_of_eq rfl) (hb hby at_41) (fun _ _ => ⟨rfl, e11, (by decide : 1 + 0 ≤ _), (by decide : 4 + 0 ≤ _)⟩)
  dsimp only [Pt.U, Pt.locs, Pt.cells, Pt.slots] at X12 l12 y12 z12 st12 hQ12
  subst l12 y12 z12
  obtain ⟨rfl, N12q, e12q0⟩ := hQ12
  have e12q : T12.heap = h11 := e12q0
  have N12 := Fr.app N11 N12q
  obtain ⟨cl_b5_44, Ar_b5, q_b5, S_b5, N_b5, H_b5, G_b5⟩ := V_b5_11
  have hin44 : ¬ ((3 : Int32) < 0 ∨ cl_b5_44.slots.size ≤ ((3 : Int32)).toNatClampNeg) := inb_of S_b5 ⟨by decide, by decide⟩
  obtain ⟨T13, h13, X13, e13, W13, st13⟩ := stB X12 hx hZ e12q Ar_b5 (j := (3 : Int32)) hin44 (g := (mkF m 44 #[.val (.int p1), .val (.int p2), .val (.int p3), .val (.int p4), .val (.ref b5), .unset, .unset, .unset] [(.int (own_f1 p1 p2 (3 : Int32))), (.int (3 : Int32)), (.ref b5)])) rfl rfl (hb hby at_44)
  have V_b5_13 := Arv.set Ar_b5 q_b5 S_b5 N_b5 H_b5 G_b5 (fits_nar_byte _) W13 3 rfl (Nat.le_of_ble_eq_true rfl)
  have K13 : Keep h0 h13 [] := K11.wr W13 (Or.inr sz_b5)
  have N13 := Fr.snoc X13 N12 g_b5
  obtain ⟨clw, Arw, -, Sw, -, Hw, -⟩ := V_b5_13
  have Sw4 : clw.slots.size = 4 := Sw
  have hatw : ∀ j : Int32, 0 ≤ j.toInt → j.toInt < 4 → clw.slots[j.toNatClampNeg]? = some (.int (own_at (own_v p1 p2 0) (own_v p1 p2 1) (own_v p1 p2 2) (own_v p1 p2 3) j)) := by
    intro j h1 h2
    rcases own_5 j h1 (by omega) with rfl | rfl | rfl | rfl | rfl
    · exact Hw 0 (by rw [Sw4]; decide)
    · exact Hw 1 (by rw [Sw4]; decide)
    · exact Hw 2 (by rw [Sw4]; decide)
    · exact Hw 3 (by rw [Sw4]; decide)
    · exact absurd h2 (by decide)
  obtain ⟨T14, Lz14, X14, N14, e14, st14⟩ := seg0_64_80 n0 (.val (.int p1)) (.val (.int p2)) (.val (.int p3)) (.val (.int p4)) b5 ((p3 &&& (2147483647 : Int32)) - ((p3 &&& (2147483647 : Int32)) / (5 : Int32)) * (5 : Int32)) ((p4 &&& (2147483647 : Int32)) - ((p4 &&& (2147483647 : Int32)) / (5 : Int32)) * (5 : Int32)) (-1 : Int32) (own_v p1 p2 3) clw X13 hx hZ hw hby hml hown e13 N13 (Nat.le_trans (Nat.le_trans (Nat.le_trans (Nat.le_trans (Nat.le_trans Z0 E5.1) (Keep.of_wr W7).1) (Keep.of_wr W9).1) (Keep.of_wr W11).1) (Keep.of_wr W13).1) (by decide) (by decide) Arw (own_inb Sw4 (by decide) (by decide)) (hatw 3 (by decide) (by decide))
  obtain ⟨T15, Lz15, X15, N15, e15, st15⟩ := seg0_80_96 n0 (.val (.int p1)) (.val (.int p2)) (.val (.int p3)) (.val (.int p4)) b5 ((p3 &&& (2147483647 : Int32)) - ((p3 &&& (2147483647 : Int32)) / (5 : Int32)) * (5 : Int32)) ((p4 &&& (2147483647 : Int32)) - ((p4 &&& (2147483647 : Int32)) / (5 : Int32)) * (5 : Int32)) (own_s0_64_7 b5 ((p3 &&& (2147483647 : Int32)) - ((p3 &&& (2147483647 : Int32)) / (5 : Int32)) * (5 : Int32)) ((p4 &&& (2147483647 : Int32)) - ((p4 &&& (2147483647 : Int32)) / (5 : Int32)) * (5 : Int32)) (-1 : Int32) (own_v p1 p2 3) clw) (own_v p1 p2 2) clw X14 hx hZ hw hby hml hown e14 N14 (Nat.le_trans (Nat.le_trans (Nat.le_trans (Nat.le_trans (Nat.le_trans Z0 E5.1) (Keep.of_wr W7).1) (Keep.of_wr W9).1) (Keep.of_wr W11).1) (Keep.of_wr W13).1) (by decide) (by decide) Arw (own_inb Sw4 (by decide) (by decide)) (hatw 2 (by decide) (by decide))
  obtain ⟨T16, Lz16, X16, N16, e16, st16⟩ := seg0_96_112 n0 (.val (.int p1)) (.val (.int p2)) (.val (.int p3)) (.val (.int p4)) b5 ((p3 &&& (2147483647 : Int32)) - ((p3 &&& (2147483647 : Int32)) / (5 : Int32)) * (5 : Int32)) ((p4 &&& (2147483647 : Int32)) - ((p4 &&& (2147483647 : Int32)) / (5 : Int32)) * (5 : Int32)) (own_s0_80_7 b5 ((p3 &&& (2147483647 : Int32)) - ((p3 &&& (2147483647 : Int32)) / (5 : Int32)) * (5 : Int32)) ((p4 &&& (2147483647 : Int32)) - ((p4 &&& (2147483647 : Int32)) / (5 : Int32)) * (5 : Int32)) (own_s0_64_7 b5 ((p3 &&& (2147483647 : Int32)) - ((p3 &&& (2147483647 : Int32)) / (5 : Int32)) * (5 : Int32)) ((p4 &&& (2147483647 : Int32)) - ((p4 &&& (2147483647 : Int32)) / (5 : Int32)) * (5 : Int32)) (-1 : Int32) (own_v p1 p2 3) clw) (own_v p1 p2 2) clw) (own_v p1 p2 1) clw X15 hx hZ hw hby hml hown e15 N15 (Nat.le_trans (Nat.le_trans (Nat.le_trans (Nat.le_trans (Nat.le_trans Z0 E5.1) (Keep.of_wr W7).1) (Keep.of_wr W9).1) (Keep.of_wr W11).1) (Keep.of_wr W13).1) (by decide) (by decide) Arw (own_inb Sw4 (by decide) (by decide)) (hatw 1 (by decide) (by decide))
  obtain ⟨T17, Lz17, X17, N17, e17, st17⟩ := seg0_112_128 n0 (.val (.int p1)) (.val (.int p2)) (.val (.int p3)) (.val (.int p4)) b5 ((p3 &&& (2147483647 : Int32)) - ((p3 &&& (2147483647 : Int32)) / (5 : Int32)) * (5 : Int32)) ((p4 &&& (2147483647 : Int32)) - ((p4 &&& (2147483647 : Int32)) / (5 : Int32)) * (5 : Int32)) (own_s0_96_7 b5 ((p3 &&& (2147483647 : Int32)) - ((p3 &&& (2147483647 : Int32)) / (5 : Int32)) * (5 : Int32)) ((p4 &&& (2147483647 : Int32)) - ((p4 &&& (2147483647 : Int32)) / (5 : Int32)) * (5 : Int32)) (own_s0_80_7 b5 ((p3 &&& (2147483647 : Int32)) - ((p3 &&& (2147483647 : Int32)) / (5 : Int32)) * (5 : Int32)) ((p4 &&& (2147483647 : Int32)) - ((p4 &&& (2147483647 : Int32)) / (5 : Int32)) * (5 : Int32)) (own_s0_64_7 b5 ((p3 &&& (2147483647 : Int32)) - ((p3 &&& (2147483647 : Int32)) / (5 : Int32)) * (5 : Int32)) ((p4 &&& (2147483647 : Int32)) - ((p4 &&& (2147483647 : Int32)) / (5 : Int32)) * (5 : Int32)) (-1 : Int32) (own_v p1 p2 3) clw) (own_v p1 p2 2) clw) (own_v p1 p2 1) clw) (own_v p1 p2 0) clw X16 hx hZ hw hby hml hown e16 N16 (Nat.le_trans (Nat.le_trans (Nat.le_trans (Nat.le_trans (Nat.le_trans Z0 E5.1) (Keep.of_wr W7).1) (Keep.of_wr W9).1) (Keep.of_wr W11).1) (Keep.of_wr W13).1) (by decide) (by decide) Arw (own_inb Sw4 (by decide) (by decide)) (hatw 0 (by decide) (by decide))
  obtain ⟨_, _, ⟨T18, L18, k18, n18⟩, -, X18, ⟨Lc18, hQ18, l18, y18, z18⟩, st18⟩ := Jvm.LawKit.callS X17 hx (y := (⟨"com/example/loop1/loop1/http/HttpSyntax", "lineFeed", "([BII)I"⟩ : MethodName)) hown (mvT hZ (hw _ (List.mem_of_getElem? (i := 9) rfl))) (mvT hZ (hw _ (List.mem_of_getElem? (i := 10) rfl))) (mvT hZ (hw _ (List.mem_of_getElem? (i := 11) rfl))) (mvT hZ (hw _ (List.mem_of_getElem? (i := 12) rfl))) (by decide) (backOf (W := 0) (rm3 l Z a0 hw [] b5 ((p3 &&& (2147483647 : Int32)) - ((p3 &&& (2147483647 : Int32)) / (5 : Int32)) * (5 : Int32)) ((p4 &&& (2147483647 : Int32)) - ((p4 &&& (2147483647 : Int32)) / (5 : Int32)) * (5 : Int32)) (own_at (own_v p1 p2 0) (own_v p1 p2 1) (own_v p1 p2 2) (own_v p1 p2 3)) clw h13 n0 (Nat.le_trans (Nat.le_trans (Nat.le_trans (Nat.le_trans (Nat.le_trans Z0 E5.1) (Keep.of_wr W7).1) (Keep.of_wr W9).1) (Keep.of_wr W11).1) (Keep.of_wr W13).1) Arw Sw4 hatw (own_r5 _).2 (own_r5 _).1) hZ (hw _ (List.mem_of_getElem? (i := 12) rfl)) (hw _ (List.mem_of_getElem? (i := 11) rfl)) (by decide) (by decide)) (g := (mkF m 134 #[.val (.int p1), .val (.int p2), .val (.int p3), .val (.int p4), .val (.ref b5), .val (.int ((p3 &&& (2147483647 : Int32)) - ((p3 &&& (2147483647 : Int32)) / (5 : Int32)) * (5 : Int32))), .val (.int ((p4 &&& (2147483647 : Int32)) - ((p4 &&& (2147483647 : Int32)) / (5 : Int32)) * (5 : Int32))), .val (.int (own_s0_112_7 b5 ((p3 &&& (2147483647 : Int32)) - ((p3 &&& (2147483647 : Int32)) / (5 : Int32)) * (5 : Int32)) ((p4 &&& (2147483647 : Int32)) - ((p4 &&& (2147483647 : Int32)) / (5 : Int32)) * (5 : Int32)) (own_s0_96_7 b5 ((p3 &&& (2147483647 : Int32)) - ((p3 &&& (2147483647 : Int32)) / (5 : Int32)) * (5 : Int32)) ((p4 &&& (2147483647 : Int32)) - ((p4 &&& (2147483647 : Int32)) / (5 : Int32)) * (5 : Int32)) (own_s0_80_7 b5 ((p3 &&& (2147483647 : Int32)) - ((p3 &&& (2147483647 : Int32)) / (5 : Int32)) * (5 : Int32)) ((p4 &&& (2147483647 : Int32)) - ((p4 &&& (2147483647 : Int32)) / (5 : Int32)) * (5 : Int32)) (own_s0_64_7 b5 ((p3 &&& (2147483647 : Int32)) - ((p3 &&& (2147483647 : Int32)) / (5 : Int32)) * (5 : Int32)) ((p4 &&& (2147483647 : Int32)) - ((p4 &&& (2147483647 : Int32)) / (5 : Int32)) * (5 : Int32)) (-1 : Int32) (own_v p1 p2 3) clw) (own_v p1 p2 2) clw) (own_v p1 p2 1) clw) (own_v p1 p2 0) clw))] [(.int ((p4 &&& (2147483647 : Int32)) - ((p4 &&& (2147483647 : Int32)) / (5 : Int32)) * (5 : Int32))), (.int ((p3 &&& (2147483647 : Int32)) - ((p3 &&& (2147483647 : Int32)) / (5 : Int32)) * (5 : Int32))), (.ref b5)])) rfl (by rw [hml]; rfl) (argsL := [(.ref b5), (.int ((p3 &&& (2147483647 : Int32)) - ((p3 &&& (2147483647 : Int32)) / (5 : Int32)) * (5 : Int32))), (.int ((p4 &&& (2147483647 : Int32)) - ((p4 &&& (2147483647 : Int32)) / (5 : Int32)) * (5 : Int32)))]) (rest := []) (lenOf pd_0_2 rfl) rfl (by show 2 * 0 + _ ≤ _; exact Nat.le_of_eq rfl) (hb hby at_134) (fun _ _ => ⟨rfl, e17, (by decide : 1 + 0 ≤ _), (by decide : 4 + 0 ≤ _)⟩)
  dsimp only [Pt.U, Pt.locs, Pt.cells, Pt.slots] at X18 l18 y18 z18 st18 hQ18
  subst l18 y18 z18
  obtain ⟨rfl, N18q, e18q0⟩ := hQ18
  have e18q : T18.heap = h13 := e18q0
  have N18 := Fr.app N17 N18q
  obtain ⟨fs, hr, hrun, hended, hW, hsame⟩ := X18.leave (v := some (.int (1 : Int32))) (fun h => by rw [Bd.returns] at h; cases h)
  refine ⟨_, _, pre0 _ ?_, hrun, hended, _, _, rfl, ?_, ⟨_, rfl⟩, hW, hsame.mono (by decide) (by decide)⟩
  · show Steps p.tables e below (s₁.setTop (mkF m 0 #[.val (.int p1), .val (.int p2), .val (.int p3), .val (.int p4), .unset, .unset, .unset, .unset] [])) _
    refine XS.iconst X0.here hx rfl (hb hby at_0) ?_
    show Steps p.tables e below (s₁.setTop (mkF m 1 #[.val (.int p1), .val (.int p2), .val (.int p3), .val (.int p4), .unset, .unset, .unset, .unset] [(.int (4 : Int32))])) _
    refine st5 _ ?_
    show Steps p.tables e below (T5.setTop (mkF m 3 #[.val (.int p1), .val (.int p2), .val (.int p3), .val (.int p4), .unset, .unset, .unset, .unset] [(.ref b5)])) _
    refine XS.astore X5.here hx rfl (hb hby at_3) rfl rfl (l' := #[.val (.int p1), .val (.int p2), .val (.int p3), .val (.int p4), .val (.ref b5), .unset, .unset, .unset]) rfl ?_
    show Steps p.tables e below (T5.setTop (mkF m 5 #[.val (.int p1), .val (.int p2), .val (.int p3), .val (.int p4), .val (.ref b5), .unset, .unset, .unset] [])) _
    refine XS.aload X5.here hx rfl (hb hby at_5) rfl rfl ?_
    show Steps p.tables e below (T5.setTop (mkF m 7 #[.val (.int p1), .val (.int p2), .val (.int p3), .val (.int p4), .val (.ref b5), .unset, .unset, .unset] [(.ref b5)])) _
    refine XS.iconst X5.here hx rfl (hb hby at_7) ?_
    show Steps p.tables e below (T5.setTop (mkF m 8 #[.val (.int p1), .val (.int p2), .val (.int p3), .val (.int p4), .val (.ref b5), .unset, .unset, .unset] [(.int (0 : Int32)), (.ref b5)])) _
    refine XS.iloadN X5.here hx rfl (hb hby at_8) rfl ?_
    show Steps p.tables e below (T5.setTop (mkF m 9 #[.val (.int p1), .val (.int p2), .val (.int p3), .val (.int p4), .val (.ref b5), .unset, .unset, .unset] [(.int p1), (.int (0 : Int32)), (.ref b5)])) _
    refine XS.iloadN X5.here hx rfl (hb hby at_9) rfl ?_
    show Steps p.tables e below (T5.setTop (mkF m 10 #[.val (.int p1), .val (.int p2), .val (.int p3), .val (.int p4), .val (.ref b5), .unset, .unset, .unset] [(.int p2), (.int p1), (.int (0 : Int32)), (.ref b5)])) _
    refine XS.iconst X5.here hx rfl (hb hby at_10) ?_
    show Steps p.tables e below (T5.setTop (mkF m 11 #[.val (.int p1), .val (.int p2), .val (.int p3), .val (.int p4), .val (.ref b5), .unset, .unset, .unset] [(.int (0 : Int32)), (.int p2), (.int p1), (.int (0 : Int32)), (.ref b5)])) _
    refine st6 _ ?_
    show Steps p.tables e below (T6.setTop (mkF m 14 #[.val (.int p1), .val (.int p2), .val (.int p3), .val (.int p4), .val (.ref b5), .unset, .unset, .unset] [(.int (own_f1 p1 p2 (0 : Int32))), (.int (0 : Int32)), (.ref b5)])) _
    refine st7 _ ?_
    show Steps p.tables e below (T7.setTop (mkF m 15 #[.val (.int p1), .val (.int p2), .val (.int p3), .val (.int p4), .val (.ref b5), .unset, .unset, .unset] [])) _
    refine XS.aload X7.here hx rfl (hb hby at_15) rfl rfl ?_
    show Steps p.tables e below (T7.setTop (mkF m 17 #[.val (.int p1), .val (.int p2), .val (.int p3), .val (.int p4), .val (.ref b5), .unset, .unset, .unset] [(.ref b5)])) _
    refine XS.iconst X7.here hx rfl (hb hby at_17) ?_
    show Steps p.tables e below (T7.setTop (mkF m 18 #[.val (.int p1), .val (.int p2), .val (.int p3), .val (.int p4), .val (.ref b5), .unset, .unset, .unset] [(.int (1 : Int32)), (.ref b5)])) _
    refine XS.iloadN X7.here hx rfl (hb hby at_18) rfl ?_
    show Steps p.tables e below (T7.setTop (mkF m 19 #[.val (.int p1), .val (.int p2), .val (.int p3), .val (.int p4), .val (.ref b5), .unset, .unset, .unset] [(.int p1), (.int (1 : Int32)), (.ref b5)])) _
    refine XS.iloadN X7.here hx rfl (hb hby at_19) rfl ?_
    show Steps p.tables e below (T7.setTop (mkF m 20 #[.val (.int p1), .val (.int p2), .val (.int p3), .val (.int p4), .val (.ref b5), .unset, .unset, .unset] [(.int p2), (.int p1), (.int (1 : Int32)), (.ref b5)])) _
    refine XS.iconst X7.here hx rfl (hb hby at_20) ?_
    show Steps p.tables e below (T7.setTop (mkF m 21 #[.val (.int p1), .val (.int p2), .val (.int p3), .val (.int p4), .val (.ref b5), .unset, .unset, .unset] [(.int (1 : Int32)), (.int p2), (.int p1), (.int (1 : Int32)), (.ref b5)])) _
    refine st8 _ ?_
    show Steps p.tables e below (T8.setTop (mkF m 24 #[.val (.int p1), .val (.int p2), .val (.int p3), .val (.int p4), .val (.ref b5), .unset, .unset, .unset] [(.int (own_f1 p1 p2 (1 : Int32))), (.int (1 : Int32)), (.ref b5)])) _
    refine st9 _ ?_
    show Steps p.tables e below (T9.setTop (mkF m 25 #[.val (.int p1), .val (.int p2), .val (.int p3), .val (.int p4), .val (.ref b5), .unset, .unset, .unset] [])) _
    refine XS.aload X9.here hx rfl (hb hby at_25) rfl rfl ?_
    show Steps p.tables e below (T9.setTop (mkF m 27 #[.val (.int p1), .val (.int p2), .val (.int p3), .val (.int p4), .val (.ref b5), .unset, .unset, .unset] [(.ref b5)])) _
    refine XS.iconst X9.here hx rfl (hb hby at_27) ?_
    show Steps p.tables e below (T9.setTop (mkF m 28 #[.val (.int p1), .val (.int p2), .val (.int p3), .val (.int p4), .val (.ref b5), .unset, .unset, .unset] [(.int (2 : Int32)), (.ref b5)])) _
    refine XS.iloadN X9.here hx rfl (hb hby at_28) rfl ?_
    show Steps p.tables e below (T9.setTop (mkF m 29 #[.val (.int p1), .val (.int p2), .val (.int p3), .val (.int p4), .val (.ref b5), .unset, .unset, .unset] [(.int p1), (.int (2 : Int32)), (.ref b5)])) _
    refine XS.iloadN X9.here hx rfl (hb hby at_29) rfl ?_
    show Steps p.tables e below (T9.setTop (mkF m 30 #[.val (.int p1), .val (.int p2), .val (.int p3), .val (.int p4), .val (.ref b5), .unset, .unset, .unset] [(.int p2), (.int p1), (.int (2 : Int32)), (.ref b5)])) _
    refine XS.iconst X9.here hx rfl (hb hby at_30) ?_
    show Steps p.tables e below (T9.setTop (mkF m 31 #[.val (.int p1), .val (.int p2), .val (.int p3), .val (.int p4), .val (.ref b5), .unset, .unset, .unset] [(.int (2 : Int32)), (.int p2), (.int p1), (.int (2 : Int32)), (.ref b5)])) _
    refine st10 _ ?_
    show Steps p.tables e below (T10.setTop (mkF m 34 #[.val (.int p1), .val (.int p2), .val (.int p3), .val (.int p4), .val (.ref b5), .unset, .unset, .unset] [(.int (own_f1 p1 p2 (2 : Int32))), (.int (2 : Int32)), (.ref b5)])) _
    refine st11 _ ?_
    show Steps p.tables e below (T11.setTop (mkF m 35 #[.val (.int p1), .val (.int p2), .val (.int p3), .val (.int p4), .val (.ref b5), .unset, .unset, .unset] [])) _
    refine XS.aload X11.here hx rfl (hb hby at_35) rfl rfl ?_
    show Steps p.tables e below (T11.setTop (mkF m 37 #[.val (.int p1), .val (.int p2), .val (.int p3), .val (.int p4), .val (.ref b5), .unset, .unset, .unset] [(.ref b5)])) _
    refine XS.iconst X11.here hx rfl (hb hby at_37) ?_
    show Steps p.tables e below (T11.setTop (mkF m 38 #[.val (.int p1), .val (.int p2), .val (.int p3), .val (.int p4), .val (.ref b5), .unset, .unset, .unset] [(.int (3 : Int32)), (.ref b5)])) _
    refine XS.iloadN X11.here hx rfl (hb hby at_38) rfl ?_
    show Steps p.tables e below (T11.setTop (mkF m 39 #[.val (.int p1), .val (.int p2), .val (.int p3), .val (.int p4), .val (.ref b5), .unset, .unset, .unset] [(.int p1), (.int (3 : Int32)), (.ref b5)])) _
    refine XS.iloadN X11.here hx rfl (hb hby at_39) rfl ?_
    show Steps p.tables e below (T11.setTop (mkF m 40 #[.val (.int p1), .val (.int p2), .val (.int p3), .val (.int p4), .val (.ref b5), .unset, .unset, .unset] [(.int p2), (.int p1), (.int (3 : Int32)), (.ref b5)])) _
    refine XS.iconst X11.here hx rfl (hb hby at_40) ?_
    show Steps p.tables e below (T11.setTop (mkF m 41 #[.val (.int p1), .val (.int p2), .val (.int p3), .val (.int p4), .val (.ref b5), .unset, .unset, .unset] [(.int (3 : Int32)), (.int p2), (.int p1), (.int (3 : Int32)), (.ref b5)])) _
    refine st12 _ ?_
    show Steps p.tables e below (T12.setTop (mkF m 44 #[.val (.int p1), .val (.int p2), .val (.int p3), .val (.int p4), .val (.ref b5), .unset, .unset, .unset] [(.int (own_f1 p1 p2 (3 : Int32))), (.int (3 : Int32)), (.ref b5)])) _
    refine st13 _ ?_
    show Steps p.tables e below (T13.setTop (mkF m 45 #[.val (.int p1), .val (.int p2), .val (.int p3), .val (.int p4), .val (.ref b5), .unset, .unset, .unset] [])) _
    refine XS.iloadN X13.here hx rfl (hb hby at_45) rfl ?_
    show Steps p.tables e below (T13.setTop (mkF m 46 #[.val (.int p1), .val (.int p2), .val (.int p3), .val (.int p4), .val (.ref b5), .unset, .unset, .unset] [(.int p3)])) _
    refine X13.ldcInt hx hown (mvT hZ (hw _ (List.mem_of_getElem? (i := 5) rfl))) (g := (mkF m 46 #[.val (.int p1), .val (.int p2), .val (.int p3), .val (.int p4), .val (.ref b5), .unset, .unset, .unset] [(.int p3)])) rfl (hb hby at_46) _ ?_
    show Steps p.tables e below (T13.setTop (mkF m 48 #[.val (.int p1), .val (.int p2), .val (.int p3), .val (.int p4), .val (.ref b5), .unset, .unset, .unset] [(.int (2147483647 : Int32)), (.int p3)])) _
    refine XS.iand X13.here hx rfl (hb hby at_48) rfl ?_
    show Steps p.tables e below (T13.setTop (mkF m 49 #[.val (.int p1), .val (.int p2), .val (.int p3), .val (.int p4), .val (.ref b5), .unset, .unset, .unset] [(.int (p3 &&& (2147483647 : Int32)))])) _
    refine XS.iconst X13.here hx rfl (hb hby at_49) ?_
    show Steps p.tables e below (T13.setTop (mkF m 50 #[.val (.int p1), .val (.int p2), .val (.int p3), .val (.int p4), .val (.ref b5), .unset, .unset, .unset] [(.int (5 : Int32)), (.int (p3 &&& (2147483647 : Int32)))])) _
    refine XS.irem X13.here hx rfl (hb hby at_50) rfl (by decide : ¬ ((5 : Int32) = (0 : Int32))) ?_
    show Steps p.tables e below (T13.setTop (mkF m 51 #[.val (.int p1), .val (.int p2), .val (.int p3), .val (.int p4), .val (.ref b5), .unset, .unset, .unset] [(.int ((p3 &&& (2147483647 : Int32)) - ((p3 &&& (2147483647 : Int32)) / (5 : Int32)) * (5 : Int32)))])) _
    refine XS.istore X13.here hx rfl (hb hby at_51) rfl (l' := #[.val (.int p1), .val (.int p2), .val (.int p3), .val (.int p4), .val (.ref b5), .val (.int ((p3 &&& (2147483647 : Int32)) - ((p3 &&& (2147483647 : Int32)) / (5 : Int32)) * (5 : Int32))), .unset, .unset]) rfl ?_
    show Steps p.tables e below (T13.setTop (mkF m 53 #[.val (.int p1), .val (.int p2), .val (.int p3), .val (.int p4), .val (.ref b5), .val (.int ((p3 &&& (2147483647 : Int32)) - ((p3 &&& (2147483647 : Int32)) / (5 : Int32)) * (5 : Int32))), .unset, .unset] [])) _
    refine XS.iloadN X13.here hx rfl (hb hby at_53) rfl ?_
    show Steps p.tables e below (T13.setTop (mkF m 54 #[.val (.int p1), .val (.int p2), .val (.int p3), .val (.int p4), .val (.ref b5), .val (.int ((p3 &&& (2147483647 : Int32)) - ((p3 &&& (2147483647 : Int32)) / (5 : Int32)) * (5 : Int32))), .unset, .unset] [(.int p4)])) _
    refine X13.ldcInt hx hown (mvT hZ (hw _ (List.mem_of_getElem? (i := 5) rfl))) (g := (mkF m 54 #[.val (.int p1), .val (.int p2), .val (.int p3), .val (.int p4), .val (.ref b5), .val (.int ((p3 &&& (2147483647 : Int32)) - ((p3 &&& (2147483647 : Int32)) / (5 : Int32)) * (5 : Int32))), .unset, .unset] [(.int p4)])) rfl (hb hby at_54) _ ?_
    show Steps p.tables e below (T13.setTop (mkF m 56 #[.val (.int p1), .val (.int p2), .val (.int p3), .val (.int p4), .val (.ref b5), .val (.int ((p3 &&& (2147483647 : Int32)) - ((p3 &&& (2147483647 : Int32)) / (5 : Int32)) * (5 : Int32))), .unset, .unset] [(.int (2147483647 : Int32)), (.int p4)])) _
    refine XS.iand X13.here hx rfl (hb hby at_56) rfl ?_
    show Steps p.tables e below (T13.setTop (mkF m 57 #[.val (.int p1), .val (.int p2), .val (.int p3), .val (.int p4), .val (.ref b5), .val (.int ((p3 &&& (2147483647 : Int32)) - ((p3 &&& (2147483647 : Int32)) / (5 : Int32)) * (5 : Int32))), .unset, .unset] [(.int (p4 &&& (2147483647 : Int32)))])) _
    refine XS.iconst X13.here hx rfl (hb hby at_57) ?_
    show Steps p.tables e below (T13.setTop (mkF m 58 #[.val (.int p1), .val (.int p2), .val (.int p3), .val (.int p4), .val (.ref b5), .val (.int ((p3 &&& (2147483647 : Int32)) - ((p3 &&& (2147483647 : Int32)) / (5 : Int32)) * (5 : Int32))), .unset, .unset] [(.int (5 : Int32)), (.int (p4 &&& (2147483647 : Int32)))])) _
    refine XS.irem X13.here hx rfl (hb hby at_58) rfl (by decide : ¬ ((5 : Int32) = (0 : Int32))) ?_
    show Steps p.tables e below (T13.setTop (mkF m 59 #[.val (.int p1), .val (.int p2), .val (.int p3), .val (.int p4), .val (.ref b5), .val (.int ((p3 &&& (2147483647 : Int32)) - ((p3 &&& (2147483647 : Int32)) / (5 : Int32)) * (5 : Int32))), .unset, .unset] [(.int ((p4 &&& (2147483647 : Int32)) - ((p4 &&& (2147483647 : Int32)) / (5 : Int32)) * (5 : Int32)))])) _
    refine XS.istore X13.here hx rfl (hb hby at_59) rfl (l' := #[.val (.int p1), .val (.int p2), .val (.int p3), .val (.int p4), .val (.ref b5), .val (.int ((p3 &&& (2147483647 : Int32)) - ((p3 &&& (2147483647 : Int32)) / (5 : Int32)) * (5 : Int32))), .val (.int ((p4 &&& (2147483647 : Int32)) - ((p4 &&& (2147483647 : Int32)) / (5 : Int32)) * (5 : Int32))), .unset]) rfl ?_
    show Steps p.tables e below (T13.setTop (mkF m 61 #[.val (.int p1), .val (.int p2), .val (.int p3), .val (.int p4), .val (.ref b5), .val (.int ((p3 &&& (2147483647 : Int32)) - ((p3 &&& (2147483647 : Int32)) / (5 : Int32)) * (5 : Int32))), .val (.int ((p4 &&& (2147483647 : Int32)) - ((p4 &&& (2147483647 : Int32)) / (5 : Int32)) * (5 : Int32))), .unset] [])) _
    refine XS.iconst X13.here hx rfl (hb hby at_61) ?_
    show Steps p.tables e below (T13.setTop (mkF m 62 #[.val (.int p1), .val (.int p2), .val (.int p3), .val (.int p4), .val (.ref b5), .val (.int ((p3 &&& (2147483647 : Int32)) - ((p3 &&& (2147483647 : Int32)) / (5 : Int32)) * (5 : Int32))), .val (.int ((p4 &&& (2147483647 : Int32)) - ((p4 &&& (2147483647 : Int32)) / (5 : Int32)) * (5 : Int32))), .unset] [(.int (-1 : Int32))])) _
    refine XS.istore X13.here hx rfl (hb hby at_62) rfl (l' := #[.val (.int p1), .val (.int p2), .val (.int p3), .val (.int p4), .val (.ref b5), .val (.int ((p3 &&& (2147483647 : Int32)) - ((p3 &&& (2147483647 : Int32)) / (5 : Int32)) * (5 : Int32))), .val (.int ((p4 &&& (2147483647 : Int32)) - ((p4 &&& (2147483647 : Int32)) / (5 : Int32)) * (5 : Int32))), .val (.int (-1 : Int32))]) rfl ?_
    show Steps p.tables e below (T13.setTop (mkF m 64 #[.val (.int p1), .val (.int p2), .val (.int p3), .val (.int p4), .val (.ref b5), .val (.int ((p3 &&& (2147483647 : Int32)) - ((p3 &&& (2147483647 : Int32)) / (5 : Int32)) * (5 : Int32))), .val (.int ((p4 &&& (2147483647 : Int32)) - ((p4 &&& (2147483647 : Int32)) / (5 : Int32)) * (5 : Int32))), .val (.int (-1 : Int32))] [])) _
    refine st14 _ ?_
    show Steps p.tables e below (T14.setTop (mkF m 80 #[.val (.int p1), .val (.int p2), .val (.int p3), .val (.int p4), .val (.ref b5), .val (.int ((p3 &&& (2147483647 : Int32)) - ((p3 &&& (2147483647 : Int32)) / (5 : Int32)) * (5 : Int32))), .val (.int ((p4 &&& (2147483647 : Int32)) - ((p4 &&& (2147483647 : Int32)) / (5 : Int32)) * (5 : Int32))), .val (.int (own_s0_64_7 b5 ((p3 &&& (2147483647 : Int32)) - ((p3 &&& (2147483647 : Int32)) / (5 : Int32)) * (5 : Int32)) ((p4 &&& (2147483647 : Int32)) - ((p4 &&& (2147483647 : Int32)) / (5 : Int32)) * (5 : Int32)) (-1 : Int32) (own_v p1 p2 3) clw))] [])) _
    refine st15 _ ?_
    show Steps p.tables e below (T15.setTop (mkF m 96 #[.val (.int p1), .val (.int p2), .val (.int p3), .val (.int p4), .val (.ref b5), .val (.int ((p3 &&& (2147483647 : Int32)) - ((p3 &&& (2147483647 : Int32)) / (5 : Int32)) * (5 : Int32))), .val (.int ((p4 &&& (2147483647 : Int32)) - ((p4 &&& (2147483647 : Int32)) / (5 : Int32)) * (5 : Int32))), .val (.int (own_s0_80_7 b5 ((p3 &&& (2147483647 : Int32)) - ((p3 &&& (2147483647 : Int32)) / (5 : Int32)) * (5 : Int32)) ((p4 &&& (2147483647 : Int32)) - ((p4 &&& (2147483647 : Int32)) / (5 : Int32)) * (5 : Int32)) (own_s0_64_7 b5 ((p3 &&& (2147483647 : Int32)) - ((p3 &&& (2147483647 : Int32)) / (5 : Int32)) * (5 : Int32)) ((p4 &&& (2147483647 : Int32)) - ((p4 &&& (2147483647 : Int32)) / (5 : Int32)) * (5 : Int32)) (-1 : Int32) (own_v p1 p2 3) clw) (own_v p1 p2 2) clw))] [])) _
    refine st16 _ ?_
    show Steps p.tables e below (T16.setTop (mkF m 112 #[.val (.int p1), .val (.int p2), .val (.int p3), .val (.int p4), .val (.ref b5), .val (.int ((p3 &&& (2147483647 : Int32)) - ((p3 &&& (2147483647 : Int32)) / (5 : Int32)) * (5 : Int32))), .val (.int ((p4 &&& (2147483647 : Int32)) - ((p4 &&& (2147483647 : Int32)) / (5 : Int32)) * (5 : Int32))), .val (.int (own_s0_96_7 b5 ((p3 &&& (2147483647 : Int32)) - ((p3 &&& (2147483647 : Int32)) / (5 : Int32)) * (5 : Int32)) ((p4 &&& (2147483647 : Int32)) - ((p4 &&& (2147483647 : Int32)) / (5 : Int32)) * (5 : Int32)) (own_s0_80_7 b5 ((p3 &&& (2147483647 : Int32)) - ((p3 &&& (2147483647 : Int32)) / (5 : Int32)) * (5 : Int32)) ((p4 &&& (2147483647 : Int32)) - ((p4 &&& (2147483647 : Int32)) / (5 : Int32)) * (5 : Int32)) (own_s0_64_7 b5 ((p3 &&& (2147483647 : Int32)) - ((p3 &&& (2147483647 : Int32)) / (5 : Int32)) * (5 : Int32)) ((p4 &&& (2147483647 : Int32)) - ((p4 &&& (2147483647 : Int32)) / (5 : Int32)) * (5 : Int32)) (-1 : Int32) (own_v p1 p2 3) clw) (own_v p1 p2 2) clw) (own_v p1 p2 1) clw))] [])) _
    refine st17 _ ?_
    show Steps p.tables e below (T17.setTop (mkF m 128 #[.val (.int p1), .val (.int p2), .val (.int p3), .val (.int p4), .val (.ref b5), .val (.int ((p3 &&& (2147483647 : Int32)) - ((p3 &&& (2147483647 : Int32)) / (5 : Int32)) * (5 : Int32))), .val (.int ((p4 &&& (2147483647 : Int32)) - ((p4 &&& (2147483647 : Int32)) / (5 : Int32)) * (5 : Int32))), .val (.int (own_s0_112_7 b5 ((p3 &&& (2147483647 : Int32)) - ((p3 &&& (2147483647 : Int32)) / (5 : Int32)) * (5 : Int32)) ((p4 &&& (2147483647 : Int32)) - ((p4 &&& (2147483647 : Int32)) / (5 : Int32)) * (5 : Int32)) (own_s0_96_7 b5 ((p3 &&& (2147483647 : Int32)) - ((p3 &&& (2147483647 : Int32)) / (5 : Int32)) * (5 : Int32)) ((p4 &&& (2147483647 : Int32)) - ((p4 &&& (2147483647 : Int32)) / (5 : Int32)) * (5 : Int32)) (own_s0_80_7 b5 ((p3 &&& (2147483647 : Int32)) - ((p3 &&& (2147483647 : Int32)) / (5 : Int32)) * (5 : Int32)) ((p4 &&& (2147483647 : Int32)) - ((p4 &&& (2147483647 : Int32)) / (5 : Int32)) * (5 : Int32)) (own_s0_64_7 b5 ((p3 &&& (2147483647 : Int32)) - ((p3 &&& (2147483647 : Int32)) / (5 : Int32)) * (5 : Int32)) ((p4 &&& (2147483647 : Int32)) - ((p4 &&& (2147483647 : Int32)) / (5 : Int32)) * (5 : Int32)) (-1 : Int32) (own_v p1 p2 3) clw) (own_v p1 p2 2) clw) (own_v p1 p2 1) clw) (own_v p1 p2 0) clw))] [])) _
    refine XS.aload X17.here hx rfl (hb hby at_128) rfl rfl ?_
    show Steps p.tables e below (T17.setTop (mkF m 130 #[.val (.int p1), .val (.int p2), .val (.int p3), .val (.int p4), .val (.ref b5), .val (.int ((p3 &&& (2147483647 : Int32)) - ((p3 &&& (2147483647 : Int32)) / (5 : Int32)) * (5 : Int32))), .val (.int ((p4 &&& (2147483647 : Int32)) - ((p4 &&& (2147483647 : Int32)) / (5 : Int32)) * (5 : Int32))), .val (.int (own_s0_112_7 b5 ((p3 &&& (2147483647 : Int32)) - ((p3 &&& (2147483647 : Int32)) / (5 : Int32)) * (5 : Int32)) ((p4 &&& (2147483647 : Int32)) - ((p4 &&& (2147483647 : Int32)) / (5 : Int32)) * (5 : Int32)) (own_s0_96_7 b5 ((p3 &&& (2147483647 : Int32)) - ((p3 &&& (2147483647 : Int32)) / (5 : Int32)) * (5 : Int32)) ((p4 &&& (2147483647 : Int32)) - ((p4 &&& (2147483647 : Int32)) / (5 : Int32)) * (5 : Int32)) (own_s0_80_7 b5 ((p3 &&& (2147483647 : Int32)) - ((p3 &&& (2147483647 : Int32)) / (5 : Int32)) * (5 : Int32)) ((p4 &&& (2147483647 : Int32)) - ((p4 &&& (2147483647 : Int32)) / (5 : Int32)) * (5 : Int32)) (own_s0_64_7 b5 ((p3 &&& (2147483647 : Int32)) - ((p3 &&& (2147483647 : Int32)) / (5 : Int32)) * (5 : Int32)) ((p4 &&& (2147483647 : Int32)) - ((p4 &&& (2147483647 : Int32)) / (5 : Int32)) * (5 : Int32)) (-1 : Int32) (own_v p1 p2 3) clw) (own_v p1 p2 2) clw) (own_v p1 p2 1) clw) (own_v p1 p2 0) clw))] [(.ref b5)])) _
    refine XS.iload X17.here hx rfl (hb hby at_130) rfl ?_
    show Steps p.tables e below (T17.setTop (mkF m 132 #[.val (.int p1), .val (.int p2), .val (.int p3), .val (.int p4), .val (.ref b5), .val (.int ((p3 &&& (2147483647 : Int32)) - ((p3 &&& (2147483647 : Int32)) / (5 : Int32)) * (5 : Int32))), .val (.int ((p4 &&& (2147483647 : Int32)) - ((p4 &&& (2147483647 : Int32)) / (5 : Int32)) * (5 : Int32))), .val (.int (own_s0_112_7 b5 ((p3 &&& (2147483647 : Int32)) - ((p3 &&& (2147483647 : Int32)) / (5 : Int32)) * (5 : Int32)) ((p4 &&& (2147483647 : Int32)) - ((p4 &&& (2147483647 : Int32)) / (5 : Int32)) * (5 : Int32)) (own_s0_96_7 b5 ((p3 &&& (2147483647 : Int32)) - ((p3 &&& (2147483647 : Int32)) / (5 : Int32)) * (5 : Int32)) ((p4 &&& (2147483647 : Int32)) - ((p4 &&& (2147483647 : Int32)) / (5 : Int32)) * (5 : Int32)) (own_s0_80_7 b5 ((p3 &&& (2147483647 : Int32)) - ((p3 &&& (2147483647 : Int32)) / (5 : Int32)) * (5 : Int32)) ((p4 &&& (2147483647 : Int32)) - ((p4 &&& (2147483647 : Int32)) / (5 : Int32)) * (5 : Int32)) (own_s0_64_7 b5 ((p3 &&& (2147483647 : Int32)) - ((p3 &&& (2147483647 : Int32)) / (5 : Int32)) * (5 : Int32)) ((p4 &&& (2147483647 : Int32)) - ((p4 &&& (2147483647 : Int32)) / (5 : Int32)) * (5 : Int32)) (-1 : Int32) (own_v p1 p2 3) clw) (own_v p1 p2 2) clw) (own_v p1 p2 1) clw) (own_v p1 p2 0) clw))] [(.int ((p3 &&& (2147483647 : Int32)) - ((p3 &&& (2147483647 : Int32)) / (5 : Int32)) * (5 : Int32))), (.ref b5)])) _
    refine XS.iload X17.here hx rfl (hb hby at_132) rfl ?_
    show Steps p.tables e below (T17.setTop (mkF m 134 #[.val (.int p1), .val (.int p2), .val (.int p3), .val (.int p4), .val (.ref b5), .val (.int ((p3 &&& (2147483647 : Int32)) - ((p3 &&& (2147483647 : Int32)) / (5 : Int32)) * (5 : Int32))), .val (.int ((p4 &&& (2147483647 : Int32)) - ((p4 &&& (2147483647 : Int32)) / (5 : Int32)) * (5 : Int32))), .val (.int (own_s0_112_7 b5 ((p3 &&& (2147483647 : Int32)) - ((p3 &&& (2147483647 : Int32)) / (5 : Int32)) * (5 : Int32)) ((p4 &&& (2147483647 : Int32)) - ((p4 &&& (2147483647 : Int32)) / (5 : Int32)) * (5 : Int32)) (own_s0_96_7 b5 ((p3 &&& (2147483647 : Int32)) - ((p3 &&& (2147483647 : Int32)) / (5 : Int32)) * (5 : Int32)) ((p4 &&& (2147483647 : Int32)) - ((p4 &&& (2147483647 : Int32)) / (5 : Int32)) * (5 : Int32)) (own_s0_80_7 b5 ((p3 &&& (2147483647 : Int32)) - ((p3 &&& (2147483647 : Int32)) / (5 : Int32)) * (5 : Int32)) ((p4 &&& (2147483647 : Int32)) - ((p4 &&& (2147483647 : Int32)) / (5 : Int32)) * (5 : Int32)) (own_s0_64_7 b5 ((p3 &&& (2147483647 : Int32)) - ((p3 &&& (2147483647 : Int32)) / (5 : Int32)) * (5 : Int32)) ((p4 &&& (2147483647 : Int32)) - ((p4 &&& (2147483647 : Int32)) / (5 : Int32)) * (5 : Int32)) (-1 : Int32) (own_v p1 p2 3) clw) (own_v p1 p2 2) clw) (own_v p1 p2 1) clw) (own_v p1 p2 0) clw))] [(.int ((p4 &&& (2147483647 : Int32)) - ((p4 &&& (2147483647 : Int32)) / (5 : Int32)) * (5 : Int32))), (.int ((p3 &&& (2147483647 : Int32)) - ((p3 &&& (2147483647 : Int32)) / (5 : Int32)) * (5 : Int32))), (.ref b5)])) _
    refine st18 _ ?_
    show Steps p.tables e below (T18.setTop (mkF m 137 #[.val (.int p1), .val (.int p2), .val (.int p3), .val (.int p4), .val (.ref b5), .val (.int ((p3 &&& (2147483647 : Int32)) - ((p3 &&& (2147483647 : Int32)) / (5 : Int32)) * (5 : Int32))), .val (.int ((p4 &&& (2147483647 : Int32)) - ((p4 &&& (2147483647 : Int32)) / (5 : Int32)) * (5 : Int32))), .val (.int (own_s0_112_7 b5 ((p3 &&& (2147483647 : Int32)) - ((p3 &&& (2147483647 : Int32)) / (5 : Int32)) * (5 : Int32)) ((p4 &&& (2147483647 : Int32)) - ((p4 &&& (2147483647 : Int32)) / (5 : Int32)) * (5 : Int32)) (own_s0_96_7 b5 ((p3 &&& (2147483647 : Int32)) - ((p3 &&& (2147483647 : Int32)) / (5 : Int32)) * (5 : Int32)) ((p4 &&& (2147483647 : Int32)) - ((p4 &&& (2147483647 : Int32)) / (5 : Int32)) * (5 : Int32)) (own_s0_80_7 b5 ((p3 &&& (2147483647 : Int32)) - ((p3 &&& (2147483647 : Int32)) / (5 : Int32)) * (5 : Int32)) ((p4 &&& (2147483647 : Int32)) - ((p4 &&& (2147483647 : Int32)) / (5 : Int32)) * (5 : Int32)) (own_s0_64_7 b5 ((p3 &&& (2147483647 : Int32)) - ((p3 &&& (2147483647 : Int32)) / (5 : Int32)) * (5 : Int32)) ((p4 &&& (2147483647 : Int32)) - ((p4 &&& (2147483647 : Int32)) / (5 : Int32)) * (5 : Int32)) (-1 : Int32) (own_v p1 p2 3) clw) (own_v p1 p2 2) clw) (own_v p1 p2 1) clw) (own_v p1 p2 0) clw))] [(.int (own_f3 b5 ((p3 &&& (2147483647 : Int32)) - ((p3 &&& (2147483647 : Int32)) / (5 : Int32)) * (5 : Int32)) ((p4 &&& (2147483647 : Int32)) - ((p4 &&& (2147483647 : Int32)) / (5 : Int32)) * (5 : Int32)) (own_at (own_v p1 p2 0) (own_v p1 p2 1) (own_v p1 p2 2) (own_v p1 p2 3)) clw))])) _
    refine XS.iload X18.here hx rfl (hb hby at_137) rfl ?_
    show Steps p.tables e below (T18.setTop (mkF m 139 #[.val (.int p1), .val (.int p2), .val (.int p3), .val (.int p4), .val (.ref b5), .val (.int ((p3 &&& (2147483647 : Int32)) - ((p3 &&& (2147483647 : Int32)) / (5 : Int32)) * (5 : Int32))), .val (.int ((p4 &&& (2147483647 : Int32)) - ((p4 &&& (2147483647 : Int32)) / (5 : Int32)) * (5 : Int32))), .val (.int (own_s0_112_7 b5 ((p3 &&& (2147483647 : Int32)) - ((p3 &&& (2147483647 : Int32)) / (5 : Int32)) * (5 : Int32)) ((p4 &&& (2147483647 : Int32)) - ((p4 &&& (2147483647 : Int32)) / (5 : Int32)) * (5 : Int32)) (own_s0_96_7 b5 ((p3 &&& (2147483647 : Int32)) - ((p3 &&& (2147483647 : Int32)) / (5 : Int32)) * (5 : Int32)) ((p4 &&& (2147483647 : Int32)) - ((p4 &&& (2147483647 : Int32)) / (5 : Int32)) * (5 : Int32)) (own_s0_80_7 b5 ((p3 &&& (2147483647 : Int32)) - ((p3 &&& (2147483647 : Int32)) / (5 : Int32)) * (5 : Int32)) ((p4 &&& (2147483647 : Int32)) - ((p4 &&& (2147483647 : Int32)) / (5 : Int32)) * (5 : Int32)) (own_s0_64_7 b5 ((p3 &&& (2147483647 : Int32)) - ((p3 &&& (2147483647 : Int32)) / (5 : Int32)) * (5 : Int32)) ((p4 &&& (2147483647 : Int32)) - ((p4 &&& (2147483647 : Int32)) / (5 : Int32)) * (5 : Int32)) (-1 : Int32) (own_v p1 p2 3) clw) (own_v p1 p2 2) clw) (own_v p1 p2 1) clw) (own_v p1 p2 0) clw))] [(.int (own_s0_112_7 b5 ((p3 &&& (2147483647 : Int32)) - ((p3 &&& (2147483647 : Int32)) / (5 : Int32)) * (5 : Int32)) ((p4 &&& (2147483647 : Int32)) - ((p4 &&& (2147483647 : Int32)) / (5 : Int32)) * (5 : Int32)) (own_s0_96_7 b5 ((p3 &&& (2147483647 : Int32)) - ((p3 &&& (2147483647 : Int32)) / (5 : Int32)) * (5 : Int32)) ((p4 &&& (2147483647 : Int32)) - ((p4 &&& (2147483647 : Int32)) / (5 : Int32)) * (5 : Int32)) (own_s0_80_7 b5 ((p3 &&& (2147483647 : Int32)) - ((p3 &&& (2147483647 : Int32)) / (5 : Int32)) * (5 : Int32)) ((p4 &&& (2147483647 : Int32)) - ((p4 &&& (2147483647 : Int32)) / (5 : Int32)) * (5 : Int32)) (own_s0_64_7 b5 ((p3 &&& (2147483647 : Int32)) - ((p3 &&& (2147483647 : Int32)) / (5 : Int32)) * (5 : Int32)) ((p4 &&& (2147483647 : Int32)) - ((p4 &&& (2147483647 : Int32)) / (5 : Int32)) * (5 : Int32)) (-1 : Int32) (own_v p1 p2 3) clw) (own_v p1 p2 2) clw) (own_v p1 p2 1) clw) (own_v p1 p2 0) clw)), (.int (own_f3 b5 ((p3 &&& (2147483647 : Int32)) - ((p3 &&& (2147483647 : Int32)) / (5 : Int32)) * (5 : Int32)) ((p4 &&& (2147483647 : Int32)) - ((p4 &&& (2147483647 : Int32)) / (5 : Int32)) * (5 : Int32)) (own_at (own_v p1 p2 0) (own_v p1 p2 1) (own_v p1 p2 2) (own_v p1 p2 3)) clw))])) _
    refine XS.icmpNo X18.here hx rfl (hb hby at_139) rfl (teq (own_eq _ _ _ _ _ _ _ _ (own_r5 _) (own_r5 _) : (own_f3 b5 ((p3 &&& (2147483647 : Int32)) - ((p3 &&& (2147483647 : Int32)) / (5 : Int32)) * (5 : Int32)) ((p4 &&& (2147483647 : Int32)) - ((p4 &&& (2147483647 : Int32)) / (5 : Int32)) * (5 : Int32)) (own_at (own_v p1 p2 0) (own_v p1 p2 1) (own_v p1 p2 2) (own_v p1 p2 3)) clw) = (own_s0_112_7 b5 ((p3 &&& (2147483647 : Int32)) - ((p3 &&& (2147483647 : Int32)) / (5 : Int32)) * (5 : Int32)) ((p4 &&& (2147483647 : Int32)) - ((p4 &&& (2147483647 : Int32)) / (5 : Int32)) * (5 : Int32)) (own_s0_96_7 b5 ((p3 &&& (2147483647 : Int32)) - ((p3 &&& (2147483647 : Int32)) / (5 : Int32)) * (5 : Int32)) ((p4 &&& (2147483647 : Int32)) - ((p4 &&& (2147483647 : Int32)) / (5 : Int32)) * (5 : Int32)) (own_s0_80_7 b5 ((p3 &&& (2147483647 : Int32)) - ((p3 &&& (2147483647 : Int32)) / (5 : Int32)) * (5 : Int32)) ((p4 &&& (2147483647 : Int32)) - ((p4 &&& (2147483647 : Int32)) / (5 : Int32)) * (5 : Int32)) (own_s0_64_7 b5 ((p3 &&& (2147483647 : Int32)) - ((p3 &&& (2147483647 : Int32)) / (5 : Int32)) * (5 : Int32)) ((p4 &&& (2147483647 : Int32)) - ((p4 &&& (2147483647 : Int32)) / (5 : Int32)) * (5 : Int32)) (-1 : Int32) (own_v p1 p2 3) clw) (own_v p1 p2 2) clw) (own_v p1 p2 1) clw) (own_v p1 p2 0) clw))).2 ?_
    show Steps p.tables e below (T18.setTop (mkF m 142 #[.val (.int p1), .val (.int p2), .val (.int p3), .val (.int p4), .val (.ref b5), .val (.int ((p3 &&& (2147483647 : Int32)) - ((p3 &&& (2147483647 : Int32)) / (5 : Int32)) * (5 : Int32))), .val (.int ((p4 &&& (2147483647 : Int32)) - ((p4 &&& (2147483647 : Int32)) / (5 : Int32)) * (5 : Int32))), .val (.int (own_s0_112_7 b5 ((p3 &&& (2147483647 : Int32)) - ((p3 &&& (2147483647 : Int32)) / (5 : Int32)) * (5 : Int32)) ((p4 &&& (2147483647 : Int32)) - ((p4 &&& (2147483647 : Int32)) / (5 : Int32)) * (5 : Int32)) (own_s0_96_7 b5 ((p3 &&& (2147483647 : Int32)) - ((p3 &&& (2147483647 : Int32)) / (5 : Int32)) * (5 : Int32)) ((p4 &&& (2147483647 : Int32)) - ((p4 &&& (2147483647 : Int32)) / (5 : Int32)) * (5 : Int32)) (own_s0_80_7 b5 ((p3 &&& (2147483647 : Int32)) - ((p3 &&& (2147483647 : Int32)) / (5 : Int32)) * (5 : Int32)) ((p4 &&& (2147483647 : Int32)) - ((p4 &&& (2147483647 : Int32)) / (5 : Int32)) * (5 : Int32)) (own_s0_64_7 b5 ((p3 &&& (2147483647 : Int32)) - ((p3 &&& (2147483647 : Int32)) / (5 : Int32)) * (5 : Int32)) ((p4 &&& (2147483647 : Int32)) - ((p4 &&& (2147483647 : Int32)) / (5 : Int32)) * (5 : Int32)) (-1 : Int32) (own_v p1 p2 3) clw) (own_v p1 p2 2) clw) (own_v p1 p2 1) clw) (own_v p1 p2 0) clw))] [])) _
    refine XS.iconst X18.here hx rfl (hb hby at_142) ?_
    show Steps p.tables e below (T18.setTop (mkF m 143 #[.val (.int p1), .val (.int p2), .val (.int p3), .val (.int p4), .val (.ref b5), .val (.int ((p3 &&& (2147483647 : Int32)) - ((p3 &&& (2147483647 : Int32)) / (5 : Int32)) * (5 : Int32))), .val (.int ((p4 &&& (2147483647 : Int32)) - ((p4 &&& (2147483647 : Int32)) / (5 : Int32)) * (5 : Int32))), .val (.int (own_s0_112_7 b5 ((p3 &&& (2147483647 : Int32)) - ((p3 &&& (2147483647 : Int32)) / (5 : Int32)) * (5 : Int32)) ((p4 &&& (2147483647 : Int32)) - ((p4 &&& (2147483647 : Int32)) / (5 : Int32)) * (5 : Int32)) (own_s0_96_7 b5 ((p3 &&& (2147483647 : Int32)) - ((p3 &&& (2147483647 : Int32)) / (5 : Int32)) * (5 : Int32)) ((p4 &&& (2147483647 : Int32)) - ((p4 &&& (2147483647 : Int32)) / (5 : Int32)) * (5 : Int32)) (own_s0_80_7 b5 ((p3 &&& (2147483647 : Int32)) - ((p3 &&& (2147483647 : Int32)) / (5 : Int32)) * (5 : Int32)) ((p4 &&& (2147483647 : Int32)) - ((p4 &&& (2147483647 : Int32)) / (5 : Int32)) * (5 : Int32)) (own_s0_64_7 b5 ((p3 &&& (2147483647 : Int32)) - ((p3 &&& (2147483647 : Int32)) / (5 : Int32)) * (5 : Int32)) ((p4 &&& (2147483647 : Int32)) - ((p4 &&& (2147483647 : Int32)) / (5 : Int32)) * (5 : Int32)) (-1 : Int32) (own_v p1 p2 3) clw) (own_v p1 p2 2) clw) (own_v p1 p2 1) clw) (own_v p1 p2 0) clw))] [(.int (1 : Int32))])) _
    refine XS.goto X18.here hx rfl (pc0 := 143) (pc' := 147) rfl (hb hby at_143) (by decide) (by decide) ?_
    show Steps p.tables e below (T18.setTop (mkF m 147 #[.val (.int p1), .val (.int p2), .val (.int p3), .val (.int p4), .val (.ref b5), .val (.int ((p3 &&& (2147483647 : Int32)) - ((p3 &&& (2147483647 : Int32)) / (5 : Int32)) * (5 : Int32))), .val (.int ((p4 &&& (2147483647 : Int32)) - ((p4 &&& (2147483647 : Int32)) / (5 : Int32)) * (5 : Int32))), .val (.int (own_s0_112_7 b5 ((p3 &&& (2147483647 : Int32)) - ((p3 &&& (2147483647 : Int32)) / (5 : Int32)) * (5 : Int32)) ((p4 &&& (2147483647 : Int32)) - ((p4 &&& (2147483647 : Int32)) / (5 : Int32)) * (5 : Int32)) (own_s0_96_7 b5 ((p3 &&& (2147483647 : Int32)) - ((p3 &&& (2147483647 : Int32)) / (5 : Int32)) * (5 : Int32)) ((p4 &&& (2147483647 : Int32)) - ((p4 &&& (2147483647 : Int32)) / (5 : Int32)) * (5 : Int32)) (own_s0_80_7 b5 ((p3 &&& (2147483647 : Int32)) - ((p3 &&& (2147483647 : Int32)) / (5 : Int32)) * (5 : Int32)) ((p4 &&& (2147483647 : Int32)) - ((p4 &&& (2147483647 : Int32)) / (5 : Int32)) * (5 : Int32)) (own_s0_64_7 b5 ((p3 &&& (2147483647 : Int32)) - ((p3 &&& (2147483647 : Int32)) / (5 : Int32)) * (5 : Int32)) ((p4 &&& (2147483647 : Int32)) - ((p4 &&& (2147483647 : Int32)) / (5 : Int32)) * (5 : Int32)) (-1 : Int32) (own_v p1 p2 3) clw) (own_v p1 p2 2) clw) (own_v p1 p2 1) clw) (own_v p1 p2 0) clw))] [(.int (1 : Int32))])) _
    exact retN X18 hx (t := .boolean) Bd.returns (by simp) (hb hby at_147) hr
  · show Q0 Z p1 p2 p3 p4 h0 n0 _ T18.heap _
    rw [e18q]
    exact ⟨rfl, N18⟩
set_option maxRecDepth 65536 in
theorem rm0 (l : Launch) (Z : State) (a0 : Array Value) (hw : ∀ d ∈ tables_1, d.before a0 Z = true) (ws : List Jvm.Cond) (p1 : Int32) (p2 : Int32) (p3 : Int32) (p4 : Int32) (h0 : Heap) (n0 : Nat) (Z0 : n0 ≤ h0.size) :
    MetFree l x (head1 (Jvm.Cond.code x code maxLocals ret :: ws) room_1) (fun a U => a = #[(.int p1), (.int p2), (.int p3), (.int p4)] ∧ Z.Warmed39 U.vm ∧ U.heap = h0) (fun _ _ _ _ _ => True) (fun _ U o U' => ∃ v L, o = .returned v ∧ Q0 Z p1 p2 p3 p4 h0 n0 v U'.heap L ∧ FrameEnd U o U' L room_1.cells room_1.slots) := by
  exact rm0_f l Z a0 hw ws p1 p2 p3 p4 h0 n0 Z0
set_option maxRecDepth 65536 in
set_option maxHeartbeats 40000000 in
theorem comes_1 {Post : Tables → Env → Array Value → State → Outcome → State → Prop} (hpost : ∀ tb e args s v u, (limb_1_1.after args s (.returned v) u = true ∧ limb_1_2.after args s (.returned v) u = true ∧ True) → FrameEnd s (.returned v) u (Jvm.fieldLocs frame_1_writes args s ++ Jvm.arrayLocs frame_1_arrays args s ++ Jvm.staticLocs frame_1_statics s) 16 128 → Post tb e args s (.returned v) u) :
    ArmFor flags0 classFile x code maxLocals ret World_1 tables_1 room_1 Calls_1 rest_1 Pre_1 Post := by
  intro l hfl _ _ p e ha hc hk s m args below hf hA hF happ hP
  obtain ⟨hcalls, hrest, hpre⟩ := hP
  obtain ⟨-, -, -, hnamed, -, -, -, hat⟩ := (Spec.applies_iff hf).mp happ
  obtain ⟨hg, hn⟩ := and_e (Cond.before_iff.mp (show (Jvm.Cond.and given_1 narrow_1).before args s = true from hpre))
  obtain ⟨g19, g20⟩ := and_e hg
  obtain ⟨g21, g22⟩ := and_e g20
  obtain ⟨g23, g24⟩ := and_e g22
  obtain ⟨g25, g26⟩ := and_e g24
  obtain ⟨w0, w1, w2, w3, rfl⟩ : ∃ w0 w1 w2 w3 : Value, args = #[w0, w1, w2, w3] := by
    have hs : args.size = 4 := by simpa [Cond.value, given_1] using g19
    obtain ⟨L⟩ := args
    match L, hs with
    | [w0, w1, w2, w3], _ => exact ⟨w0, w1, w2, w3, rfl⟩
  have hw := fun d (hd : d ∈ tables_1) => atoms_spec (ws := Jvm.Cond.code x code maxLocals ret :: tables_1) hat d (List.mem_cons_of_mem _ hd)
  have hfit : Fit s := fun {y c} hc i hi => by
    obtain ⟨ha, rfl⟩ := Array.getElem?_eq_some_iff.mp hc
    have q := List.all_eq_true.mp ((Array.all_eq_true_iff_forall_mem.mp hF) _ (Array.getElem_mem ha)) i (List.mem_range.mpr hi)
    simpa [Array.getElem?_eq_getElem hi] using q
  obtain ⟨i0, ei0⟩ := is_v g21
  obtain rfl : w0 = (.int i0) := Option.some.inj ei0
  obtain ⟨i1, ei1⟩ := is_v g23
  obtain rfl : w1 = (.int i1) := Option.some.inj ei1
  obtain ⟨i2, ei2⟩ := is_v g25
  obtain rfl : w2 = (.int i2) := Option.some.inj ei2
  obtain ⟨i3, ei3⟩ := is_v g26
  obtain rfl : w3 = (.int i3) := Option.some.inj ei3
  obtain ⟨n, o, h1, h2, h3, _, L, rfl, ⟨rfl, N⟩, hq⟩ := rm0 l s _ hw tables_1 i0 i1 i2 i3 s.heap s.heap.size (Nat.le_refl _) p e ha hc hk s m _ below hf ((Spec.applies_iff_loose hf).mp happ).1 ⟨rfl, State.Warmed39.refl s, rfl⟩ trivial
  refine ⟨n, _, h1, h2, h3, hpost _ _ _ _ _ _ ⟨Cond.after_iff.mpr rfl, Cond.after_iff.mpr (eq_i res_at (Term.int_eval (1)) rfl), trivial⟩ ⟨hq.1, hq.2.1, (hq.2.2.sift fun y hy => Or.inr (N y hy)).mono (by decide) (by decide)⟩⟩
theorem main_1_1 : Claimed_1_1 := comes_1 fun _ _ _ _ _ _ h hF => ⟨h.1, hF⟩
theorem main_1_2 : Claimed_1_2 := comes_1 fun _ _ _ _ _ _ h hF => ⟨h.2.1, hF⟩
end Jvm.Pilot.@@N@@
namespace Jvm.Pilot.@@N@@
open Jvm Jvm.ClassFile Sem Op Lib Jvm.Free Jvm.Stand Jvm.Pilot.@@N@@.Jvm.D
/-! MADE BY PROGRAM (witnessworld.py) out of the Statement's table words and the real class files: 9 classes; the members and pool entries that the words name. The judged class is class 1, her method 1. -/
namespace start1
open Jvm.ClassFile
def u (s : String) : CpInfo := .utf8 (stringToUtf16 s)
/-- a pool by its gaps: so many unusable entries, then the entry; so many at the end -/
def gap : Nat → List CpInfo → List CpInfo
  | 0, r => r
  | n + 1, r => .unusable :: gap n r
def poolList (es : List (Nat × CpInfo)) (last : Nat) : List CpInfo := es.foldr (fun e r => gap e.1 (e.2 :: r)) (gap last [])
def pool (es : List (Nat × CpInfo)) (last : Nat) : Array CpInfo := ⟨poolList es last⟩
def fileOf (pool : Array CpInfo) (this : Nat) (attrs : Array Attribute := #[]) (ms : Array MethodInfo := #[]) (fl : Nat := 33) (sup : Nat := 0) (ifs : Array Nat := #[]) (fds : Array FieldInfo := #[]) : ClassFile where
  minorVersion := 0
  majorVersion := 65
  constantPool := pool
  accessFlags := fl
  thisClass := this
  superClass := sup
  interfaces := ifs
  fields := fds
  methods := ms
  attributes := attrs
def plain (name : String) (sup : Option ClassId) : Class where
  name := name
  kind := .ordinary
  loader := none
  accessFlags := 33
  super := sup
  interfaces := #[]
  cf := none
  fields := #[]
  methods := #[]
  instanceTypes := #[]
  staticTypes := #[]
  resolved := #[]
  callSites := []
  init := .initialized
  statics := none
  mirror := none

def pool0 : Array CpInfo := pool [(5, u "<init>"), (0, u "()V"), (1, .class_ 10), (1, u "java/lang/Object")] 113

def k0m0 : Method := { name := "<init>", desc := "()V", sig := { parameters := [], returnType := none }, accessFlags := 1, code := none }
/-- java/lang/Object -/
def k0 : Class := { plain "java/lang/Object" none with
  accessFlags := 33
  interfaces := #[]
  cf := some (fileOf pool0 8 #[] #[{ accessFlags := 1, nameIndex := 5, descriptorIndex := 6, attributes := #[] }] 33 0 #[] #[])
  fields := #[]
  methods := #[k0m0]
  instanceTypes := #[]
  staticTypes := #[]
  resolved := Array.replicate 124 none
  statics := none }

def pool1 : Array CpInfo := pool [(2, .class_ 4), (1, u "java/lang/Object"), (0, u "<init>"), (0, u "()V"), (0, .methodref 8 9), (0, .class_ 10), (0, .nameAndType 11 12), (0, u "com/example/loop1/loop1/http/HttpSyntaxLineFeedPinLaw"), (0, u "pick"), (0, u "(III)B"), (0, .integer 2147483647), (0, .methodref 8 15), (0, .nameAndType 16 17), (0, u "hit"), (0, u "([BIII)Z"), (0, .methodref 19 20), (0, .class_ 21), (0, .nameAndType 22 23), (0, u "com/example/loop1/loop1/http/HttpSyntax"), (0, u "lineFeed"), (0, u "([BII)I"), (2, u "law"), (0, u "(IIII)Z")] 5

def k1m0 : Method := { name := "<init>", desc := "()V", sig := { parameters := [], returnType := none }, accessFlags := 1, code := none }
def k1c1 : Code := { maxStack := 5, maxLocals := 8, code := code, exceptionTable := #[], attributes := #[] }
def k1m1 : Method := { name := "law", desc := "(IIII)Z", sig := { parameters := [.int, .int, .int, .int], returnType := some .boolean }, accessFlags := 9, code := some k1c1 }
def k1c2 : Code := { maxStack := 3, maxLocals := 3, code := method_3_code, exceptionTable := #[], attributes := #[] }
def k1m2 : Method := { name := "pick", desc := "(III)B", sig := { parameters := [.int, .int, .int], returnType := some .byte }, accessFlags := 10, code := some k1c2 }
def k1c3 : Code := { maxStack := 2, maxLocals := 4, code := method_4_code, exceptionTable := #[], attributes := #[] }
def k1m3 : Method := { name := "hit", desc := "([BIII)Z", sig := { parameters := [(.array .byte), .int, .int, .int], returnType := some .boolean }, accessFlags := 10, code := some k1c3 }
/-- com/example/loop1/loop1/http/HttpSyntaxLineFeedPinLaw -/
def k1 : Class := { plain "com/example/loop1/loop1/http/HttpSyntaxLineFeedPinLaw" (some 0) with
  accessFlags := 49
  interfaces := #[]
  cf := some (fileOf pool1 8 #[] #[{ accessFlags := 1, nameIndex := 5, descriptorIndex := 6, attributes := #[] }, { accessFlags := 9, nameIndex := 26, descriptorIndex := 27, attributes := #[] }, { accessFlags := 10, nameIndex := 11, descriptorIndex := 12, attributes := #[] }, { accessFlags := 10, nameIndex := 16, descriptorIndex := 17, attributes := #[] }] 49 2 #[] #[])
  fields := #[]
  methods := #[k1m0, k1m1, k1m2, k1m3]
  instanceTypes := #[]
  staticTypes := #[]
  resolved := Array.replicate 33 none
  statics := none }

def pool2 : Array CpInfo := pool [(2, .class_ 4), (1, u "java/lang/Object"), (0, u "<init>"), (0, u "()V"), (1, .class_ 10), (1, u "com/example/loop1/loop1/http/HttpSyntax"), (25, u "TOKEN_CHARS"), (0, u "[Z"), (11, u "HTTP1_VERSIONS"), (0, u "[Ljava/lang/String;"), (45, u "DAY_NAMES"), (20, u "MONTH_NAMES"), (22, u "([BII)I"), (31, u "HTTP1_VERSION_BYTES"), (0, u "I"), (42, u "HTTP1_PREFIX"), (0, u "Ljava/lang/String;"), (1, u "MESSAGE_ROOM_BYTES"), (3, u "lineFeed")] 43

def k2m0 : Method := { name := "<init>", desc := "()V", sig := { parameters := [], returnType := none }, accessFlags := 2, code := none }
def k2c1 : Code := { maxStack := 2, maxLocals := 4, code := prog_40_method_2_code, exceptionTable := #[], attributes := #[] }
def k2m1 : Method := { name := "lineFeed", desc := "([BII)I", sig := { parameters := [(.array .byte), .int, .int], returnType := some .int }, accessFlags := 8, code := some k2c1 }
/-- com/example/loop1/loop1/http/HttpSyntax -/
def k2 : Class := { plain "com/example/loop1/loop1/http/HttpSyntax" (some 0) with
  accessFlags := 32
  interfaces := #[]
  cf := some (fileOf pool2 8 #[] #[{ accessFlags := 2, nameIndex := 5, descriptorIndex := 6, attributes := #[] }, { accessFlags := 8, nameIndex := 223, descriptorIndex := 140, attributes := #[] }] 32 2 #[] #[{ accessFlags := 26, nameIndex := 36, descriptorIndex := 37, attributes := #[] }, { accessFlags := 26, nameIndex := 216, descriptorIndex := 217, attributes := #[] }, { accessFlags := 24, nameIndex := 172, descriptorIndex := 173, attributes := #[] }, { accessFlags := 26, nameIndex := 49, descriptorIndex := 50, attributes := #[] }, { accessFlags := 26, nameIndex := 96, descriptorIndex := 50, attributes := #[] }, { accessFlags := 26, nameIndex := 117, descriptorIndex := 50, attributes := #[] }, { accessFlags := 26, nameIndex := 219, descriptorIndex := 173, attributes := #[] }])
  fields := #[{ name := "TOKEN_CHARS", type := (.array .boolean), accessFlags := 26, slot := 0, constantValue := 0 }, { name := "HTTP1_PREFIX", type := (.object "java/lang/String"), accessFlags := 26, slot := 1, constantValue := 0 }, { name := "HTTP1_VERSION_BYTES", type := .int, accessFlags := 24, slot := 2, constantValue := 0 }, { name := "HTTP1_VERSIONS", type := (.array (.object "java/lang/String")), accessFlags := 26, slot := 3, constantValue := 0 }, { name := "DAY_NAMES", type := (.array (.object "java/lang/String")), accessFlags := 26, slot := 4, constantValue := 0 }, { name := "MONTH_NAMES", type := (.array (.object "java/lang/String")), accessFlags := 26, slot := 5, constantValue := 0 }, { name := "MESSAGE_ROOM_BYTES", type := .int, accessFlags := 26, slot := 6, constantValue := 0 }]
  methods := #[k2m0, k2m1]
  instanceTypes := #[]
  staticTypes := #[(.array .boolean), (.object "java/lang/String"), .int, (.array (.object "java/lang/String")), (.array (.object "java/lang/String")), (.array (.object "java/lang/String")), .int]
  resolved := Array.replicate 267 none
  statics := none }

def pool3 : Array CpInfo := pool [(1, u "java/lang/Cloneable"), (0, .class_ 1), (0, u "java/lang/Object"), (0, .class_ 3)] 3

/-- java/lang/Cloneable -/
def k3 : Class := { plain "java/lang/Cloneable" (some 0) with
  accessFlags := 1537
  interfaces := #[]
  cf := some (fileOf pool3 2 #[] #[] 1537 4 #[] #[])
  fields := #[]
  methods := #[]
  instanceTypes := #[]
  staticTypes := #[]
  resolved := Array.replicate 8 none
  statics := none }

def pool4 : Array CpInfo := pool [(1, u "java/io/Serializable"), (0, .class_ 1), (0, u "java/lang/Object"), (0, .class_ 3)] 3

/-- java/io/Serializable -/
def k4 : Class := { plain "java/io/Serializable" (some 0) with
  accessFlags := 1537
  interfaces := #[]
  cf := some (fileOf pool4 2 #[] #[] 1537 4 #[] #[])
  fields := #[]
  methods := #[]
  instanceTypes := #[]
  staticTypes := #[]
  resolved := Array.replicate 8 none
  statics := none }

/-- the primitive byte -/
def k5 : Class := { plain "byte" none with kind := .primitive 'B', accessFlags := 0x411 }
/-- [B -/
def k6 : Class := { plain "[B" (some 0) with kind := .array 5 .byte, interfaces := #[3, 4], accessFlags := 1041 }

/-- the primitive int -/
def k7 : Class := { plain "int" none with kind := .primitive 'I', accessFlags := 0x411 }
/-- [I -/
def k8 : Class := { plain "[I" (some 0) with kind := .array 7 .int, interfaces := #[3, 4], accessFlags := 1041 }

def heap : Heap := #[]
def classes : Array Class := #[k0, k1, k2, k3, k4, k5, k6, k7, k8]
def interned : List (Array UInt16 × Addr) := []
def slotsUsed : Nat := 0
def theMethod : MethodId := ⟨1, 1⟩
def args0 : Array Value := #[.int 5, .int 6, .int 0, .int 3]
def aboutOver (below : List Frame) : State where
  vm := { classes := classes, interned := interned.toArray }
  heap := heap
  slotsUsed := slotsUsed
  threads := #[{ frames := .invoking theMethod args0 :: below }]
def below0 : List Frame := [.native { method := ⟨0, 0⟩, args := #[] }]
def about1 : State := aboutOver below0
def p0 : Program := .bare "" "" ""
def e0 : Env := launch0.env 0 0 0
theorem w_frames : about1.frames = Frame.invoking theMethod args0 :: below0 := rfl
set_option maxRecDepth 65536 in
theorem w_args : argsFit about1.vm theMethod args0 = true := by decide +kernel
set_option maxRecDepth 65536 in
theorem w_heap : heapFits about1 = true := by decide +kernel
set_option maxRecDepth 65536 in
theorem w_runnable : about1.curStatus? = some .runnable := by decide +kernel
set_option maxRecDepth 65536 in
theorem w_alone : about1.alone = true := by decide +kernel
set_option maxRecDepth 65536 in
theorem w_named : about1.methodNamed? x = some theMethod := by decide +kernel
set_option maxRecDepth 65536 in
theorem w_hears : about1.hears theMethod below0 = true := by decide +kernel
set_option maxRecDepth 65536 in
theorem w_ripe : about1.ripe theMethod args0 below0 = true := by decide +kernel
theorem w_running : about1.status = .running := rfl
set_option maxRecDepth 65536 in
theorem w_room : about1.hasRoom e0.platform room_1 = true :=
  launch0.hasRoom_least _ room_1 (by decide +kernel) (by decide +kernel) (by decide +kernel) (by decide +kernel) (by decide +kernel) (by decide +kernel)
theorem allAtoms_all (ts : List Jvm.Cond) (a : Array Jvm.Value) (st : Jvm.State) : (allAtoms ts).before a st = ts.all (fun c => c.before a st) := by
  induction ts with
  | nil => rfl
  | cons c t ih =>
    show (Jvm.Cond.and c (allAtoms t)).before a st = _
    rw [Jvm.Cond.before_and, ih, List.all_cons]
def words1 : List Jvm.Cond := Jvm.Cond.code x code maxLocals ret :: tables_1
/-- a 'code' word, met by the world's own term for the bytes: nothing is compared byte by byte -/
theorem code_word {y : MethodName} {bytes : ByteArray} {mx : Nat} {rt : Option FieldType} {a : Array Value} {s : State} {m : MethodId} {meth : Method} {c : Code} (h1 : s.methodNamed? y = some m) (h2 : s.vm.method? m = some meth) (h3 : meth.code = some c) (h4 : c.code = bytes)
    (h5 : (c.maxLocals == mx && c.exceptionTable.isEmpty && decide (c.maxStack ≤ mostOperands) && decide (meth.sig.returnType = rt) && !meth.locks && decide (parseMethodDescriptor y.desc = some meth.sig)) = true) : (Jvm.Cond.code y bytes mx rt).before a s = true := by
  simp only [Bool.and_eq_true, beq_iff_eq, Bool.not_eq_true', decide_eq_true_eq] at h5
  obtain ⟨⟨⟨⟨⟨g1, g2⟩, g3⟩, g4⟩, g5⟩, g6⟩ := h5
  simp [Cond.before, Cond.holds, Cond.value, h1, h2, h3, h4, g1, g2, g3, g4, g5, g6]
def isCode : Jvm.Cond → Bool
  | .code _ _ _ _ => true
  | _ => false
theorem all_split {L : List Jvm.Cond} {P : Jvm.Cond → Bool} (h1 : L.all (fun c => isCode c || P c) = true) (h2 : ∀ c ∈ L.filter isCode, P c = true) : L.all P = true := by
  refine List.all_eq_true.mpr fun c hc => ?_
  have h := List.all_eq_true.mp h1 c hc
  rcases Bool.eq_false_or_eq_true (isCode c) with hi | hi
  · exact h2 c (List.mem_filter.mpr ⟨hc, hi⟩)
  · simpa [hi] using h
set_option maxRecDepth 65536 in
theorem w_c0 : (Jvm.Cond.code x code maxLocals ret).before args0 about1 = true := code_word (m := ⟨1, 1⟩) (meth := k1m1) (c := k1c1) (by decide +kernel) rfl rfl rfl (by decide +kernel)
set_option maxRecDepth 65536 in
theorem w_c1 : (Jvm.Cond.code ({ cls := "com/example/loop1/loop1/http/HttpSyntaxLineFeedPinLaw", name := "pick", desc := "(III)B" } : Jvm.MethodName) method_3_code (3 : Nat) (Option.some Jvm.ClassFile.FieldType.byte)).before args0 about1 = true := code_word (m := ⟨1, 2⟩) (meth := k1m2) (c := k1c2) (by decide +kernel) rfl rfl rfl (by decide +kernel)
set_option maxRecDepth 65536 in
theorem w_c2 : (Jvm.Cond.code ({ cls := "com/example/loop1/loop1/http/HttpSyntaxLineFeedPinLaw", name := "hit", desc := "([BIII)Z" } : Jvm.MethodName) method_4_code (4 : Nat) (Option.some Jvm.ClassFile.FieldType.boolean)).before args0 about1 = true := code_word (m := ⟨1, 3⟩) (meth := k1m3) (c := k1c3) (by decide +kernel) rfl rfl rfl (by decide +kernel)
set_option maxRecDepth 65536 in
theorem w_c3 : (Jvm.Cond.code ({ cls := "com/example/loop1/loop1/http/HttpSyntax", name := "lineFeed", desc := "([BII)I" } : Jvm.MethodName) prog_40_method_2_code (4 : Nat) (Option.some Jvm.ClassFile.FieldType.int)).before args0 about1 = true := code_word (m := ⟨2, 1⟩) (meth := k2m1) (c := k2c1) (by decide +kernel) rfl rfl rfl (by decide +kernel)
def codes1 : List Jvm.Cond := [Jvm.Cond.code x code maxLocals ret, Jvm.Cond.code ({ cls := "com/example/loop1/loop1/http/HttpSyntaxLineFeedPinLaw", name := "pick", desc := "(III)B" } : Jvm.MethodName) method_3_code (3 : Nat) (Option.some Jvm.ClassFile.FieldType.byte), Jvm.Cond.code ({ cls := "com/example/loop1/loop1/http/HttpSyntaxLineFeedPinLaw", name := "hit", desc := "([BIII)Z" } : Jvm.MethodName) method_4_code (4 : Nat) (Option.some Jvm.ClassFile.FieldType.boolean), Jvm.Cond.code ({ cls := "com/example/loop1/loop1/http/HttpSyntax", name := "lineFeed", desc := "([BII)I" } : Jvm.MethodName) prog_40_method_2_code (4 : Nat) (Option.some Jvm.ClassFile.FieldType.int)]
set_option maxRecDepth 65536 in
theorem codes_eq : words1.filter isCode = codes1 := rfl
theorem w_codes : ∀ c ∈ words1.filter isCode, c.before args0 about1 = true := by
  rw [codes_eq]
  intro c hc
  simp only [codes1, List.mem_cons, List.not_mem_nil, or_false] at hc
  rcases hc with rfl | rfl | rfl | rfl
  · exact w_c0
  · exact w_c1
  · exact w_c2
  · exact w_c3
set_option maxRecDepth 65536 in
theorem w_t1 : words1.all (fun c => isCode c || c.before args0 about1) = true := by decide +kernel
theorem w_tables : (allAtoms (Jvm.Cond.code x code maxLocals ret :: tables_1)).before args0 about1 = true := by
  rw [allAtoms_all]
  show words1.all (fun c => c.before args0 about1) = true
  refine all_split ?_ w_codes
  rw [w_t1]
set_option maxRecDepth 65536 in
theorem w_case : (Jvm.Cond.and given_1 narrow_1).before args0 about1 = true := by decide +kernel
theorem w_applies : (headSpec (Jvm.Cond.code x code maxLocals ret :: tables_1) room_1).applies x e0.platform about1 = true :=
  (Spec.applies_iff w_frames).mpr ⟨w_running, w_runnable, w_alone, w_named, w_hears, w_ripe, w_room, w_tables⟩
theorem atStart : AtStart classFile x code maxLocals ret World_1 tables_1 room_1 Calls_1 rest_1 Pre_1 launch0 p0 e0 about1 theMethod args0 below0 :=
  ⟨lists_1, trivial, launch0.admits_env _ _ _, launch0.least_env, fairChoices_fair.cas, fairChoices_fair.clock, w_frames, w_args, w_heap, w_applies, trivial, trivial, w_case⟩
end start1
theorem witness_1 : WitnessClaimed_1 := ⟨start1.p0, start1.e0, start1.about1, start1.theMethod, start1.args0, start1.below0, start1.atStart⟩
end Jvm.Pilot.@@N@@
