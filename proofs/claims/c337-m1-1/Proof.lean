import JvmDerived
import JvmDerived.Pilot.@@N@@Statement
import JvmDerived.Pilot.@@N@@Code
set_option linter.unusedVariables false
set_option linter.unusedSimpArgs false
namespace Jvm.RoadKit
open Sem ClassFile Op Lib Jvm.Stand Jvm.Free Jvm.LawKit
section New
variable {p : Program} {l : Launch} {e : Env} {R : Room} {s : State} {m : MethodId} {args : Array Value} {below : List Frame} {meth : Method} {c : Code} {T : State} {locs : List Loc} {cells slots : Nat}
theorem retI (X : Stand p l e R s m args below meth c T locs cells slots) (hx : p.tables.exec = Jvm.exec) {pc : Nat} {Ls : Array Slot} {z : Int32} {rest : List Value} (hret : meth.sig.returnType = some .int) (hd : decode c.code pc = .ok (.ireturn, 1)) {fs : List Frame}
    (hl : ∀ (f : JFrame) (acts : List Action), f.method = m → f.locked = none → f.entered = [] → (doReturn e (T.setTop f) acts (some (.int z))).1 = T.setFrames fs) : Steps p.tables e below (T.setTop (mkF m pc Ls (.int z :: rest))) (T.setFrames fs) := by
  have hm' : T.vm.method? m = some meth := X.method'
  have hn : narrow .int (.int z) = .int z := rfl
  show Steps p.tables e below (T.setTop { method := m, pc := pc, locals := Ls, stack := _ :: rest, locked := none }) _
  jvm_step X.here [X.here.top, hx, hd, hm', hret, hn]
  first | (intro acts; rw [hl _ acts rfl rfl rfl]) | rw [hl _ _ rfl rfl rfl]
  exact Steps.refl _
end New
end Jvm.RoadKit
namespace Jvm.Pilot.@@N@@
open Jvm Jvm.ClassFile Sem Op Lib Jvm.Free Jvm.Stand Jvm.LawKit Jvm.RoadKit Bundle Jvm.Pilot.@@N@@.Jvm.D
theorem d2_0 : decode jdk_30_method_1_code 0 = .ok (.aload_n 0, 1) := by decide +kernel
theorem d2_1 : decode jdk_30_method_1_code 1 = .ok (.invokespecial 1, 3) := by decide +kernel
theorem d2_4 : decode jdk_30_method_1_code 4 = .ok (.return_, 1) := by decide +kernel
theorem pn_2 : plainName "java/lang/Record" = true := by first | (simp [plainName, overriddenIn]; done) | decide +kernel
theorem ef_2 (m : MethodId) (x0 : Addr) : entryFrame m #[(.ref x0)] 1 = mkF m 0 #[.val (.ref x0)] [] := by first | (simp [entryFrame, mkF, argsToLocals, Value.category]; done) | rfl
def Q2 (Z : State) (a1 : Addr) (h0 : Heap) (n0 : Nat) (v : Option Value) (h : Heap) (L : List Loc) : Prop := v = none ∧ Fr n0 L ∧ h = h0
set_option maxRecDepth 65536 in
set_option maxHeartbeats 40000000 in
theorem rm2 (l : Launch) (Z : State) (a0 : Array Value) (hw : ∀ d ∈ tables_1, d.before a0 Z = true) (ws : List Jvm.Cond) (a1 : Addr) (h0 : Heap) (n0 : Nat) (Z0 : n0 ≤ h0.size) :
    MetFree l (⟨"java/lang/Record", "<init>", "()V"⟩ : MethodName) (head1 (Jvm.Cond.code (⟨"java/lang/Record", "<init>", "()V"⟩ : MethodName) jdk_30_method_1_code 1 none :: ws) ({ frames := 1, cells := 0, slots := 0, locals := 12 } : Room)) (fun a U => a = #[(.ref a1)] ∧ Z.Warmed39 U.vm ∧ U.heap = h0) (fun _ _ _ _ _ => True) (fun _ U o U' => ∃ v L, o = .returned v ∧ Q2 Z a1 h0 n0 v U'.heap L ∧ FrameEnd U o U' L ({ frames := 1, cells := 0, slots := 0, locals := 12 } : Room).cells ({ frames := 1, cells := 0, slots := 0, locals := 12 } : Room).slots) := by
  refine MetFree.of_bodySF (plainFor_of_name pn_2) hisR ?_
  intro p e s m args below meth c s₁ Bd hml0 hP hK
  obtain ⟨rfl, hZ, hh⟩ := hP
  have hx := Bd.exec
  have hby := Bd.bytes
  have hml : c.maxLocals = 1 := hml0
  have hown : s.vm.findClass "java/lang/Record" = some m.cls := findClass_of_methodNamed Bd.named
  have hnm := (name_of_methodNamed Bd.named Bd.method).1
  have X0 : Stand p l e ({ frames := 1, cells := 0, slots := 0, locals := 12 } : Room) s m #[(.ref a1)] below meth c s₁ [] 0 0 := Stand.of_body Bd
  have e0 : s₁.heap = h0 := by rw [← hh, Bd.state]; rfl
  have N0 := Fr.nil n0
  have pre0 : ∀ t, Steps p.tables e below (s₁.setTop (mkF m 0 #[.val (.ref a1)] [])) t → Steps p.tables e below (s₁.setTop (entryFrame m #[(.ref a1)] 1)) t := fun t k => castTop (ef_2 m a1) k
  obtain ⟨T2, X2, e2, st2⟩ := initO X0 hx hZ hown (hw _ (List.mem_of_getElem? (i := 12) rfl)) (hw _ (List.mem_of_getElem? (i := 13) rfl)) (hw _ (List.mem_of_getElem? (i := 14) rfl)) e0 (g := (mkF m 1 #[.val (.ref a1)] [(.ref a1)])) rfl (by rw [hml]; rfl) rfl (hb hby d2_1) (by decide) (W := 0) (by show 2 * 0 + _ ≤ _; exact Nat.le_of_eq rfl) (by decide)
  obtain ⟨fs, hr, hrun, hended, hW, hsame⟩ := X2.leave (v := none) (fun _ => rfl)
  refine ⟨_, _, pre0 _ ?_, hrun, hended, _, _, rfl, ?_, ⟨_, rfl⟩, hW, hsame.mono (by decide) (by decide)⟩
  · show Steps p.tables e below (s₁.setTop (mkF m 0 #[.val (.ref a1)] [])) _
    refine XS.aloadN X0.here hx rfl (hb hby d2_0) rfl rfl ?_
    show Steps p.tables e below (s₁.setTop (mkF m 1 #[.val (.ref a1)] [(.ref a1)])) _
    refine st2 _ ?_
    show Steps p.tables e below (T2.setTop (mkF m 4 #[.val (.ref a1)] [])) _
    exact X2.returnOut hx Bd.returns (hb hby d2_4) hr
  · show Q2 Z a1 h0 n0 _ T2.heap _
    rw [e2]
    exact ⟨rfl, N0, rfl⟩
theorem d1_0 : decode prog_26_method_2_code 0 = .ok (.aload_n 0, 1) := by decide +kernel
theorem d1_1 : decode prog_26_method_2_code 1 = .ok (.invokespecial 1, 3) := by decide +kernel
theorem d1_4 : decode prog_26_method_2_code 4 = .ok (.aload_n 0, 1) := by decide +kernel
theorem d1_5 : decode prog_26_method_2_code 5 = .ok (.aload_n 1, 1) := by decide +kernel
theorem d1_6 : decode prog_26_method_2_code 6 = .ok (.putfield 7, 3) := by decide +kernel
theorem d1_9 : decode prog_26_method_2_code 9 = .ok (.aload_n 0, 1) := by decide +kernel
theorem d1_10 : decode prog_26_method_2_code 10 = .ok (.aload_n 2, 1) := by decide +kernel
theorem d1_11 : decode prog_26_method_2_code 11 = .ok (.putfield 13, 3) := by decide +kernel
theorem d1_14 : decode prog_26_method_2_code 14 = .ok (.aload_n 0, 1) := by decide +kernel
theorem d1_15 : decode prog_26_method_2_code 15 = .ok (.aload_n 3, 1) := by decide +kernel
theorem d1_16 : decode prog_26_method_2_code 16 = .ok (.putfield 16, 3) := by decide +kernel
theorem d1_19 : decode prog_26_method_2_code 19 = .ok (.return_, 1) := by decide +kernel
theorem pn_1 : plainName "com/example/lambdaloom/lambdaloom/ports/Items" = true := by first | (simp [plainName, overriddenIn]; done) | decide +kernel
theorem pd_1_1 : parseMethodDescriptor "()V" = some ⟨[], none⟩ := by decide +kernel
theorem ef_1 (m : MethodId) (x0 : Addr) (x1 : Addr) (x2 : Addr) (x3 : Addr) : entryFrame m #[(.ref x0), (.ref x1), (.ref x2), (.ref x3)] 4 = mkF m 0 #[.val (.ref x0), .val (.ref x1), .val (.ref x2), .val (.ref x3)] [] := by first | (simp [entryFrame, mkF, argsToLocals, Value.category]; done) | rfl
def Q1 (Z : State) (a1 : Addr) (a2 : Addr) (a3 : Addr) (a4 : Addr) (u_firsts_a1 : Value) (u_seconds_a1 : Value) (u_slots_a1 : Value) (h0 : Heap) (n0 : Nat) (v : Option Value) (h : Heap) (L : List Loc) : Prop := v = none ∧ Fr n0 L ∧ Keep h0 h [a1] ∧ Exa Z h a1 "com/example/lambdaloom/lambdaloom/ports/Items" ∧ Fld Z h a1 "com/example/lambdaloom/lambdaloom/ports/Items" "firsts" "[I" (.ref a2) ∧ Fld Z h a1 "com/example/lambdaloom/lambdaloom/ports/Items" "seconds" "[I" (.ref a3) ∧ Fld Z h a1 "com/example/lambdaloom/lambdaloom/ports/Items" "slots" "[I" (.ref a4)
set_option maxRecDepth 65536 in
set_option maxHeartbeats 40000000 in
theorem rm1 (l : Launch) (Z : State) (a0 : Array Value) (hw : ∀ d ∈ tables_1, d.before a0 Z = true) (ws : List Jvm.Cond) (a1 : Addr) (a2 : Addr) (a3 : Addr) (a4 : Addr) (u_firsts_a1 : Value) (u_seconds_a1 : Value) (u_slots_a1 : Value) (h0 : Heap) (n0 : Nat) (Z0 : n0 ≤ h0.size) (E_a1 : Exa Z h0 a1 "com/example/lambdaloom/lambdaloom/ports/Items") (F_firsts_a1 : Fld Z h0 a1 "com/example/lambdaloom/lambdaloom/ports/Items" "firsts" "[I" u_firsts_a1) (g_a1 : n0 ≤ a1) (F_seconds_a1 : Fld Z h0 a1 "com/example/lambdaloom/lambdaloom/ports/Items" "seconds" "[I" u_seconds_a1) (F_slots_a1 : Fld Z h0 a1 "com/example/lambdaloom/lambdaloom/ports/Items" "slots" "[I" u_slots_a1) :
    MetFree l (⟨"com/example/lambdaloom/lambdaloom/ports/Items", "<init>", "([I[I[I)V"⟩ : MethodName) (head1 (Jvm.Cond.code (⟨"com/example/lambdaloom/lambdaloom/ports/Items", "<init>", "([I[I[I)V"⟩ : MethodName) prog_26_method_2_code 4 none :: ws) ({ frames := 2, cells := 0, slots := 0, locals := 24 } : Room)) (fun a U => a = #[(.ref a1), (.ref a2), (.ref a3), (.ref a4)] ∧ Z.Warmed39 U.vm ∧ U.heap = h0) (fun _ _ _ _ _ => True) (fun _ U o U' => ∃ v L, o = .returned v ∧ Q1 Z a1 a2 a3 a4 u_firsts_a1 u_seconds_a1 u_slots_a1 h0 n0 v U'.heap L ∧ FrameEnd U o U' L ({ frames := 2, cells := 0, slots := 0, locals := 24 } : Room).cells ({ frames := 2, cells := 0, slots := 0, locals := 24 } : Room).slots) := by
  refine MetFree.of_bodySF (plainFor_of_name pn_1) hisR ?_
  intro p e s m args below meth c s₁ Bd hml0 hP hK
  obtain ⟨rfl, hZ, hh⟩ := hP
  have hx := Bd.exec
  have hby := Bd.bytes
  have hml : c.maxLocals = 4 := hml0
  have hown : s.vm.findClass "com/example/lambdaloom/lambdaloom/ports/Items" = some m.cls := findClass_of_methodNamed Bd.named
  have hnm := (name_of_methodNamed Bd.named Bd.method).1
  have X0 : Stand p l e ({ frames := 2, cells := 0, slots := 0, locals := 24 } : Room) s m #[(.ref a1), (.ref a2), (.ref a3), (.ref a4)] below meth c s₁ [] 0 0 := Stand.of_body Bd
  have e0 : s₁.heap = h0 := by rw [← hh, Bd.state]; rfl
  have N0 := Fr.nil n0
  have pre0 : ∀ t, Steps p.tables e below (s₁.setTop (mkF m 0 #[.val (.ref a1), .val (.ref a2), .val (.ref a3), .val (.ref a4)] [])) t → Steps p.tables e below (s₁.setTop (entryFrame m #[(.ref a1), (.ref a2), (.ref a3), (.ref a4)] 4)) t := fun t k => castTop (ef_1 m a1 a2 a3 a4) k
  obtain ⟨_, _, ⟨T5, L5, k5, n5⟩, -, X5, ⟨Lc5, hQ5, l5, y5, z5⟩, st5⟩ := X0.specialBack hx (y := (⟨"java/lang/Record", "<init>", "()V"⟩ : MethodName)) rfl hown (mvT hZ (hw _ (List.mem_of_getElem? (i := 7) rfl))) (mvT hZ (hw _ (List.mem_of_getElem? (i := 8) rfl))) (mvT hZ (hw _ (List.mem_of_getElem? (i := 11) rfl))) (by decide) (backOf (W := 0) (rm2 l Z a0 hw [] a1  h0 n0 Z0 ) hZ (hw _ (List.mem_of_getElem? (i := 11) rfl)) (hw _ (List.mem_of_getElem? (i := 10) rfl)) (by decide) (by decide)) (g := (mkF m 1 #[.val (.ref a1), .val (.ref a2), .val (.ref a3), .val (.ref a4)] [(.ref a1)])) rfl (by rw [hml]; rfl) (Steps.refl _) (a := a1) (argsL := []) (rest := []) (lenOf pd_1_1 rfl) rfl (by show 2 * 0 + _ ≤ _; exact Nat.le_of_eq rfl) (hb hby d1_1) (fun _ _ => ⟨rfl, e0, (by decide : 0 + 0 ≤ _), (by decide : 0 + 0 ≤ _)⟩)
  dsimp only [Pt.U, Pt.locs, Pt.cells, Pt.slots] at X5 l5 y5 z5 st5 hQ5
  have y5' : k5 = 0 := y5
  have z5' : n5 = 0 := z5
  clear y5 z5
  subst y5' z5'
  obtain ⟨rfl, N5q, e5q0⟩ := hQ5
  have e5q : T5.heap = h0 := e5q0
  have N5 : Fr n0 L5 := by rw [l5]; exact Fr.app N0 N5q
  obtain ⟨T6, h6, X6, e6, W6, st6⟩ := putF X5 hx hZ hown (host := "") (Or.inl (hw _ (List.mem_of_getElem? (i := 15) rfl))) Via.refl e5q F_firsts_a1 E_a1 (Or.inr ⟨(hw _ (List.mem_of_getElem? (i := 16) rfl)), rfl, hnm⟩) (hw _ (List.mem_of_getElem? (i := 2) rfl)) (ty := (.array .int)) (by decide) rfl rfl (g := (mkF m 6 #[.val (.ref a1), .val (.ref a2), .val (.ref a3), .val (.ref a4)] [(.ref a2), (.ref a1)])) rfl rfl (hb hby d1_6)
  have Fw6 := F_firsts_a1.same W6
  have K6 : Keep h0 h6 [a1] := (Keep.refl h0 [a1]).wr W6 (Or.inl (List.mem_of_getElem? (i := 0) rfl))
  have N6 := Fr.snoc X6 N5 g_a1
  obtain ⟨T7, h7, X7, e7, W7, st7⟩ := putF X6 hx hZ hown (host := "") (Or.inl (hw _ (List.mem_of_getElem? (i := 17) rfl))) Via.refl e6 (F_seconds_a1.other W6 (Or.inr (slot_ne (Or.inr (hw _ (List.mem_of_getElem? (i := 18) rfl))) (Or.inr (hw _ (List.mem_of_getElem? (i := 16) rfl))) (by decide) (t := (.array .int)) (t' := (.array .int)) (by decide) (by decide)))) (E_a1.wr W6) (Or.inr ⟨(hw _ (List.mem_of_getElem? (i := 18) rfl)), rfl, hnm⟩) (hw _ (List.mem_of_getElem? (i := 2) rfl)) (ty := (.array .int)) (by decide) rfl rfl (g := (mkF m 11 #[.val (.ref a1), .val (.ref a2), .val (.ref a3), .val (.ref a4)] [(.ref a3), (.ref a1)])) rfl rfl (hb hby d1_11)
  have Fw7 := (F_seconds_a1.other W6 (Or.inr (slot_ne (Or.inr (hw _ (List.mem_of_getElem? (i := 18) rfl))) (Or.inr (hw _ (List.mem_of_getElem? (i := 16) rfl))) (by decide) (t := (.array .int)) (t' := (.array .int)) (by decide) (by decide)))).same W7
  have K7 : Keep h0 h7 [a1] := K6.wr W7 (Or.inl (List.mem_of_getElem? (i := 0) rfl))
  have N7 := Fr.snoc X7 N6 g_a1
  obtain ⟨T8, h8, X8, e8, W8, st8⟩ := putF X7 hx hZ hown (host := "") (Or.inl (hw _ (List.mem_of_getElem? (i := 19) rfl))) Via.refl e7 ((F_slots_a1.other W6 (Or.inr (slot_ne (Or.inr (hw _ (List.mem_of_getElem? (i := 20) rfl))) (Or.inr (hw _ (List.mem_of_getElem? (i := 16) rfl))) (by decide) (t := (.array .int)) (t' := (.array .int)) (by decide) (by decide)))).other W7 (Or.inr (slot_ne (Or.inr (hw _ (List.mem_of_getElem? (i := 20) rfl))) (Or.inr (hw _ (List.mem_of_getElem? (i := 18) rfl))) (by decide) (t := (.array .int)) (t' := (.array .int)) (by decide) (by decide)))) ((E_a1.wr W6).wr W7) (Or.inr ⟨(hw _ (List.mem_of_getElem? (i := 20) rfl)), rfl, hnm⟩) (hw _ (List.mem_of_getElem? (i := 2) rfl)) (ty := (.array .int)) (by decide) rfl rfl (g := (mkF m 16 #[.val (.ref a1), .val (.ref a2), .val (.ref a3), .val (.ref a4)] [(.ref a4), (.ref a1)])) rfl rfl (hb hby d1_16)
  have Fw8 := ((F_slots_a1.other W6 (Or.inr (slot_ne (Or.inr (hw _ (List.mem_of_getElem? (i := 20) rfl))) (Or.inr (hw _ (List.mem_of_getElem? (i := 16) rfl))) (by decide) (t := (.array .int)) (t' := (.array .int)) (by decide) (by decide)))).other W7 (Or.inr (slot_ne (Or.inr (hw _ (List.mem_of_getElem? (i := 20) rfl))) (Or.inr (hw _ (List.mem_of_getElem? (i := 18) rfl))) (by decide) (t := (.array .int)) (t' := (.array .int)) (by decide) (by decide)))).same W8
  have K8 : Keep h0 h8 [a1] := K7.wr W8 (Or.inl (List.mem_of_getElem? (i := 0) rfl))
  have N8 := Fr.snoc X8 N7 g_a1
  obtain ⟨fs, hr, hrun, hended, hW, hsame⟩ := X8.leave (v := none) (fun _ => rfl)
  refine ⟨_, _, pre0 _ ?_, hrun, hended, _, _, rfl, ?_, ⟨_, rfl⟩, hW, hsame.mono (by decide) (by decide)⟩
  · show Steps p.tables e below (s₁.setTop (mkF m 0 #[.val (.ref a1), .val (.ref a2), .val (.ref a3), .val (.ref a4)] [])) _
    refine XS.aloadN X0.here hx rfl (hb hby d1_0) rfl rfl ?_
    show Steps p.tables e below (s₁.setTop (mkF m 1 #[.val (.ref a1), .val (.ref a2), .val (.ref a3), .val (.ref a4)] [(.ref a1)])) _
    refine st5.trans ?_
    show Steps p.tables e below (T5.setTop (mkF m 4 #[.val (.ref a1), .val (.ref a2), .val (.ref a3), .val (.ref a4)] [])) _
    refine XS.aloadN X5.here hx rfl (hb hby d1_4) rfl rfl ?_
    show Steps p.tables e below (T5.setTop (mkF m 5 #[.val (.ref a1), .val (.ref a2), .val (.ref a3), .val (.ref a4)] [(.ref a1)])) _
    refine XS.aloadN X5.here hx rfl (hb hby d1_5) rfl rfl ?_
    show Steps p.tables e below (T5.setTop (mkF m 6 #[.val (.ref a1), .val (.ref a2), .val (.ref a3), .val (.ref a4)] [(.ref a2), (.ref a1)])) _
    refine st6 _ ?_
    show Steps p.tables e below (T6.setTop (mkF m 9 #[.val (.ref a1), .val (.ref a2), .val (.ref a3), .val (.ref a4)] [])) _
    refine XS.aloadN X6.here hx rfl (hb hby d1_9) rfl rfl ?_
    show Steps p.tables e below (T6.setTop (mkF m 10 #[.val (.ref a1), .val (.ref a2), .val (.ref a3), .val (.ref a4)] [(.ref a1)])) _
    refine XS.aloadN X6.here hx rfl (hb hby d1_10) rfl rfl ?_
    show Steps p.tables e below (T6.setTop (mkF m 11 #[.val (.ref a1), .val (.ref a2), .val (.ref a3), .val (.ref a4)] [(.ref a3), (.ref a1)])) _
    refine st7 _ ?_
    show Steps p.tables e below (T7.setTop (mkF m 14 #[.val (.ref a1), .val (.ref a2), .val (.ref a3), .val (.ref a4)] [])) _
    refine XS.aloadN X7.here hx rfl (hb hby d1_14) rfl rfl ?_
    show Steps p.tables e below (T7.setTop (mkF m 15 #[.val (.ref a1), .val (.ref a2), .val (.ref a3), .val (.ref a4)] [(.ref a1)])) _
    refine XS.aloadN X7.here hx rfl (hb hby d1_15) rfl rfl ?_
    show Steps p.tables e below (T7.setTop (mkF m 16 #[.val (.ref a1), .val (.ref a2), .val (.ref a3), .val (.ref a4)] [(.ref a4), (.ref a1)])) _
    refine st8 _ ?_
    show Steps p.tables e below (T8.setTop (mkF m 19 #[.val (.ref a1), .val (.ref a2), .val (.ref a3), .val (.ref a4)] [])) _
    exact X8.returnOut hx Bd.returns (hb hby d1_19) hr
  · show Q1 Z a1 a2 a3 a4 u_firsts_a1 u_seconds_a1 u_slots_a1 h0 n0 _ T8.heap _
    rw [e8]
    exact ⟨rfl, N8, K8, (((E_a1.wr W6).wr W7).wr W8), ((Fw6.other W7 (Or.inr (slot_ne (Or.inr (hw _ (List.mem_of_getElem? (i := 16) rfl))) (Or.inr (hw _ (List.mem_of_getElem? (i := 18) rfl))) (by decide) (t := (.array .int)) (t' := (.array .int)) (by decide) (by decide)))).other W8 (Or.inr (slot_ne (Or.inr (hw _ (List.mem_of_getElem? (i := 16) rfl))) (Or.inr (hw _ (List.mem_of_getElem? (i := 20) rfl))) (by decide) (t := (.array .int)) (t' := (.array .int)) (by decide) (by decide)))), (Fw7.other W8 (Or.inr (slot_ne (Or.inr (hw _ (List.mem_of_getElem? (i := 18) rfl))) (Or.inr (hw _ (List.mem_of_getElem? (i := 20) rfl))) (by decide) (t := (.array .int)) (t' := (.array .int)) (by decide) (by decide)))), Fw8⟩
theorem d4_0 : decode prog_26_method_3_code 0 = .ok (.aload_n 0, 1) := by decide +kernel
theorem d4_1 : decode prog_26_method_3_code 1 = .ok (.getfield 7, 3) := by decide +kernel
theorem d4_4 : decode prog_26_method_3_code 4 = .ok (.iload_n 1, 1) := by decide +kernel
theorem d4_5 : decode prog_26_method_3_code 5 = .ok (.iload_n 2, 1) := by decide +kernel
theorem d4_6 : decode prog_26_method_3_code 6 = .ok (.iastore, 1) := by decide +kernel
theorem d4_7 : decode prog_26_method_3_code 7 = .ok (.aload_n 0, 1) := by decide +kernel
theorem d4_8 : decode prog_26_method_3_code 8 = .ok (.getfield 13, 3) := by decide +kernel
theorem d4_11 : decode prog_26_method_3_code 11 = .ok (.iload_n 1, 1) := by decide +kernel
theorem d4_12 : decode prog_26_method_3_code 12 = .ok (.iload_n 3, 1) := by decide +kernel
theorem d4_13 : decode prog_26_method_3_code 13 = .ok (.iastore, 1) := by decide +kernel
theorem d4_14 : decode prog_26_method_3_code 14 = .ok (.aload_n 0, 1) := by decide +kernel
theorem d4_15 : decode prog_26_method_3_code 15 = .ok (.getfield 16, 3) := by decide +kernel
theorem d4_18 : decode prog_26_method_3_code 18 = .ok (.iload_n 1, 1) := by decide +kernel
theorem d4_19 : decode prog_26_method_3_code 19 = .ok (.iload 4, 2) := by decide +kernel
theorem d4_21 : decode prog_26_method_3_code 21 = .ok (.iastore, 1) := by decide +kernel
theorem d4_22 : decode prog_26_method_3_code 22 = .ok (.iload_n 1, 1) := by decide +kernel
theorem d4_23 : decode prog_26_method_3_code 23 = .ok (.iconst 1, 1) := by decide +kernel
theorem d4_24 : decode prog_26_method_3_code 24 = .ok (.iadd, 1) := by decide +kernel
theorem d4_25 : decode prog_26_method_3_code 25 = .ok (.ireturn, 1) := by decide +kernel
theorem pn_4 : plainName "com/example/lambdaloom/lambdaloom/ports/Items" = true := by first | (simp [plainName, overriddenIn]; done) | decide +kernel
theorem ef_4 (m : MethodId) (x0 : Addr) (x1 : Int32) (x2 : Int32) (x3 : Int32) (x4 : Int32) : entryFrame m #[(.ref x0), (.int x1), (.int x2), (.int x3), (.int x4)] 5 = mkF m 0 #[.val (.ref x0), .val (.int x1), .val (.int x2), .val (.int x3), .val (.int x4)] [] := by first | (simp [entryFrame, mkF, argsToLocals, Value.category]; done) | rfl
def Q4 (Z : State) (a1 : Addr) (p2 : Int32) (p3 : Int32) (p4 : Int32) (p5 : Int32) (w6 : Addr) (cl_w6 : Cell) (w9 : Addr) (cl_w9 : Cell) (w12 : Addr) (cl_w12 : Cell) (h0 : Heap) (n0 : Nat) (v : Option Value) (h : Heap) (L : List Loc) : Prop := v = some (.int (p2 + (1 : Int32))) ∧ Fr n0 L ∧ Keep h0 h [w6, w9, w12] ∧ Arr Z h w6 (cl_w6.setSlot (p2).toNatClampNeg (.int p3)) .int ∧ Arr Z h w9 (cl_w9.setSlot (p2).toNatClampNeg (.int p4)) .int ∧ Arr Z h w12 (cl_w12.setSlot (p2).toNatClampNeg (.int p5)) .int
set_option maxRecDepth 65536 in
set_option maxHeartbeats 40000000 in
theorem rm4 (l : Launch) (Z : State) (a0 : Array Value) (hw : ∀ d ∈ tables_1, d.before a0 Z = true) (ws : List Jvm.Cond) (a1 : Addr) (p2 : Int32) (p3 : Int32) (p4 : Int32) (p5 : Int32) (w6 : Addr) (cl_w6 : Cell) (w9 : Addr) (cl_w9 : Cell) (w12 : Addr) (cl_w12 : Cell) (h0 : Heap) (n0 : Nat) (Z0 : n0 ≤ h0.size) (F_firsts_a1 : Fld Z h0 a1 "com/example/lambdaloom/lambdaloom/ports/Items" "firsts" "[I" (.ref w6)) (Ar_w6 : Arr Z h0 w6 cl_w6 .int) (hin6 : ¬ (p2 < 0 ∨ cl_w6.slots.size ≤ (p2).toNatClampNeg)) (g_w6 : n0 ≤ w6) (F_seconds_a1 : Fld Z h0 a1 "com/example/lambdaloom/lambdaloom/ports/Items" "seconds" "[I" (.ref w9)) (Ar_w9 : Arr Z h0 w9 cl_w9 .int) (hin13 : ¬ (p2 < 0 ∨ cl_w9.slots.size ≤ (p2).toNatClampNeg)) (g_w9 : n0 ≤ w9) (F_slots_a1 : Fld Z h0 a1 "com/example/lambdaloom/lambdaloom/ports/Items" "slots" "[I" (.ref w12)) (Ar_w12 : Arr Z h0 w12 cl_w12 .int) (hin21 : ¬ (p2 < 0 ∨ cl_w12.slots.size ≤ (p2).toNatClampNeg)) (g_w12 : n0 ≤ w12) (n1 : w6 ≠ w9) (n2 : w6 ≠ w12) (n3 : w9 ≠ w12) (n4 : a1 ≠ w6) (n5 : a1 ≠ w9) :
    MetFree l (⟨"com/example/lambdaloom/lambdaloom/ports/Items", "set", "(IIII)I"⟩ : MethodName) (head1 (Jvm.Cond.code (⟨"com/example/lambdaloom/lambdaloom/ports/Items", "set", "(IIII)I"⟩ : MethodName) prog_26_method_3_code 5 (some .int) :: ws) ({ frames := 0, cells := 0, slots := 0, locals := 0 } : Room)) (fun a U => a = #[(.ref a1), (.int p2), (.int p3), (.int p4), (.int p5)] ∧ Z.Warmed39 U.vm ∧ U.heap = h0) (fun _ _ _ _ _ => True) (fun _ U o U' => ∃ v L, o = .returned v ∧ Q4 Z a1 p2 p3 p4 p5 w6 cl_w6 w9 cl_w9 w12 cl_w12 h0 n0 v U'.heap L ∧ FrameEnd U o U' L ({ frames := 0, cells := 0, slots := 0, locals := 0 } : Room).cells ({ frames := 0, cells := 0, slots := 0, locals := 0 } : Room).slots) := by
  refine MetFree.of_bodySF (plainFor_of_name pn_4) hisR ?_
  intro p e s m args below meth c s₁ Bd hml0 hP hK
  obtain ⟨rfl, hZ, hh⟩ := hP
  have hx := Bd.exec
  have hby := Bd.bytes
  have hml : c.maxLocals = 5 := hml0
  have hown : s.vm.findClass "com/example/lambdaloom/lambdaloom/ports/Items" = some m.cls := findClass_of_methodNamed Bd.named
  have hnm := (name_of_methodNamed Bd.named Bd.method).1
  have X0 : Stand p l e ({ frames := 0, cells := 0, slots := 0, locals := 0 } : Room) s m #[(.ref a1), (.int p2), (.int p3), (.int p4), (.int p5)] below meth c s₁ [] 0 0 := Stand.of_body Bd
  have e0 : s₁.heap = h0 := by rw [← hh, Bd.state]; rfl
  have N0 := Fr.nil n0
  have pre0 : ∀ t, Steps p.tables e below (s₁.setTop (mkF m 0 #[.val (.ref a1), .val (.int p2), .val (.int p3), .val (.int p4), .val (.int p5)] [])) t → Steps p.tables e below (s₁.setTop (entryFrame m #[(.ref a1), (.int p2), (.int p3), (.int p4), (.int p5)] 5)) t := fun t k => castTop (ef_4 m a1 p2 p3 p4 p5) k
  obtain ⟨T7, X7, e7, st7⟩ := getF X0 hx hZ hown (host := "") (Or.inl (hw _ (List.mem_of_getElem? (i := 15) rfl))) Via.refl e0 F_firsts_a1 (g := (mkF m 1 #[.val (.ref a1), .val (.int p2), .val (.int p3), .val (.int p4), .val (.int p5)] [(.ref a1)])) rfl rfl (hb hby d4_1)
  obtain ⟨T8, h8, X8, e8, W8, st8⟩ := stI X7 hx hZ e7 Ar_w6 (j := p2) hin6 (g := (mkF m 6 #[.val (.ref a1), .val (.int p2), .val (.int p3), .val (.int p4), .val (.int p5)] [(.int p3), (.int p2), (.ref w6)])) rfl rfl (hb hby d4_6)
  have N8 := Fr.snoc X8 N0 g_w6
  have K8 : Keep h0 h8 [w6, w9, w12] := (Keep.refl h0 [w6, w9, w12]).wr W8 (Or.inl (List.mem_of_getElem? (i := 0) rfl))
  obtain ⟨T10, X10, e10, st10⟩ := getF X8 hx hZ hown (host := "") (Or.inl (hw _ (List.mem_of_getElem? (i := 17) rfl))) Via.refl e8 (F_seconds_a1.other W8 (Or.inl n4)) (g := (mkF m 8 #[.val (.ref a1), .val (.int p2), .val (.int p3), .val (.int p4), .val (.int p5)] [(.ref a1)])) rfl rfl (hb hby d4_8)
  obtain ⟨T11, h11, X11, e11, W11, st11⟩ := stI X10 hx hZ e10 (Ar_w9.other W8 (Ne.symm n1)) (j := p2) hin13 (g := (mkF m 13 #[.val (.ref a1), .val (.int p2), .val (.int p3), .val (.int p4), .val (.int p5)] [(.int p4), (.int p2), (.ref w9)])) rfl rfl (hb hby d4_13)
  have N11 := Fr.snoc X11 N8 g_w9
  have K11 : Keep h0 h11 [w6, w9, w12] := K8.wr W11 (Or.inl (List.mem_of_getElem? (i := 1) rfl))
  obtain ⟨T13, X13, e13, st13⟩ := getF X11 hx hZ hown (host := "") (Or.inl (hw _ (List.mem_of_getElem? (i := 19) rfl))) Via.refl e11 ((F_slots_a1.other W8 (Or.inl n4)).other W11 (Or.inl n5)) (g := (mkF m 15 #[.val (.ref a1), .val (.int p2), .val (.int p3), .val (.int p4), .val (.int p5)] [(.ref a1)])) rfl rfl (hb hby d4_15)
  obtain ⟨T14, h14, X14, e14, W14, st14⟩ := stI X13 hx hZ e13 ((Ar_w12.other W8 (Ne.symm n2)).other W11 (Ne.symm n3)) (j := p2) hin21 (g := (mkF m 21 #[.val (.ref a1), .val (.int p2), .val (.int p3), .val (.int p4), .val (.int p5)] [(.int p5), (.int p2), (.ref w12)])) rfl rfl (hb hby d4_21)
  have N14 := Fr.snoc X14 N11 g_w12
  have K14 : Keep h0 h14 [w6, w9, w12] := K11.wr W14 (Or.inl (List.mem_of_getElem? (i := 2) rfl))
  obtain ⟨fs, hr, hrun, hended, hW, hsame⟩ := X14.leave (v := some (.int (p2 + (1 : Int32)))) (fun h => by rw [Bd.returns] at h; cases h)
  refine ⟨_, _, pre0 _ ?_, hrun, hended, _, _, rfl, ?_, ⟨_, rfl⟩, hW, hsame.mono (by decide) (by decide)⟩
  · show Steps p.tables e below (s₁.setTop (mkF m 0 #[.val (.ref a1), .val (.int p2), .val (.int p3), .val (.int p4), .val (.int p5)] [])) _
    refine XS.aloadN X0.here hx rfl (hb hby d4_0) rfl rfl ?_
    show Steps p.tables e below (s₁.setTop (mkF m 1 #[.val (.ref a1), .val (.int p2), .val (.int p3), .val (.int p4), .val (.int p5)] [(.ref a1)])) _
    refine st7 _ ?_
    show Steps p.tables e below (T7.setTop (mkF m 4 #[.val (.ref a1), .val (.int p2), .val (.int p3), .val (.int p4), .val (.int p5)] [(.ref w6)])) _
    refine XS.iloadN X7.here hx rfl (hb hby d4_4) rfl ?_
    show Steps p.tables e below (T7.setTop (mkF m 5 #[.val (.ref a1), .val (.int p2), .val (.int p3), .val (.int p4), .val (.int p5)] [(.int p2), (.ref w6)])) _
    refine XS.iloadN X7.here hx rfl (hb hby d4_5) rfl ?_
    show Steps p.tables e below (T7.setTop (mkF m 6 #[.val (.ref a1), .val (.int p2), .val (.int p3), .val (.int p4), .val (.int p5)] [(.int p3), (.int p2), (.ref w6)])) _
    refine st8 _ ?_
    show Steps p.tables e below (T8.setTop (mkF m 7 #[.val (.ref a1), .val (.int p2), .val (.int p3), .val (.int p4), .val (.int p5)] [])) _
    refine XS.aloadN X8.here hx rfl (hb hby d4_7) rfl rfl ?_
    show Steps p.tables e below (T8.setTop (mkF m 8 #[.val (.ref a1), .val (.int p2), .val (.int p3), .val (.int p4), .val (.int p5)] [(.ref a1)])) _
    refine st10 _ ?_
    show Steps p.tables e below (T10.setTop (mkF m 11 #[.val (.ref a1), .val (.int p2), .val (.int p3), .val (.int p4), .val (.int p5)] [(.ref w9)])) _
    refine XS.iloadN X10.here hx rfl (hb hby d4_11) rfl ?_
    show Steps p.tables e below (T10.setTop (mkF m 12 #[.val (.ref a1), .val (.int p2), .val (.int p3), .val (.int p4), .val (.int p5)] [(.int p2), (.ref w9)])) _
    refine XS.iloadN X10.here hx rfl (hb hby d4_12) rfl ?_
    show Steps p.tables e below (T10.setTop (mkF m 13 #[.val (.ref a1), .val (.int p2), .val (.int p3), .val (.int p4), .val (.int p5)] [(.int p4), (.int p2), (.ref w9)])) _
    refine st11 _ ?_
    show Steps p.tables e below (T11.setTop (mkF m 14 #[.val (.ref a1), .val (.int p2), .val (.int p3), .val (.int p4), .val (.int p5)] [])) _
    refine XS.aloadN X11.here hx rfl (hb hby d4_14) rfl rfl ?_
    show Steps p.tables e below (T11.setTop (mkF m 15 #[.val (.ref a1), .val (.int p2), .val (.int p3), .val (.int p4), .val (.int p5)] [(.ref a1)])) _
    refine st13 _ ?_
    show Steps p.tables e below (T13.setTop (mkF m 18 #[.val (.ref a1), .val (.int p2), .val (.int p3), .val (.int p4), .val (.int p5)] [(.ref w12)])) _
    refine XS.iloadN X13.here hx rfl (hb hby d4_18) rfl ?_
    show Steps p.tables e below (T13.setTop (mkF m 19 #[.val (.ref a1), .val (.int p2), .val (.int p3), .val (.int p4), .val (.int p5)] [(.int p2), (.ref w12)])) _
    refine XS.iload X13.here hx rfl (hb hby d4_19) rfl ?_
    show Steps p.tables e below (T13.setTop (mkF m 21 #[.val (.ref a1), .val (.int p2), .val (.int p3), .val (.int p4), .val (.int p5)] [(.int p5), (.int p2), (.ref w12)])) _
    refine st14 _ ?_
    show Steps p.tables e below (T14.setTop (mkF m 22 #[.val (.ref a1), .val (.int p2), .val (.int p3), .val (.int p4), .val (.int p5)] [])) _
    refine XS.iloadN X14.here hx rfl (hb hby d4_22) rfl ?_
    show Steps p.tables e below (T14.setTop (mkF m 23 #[.val (.ref a1), .val (.int p2), .val (.int p3), .val (.int p4), .val (.int p5)] [(.int p2)])) _
    refine XS.iconst X14.here hx rfl (hb hby d4_23) ?_
    show Steps p.tables e below (T14.setTop (mkF m 24 #[.val (.ref a1), .val (.int p2), .val (.int p3), .val (.int p4), .val (.int p5)] [(.int (1 : Int32)), (.int p2)])) _
    refine XS.iadd X14.here hx rfl (hb hby d4_24) rfl ?_
    show Steps p.tables e below (T14.setTop (mkF m 25 #[.val (.ref a1), .val (.int p2), .val (.int p3), .val (.int p4), .val (.int p5)] [(.int (p2 + (1 : Int32)))])) _
    exact retI X14 hx Bd.returns (hb hby d4_25) hr
  · show Q4 Z a1 p2 p3 p4 p5 w6 cl_w6 w9 cl_w9 w12 cl_w12 h0 n0 _ T14.heap _
    rw [e14]
    exact ⟨rfl, N14, K14, ((Ar_w6.same W8).other W11 n1).other W14 n2, ((Ar_w9.other W8 (Ne.symm n1)).same W11).other W14 n3, ((Ar_w12.other W8 (Ne.symm n2)).other W11 (Ne.symm n3)).same W14⟩
theorem d5_0 : decode prog_26_method_4_code 0 = .ok (.aload_n 0, 1) := by decide +kernel
theorem d5_1 : decode prog_26_method_4_code 1 = .ok (.getfield 16, 3) := by decide +kernel
theorem d5_4 : decode prog_26_method_4_code 4 = .ok (.arraylength, 1) := by decide +kernel
theorem d5_5 : decode prog_26_method_4_code 5 = .ok (.ireturn, 1) := by decide +kernel
theorem pn_5 : plainName "com/example/lambdaloom/lambdaloom/ports/Items" = true := by first | (simp [plainName, overriddenIn]; done) | decide +kernel
theorem ef_5 (m : MethodId) (x0 : Addr) : entryFrame m #[(.ref x0)] 1 = mkF m 0 #[.val (.ref x0)] [] := by first | (simp [entryFrame, mkF, argsToLocals, Value.category]; done) | rfl
def Q5 (r : Int32) (n0 : Nat) (h0 : Heap) (v : Option Value) (h : Heap) (L : List Loc) : Prop := v = some (.int r) ∧ Fr n0 L ∧ h = h0
set_option maxRecDepth 65536 in
set_option maxHeartbeats 40000000 in
theorem rm5_x (l : Launch) (Z : State) (a0 : Array Value) (hw : ∀ d ∈ tables_1, d.before a0 Z = true) (ws : List Jvm.Cond) (a1 : Addr) (w2 : Addr) (cl_w2 : Cell) (z_w2 : Int32) (h0 : Heap) (n0 : Nat) (Z0 : n0 ≤ h0.size) (F_slots_a1 : Fld Z h0 a1 "com/example/lambdaloom/lambdaloom/ports/Items" "slots" "[I" (.ref w2)) (Ar_w2 : Arr Z h0 w2 cl_w2 .int) (S_w2 : cl_w2.slots.size = z_w2.toNatClampNeg) (N_w2 : ¬ z_w2 < 0) :
    MetFree l (⟨"com/example/lambdaloom/lambdaloom/ports/Items", "count", "()I"⟩ : MethodName) (head1 (Jvm.Cond.code (⟨"com/example/lambdaloom/lambdaloom/ports/Items", "count", "()I"⟩ : MethodName) prog_26_method_4_code 1 (some .int) :: ws) ({ frames := 0, cells := 0, slots := 0, locals := 0 } : Room)) (fun a U => a = #[(.ref a1)] ∧ Z.Warmed39 U.vm ∧ U.heap = h0) (fun _ _ _ _ _ => True) (fun _ U o U' => ∃ v L, o = .returned v ∧ Q5 z_w2 n0 h0 v U'.heap L ∧ FrameEnd U o U' L ({ frames := 0, cells := 0, slots := 0, locals := 0 } : Room).cells ({ frames := 0, cells := 0, slots := 0, locals := 0 } : Room).slots) := by
  refine MetFree.of_bodySF (plainFor_of_name pn_5) hisR ?_
  intro p e s m args below meth c s₁ Bd hml0 hP hK
  obtain ⟨rfl, hZ, hh⟩ := hP
  have hx := Bd.exec
  have hby := Bd.bytes
  have hml : c.maxLocals = 1 := hml0
  have hown : s.vm.findClass "com/example/lambdaloom/lambdaloom/ports/Items" = some m.cls := findClass_of_methodNamed Bd.named
  have hnm := (name_of_methodNamed Bd.named Bd.method).1
  have X0 : Stand p l e ({ frames := 0, cells := 0, slots := 0, locals := 0 } : Room) s m #[(.ref a1)] below meth c s₁ [] 0 0 := Stand.of_body Bd
  have e0 : s₁.heap = h0 := by rw [← hh, Bd.state]; rfl
  have N0 := Fr.nil n0
  have pre0 : ∀ t, Steps p.tables e below (s₁.setTop (mkF m 0 #[.val (.ref a1)] [])) t → Steps p.tables e below (s₁.setTop (entryFrame m #[(.ref a1)] 1)) t := fun t k => castTop (ef_5 m a1) k
  obtain ⟨T3, X3, e3, st3⟩ := getF X0 hx hZ hown (host := "") (Or.inl (hw _ (List.mem_of_getElem? (i := 19) rfl))) Via.refl e0 F_slots_a1 (g := (mkF m 1 #[.val (.ref a1)] [(.ref a1)])) rfl rfl (hb hby d5_1)
  obtain ⟨fs, hr, hrun, hended, hW, hsame⟩ := X3.leave (v := some (.int z_w2)) (fun h => by rw [Bd.returns] at h; cases h)
  refine ⟨_, _, pre0 _ ?_, hrun, hended, _, _, rfl, ?_, ⟨_, rfl⟩, hW, hsame.mono (by decide) (by decide)⟩
  · show Steps p.tables e below (s₁.setTop (mkF m 0 #[.val (.ref a1)] [])) _
    refine XS.aloadN X0.here hx rfl (hb hby d5_0) rfl rfl ?_
    show Steps p.tables e below (s₁.setTop (mkF m 1 #[.val (.ref a1)] [(.ref a1)])) _
    refine st3 _ ?_
    show Steps p.tables e below (T3.setTop (mkF m 4 #[.val (.ref a1)] [(.ref w2)])) _
    refine X3.arraylength hx (by rw [e3]; exact Ar_w2.1) (State.isArrayOf_alike hZ.alike Ar_w2.2.1) (g := (mkF m 4 #[.val (.ref a1)] [(.ref w2)])) rfl rfl (hb hby d5_4) _ ?_
    rw [len_of S_w2 N_w2]
    show Steps p.tables e below (T3.setTop (mkF m 5 #[.val (.ref a1)] [(.int z_w2)])) _
    exact retI X3 hx Bd.returns (hb hby d5_5) hr
  · show Q5 z_w2 n0 h0 _ T3.heap _
    rw [e3]
    exact ⟨rfl, N0, rfl⟩
def own_f5 (a1 : Addr) (w2 : Addr) (cl_w2 : Cell) (z_w2 : Int32) : Int32 := z_w2
set_option maxRecDepth 65536 in
theorem rm5 (l : Launch) (Z : State) (a0 : Array Value) (hw : ∀ d ∈ tables_1, d.before a0 Z = true) (ws : List Jvm.Cond) (a1 : Addr) (w2 : Addr) (cl_w2 : Cell) (z_w2 : Int32) (h0 : Heap) (n0 : Nat) (Z0 : n0 ≤ h0.size) (F_slots_a1 : Fld Z h0 a1 "com/example/lambdaloom/lambdaloom/ports/Items" "slots" "[I" (.ref w2)) (Ar_w2 : Arr Z h0 w2 cl_w2 .int) (S_w2 : cl_w2.slots.size = z_w2.toNatClampNeg) (N_w2 : ¬ z_w2 < 0) :
    MetFree l (⟨"com/example/lambdaloom/lambdaloom/ports/Items", "count", "()I"⟩ : MethodName) (head1 (Jvm.Cond.code (⟨"com/example/lambdaloom/lambdaloom/ports/Items", "count", "()I"⟩ : MethodName) prog_26_method_4_code 1 (some .int) :: ws) ({ frames := 0, cells := 0, slots := 0, locals := 0 } : Room)) (fun a U => a = #[(.ref a1)] ∧ Z.Warmed39 U.vm ∧ U.heap = h0) (fun _ _ _ _ _ => True) (fun _ U o U' => ∃ v L, o = .returned v ∧ Q5 (own_f5 a1 w2 cl_w2 z_w2) n0 h0 v U'.heap L ∧ FrameEnd U o U' L ({ frames := 0, cells := 0, slots := 0, locals := 0 } : Room).cells ({ frames := 0, cells := 0, slots := 0, locals := 0 } : Room).slots) := by
  rw [show own_f5 a1 w2 cl_w2 z_w2 = z_w2 from by rw [own_f5]]
  exact rm5_x l Z a0 hw ws a1 w2 cl_w2 z_w2 h0 n0 Z0 F_slots_a1 Ar_w2 S_w2 N_w2
theorem d6_0 : decode prog_26_method_8_code 0 = .ok (.aload_n 0, 1) := by decide +kernel
theorem d6_1 : decode prog_26_method_8_code 1 = .ok (.getfield 7, 3) := by decide +kernel
theorem d6_4 : decode prog_26_method_8_code 4 = .ok (.areturn, 1) := by decide +kernel
theorem pn_6 : plainName "com/example/lambdaloom/lambdaloom/ports/Items" = true := by first | (simp [plainName, overriddenIn]; done) | decide +kernel
theorem ef_6 (m : MethodId) (x0 : Addr) : entryFrame m #[(.ref x0)] 1 = mkF m 0 #[.val (.ref x0)] [] := by first | (simp [entryFrame, mkF, argsToLocals, Value.category]; done) | rfl
def Q6 (r : Addr) (n0 : Nat) (h0 : Heap) (v : Option Value) (h : Heap) (L : List Loc) : Prop := v = some (.ref r) ∧ Fr n0 L ∧ h = h0
set_option maxRecDepth 65536 in
set_option maxHeartbeats 40000000 in
theorem rm6_x (l : Launch) (Z : State) (a0 : Array Value) (hw : ∀ d ∈ tables_1, d.before a0 Z = true) (ws : List Jvm.Cond) (a1 : Addr) (w2 : Addr) (h0 : Heap) (n0 : Nat) (Z0 : n0 ≤ h0.size) (F_firsts_a1 : Fld Z h0 a1 "com/example/lambdaloom/lambdaloom/ports/Items" "firsts" "[I" (.ref w2)) :
    MetFree l (⟨"com/example/lambdaloom/lambdaloom/ports/Items", "firsts", "()[I"⟩ : MethodName) (head1 (Jvm.Cond.code (⟨"com/example/lambdaloom/lambdaloom/ports/Items", "firsts", "()[I"⟩ : MethodName) prog_26_method_8_code 1 (some (.array .int)) :: ws) ({ frames := 0, cells := 0, slots := 0, locals := 0 } : Room)) (fun a U => a = #[(.ref a1)] ∧ Z.Warmed39 U.vm ∧ U.heap = h0) (fun _ _ _ _ _ => True) (fun _ U o U' => ∃ v L, o = .returned v ∧ Q6 w2 n0 h0 v U'.heap L ∧ FrameEnd U o U' L ({ frames := 0, cells := 0, slots := 0, locals := 0 } : Room).cells ({ frames := 0, cells := 0, slots := 0, locals := 0 } : Room).slots) := by
  refine MetFree.of_bodySF (plainFor_of_name pn_6) hisR ?_
  intro p e s m args below meth c s₁ Bd hml0 hP hK
  obtain ⟨rfl, hZ, hh⟩ := hP
  have hx := Bd.exec
  have hby := Bd.bytes
  have hml : c.maxLocals = 1 := hml0
  have hown : s.vm.findClass "com/example/lambdaloom/lambdaloom/ports/Items" = some m.cls := findClass_of_methodNamed Bd.named
  have hnm := (name_of_methodNamed Bd.named Bd.method).1
  have X0 : Stand p l e ({ frames := 0, cells := 0, slots := 0, locals := 0 } : Room) s m #[(.ref a1)] below meth c s₁ [] 0 0 := Stand.of_body Bd
  have e0 : s₁.heap = h0 := by rw [← hh, Bd.state]; rfl
  have N0 := Fr.nil n0
  have pre0 : ∀ t, Steps p.tables e below (s₁.setTop (mkF m 0 #[.val (.ref a1)] [])) t → Steps p.tables e below (s₁.setTop (entryFrame m #[(.ref a1)] 1)) t := fun t k => castTop (ef_6 m a1) k
  obtain ⟨T3, X3, e3, st3⟩ := getF X0 hx hZ hown (host := "") (Or.inl (hw _ (List.mem_of_getElem? (i := 15) rfl))) Via.refl e0 F_firsts_a1 (g := (mkF m 1 #[.val (.ref a1)] [(.ref a1)])) rfl rfl (hb hby d6_1)
  obtain ⟨fs, hr, hrun, hended, hW, hsame⟩ := X3.leave (v := some (.ref w2)) (fun h => by rw [Bd.returns] at h; cases h)
  refine ⟨_, _, pre0 _ ?_, hrun, hended, _, _, rfl, ?_, ⟨_, rfl⟩, hW, hsame.mono (by decide) (by decide)⟩
  · show Steps p.tables e below (s₁.setTop (mkF m 0 #[.val (.ref a1)] [])) _
    refine XS.aloadN X0.here hx rfl (hb hby d6_0) rfl rfl ?_
    show Steps p.tables e below (s₁.setTop (mkF m 1 #[.val (.ref a1)] [(.ref a1)])) _
    refine st3 _ ?_
    show Steps p.tables e below (T3.setTop (mkF m 4 #[.val (.ref a1)] [(.ref w2)])) _
    jvm_step X3.here [X3.here.top, hx, (hb hby d6_4), X3.method', Bd.returns, Value.isRef, FieldType.isReference]
    first | (intro acts; rw [hr _ acts rfl rfl rfl]) | rw [hr _ _ rfl rfl rfl]
    exact Steps.refl _
  · show Q6 w2 n0 h0 _ T3.heap _
    rw [e3]
    exact ⟨rfl, N0, rfl⟩
def own_f6 (a1 : Addr) (w2 : Addr) : Addr := w2
set_option maxRecDepth 65536 in
theorem rm6 (l : Launch) (Z : State) (a0 : Array Value) (hw : ∀ d ∈ tables_1, d.before a0 Z = true) (ws : List Jvm.Cond) (a1 : Addr) (w2 : Addr) (h0 : Heap) (n0 : Nat) (Z0 : n0 ≤ h0.size) (F_firsts_a1 : Fld Z h0 a1 "com/example/lambdaloom/lambdaloom/ports/Items" "firsts" "[I" (.ref w2)) :
    MetFree l (⟨"com/example/lambdaloom/lambdaloom/ports/Items", "firsts", "()[I"⟩ : MethodName) (head1 (Jvm.Cond.code (⟨"com/example/lambdaloom/lambdaloom/ports/Items", "firsts", "()[I"⟩ : MethodName) prog_26_method_8_code 1 (some (.array .int)) :: ws) ({ frames := 0, cells := 0, slots := 0, locals := 0 } : Room)) (fun a U => a = #[(.ref a1)] ∧ Z.Warmed39 U.vm ∧ U.heap = h0) (fun _ _ _ _ _ => True) (fun _ U o U' => ∃ v L, o = .returned v ∧ Q6 (own_f6 a1 w2) n0 h0 v U'.heap L ∧ FrameEnd U o U' L ({ frames := 0, cells := 0, slots := 0, locals := 0 } : Room).cells ({ frames := 0, cells := 0, slots := 0, locals := 0 } : Room).slots) := by
  rw [show own_f6 a1 w2 = w2 from by rw [own_f6]]
  exact rm6_x l Z a0 hw ws a1 w2 h0 n0 Z0 F_firsts_a1
theorem d7_0 : decode prog_26_method_9_code 0 = .ok (.aload_n 0, 1) := by decide +kernel
theorem d7_1 : decode prog_26_method_9_code 1 = .ok (.getfield 13, 3) := by decide +kernel
theorem d7_4 : decode prog_26_method_9_code 4 = .ok (.areturn, 1) := by decide +kernel
theorem pn_7 : plainName "com/example/lambdaloom/lambdaloom/ports/Items" = true := by first | (simp [plainName, overriddenIn]; done) | decide +kernel
theorem ef_7 (m : MethodId) (x0 : Addr) : entryFrame m #[(.ref x0)] 1 = mkF m 0 #[.val (.ref x0)] [] := by first | (simp [entryFrame, mkF, argsToLocals, Value.category]; done) | rfl
def Q7 (r : Addr) (n0 : Nat) (h0 : Heap) (v : Option Value) (h : Heap) (L : List Loc) : Prop := v = some (.ref r) ∧ Fr n0 L ∧ h = h0
set_option maxRecDepth 65536 in
set_option maxHeartbeats 40000000 in
theorem rm7_x (l : Launch) (Z : State) (a0 : Array Value) (hw : ∀ d ∈ tables_1, d.before a0 Z = true) (ws : List Jvm.Cond) (a1 : Addr) (w2 : Addr) (h0 : Heap) (n0 : Nat) (Z0 : n0 ≤ h0.size) (F_seconds_a1 : Fld Z h0 a1 "com/example/lambdaloom/lambdaloom/ports/Items" "seconds" "[I" (.ref w2)) :
    MetFree l (⟨"com/example/lambdaloom/lambdaloom/ports/Items", "seconds", "()[I"⟩ : MethodName) (head1 (Jvm.Cond.code (⟨"com/example/lambdaloom/lambdaloom/ports/Items", "seconds", "()[I"⟩ : MethodName) prog_26_method_9_code 1 (some (.array .int)) :: ws) ({ frames := 0, cells := 0, slots := 0, locals := 0 } : Room)) (fun a U => a = #[(.ref a1)] ∧ Z.Warmed39 U.vm ∧ U.heap = h0) (fun _ _ _ _ _ => True) (fun _ U o U' => ∃ v L, o = .returned v ∧ Q7 w2 n0 h0 v U'.heap L ∧ FrameEnd U o U' L ({ frames := 0, cells := 0, slots := 0, locals := 0 } : Room).cells ({ frames := 0, cells := 0, slots := 0, locals := 0 } : Room).slots) := by
  refine MetFree.of_bodySF (plainFor_of_name pn_7) hisR ?_
  intro p e s m args below meth c s₁ Bd hml0 hP hK
  obtain ⟨rfl, hZ, hh⟩ := hP
  have hx := Bd.exec
  have hby := Bd.bytes
  have hml : c.maxLocals = 1 := hml0
  have hown : s.vm.findClass "com/example/lambdaloom/lambdaloom/ports/Items" = some m.cls := findClass_of_methodNamed Bd.named
  have hnm := (name_of_methodNamed Bd.named Bd.method).1
  have X0 : Stand p l e ({ frames := 0, cells := 0, slots := 0, locals := 0 } : Room) s m #[(.ref a1)] below meth c s₁ [] 0 0 := Stand.of_body Bd
  have e0 : s₁.heap = h0 := by rw [← hh, Bd.state]; rfl
  have N0 := Fr.nil n0
  have pre0 : ∀ t, Steps p.tables e below (s₁.setTop (mkF m 0 #[.val (.ref a1)] [])) t → Steps p.tables e below (s₁.setTop (entryFrame m #[(.ref a1)] 1)) t := fun t k => castTop (ef_7 m a1) k
  obtain ⟨T3, X3, e3, st3⟩ := getF X0 hx hZ hown (host := "") (Or.inl (hw _ (List.mem_of_getElem? (i := 17) rfl))) Via.refl e0 F_seconds_a1 (g := (mkF m 1 #[.val (.ref a1)] [(.ref a1)])) rfl rfl (hb hby d7_1)
  obtain ⟨fs, hr, hrun, hended, hW, hsame⟩ := X3.leave (v := some (.ref w2)) (fun h => by rw [Bd.returns] at h; cases h)
  refine ⟨_, _, pre0 _ ?_, hrun, hended, _, _, rfl, ?_, ⟨_, rfl⟩, hW, hsame.mono (by decide) (by decide)⟩
  · show Steps p.tables e below (s₁.setTop (mkF m 0 #[.val (.ref a1)] [])) _
    refine XS.aloadN X0.here hx rfl (hb hby d7_0) rfl rfl ?_
    show Steps p.tables e below (s₁.setTop (mkF m 1 #[.val (.ref a1)] [(.ref a1)])) _
    refine st3 _ ?_
    show Steps p.tables e below (T3.setTop (mkF m 4 #[.val (.ref a1)] [(.ref w2)])) _
    jvm_step X3.here [X3.here.top, hx, (hb hby d7_4), X3.method', Bd.returns, Value.isRef, FieldType.isReference]
    first | (intro acts; rw [hr _ acts rfl rfl rfl]) | rw [hr _ _ rfl rfl rfl]
    exact Steps.refl _
  · show Q7 w2 n0 h0 _ T3.heap _
    rw [e3]
    exact ⟨rfl, N0, rfl⟩
def own_f7 (a1 : Addr) (w2 : Addr) : Addr := w2
set_option maxRecDepth 65536 in
theorem rm7 (l : Launch) (Z : State) (a0 : Array Value) (hw : ∀ d ∈ tables_1, d.before a0 Z = true) (ws : List Jvm.Cond) (a1 : Addr) (w2 : Addr) (h0 : Heap) (n0 : Nat) (Z0 : n0 ≤ h0.size) (F_seconds_a1 : Fld Z h0 a1 "com/example/lambdaloom/lambdaloom/ports/Items" "seconds" "[I" (.ref w2)) :
    MetFree l (⟨"com/example/lambdaloom/lambdaloom/ports/Items", "seconds", "()[I"⟩ : MethodName) (head1 (Jvm.Cond.code (⟨"com/example/lambdaloom/lambdaloom/ports/Items", "seconds", "()[I"⟩ : MethodName) prog_26_method_9_code 1 (some (.array .int)) :: ws) ({ frames := 0, cells := 0, slots := 0, locals := 0 } : Room)) (fun a U => a = #[(.ref a1)] ∧ Z.Warmed39 U.vm ∧ U.heap = h0) (fun _ _ _ _ _ => True) (fun _ U o U' => ∃ v L, o = .returned v ∧ Q7 (own_f7 a1 w2) n0 h0 v U'.heap L ∧ FrameEnd U o U' L ({ frames := 0, cells := 0, slots := 0, locals := 0 } : Room).cells ({ frames := 0, cells := 0, slots := 0, locals := 0 } : Room).slots) := by
  rw [show own_f7 a1 w2 = w2 from by rw [own_f7]]
  exact rm7_x l Z a0 hw ws a1 w2 h0 n0 Z0 F_seconds_a1
theorem d8_0 : decode prog_26_method_10_code 0 = .ok (.aload_n 0, 1) := by decide +kernel
theorem d8_1 : decode prog_26_method_10_code 1 = .ok (.getfield 16, 3) := by decide +kernel
theorem d8_4 : decode prog_26_method_10_code 4 = .ok (.areturn, 1) := by decide +kernel
theorem pn_8 : plainName "com/example/lambdaloom/lambdaloom/ports/Items" = true := by first | (simp [plainName, overriddenIn]; done) | decide +kernel
theorem ef_8 (m : MethodId) (x0 : Addr) : entryFrame m #[(.ref x0)] 1 = mkF m 0 #[.val (.ref x0)] [] := by first | (simp [entryFrame, mkF, argsToLocals, Value.category]; done) | rfl
def Q8 (r : Addr) (n0 : Nat) (h0 : Heap) (v : Option Value) (h : Heap) (L : List Loc) : Prop := v = some (.ref r) ∧ Fr n0 L ∧ h = h0
set_option maxRecDepth 65536 in
set_option maxHeartbeats 40000000 in
theorem rm8_x (l : Launch) (Z : State) (a0 : Array Value) (hw : ∀ d ∈ tables_1, d.before a0 Z = true) (ws : List Jvm.Cond) (a1 : Addr) (w2 : Addr) (h0 : Heap) (n0 : Nat) (Z0 : n0 ≤ h0.size) (F_slots_a1 : Fld Z h0 a1 "com/example/lambdaloom/lambdaloom/ports/Items" "slots" "[I" (.ref w2)) :
    MetFree l (⟨"com/example/lambdaloom/lambdaloom/ports/Items", "slots", "()[I"⟩ : MethodName) (head1 (Jvm.Cond.code (⟨"com/example/lambdaloom/lambdaloom/ports/Items", "slots", "()[I"⟩ : MethodName) prog_26_method_10_code 1 (some (.array .int)) :: ws) ({ frames := 0, cells := 0, slots := 0, locals := 0 } : Room)) (fun a U => a = #[(.ref a1)] ∧ Z.Warmed39 U.vm ∧ U.heap = h0) (fun _ _ _ _ _ => True) (fun _ U o U' => ∃ v L, o = .returned v ∧ Q8 w2 n0 h0 v U'.heap L ∧ FrameEnd U o U' L ({ frames := 0, cells := 0, slots := 0, locals := 0 } : Room).cells ({ frames := 0, cells := 0, slots := 0, locals := 0 } : Room).slots) := by
  refine MetFree.of_bodySF (plainFor_of_name pn_8) hisR ?_
  intro p e s m args below meth c s₁ Bd hml0 hP hK
  obtain ⟨rfl, hZ, hh⟩ := hP
  have hx := Bd.exec
  have hby := Bd.bytes
  have hml : c.maxLocals = 1 := hml0
  have hown : s.vm.findClass "com/example/lambdaloom/lambdaloom/ports/Items" = some m.cls := findClass_of_methodNamed Bd.named
  have hnm := (name_of_methodNamed Bd.named Bd.method).1
  have X0 : Stand p l e ({ frames := 0, cells := 0, slots := 0, locals := 0 } : Room) s m #[(.ref a1)] below meth c s₁ [] 0 0 := Stand.of_body Bd
  have e0 : s₁.heap = h0 := by rw [← hh, Bd.state]; rfl
  have N0 := Fr.nil n0
  have pre0 : ∀ t, Steps p.tables e below (s₁.setTop (mkF m 0 #[.val (.ref a1)] [])) t → Steps p.tables e below (s₁.setTop (entryFrame m #[(.ref a1)] 1)) t := fun t k => castTop (ef_8 m a1) k
  obtain ⟨T3, X3, e3, st3⟩ := getF X0 hx hZ hown (host := "") (Or.inl (hw _ (List.mem_of_getElem? (i := 19) rfl))) Via.refl e0 F_slots_a1 (g := (mkF m 1 #[.val (.ref a1)] [(.ref a1)])) rfl rfl (hb hby d8_1)
  obtain ⟨fs, hr, hrun, hended, hW, hsame⟩ := X3.leave (v := some (.ref w2)) (fun h => by rw [Bd.returns] at h; cases h)
  refine ⟨_, _, pre0 _ ?_, hrun, hended, _, _, rfl, ?_, ⟨_, rfl⟩, hW, hsame.mono (by decide) (by decide)⟩
  · show Steps p.tables e below (s₁.setTop (mkF m 0 #[.val (.ref a1)] [])) _
    refine XS.aloadN X0.here hx rfl (hb hby d8_0) rfl rfl ?_
    show Steps p.tables e below (s₁.setTop (mkF m 1 #[.val (.ref a1)] [(.ref a1)])) _
    refine st3 _ ?_
    show Steps p.tables e below (T3.setTop (mkF m 4 #[.val (.ref a1)] [(.ref w2)])) _
    jvm_step X3.here [X3.here.top, hx, (hb hby d8_4), X3.method', Bd.returns, Value.isRef, FieldType.isReference]
    first | (intro acts; rw [hr _ acts rfl rfl rfl]) | rw [hr _ _ rfl rfl rfl]
    exact Steps.refl _
  · show Q8 w2 n0 h0 _ T3.heap _
    rw [e3]
    exact ⟨rfl, N0, rfl⟩
def own_f8 (a1 : Addr) (w2 : Addr) : Addr := w2
set_option maxRecDepth 65536 in
theorem rm8 (l : Launch) (Z : State) (a0 : Array Value) (hw : ∀ d ∈ tables_1, d.before a0 Z = true) (ws : List Jvm.Cond) (a1 : Addr) (w2 : Addr) (h0 : Heap) (n0 : Nat) (Z0 : n0 ≤ h0.size) (F_slots_a1 : Fld Z h0 a1 "com/example/lambdaloom/lambdaloom/ports/Items" "slots" "[I" (.ref w2)) :
    MetFree l (⟨"com/example/lambdaloom/lambdaloom/ports/Items", "slots", "()[I"⟩ : MethodName) (head1 (Jvm.Cond.code (⟨"com/example/lambdaloom/lambdaloom/ports/Items", "slots", "()[I"⟩ : MethodName) prog_26_method_10_code 1 (some (.array .int)) :: ws) ({ frames := 0, cells := 0, slots := 0, locals := 0 } : Room)) (fun a U => a = #[(.ref a1)] ∧ Z.Warmed39 U.vm ∧ U.heap = h0) (fun _ _ _ _ _ => True) (fun _ U o U' => ∃ v L, o = .returned v ∧ Q8 (own_f8 a1 w2) n0 h0 v U'.heap L ∧ FrameEnd U o U' L ({ frames := 0, cells := 0, slots := 0, locals := 0 } : Room).cells ({ frames := 0, cells := 0, slots := 0, locals := 0 } : Room).slots) := by
  rw [show own_f8 a1 w2 = w2 from by rw [own_f8]]
  exact rm8_x l Z a0 hw ws a1 w2 h0 n0 Z0 F_slots_a1
theorem d9_0 : decode method_3_code 0 = .ok (.iload_n 1, 1) := by decide +kernel
theorem d9_1 : decode method_3_code 1 = .ok (.iload_n 2, 1) := by decide +kernel
theorem d9_2 : decode method_3_code 2 = .ok (.if_icmp .ne 16, 3) := by decide +kernel
theorem d9_18 : decode method_3_code 18 = .ok (.aload_n 0, 1) := by decide +kernel
theorem d9_19 : decode method_3_code 19 = .ok (.iload_n 1, 1) := by decide +kernel
theorem d9_20 : decode method_3_code 20 = .ok (.iaload, 1) := by decide +kernel
theorem d9_21 : decode method_3_code 21 = .ok (.iload 4, 2) := by decide +kernel
theorem d9_23 : decode method_3_code 23 = .ok (.if_icmp .ne 7, 3) := by decide +kernel
theorem d9_30 : decode method_3_code 30 = .ok (.iconst 0, 1) := by decide +kernel
theorem d9_31 : decode method_3_code 31 = .ok (.ireturn, 1) := by decide +kernel
theorem pn_9 : plainName "com/example/lambdaloom/lambdaloom/ports/ItemsSetPinLaw" = true := by first | (simp [plainName, overriddenIn]; done) | decide +kernel
theorem ef_9 (m : MethodId) (x0 : Addr) (x1 : Int32) (x2 : Int32) (x3 : Int32) (x4 : Int32) : entryFrame m #[(.ref x0), (.int x1), (.int x2), (.int x3), (.int x4)] 5 = mkF m 0 #[.val (.ref x0), .val (.int x1), .val (.int x2), .val (.int x3), .val (.int x4)] [] := by first | (simp [entryFrame, mkF, argsToLocals, Value.category]; done) | rfl
theorem d9_26 : decode method_3_code 26 = .ok (.iconst 1, 1) := by decide +kernel
theorem d9_27 : decode method_3_code 27 = .ok (.goto 4, 3) := by decide +kernel
theorem d9_5 : decode method_3_code 5 = .ok (.aload_n 0, 1) := by decide +kernel
theorem d9_6 : decode method_3_code 6 = .ok (.iload_n 1, 1) := by decide +kernel
theorem d9_7 : decode method_3_code 7 = .ok (.iaload, 1) := by decide +kernel
theorem d9_8 : decode method_3_code 8 = .ok (.iload_n 3, 1) := by decide +kernel
theorem d9_9 : decode method_3_code 9 = .ok (.if_icmp .ne 7, 3) := by decide +kernel
theorem d9_16 : decode method_3_code 16 = .ok (.iconst 0, 1) := by decide +kernel
theorem d9_17 : decode method_3_code 17 = .ok (.ireturn, 1) := by decide +kernel
theorem d9_12 : decode method_3_code 12 = .ok (.iconst 1, 1) := by decide +kernel
theorem d9_13 : decode method_3_code 13 = .ok (.goto 4, 3) := by decide +kernel
def Q9 (r : Int32) (n0 : Nat) (h0 : Heap) (v : Option Value) (h : Heap) (L : List Loc) : Prop := v = some (.int r) ∧ Fr n0 L ∧ h = h0
set_option maxRecDepth 65536 in
set_option maxHeartbeats 40000000 in
theorem rm9_tt (l : Launch) (Z : State) (a0 : Array Value) (hw : ∀ d ∈ tables_1, d.before a0 Z = true) (ws : List Jvm.Cond) (a1 : Addr) (p2 : Int32) (p3 : Int32) (p4 : Int32) (p5 : Int32) (w6 : Int32) (cl_a1 : Cell) (h0 : Heap) (n0 : Nat) (Z0 : n0 ≤ h0.size) (Ar_a1 : Arr Z h0 a1 cl_a1 .int) (hin20 : ¬ (p2 < 0 ∨ cl_a1.slots.size ≤ (p2).toNatClampNeg)) (hat20 : cl_a1.slots[(p2).toNatClampNeg]? = some (.int w6)) (hc2 : ¬ (p2 = p3)) (hc23 : ¬ (w6 = p5)) :
    MetFree l (⟨"com/example/lambdaloom/lambdaloom/ports/ItemsSetPinLaw", "cell", "([IIIII)Z"⟩ : MethodName) (head1 (Jvm.Cond.code (⟨"com/example/lambdaloom/lambdaloom/ports/ItemsSetPinLaw", "cell", "([IIIII)Z"⟩ : MethodName) method_3_code 5 (some .boolean) :: ws) ({ frames := 0, cells := 0, slots := 0, locals := 0 } : Room)) (fun a U => a = #[(.ref a1), (.int p2), (.int p3), (.int p4), (.int p5)] ∧ Z.Warmed39 U.vm ∧ U.heap = h0) (fun _ _ _ _ _ => True) (fun _ U o U' => ∃ v L, o = .returned v ∧ Q9 (0 : Int32) n0 h0 v U'.heap L ∧ FrameEnd U o U' L ({ frames := 0, cells := 0, slots := 0, locals := 0 } : Room).cells ({ frames := 0, cells := 0, slots := 0, locals := 0 } : Room).slots) := by
  refine MetFree.of_bodySF (plainFor_of_name pn_9) hisR ?_
  intro p e s m args below meth c s₁ Bd hml0 hP hK
  obtain ⟨rfl, hZ, hh⟩ := hP
  have hx := Bd.exec
  have hby := Bd.bytes
  have hml : c.maxLocals = 5 := hml0
  have hown : s.vm.findClass "com/example/lambdaloom/lambdaloom/ports/ItemsSetPinLaw" = some m.cls := findClass_of_methodNamed Bd.named
  have hnm := (name_of_methodNamed Bd.named Bd.method).1
  have X0 : Stand p l e ({ frames := 0, cells := 0, slots := 0, locals := 0 } : Room) s m #[(.ref a1), (.int p2), (.int p3), (.int p4), (.int p5)] below meth c s₁ [] 0 0 := Stand.of_body Bd
  have e0 : s₁.heap = h0 := by rw [← hh, Bd.state]; rfl
  have N0 := Fr.nil n0
  have pre0 : ∀ t, Steps p.tables e below (s₁.setTop (mkF m 0 #[.val (.ref a1), .val (.int p2), .val (.int p3), .val (.int p4), .val (.int p5)] [])) t → Steps p.tables e below (s₁.setTop (entryFrame m #[(.ref a1), (.int p2), (.int p3), (.int p4), (.int p5)] 5)) t := fun t k => castTop (ef_9 m a1 p2 p3 p4 p5) k

  obtain ⟨fs, hr, hrun, hended, hW, hsame⟩ := X0.leave (v := some (.int (0 : Int32))) (fun h => by rw [Bd.returns] at h; cases h)
  refine ⟨_, _, pre0 _ ?_, hrun, hended, _, _, rfl, ?_, ⟨_, rfl⟩, hW, hsame.mono (by decide) (by decide)⟩
  · show Steps p.tables e below (s₁.setTop (mkF m 0 #[.val (.ref a1), .val (.int p2), .val (.int p3), .val (.int p4), .val (.int p5)] [])) _
    refine XS.iloadN X0.here hx rfl (hb hby d9_0) rfl ?_
    show Steps p.tables e below (s₁.setTop (mkF m 1 #[.val (.ref a1), .val (.int p2), .val (.int p3), .val (.int p4), .val (.int p5)] [(.int p2)])) _
    refine XS.iloadN X0.here hx rfl (hb hby d9_1) rfl ?_
    show Steps p.tables e below (s₁.setTop (mkF m 2 #[.val (.ref a1), .val (.int p2), .val (.int p3), .val (.int p4), .val (.int p5)] [(.int p3), (.int p2)])) _
    refine XS.icmpYes X0.here hx rfl (pc0 := 2) (pc' := 18) rfl (hb hby d9_2) rfl (feq hc2).2 (by decide) (by decide) ?_
    show Steps p.tables e below (s₁.setTop (mkF m 18 #[.val (.ref a1), .val (.int p2), .val (.int p3), .val (.int p4), .val (.int p5)] [])) _
    refine XS.aloadN X0.here hx rfl (hb hby d9_18) rfl rfl ?_
    show Steps p.tables e below (s₁.setTop (mkF m 19 #[.val (.ref a1), .val (.int p2), .val (.int p3), .val (.int p4), .val (.int p5)] [(.ref a1)])) _
    refine XS.iloadN X0.here hx rfl (hb hby d9_19) rfl ?_
    show Steps p.tables e below (s₁.setTop (mkF m 20 #[.val (.ref a1), .val (.int p2), .val (.int p3), .val (.int p4), .val (.int p5)] [(.int p2), (.ref a1)])) _
    refine X0.iaload hx (j := p2) (v := (.int w6)) (by rw [e0]; exact Ar_a1.1) (State.isArrayOf_alike hZ.alike Ar_a1.2.1) Ar_a1.2.2 hin20 hat20 (g := (mkF m 20 #[.val (.ref a1), .val (.int p2), .val (.int p3), .val (.int p4), .val (.int p5)] [(.int p2), (.ref a1)])) rfl rfl (hb hby d9_20) _ ?_
    show Steps p.tables e below (s₁.setTop (mkF m 21 #[.val (.ref a1), .val (.int p2), .val (.int p3), .val (.int p4), .val (.int p5)] [(.int w6)])) _
    refine XS.iload X0.here hx rfl (hb hby d9_21) rfl ?_
    show Steps p.tables e below (s₁.setTop (mkF m 23 #[.val (.ref a1), .val (.int p2), .val (.int p3), .val (.int p4), .val (.int p5)] [(.int p5), (.int w6)])) _
    refine XS.icmpYes X0.here hx rfl (pc0 := 23) (pc' := 30) rfl (hb hby d9_23) rfl (feq hc23).2 (by decide) (by decide) ?_
    show Steps p.tables e below (s₁.setTop (mkF m 30 #[.val (.ref a1), .val (.int p2), .val (.int p3), .val (.int p4), .val (.int p5)] [])) _
    refine XS.iconst X0.here hx rfl (hb hby d9_30) ?_
    show Steps p.tables e below (s₁.setTop (mkF m 31 #[.val (.ref a1), .val (.int p2), .val (.int p3), .val (.int p4), .val (.int p5)] [(.int (0 : Int32))])) _
    exact retN X0 hx (t := .boolean) Bd.returns (by simp) (hb hby d9_31) hr
  · show Q9 (0 : Int32) n0 h0 _ s₁.heap _
    rw [e0]
    exact ⟨rfl, N0, rfl⟩
set_option maxRecDepth 65536 in
set_option maxHeartbeats 40000000 in
theorem rm9_tf (l : Launch) (Z : State) (a0 : Array Value) (hw : ∀ d ∈ tables_1, d.before a0 Z = true) (ws : List Jvm.Cond) (a1 : Addr) (p2 : Int32) (p3 : Int32) (p4 : Int32) (p5 : Int32) (w6 : Int32) (cl_a1 : Cell) (h0 : Heap) (n0 : Nat) (Z0 : n0 ≤ h0.size) (Ar_a1 : Arr Z h0 a1 cl_a1 .int) (hin20 : ¬ (p2 < 0 ∨ cl_a1.slots.size ≤ (p2).toNatClampNeg)) (hat20 : cl_a1.slots[(p2).toNatClampNeg]? = some (.int w6)) (hc2 : ¬ (p2 = p3)) (hc23 : w6 = p5) :
    MetFree l (⟨"com/example/lambdaloom/lambdaloom/ports/ItemsSetPinLaw", "cell", "([IIIII)Z"⟩ : MethodName) (head1 (Jvm.Cond.code (⟨"com/example/lambdaloom/lambdaloom/ports/ItemsSetPinLaw", "cell", "([IIIII)Z"⟩ : MethodName) method_3_code 5 (some .boolean) :: ws) ({ frames := 0, cells := 0, slots := 0, locals := 0 } : Room)) (fun a U => a = #[(.ref a1), (.int p2), (.int p3), (.int p4), (.int p5)] ∧ Z.Warmed39 U.vm ∧ U.heap = h0) (fun _ _ _ _ _ => True) (fun _ U o U' => ∃ v L, o = .returned v ∧ Q9 (1 : Int32) n0 h0 v U'.heap L ∧ FrameEnd U o U' L ({ frames := 0, cells := 0, slots := 0, locals := 0 } : Room).cells ({ frames := 0, cells := 0, slots := 0, locals := 0 } : Room).slots) := by
  refine MetFree.of_bodySF (plainFor_of_name pn_9) hisR ?_
  intro p e s m args below meth c s₁ Bd hml0 hP hK
  obtain ⟨rfl, hZ, hh⟩ := hP
  have hx := Bd.exec
  have hby := Bd.bytes
  have hml : c.maxLocals = 5 := hml0
  have hown : s.vm.findClass "com/example/lambdaloom/lambdaloom/ports/ItemsSetPinLaw" = some m.cls := findClass_of_methodNamed Bd.named
  have hnm := (name_of_methodNamed Bd.named Bd.method).1
  have X0 : Stand p l e ({ frames := 0, cells := 0, slots := 0, locals := 0 } : Room) s m #[(.ref a1), (.int p2), (.int p3), (.int p4), (.int p5)] below meth c s₁ [] 0 0 := Stand.of_body Bd
  have e0 : s₁.heap = h0 := by rw [← hh, Bd.state]; rfl
  have N0 := Fr.nil n0
  have pre0 : ∀ t, Steps p.tables e below (s₁.setTop (mkF m 0 #[.val (.ref a1), .val (.int p2), .val (.int p3), .val (.int p4), .val (.int p5)] [])) t → Steps p.tables e below (s₁.setTop (entryFrame m #[(.ref a1), (.int p2), (.int p3), (.int p4), (.int p5)] 5)) t := fun t k => castTop (ef_9 m a1 p2 p3 p4 p5) k

  obtain ⟨fs, hr, hrun, hended, hW, hsame⟩ := X0.leave (v := some (.int (1 : Int32))) (fun h => by rw [Bd.returns] at h; cases h)
  refine ⟨_, _, pre0 _ ?_, hrun, hended, _, _, rfl, ?_, ⟨_, rfl⟩, hW, hsame.mono (by decide) (by decide)⟩
  · show Steps p.tables e below (s₁.setTop (mkF m 0 #[.val (.ref a1), .val (.int p2), .val (.int p3), .val (.int p4), .val (.int p5)] [])) _
    refine XS.iloadN X0.here hx rfl (hb hby d9_0) rfl ?_
    show Steps p.tables e below (s₁.setTop (mkF m 1 #[.val (.ref a1), .val (.int p2), .val (.int p3), .val (.int p4), .val (.int p5)] [(.int p2)])) _
    refine XS.iloadN X0.here hx rfl (hb hby d9_1) rfl ?_
    show Steps p.tables e below (s₁.setTop (mkF m 2 #[.val (.ref a1), .val (.int p2), .val (.int p3), .val (.int p4), .val (.int p5)] [(.int p3), (.int p2)])) _
    refine XS.icmpYes X0.here hx rfl (pc0 := 2) (pc' := 18) rfl (hb hby d9_2) rfl (feq hc2).2 (by decide) (by decide) ?_
    show Steps p.tables e below (s₁.setTop (mkF m 18 #[.val (.ref a1), .val (.int p2), .val (.int p3), .val (.int p4), .val (.int p5)] [])) _
    refine XS.aloadN X0.here hx rfl (hb hby d9_18) rfl rfl ?_
    show Steps p.tables e below (s₁.setTop (mkF m 19 #[.val (.ref a1), .val (.int p2), .val (.int p3), .val (.int p4), .val (.int p5)] [(.ref a1)])) _
    refine XS.iloadN X0.here hx rfl (hb hby d9_19) rfl ?_
    show Steps p.tables e below (s₁.setTop (mkF m 20 #[.val (.ref a1), .val (.int p2), .val (.int p3), .val (.int p4), .val (.int p5)] [(.int p2), (.ref a1)])) _
    refine X0.iaload hx (j := p2) (v := (.int w6)) (by rw [e0]; exact Ar_a1.1) (State.isArrayOf_alike hZ.alike Ar_a1.2.1) Ar_a1.2.2 hin20 hat20 (g := (mkF m 20 #[.val (.ref a1), .val (.int p2), .val (.int p3), .val (.int p4), .val (.int p5)] [(.int p2), (.ref a1)])) rfl rfl (hb hby d9_20) _ ?_
    show Steps p.tables e below (s₁.setTop (mkF m 21 #[.val (.ref a1), .val (.int p2), .val (.int p3), .val (.int p4), .val (.int p5)] [(.int w6)])) _
    refine XS.iload X0.here hx rfl (hb hby d9_21) rfl ?_
    show Steps p.tables e below (s₁.setTop (mkF m 23 #[.val (.ref a1), .val (.int p2), .val (.int p3), .val (.int p4), .val (.int p5)] [(.int p5), (.int w6)])) _
    refine XS.icmpNo X0.here hx rfl (hb hby d9_23) rfl (teq hc23).2 ?_
    show Steps p.tables e below (s₁.setTop (mkF m 26 #[.val (.ref a1), .val (.int p2), .val (.int p3), .val (.int p4), .val (.int p5)] [])) _
    refine XS.iconst X0.here hx rfl (hb hby d9_26) ?_
    show Steps p.tables e below (s₁.setTop (mkF m 27 #[.val (.ref a1), .val (.int p2), .val (.int p3), .val (.int p4), .val (.int p5)] [(.int (1 : Int32))])) _
    refine XS.goto X0.here hx rfl (pc0 := 27) (pc' := 31) rfl (hb hby d9_27) (by decide) (by decide) ?_
    show Steps p.tables e below (s₁.setTop (mkF m 31 #[.val (.ref a1), .val (.int p2), .val (.int p3), .val (.int p4), .val (.int p5)] [(.int (1 : Int32))])) _
    exact retN X0 hx (t := .boolean) Bd.returns (by simp) (hb hby d9_31) hr
  · show Q9 (1 : Int32) n0 h0 _ s₁.heap _
    rw [e0]
    exact ⟨rfl, N0, rfl⟩
set_option maxRecDepth 65536 in
set_option maxHeartbeats 40000000 in
theorem rm9_ft (l : Launch) (Z : State) (a0 : Array Value) (hw : ∀ d ∈ tables_1, d.before a0 Z = true) (ws : List Jvm.Cond) (a1 : Addr) (p2 : Int32) (p3 : Int32) (p4 : Int32) (p5 : Int32) (w6 : Int32) (cl_a1 : Cell) (h0 : Heap) (n0 : Nat) (Z0 : n0 ≤ h0.size) (Ar_a1 : Arr Z h0 a1 cl_a1 .int) (hin7 : ¬ (p2 < 0 ∨ cl_a1.slots.size ≤ (p2).toNatClampNeg)) (hat7 : cl_a1.slots[(p2).toNatClampNeg]? = some (.int w6)) (hc2 : p2 = p3) (hc9 : ¬ (w6 = p4)) :
    MetFree l (⟨"com/example/lambdaloom/lambdaloom/ports/ItemsSetPinLaw", "cell", "([IIIII)Z"⟩ : MethodName) (head1 (Jvm.Cond.code (⟨"com/example/lambdaloom/lambdaloom/ports/ItemsSetPinLaw", "cell", "([IIIII)Z"⟩ : MethodName) method_3_code 5 (some .boolean) :: ws) ({ frames := 0, cells := 0, slots := 0, locals := 0 } : Room)) (fun a U => a = #[(.ref a1), (.int p2), (.int p3), (.int p4), (.int p5)] ∧ Z.Warmed39 U.vm ∧ U.heap = h0) (fun _ _ _ _ _ => True) (fun _ U o U' => ∃ v L, o = .returned v ∧ Q9 (0 : Int32) n0 h0 v U'.heap L ∧ FrameEnd U o U' L ({ frames := 0, cells := 0, slots := 0, locals := 0 } : Room).cells ({ frames := 0, cells := 0, slots := 0, locals := 0 } : Room).slots) := by
  refine MetFree.of_bodySF (plainFor_of_name pn_9) hisR ?_
  intro p e s m args below meth c s₁ Bd hml0 hP hK
  obtain ⟨rfl, hZ, hh⟩ := hP
  have hx := Bd.exec
  have hby := Bd.bytes
  have hml : c.maxLocals = 5 := hml0
  have hown : s.vm.findClass "com/example/lambdaloom/lambdaloom/ports/ItemsSetPinLaw" = some m.cls := findClass_of_methodNamed Bd.named
  have hnm := (name_of_methodNamed Bd.named Bd.method).1
  have X0 : Stand p l e ({ frames := 0, cells := 0, slots := 0, locals := 0 } : Room) s m #[(.ref a1), (.int p2), (.int p3), (.int p4), (.int p5)] below meth c s₁ [] 0 0 := Stand.of_body Bd
  have e0 : s₁.heap = h0 := by rw [← hh, Bd.state]; rfl
  have N0 := Fr.nil n0
  have pre0 : ∀ t, Steps p.tables e below (s₁.setTop (mkF m 0 #[.val (.ref a1), .val (.int p2), .val (.int p3), .val (.int p4), .val (.int p5)] [])) t → Steps p.tables e below (s₁.setTop (entryFrame m #[(.ref a1), (.int p2), (.int p3), (.int p4), (.int p5)] 5)) t := fun t k => castTop (ef_9 m a1 p2 p3 p4 p5) k

  obtain ⟨fs, hr, hrun, hended, hW, hsame⟩ := X0.leave (v := some (.int (0 : Int32))) (fun h => by rw [Bd.returns] at h; cases h)
  refine ⟨_, _, pre0 _ ?_, hrun, hended, _, _, rfl, ?_, ⟨_, rfl⟩, hW, hsame.mono (by decide) (by decide)⟩
  · show Steps p.tables e below (s₁.setTop (mkF m 0 #[.val (.ref a1), .val (.int p2), .val (.int p3), .val (.int p4), .val (.int p5)] [])) _
    refine XS.iloadN X0.here hx rfl (hb hby d9_0) rfl ?_
    show Steps p.tables e below (s₁.setTop (mkF m 1 #[.val (.ref a1), .val (.int p2), .val (.int p3), .val (.int p4), .val (.int p5)] [(.int p2)])) _
    refine XS.iloadN X0.here hx rfl (hb hby d9_1) rfl ?_
    show Steps p.tables e below (s₁.setTop (mkF m 2 #[.val (.ref a1), .val (.int p2), .val (.int p3), .val (.int p4), .val (.int p5)] [(.int p3), (.int p2)])) _
    refine XS.icmpNo X0.here hx rfl (hb hby d9_2) rfl (teq hc2).2 ?_
    show Steps p.tables e below (s₁.setTop (mkF m 5 #[.val (.ref a1), .val (.int p2), .val (.int p3), .val (.int p4), .val (.int p5)] [])) _
    refine XS.aloadN X0.here hx rfl (hb hby d9_5) rfl rfl ?_
    show Steps p.tables e below (s₁.setTop (mkF m 6 #[.val (.ref a1), .val (.int p2), .val (.int p3), .val (.int p4), .val (.int p5)] [(.ref a1)])) _
    refine XS.iloadN X0.here hx rfl (hb hby d9_6) rfl ?_
    show Steps p.tables e below (s₁.setTop (mkF m 7 #[.val (.ref a1), .val (.int p2), .val (.int p3), .val (.int p4), .val (.int p5)] [(.int p2), (.ref a1)])) _
    refine X0.iaload hx (j := p2) (v := (.int w6)) (by rw [e0]; exact Ar_a1.1) (State.isArrayOf_alike hZ.alike Ar_a1.2.1) Ar_a1.2.2 hin7 hat7 (g := (mkF m 7 #[.val (.ref a1), .val (.int p2), .val (.int p3), .val (.int p4), .val (.int p5)] [(.int p2), (.ref a1)])) rfl rfl (hb hby d9_7) _ ?_
    show Steps p.tables e below (s₁.setTop (mkF m 8 #[.val (.ref a1), .val (.int p2), .val (.int p3), .val (.int p4), .val (.int p5)] [(.int w6)])) _
    refine XS.iloadN X0.here hx rfl (hb hby d9_8) rfl ?_
    show Steps p.tables e below (s₁.setTop (mkF m 9 #[.val (.ref a1), .val (.int p2), .val (.int p3), .val (.int p4), .val (.int p5)] [(.int p4), (.int w6)])) _
    refine XS.icmpYes X0.here hx rfl (pc0 := 9) (pc' := 16) rfl (hb hby d9_9) rfl (feq hc9).2 (by decide) (by decide) ?_
    show Steps p.tables e below (s₁.setTop (mkF m 16 #[.val (.ref a1), .val (.int p2), .val (.int p3), .val (.int p4), .val (.int p5)] [])) _
    refine XS.iconst X0.here hx rfl (hb hby d9_16) ?_
    show Steps p.tables e below (s₁.setTop (mkF m 17 #[.val (.ref a1), .val (.int p2), .val (.int p3), .val (.int p4), .val (.int p5)] [(.int (0 : Int32))])) _
    exact retN X0 hx (t := .boolean) Bd.returns (by simp) (hb hby d9_17) hr
  · show Q9 (0 : Int32) n0 h0 _ s₁.heap _
    rw [e0]
    exact ⟨rfl, N0, rfl⟩
set_option maxRecDepth 65536 in
set_option maxHeartbeats 40000000 in
theorem rm9_ff (l : Launch) (Z : State) (a0 : Array Value) (hw : ∀ d ∈ tables_1, d.before a0 Z = true) (ws : List Jvm.Cond) (a1 : Addr) (p2 : Int32) (p3 : Int32) (p4 : Int32) (p5 : Int32) (w6 : Int32) (cl_a1 : Cell) (h0 : Heap) (n0 : Nat) (Z0 : n0 ≤ h0.size) (Ar_a1 : Arr Z h0 a1 cl_a1 .int) (hin7 : ¬ (p2 < 0 ∨ cl_a1.slots.size ≤ (p2).toNatClampNeg)) (hat7 : cl_a1.slots[(p2).toNatClampNeg]? = some (.int w6)) (hc2 : p2 = p3) (hc9 : w6 = p4) :
    MetFree l (⟨"com/example/lambdaloom/lambdaloom/ports/ItemsSetPinLaw", "cell", "([IIIII)Z"⟩ : MethodName) (head1 (Jvm.Cond.code (⟨"com/example/lambdaloom/lambdaloom/ports/ItemsSetPinLaw", "cell", "([IIIII)Z"⟩ : MethodName) method_3_code 5 (some .boolean) :: ws) ({ frames := 0, cells := 0, slots := 0, locals := 0 } : Room)) (fun a U => a = #[(.ref a1), (.int p2), (.int p3), (.int p4), (.int p5)] ∧ Z.Warmed39 U.vm ∧ U.heap = h0) (fun _ _ _ _ _ => True) (fun _ U o U' => ∃ v L, o = .returned v ∧ Q9 (1 : Int32) n0 h0 v U'.heap L ∧ FrameEnd U o U' L ({ frames := 0, cells := 0, slots := 0, locals := 0 } : Room).cells ({ frames := 0, cells := 0, slots := 0, locals := 0 } : Room).slots) := by
  refine MetFree.of_bodySF (plainFor_of_name pn_9) hisR ?_
  intro p e s m args below meth c s₁ Bd hml0 hP hK
  obtain ⟨rfl, hZ, hh⟩ := hP
  have hx := Bd.exec
  have hby := Bd.bytes
  have hml : c.maxLocals = 5 := hml0
  have hown : s.vm.findClass "com/example/lambdaloom/lambdaloom/ports/ItemsSetPinLaw" = some m.cls := findClass_of_methodNamed Bd.named
  have hnm := (name_of_methodNamed Bd.named Bd.method).1
  have X0 : Stand p l e ({ frames := 0, cells := 0, slots := 0, locals := 0 } : Room) s m #[(.ref a1), (.int p2), (.int p3), (.int p4), (.int p5)] below meth c s₁ [] 0 0 := Stand.of_body Bd
  have e0 : s₁.heap = h0 := by rw [← hh, Bd.state]; rfl
  have N0 := Fr.nil n0
  have pre0 : ∀ t, Steps p.tables e below (s₁.setTop (mkF m 0 #[.val (.ref a1), .val (.int p2), .val (.int p3), .val (.int p4), .val (.int p5)] [])) t → Steps p.tables e below (s₁.setTop (entryFrame m #[(.ref a1), (.int p2), (.int p3), (.int p4), (.int p5)] 5)) t := fun t k => castTop (ef_9 m a1 p2 p3 p4 p5) k

  obtain ⟨fs, hr, hrun, hended, hW, hsame⟩ := X0.leave (v := some (.int (1 : Int32))) (fun h => by rw [Bd.returns] at h; cases h)
  refine ⟨_, _, pre0 _ ?_, hrun, hended, _, _, rfl, ?_, ⟨_, rfl⟩, hW, hsame.mono (by decide) (by decide)⟩
  · show Steps p.tables e below (s₁.setTop (mkF m 0 #[.val (.ref a1), .val (.int p2), .val (.int p3), .val (.int p4), .val (.int p5)] [])) _
    refine XS.iloadN X0.here hx rfl (hb hby d9_0) rfl ?_
    show Steps p.tables e below (s₁.setTop (mkF m 1 #[.val (.ref a1), .val (.int p2), .val (.int p3), .val (.int p4), .val (.int p5)] [(.int p2)])) _
    refine XS.iloadN X0.here hx rfl (hb hby d9_1) rfl ?_
    show Steps p.tables e below (s₁.setTop (mkF m 2 #[.val (.ref a1), .val (.int p2), .val (.int p3), .val (.int p4), .val (.int p5)] [(.int p3), (.int p2)])) _
    refine XS.icmpNo X0.here hx rfl (hb hby d9_2) rfl (teq hc2).2 ?_
    show Steps p.tables e below (s₁.setTop (mkF m 5 #[.val (.ref a1), .val (.int p2), .val (.int p3), .val (.int p4), .val (.int p5)] [])) _
    refine XS.aloadN X0.here hx rfl (hb hby d9_5) rfl rfl ?_
    show Steps p.tables e below (s₁.setTop (mkF m 6 #[.val (.ref a1), .val (.int p2), .val (.int p3), .val (.int p4), .val (.int p5)] [(.ref a1)])) _
    refine XS.iloadN X0.here hx rfl (hb hby d9_6) rfl ?_
    show Steps p.tables e below (s₁.setTop (mkF m 7 #[.val (.ref a1), .val (.int p2), .val (.int p3), .val (.int p4), .val (.int p5)] [(.int p2), (.ref a1)])) _
    refine X0.iaload hx (j := p2) (v := (.int w6)) (by rw [e0]; exact Ar_a1.1) (State.isArrayOf_alike hZ.alike Ar_a1.2.1) Ar_a1.2.2 hin7 hat7 (g := (mkF m 7 #[.val (.ref a1), .val (.int p2), .val (.int p3), .val (.int p4), .val (.int p5)] [(.int p2), (.ref a1)])) rfl rfl (hb hby d9_7) _ ?_
    show Steps p.tables e below (s₁.setTop (mkF m 8 #[.val (.ref a1), .val (.int p2), .val (.int p3), .val (.int p4), .val (.int p5)] [(.int w6)])) _
    refine XS.iloadN X0.here hx rfl (hb hby d9_8) rfl ?_
    show Steps p.tables e below (s₁.setTop (mkF m 9 #[.val (.ref a1), .val (.int p2), .val (.int p3), .val (.int p4), .val (.int p5)] [(.int p4), (.int w6)])) _
    refine XS.icmpNo X0.here hx rfl (hb hby d9_9) rfl (teq hc9).2 ?_
    show Steps p.tables e below (s₁.setTop (mkF m 12 #[.val (.ref a1), .val (.int p2), .val (.int p3), .val (.int p4), .val (.int p5)] [])) _
    refine XS.iconst X0.here hx rfl (hb hby d9_12) ?_
    show Steps p.tables e below (s₁.setTop (mkF m 13 #[.val (.ref a1), .val (.int p2), .val (.int p3), .val (.int p4), .val (.int p5)] [(.int (1 : Int32))])) _
    refine XS.goto X0.here hx rfl (pc0 := 13) (pc' := 17) rfl (hb hby d9_13) (by decide) (by decide) ?_
    show Steps p.tables e below (s₁.setTop (mkF m 17 #[.val (.ref a1), .val (.int p2), .val (.int p3), .val (.int p4), .val (.int p5)] [(.int (1 : Int32))])) _
    exact retN X0 hx (t := .boolean) Bd.returns (by simp) (hb hby d9_17) hr
  · show Q9 (1 : Int32) n0 h0 _ s₁.heap _
    rw [e0]
    exact ⟨rfl, N0, rfl⟩
def own_f9 (a1 : Addr) (p2 : Int32) (p3 : Int32) (p4 : Int32) (p5 : Int32) (w6 : Int32) (cl_a1 : Cell) : Int32 := (if p2 = p3 then (if w6 = p4 then (1 : Int32) else (0 : Int32)) else (if w6 = p5 then (1 : Int32) else (0 : Int32)))
set_option maxRecDepth 65536 in
theorem rm9 (l : Launch) (Z : State) (a0 : Array Value) (hw : ∀ d ∈ tables_1, d.before a0 Z = true) (ws : List Jvm.Cond) (a1 : Addr) (p2 : Int32) (p3 : Int32) (p4 : Int32) (p5 : Int32) (w6 : Int32) (cl_a1 : Cell) (h0 : Heap) (n0 : Nat) (Z0 : n0 ≤ h0.size) (Ar_a1 : Arr Z h0 a1 cl_a1 .int) (hin20 : ¬ (p2 < 0 ∨ cl_a1.slots.size ≤ (p2).toNatClampNeg)) (hat20 : cl_a1.slots[(p2).toNatClampNeg]? = some (.int w6)) (hin7 : ¬ (p2 < 0 ∨ cl_a1.slots.size ≤ (p2).toNatClampNeg)) (hat7 : cl_a1.slots[(p2).toNatClampNeg]? = some (.int w6)) :
    MetFree l (⟨"com/example/lambdaloom/lambdaloom/ports/ItemsSetPinLaw", "cell", "([IIIII)Z"⟩ : MethodName) (head1 (Jvm.Cond.code (⟨"com/example/lambdaloom/lambdaloom/ports/ItemsSetPinLaw", "cell", "([IIIII)Z"⟩ : MethodName) method_3_code 5 (some .boolean) :: ws) ({ frames := 0, cells := 0, slots := 0, locals := 0 } : Room)) (fun a U => a = #[(.ref a1), (.int p2), (.int p3), (.int p4), (.int p5)] ∧ Z.Warmed39 U.vm ∧ U.heap = h0) (fun _ _ _ _ _ => True) (fun _ U o U' => ∃ v L, o = .returned v ∧ Q9 (own_f9 a1 p2 p3 p4 p5 w6 cl_a1) n0 h0 v U'.heap L ∧ FrameEnd U o U' L ({ frames := 0, cells := 0, slots := 0, locals := 0 } : Room).cells ({ frames := 0, cells := 0, slots := 0, locals := 0 } : Room).slots) := by
  by_cases hc2 : p2 = p3
  · by_cases hc9 : w6 = p4
    · rw [show own_f9 a1 p2 p3 p4 p5 w6 cl_a1 = (1 : Int32) from by rw [own_f9, if_pos hc2, if_pos hc9]]
      exact rm9_ff l Z a0 hw ws a1 p2 p3 p4 p5 w6 cl_a1 h0 n0 Z0 Ar_a1 hin7 hat7 hc2 hc9
    · rw [show own_f9 a1 p2 p3 p4 p5 w6 cl_a1 = (0 : Int32) from by rw [own_f9, if_pos hc2, if_neg hc9]]
      exact rm9_ft l Z a0 hw ws a1 p2 p3 p4 p5 w6 cl_a1 h0 n0 Z0 Ar_a1 hin7 hat7 hc2 hc9
  · by_cases hc23 : w6 = p5
    · rw [show own_f9 a1 p2 p3 p4 p5 w6 cl_a1 = (1 : Int32) from by rw [own_f9, if_neg hc2, if_pos hc23]]
      exact rm9_tf l Z a0 hw ws a1 p2 p3 p4 p5 w6 cl_a1 h0 n0 Z0 Ar_a1 hin20 hat20 hc2 hc23
    · rw [show own_f9 a1 p2 p3 p4 p5 w6 cl_a1 = (0 : Int32) from by rw [own_f9, if_neg hc2, if_neg hc23]]
      exact rm9_tt l Z a0 hw ws a1 p2 p3 p4 p5 w6 cl_a1 h0 n0 Z0 Ar_a1 hin20 hat20 hc2 hc23
/-- what place j holds when v has been laid at place i and old stood at j -/
def own_g (j i v old : Int32) : Int32 := if j = i then v else old
theorem own_one (a : Addr) (j i v old : Int32) (c : Cell) : own_f9 a j i v old (own_g j i v old) c = 1 := by
  unfold own_f9 own_g
  by_cases h : j = i
  · rw [if_pos h, if_pos h, if_pos rfl]
  · rw [if_neg h, if_neg h, if_pos rfl]
theorem own_nz (a : Addr) (j i v old : Int32) (c : Cell) : ¬ own_f9 a j i v old (own_g j i v old) c = 0 := by rw [own_one]; decide
theorem own_mod (x y : Int32) : x - (x / y) * y = x % y := by
  apply Int32.toInt_inj.mp
  have h1 := Int32.le_toInt (x % y)
  have h2 := Int32.toInt_lt (x % y)
  rw [Int32.toInt_sub, Int32.toInt_mul, Int32.toInt_div, Int.bmod_mul_bmod, Int.sub_bmod_bmod, Int.mul_comm (x.toInt.tdiv y.toInt), ← Int.tmod_def, ← Int32.toInt_mod]
  exact Int.bmod_eq_of_le_mul_two (by omega) (by omega)
theorem own_r3 (x : Int32) : ¬ ((x &&& (2147483647 : Int32)) - ((x &&& (2147483647 : Int32)) / (3 : Int32)) * (3 : Int32)) < 0 ∧ ((x &&& (2147483647 : Int32)) - ((x &&& (2147483647 : Int32)) / (3 : Int32)) * (3 : Int32)) < 3 := by
  have a := c_mask x 2147483647 31 (by decide) (by decide)
  rw [show ((2 ^ 31 : Nat) : Int) = 2147483648 from rfl] at a
  have b := (c_irem (x &&& (2147483647 : Int32)) 3 3 rfl).1 (by omega)
  rw [own_mod, Int32.lt_iff_toInt_lt, Int32.lt_iff_toInt_lt, b, show (0 : Int32).toInt = 0 from rfl, show (3 : Int32).toInt = 3 from rfl]; omega
theorem own_in {x : Int32} {c : Cell} (S : c.slots.size = (3 : Int32).toNatClampNeg) : ¬ (((x &&& (2147483647 : Int32)) - ((x &&& (2147483647 : Int32)) / (3 : Int32)) * (3 : Int32)) < 0 ∨ c.slots.size ≤ (((x &&& (2147483647 : Int32)) - ((x &&& (2147483647 : Int32)) / (3 : Int32)) * (3 : Int32))).toNatClampNeg) := inb_of S (own_r3 x)
theorem own_sz {c : Cell} {n : Nat} {v : Value} (S : c.slots.size = (3 : Int32).toNatClampNeg) : (c.setSlot n v).slots.size = (3 : Int32).toNatClampNeg := by
  rw [← S]; simp [Cell.setSlot]
theorem own_hat {c : Cell} {i j v old : Int32} (S : c.slots.size = (3 : Int32).toNatClampNeg) (hi : ¬ i < 0 ∧ i < 3) (hj : ¬ j < 0 ∧ j < 3) (h : c.slots[j.toNatClampNeg]? = some (.int old)) : (c.setSlot i.toNatClampNeg (.int v)).slots[j.toNatClampNeg]? = some (.int (own_g j i v old)) := by
  have hi' := hi; have hj' := hj
  rw [Int32.lt_iff_toInt_lt, Int32.lt_iff_toInt_lt, show (0 : Int32).toInt = 0 from rfl, show (3 : Int32).toInt = 3 from rfl] at hi' hj'
  have e : i.toNatClampNeg = j.toNatClampNeg ↔ j = i := by
    rw [← Int32.toInt_inj]; show i.toInt.toNat = j.toInt.toNat ↔ _; omega
  have hlt : i.toNatClampNeg < c.slots.size := by rw [S]; show i.toInt.toNat < 3; omega
  show (c.slots.setIfInBounds i.toNatClampNeg (.int v))[j.toNatClampNeg]? = _
  rw [Array.getElem?_setIfInBounds]
  unfold own_g
  by_cases q : j = i
  · rw [if_pos (e.mpr q), if_pos hlt, if_pos q]
  · rw [if_neg (fun z => q (e.mp z)), if_neg q]; exact h
theorem pn_0 : plainName "com/example/lambdaloom/lambdaloom/ports/ItemsSetPinLaw" = true := by first | (simp [plainName, overriddenIn]; done) | decide +kernel
theorem pd_0_0 : parseMethodDescriptor "([I[I[I)V" = some ⟨[(.array .int), (.array .int), (.array .int)], none⟩ := by decide +kernel
theorem pd_0_2 : parseMethodDescriptor "(IIII)I" = some ⟨[.int, .int, .int, .int], some .int⟩ := by decide +kernel
theorem pd_0_3 : parseMethodDescriptor "()I" = some ⟨[], some .int⟩ := by decide +kernel
theorem pd_0_4 : parseMethodDescriptor "()[I" = some ⟨[], some (.array .int)⟩ := by decide +kernel
theorem pd_0_5 : parseMethodDescriptor "([IIIII)Z" = some ⟨[(.array .int), .int, .int, .int, .int], some .boolean⟩ := by decide +kernel
theorem ef_0 (m : MethodId) (x0 : Int32) (x1 : Int32) (x2 : Int32) (x3 : Int32) (x4 : Int32) : entryFrame m #[(.int x0), (.int x1), (.int x2), (.int x3), (.int x4)] maxLocals = mkF m 0 #[.val (.int x0), .val (.int x1), .val (.int x2), .val (.int x3), .val (.int x4), .unset, .unset, .unset, .unset, .unset, .unset, .unset, .unset, .unset] [] := by first | (simp [entryFrame, mkF, argsToLocals, Value.category, maxLocals]; done) | rfl
def Q0 (Z : State) (p1 : Int32) (p2 : Int32) (p3 : Int32) (p4 : Int32) (p5 : Int32) (h0 : Heap) (n0 : Nat) (v : Option Value) (h : Heap) (L : List Loc) : Prop := v = some (.int (1 : Int32)) ∧ Fr n0 L
set_option maxRecDepth 65536 in
set_option maxHeartbeats 40000000 in
theorem rm0_ttfftfffffffff (l : Launch) (Z : State) (a0 : Array Value) (hw : ∀ d ∈ tables_1, d.before a0 Z = true) (ws : List Jvm.Cond) (p1 : Int32) (p2 : Int32) (p3 : Int32) (p4 : Int32) (p5 : Int32) (h0 : Heap) (n0 : Nat) (Z0 : n0 ≤ h0.size) :
    MetFree l x (head1 (Jvm.Cond.code x code maxLocals ret :: ws) room_1) (fun a U => a = #[(.int p1), (.int p2), (.int p3), (.int p4), (.int p5)] ∧ Z.Warmed39 U.vm ∧ U.heap = h0) (fun _ _ _ _ _ => True) (fun _ U o U' => ∃ v L, o = .returned v ∧ Q0 Z p1 p2 p3 p4 p5 h0 n0 v U'.heap L ∧ FrameEnd U o U' L room_1.cells room_1.slots) := by
  refine MetFree.of_bodySF (plainFor_of_name pn_0) hisR ?_
  intro p e s m args below meth c s₁ Bd hml0 hP hK
  obtain ⟨rfl, hZ, hh⟩ := hP
  have hx := Bd.exec
  have hby := Bd.bytes
  have hml : c.maxLocals = 14 := hml0
  have hown : s.vm.findClass "com/example/lambdaloom/lambdaloom/ports/ItemsSetPinLaw" = some m.cls := findClass_of_methodNamed Bd.named
  have hnm := (name_of_methodNamed Bd.named Bd.method).1
  have X0 : Stand p l e room_1 s m #[(.int p1), (.int p2), (.int p3), (.int p4), (.int p5)] below meth c s₁ [] 0 0 := Stand.of_body Bd
  have e0 : s₁.heap = h0 := by rw [← hh, Bd.state]; rfl
  have N0 := Fr.nil n0
  have pre0 : ∀ t, Steps p.tables e below (s₁.setTop (mkF m 0 #[.val (.int p1), .val (.int p2), .val (.int p3), .val (.int p4), .val (.int p5), .unset, .unset, .unset, .unset, .unset, .unset, .unset, .unset, .unset] [])) t → Steps p.tables e below (s₁.setTop (entryFrame m #[(.int p1), (.int p2), (.int p3), (.int p4), (.int p5)] maxLocals)) t := fun t k => castTop (ef_0 m p1 p2 p3 p4 p5) k
  obtain ⟨T6, h6, k6, X6, e6, E6, A6, st6⟩ := newP X0 hx hZ (hw _ (List.mem_of_getElem? (i := 0) rfl)) e0 (g := (mkF m 1 #[.val (.int p1), .val (.int p2), .val (.int p3), .val (.int p4), .val (.int p5), .unset, .unset, .unset, .unset, .unset, .unset, .unset, .unset, .unset] [(.int (3 : Int32))])) rfl (hb hby at_1) rfl (by decide) (cap := 3) (by decide) (by decide) (by decide) (by decide)
  obtain ⟨b6, g6⟩ : ∃ z, z = h0.size := ⟨_, rfl⟩
  rw [← g6] at A6 st6
  have V_b6 : Arv Z h6 b6 k6 .int (3 : Int32) [(.int (0 : Int32)), (.int (0 : Int32)), (.int (0 : Int32))] (.int (0 : Int32)) := (Arv.new A6 (by decide)).pad (pad_rep [] (.int (0 : Int32)) 3)
  have g_b6 : n0 ≤ b6 := Nat.le_trans Z0 (Nat.le_of_eq g6.symm)
  have sz_b6 : h0.size ≤ b6 := (Nat.le_trans (Keep.refl h0 []).1 (Nat.le_of_eq g6.symm))
  have K6 : Keep h0 h6 [] := (Keep.refl h0 []).ext E6
  obtain ⟨cl_b6_7, Ar_b6, q_b6, S_b6, N_b6, H_b6, G_b6⟩ := V_b6
  have hin7 : ¬ ((0 : Int32) < 0 ∨ cl_b6_7.slots.size ≤ ((0 : Int32)).toNatClampNeg) := inb_of S_b6 ⟨by decide, by decide⟩
  obtain ⟨T7, h7, X7, e7, W7, st7⟩ := stI X6 hx hZ e6 Ar_b6 (j := (0 : Int32)) hin7 (g := (mkF m 7 #[.val (.int p1), .val (.int p2), .val (.int p3), .val (.int p4), .val (.int p5), .unset, .unset, .unset, .unset, .unset, .unset, .unset, .unset, .unset] [(.int p5), (.int (0 : Int32)), (.ref b6), (.ref b6)])) rfl rfl (hb hby at_7)
  have V_b6_7 := Arv.set Ar_b6 q_b6 S_b6 N_b6 H_b6 G_b6 rfl W7 0 rfl (Nat.le_of_ble_eq_true rfl)
  have K7 : Keep h0 h7 [] := K6.wr W7 (Or.inr sz_b6)
  have N7 := Fr.snoc X7 N0 g_b6
  obtain ⟨cl_b6_14, Ar_b6, q_b6, S_b6, N_b6, H_b6, G_b6⟩ := V_b6_7
  have hin14 : ¬ ((1 : Int32) < 0 ∨ cl_b6_14.slots.size ≤ ((1 : Int32)).toNatClampNeg) := inb_of S_b6 ⟨by decide, by decide⟩
  obtain ⟨T8, h8, X8, e8, W8, st8⟩ := stI X7 hx hZ e7 Ar_b6 (j := (1 : Int32)) hin14 (g := (mkF m 14 #[.val (.int p1), .val (.int p2), .val (.int p3), .val (.int p4), .val (.int p5), .unset, .unset, .unset, .unset, .unset, .unset, .unset, .unset, .unset] [(.int (p5 + (1 : Int32))), (.int (1 : Int32)), (.ref b6), (.ref b6)])) rfl rfl (hb hby at_14)
  have V_b6_8 := Arv.set Ar_b6 q_b6 S_b6 N_b6 H_b6 G_b6 rfl W8 1 rfl (Nat.le_of_ble_eq_true rfl)
  have K8 : Keep h0 h8 [] := K7.wr W8 (Or.inr sz_b6)
  have N8 := Fr.snoc X8 N7 g_b6
  obtain ⟨cl_b6_21, Ar_b6, q_b6, S_b6, N_b6, H_b6, G_b6⟩ := V_b6_8
  have hin21 : ¬ ((2 : Int32) < 0 ∨ cl_b6_21.slots.size ≤ ((2 : Int32)).toNatClampNeg) := inb_of S_b6 ⟨by decide, by decide⟩
  obtain ⟨T9, h9, X9, e9, W9, st9⟩ := stI X8 hx hZ e8 Ar_b6 (j := (2 : Int32)) hin21 (g := (mkF m 21 #[.val (.int p1), .val (.int p2), .val (.int p3), .val (.int p4), .val (.int p5), .unset, .unset, .unset, .unset, .unset, .unset, .unset, .unset, .unset] [(.int (p5 + (2 : Int32))), (.int (2 : Int32)), (.ref b6), (.ref b6)])) rfl rfl (hb hby at_21)
  have V_b6_9 := Arv.set Ar_b6 q_b6 S_b6 N_b6 H_b6 G_b6 rfl W9 2 rfl (Nat.le_of_ble_eq_true rfl)
  have K9 : Keep h0 h9 [] := K8.wr W9 (Or.inr sz_b6)
  have N9 := Fr.snoc X9 N8 g_b6
  obtain ⟨T10, h10, k10, X10, e10, E10, A10, st10⟩ := newP X9 hx hZ (hw _ (List.mem_of_getElem? (i := 0) rfl)) e9 (g := (mkF m 25 #[.val (.int p1), .val (.int p2), .val (.int p3), .val (.int p4), .val (.int p5), .val (.ref b6), .unset, .unset, .unset, .unset, .unset, .unset, .unset, .unset] [(.int (3 : Int32))])) rfl (hb hby at_25) rfl (by decide) (cap := 3) (by decide) (by decide) (by decide) (by decide)
  obtain ⟨b10, g10⟩ : ∃ z, z = h9.size := ⟨_, rfl⟩
  rw [← g10] at A10 st10
  have V_b10 : Arv Z h10 b10 k10 .int (3 : Int32) [(.int (0 : Int32)), (.int (0 : Int32)), (.int (0 : Int32))] (.int (0 : Int32)) := (Arv.new A10 (by decide)).pad (pad_rep [] (.int (0 : Int32)) 3)
  have g_b10 : n0 ≤ b10 := Nat.le_trans (Nat.le_trans (Nat.le_trans (Nat.le_trans (Nat.le_trans Z0 E6.1) (Keep.of_wr W7).1) (Keep.of_wr W8).1) (Keep.of_wr W9).1) (Nat.le_of_eq g10.symm)
  have sz_b10 : h0.size ≤ b10 := (Nat.le_trans K9.1 (Nat.le_of_eq g10.symm))
  have K10 : Keep h0 h10 [] := K9.ext E10
  obtain ⟨cl_b10_33, Ar_b10, q_b10, S_b10, N_b10, H_b10, G_b10⟩ := V_b10
  have hin33 : ¬ ((0 : Int32) < 0 ∨ cl_b10_33.slots.size ≤ ((0 : Int32)).toNatClampNeg) := inb_of S_b10 ⟨by decide, by decide⟩
  obtain ⟨T11, h11, X11, e11, W11, st11⟩ := stI X10 hx hZ e10 Ar_b10 (j := (0 : Int32)) hin33 (g := (mkF m 33 #[.val (.int p1), .val (.int p2), .val (.int p3), .val (.int p4), .val (.int p5), .val (.ref b6), .unset, .unset, .unset, .unset, .unset, .unset, .unset, .unset] [(.int (p5 + (3 : Int32))), (.int (0 : Int32)), (.ref b10), (.ref b10)])) rfl rfl (hb hby at_33)
  have V_b10_11 := Arv.set Ar_b10 q_b10 S_b10 N_b10 H_b10 G_b10 rfl W11 0 rfl (Nat.le_of_ble_eq_true rfl)
  have K11 : Keep h0 h11 [] := K10.wr W11 (Or.inr sz_b10)
  have N11 := Fr.snoc X11 N9 g_b10
  obtain ⟨cl_b10_40, Ar_b10, q_b10, S_b10, N_b10, H_b10, G_b10⟩ := V_b10_11
  have hin40 : ¬ ((1 : Int32) < 0 ∨ cl_b10_40.slots.size ≤ ((1 : Int32)).toNatClampNeg) := inb_of S_b10 ⟨by decide, by decide⟩
  obtain ⟨T12, h12, X12, e12, W12, st12⟩ := stI X11 hx hZ e11 Ar_b10 (j := (1 : Int32)) hin40 (g := (mkF m 40 #[.val (.int p1), .val (.int p2), .val (.int p3), .val (.int p4), .val (.int p5), .val (.ref b6), .unset, .unset, .unset, .unset, .unset, .unset, .unset, .unset] [(.int (p5 + (4 : Int32))), (.int (1 : Int32)), (.ref b10), (.ref b10)])) rfl rfl (hb hby at_40)
  have V_b10_12 := Arv.set Ar_b10 q_b10 S_b10 N_b10 H_b10 G_b10 rfl W12 1 rfl (Nat.le_of_ble_eq_true rfl)
  have K12 : Keep h0 h12 [] := K11.wr W12 (Or.inr sz_b10)
  have N12 := Fr.snoc X12 N11 g_b10
  obtain ⟨cl_b10_47, Ar_b10, q_b10, S_b10, N_b10, H_b10, G_b10⟩ := V_b10_12
  have hin47 : ¬ ((2 : Int32) < 0 ∨ cl_b10_47.slots.size ≤ ((2 : Int32)).toNatClampNeg) := inb_of S_b10 ⟨by decide, by decide⟩
  obtain ⟨T13, h13, X13, e13, W13, st13⟩ := stI X12 hx hZ e12 Ar_b10 (j := (2 : Int32)) hin47 (g := (mkF m 47 #[.val (.int p1), .val (.int p2), .val (.int p3), .val (.int p4), .val (.int p5), .val (.ref b6), .unset, .unset, .unset, .unset, .unset, .unset, .unset, .unset] [(.int (p5 + (5 : Int32))), (.int (2 : Int32)), (.ref b10), (.ref b10)])) rfl rfl (hb hby at_47)
  have V_b10_13 := Arv.set Ar_b10 q_b10 S_b10 N_b10 H_b10 G_b10 rfl W13 2 rfl (Nat.le_of_ble_eq_true rfl)
  have K13 : Keep h0 h13 [] := K12.wr W13 (Or.inr sz_b10)
  have N13 := Fr.snoc X13 N12 g_b10
  obtain ⟨T14, h14, k14, X14, e14, E14, A14, st14⟩ := newP X13 hx hZ (hw _ (List.mem_of_getElem? (i := 0) rfl)) e13 (g := (mkF m 51 #[.val (.int p1), .val (.int p2), .val (.int p3), .val (.int p4), .val (.int p5), .val (.ref b6), .val (.ref b10), .unset, .unset, .unset, .unset, .unset, .unset, .unset] [(.int (3 : Int32))])) rfl (hb hby at_51) rfl (by decide) (cap := 3) (by decide) (by decide) (by decide) (by decide)
  obtain ⟨b14, g14⟩ : ∃ z, z = h13.size := ⟨_, rfl⟩
  rw [← g14] at A14 st14
  have V_b14 : Arv Z h14 b14 k14 .int (3 : Int32) [(.int (0 : Int32)), (.int (0 : Int32)), (.int (0 : Int32))] (.int (0 : Int32)) := (Arv.new A14 (by decide)).pad (pad_rep [] (.int (0 : Int32)) 3)
  have g_b14 : n0 ≤ b14 := Nat.le_trans (Nat.le_trans (Nat.le_trans (Nat.le_trans (Nat.le_trans (Nat.le_trans (Nat.le_trans (Nat.le_trans (Nat.le_trans Z0 E6.1) (Keep.of_wr W7).1) (Keep.of_wr W8).1) (Keep.of_wr W9).1) E10.1) (Keep.of_wr W11).1) (Keep.of_wr W12).1) (Keep.of_wr W13).1) (Nat.le_of_eq g14.symm)
  have sz_b14 : h0.size ≤ b14 := (Nat.le_trans K13.1 (Nat.le_of_eq g14.symm))
  have K14 : Keep h0 h14 [] := K13.ext E14
  obtain ⟨cl_b14_60, Ar_b14, q_b14, S_b14, N_b14, H_b14, G_b14⟩ := V_b14
  have hin60 : ¬ ((0 : Int32) < 0 ∨ cl_b14_60.slots.size ≤ ((0 : Int32)).toNatClampNeg) := inb_of S_b14 ⟨by decide, by decide⟩
  obtain ⟨T15, h15, X15, e15, W15, st15⟩ := stI X14 hx hZ e14 Ar_b14 (j := (0 : Int32)) hin60 (g := (mkF m 60 #[.val (.int p1), .val (.int p2), .val (.int p3), .val (.int p4), .val (.int p5), .val (.ref b6), .val (.ref b10), .unset, .unset, .unset, .unset, .unset, .unset, .unset] [(.int (p5 + (6 : Int32))), (.int (0 : Int32)), (.ref b14), (.ref b14)])) rfl rfl (hb hby at_60)
  have V_b14_15 := Arv.set Ar_b14 q_b14 S_b14 N_b14 H_b14 G_b14 rfl W15 0 rfl (Nat.le_of_ble_eq_true rfl)
  have K15 : Keep h0 h15 [] := K14.wr W15 (Or.inr sz_b14)
  have N15 := Fr.snoc X15 N13 g_b14
  obtain ⟨cl_b14_68, Ar_b14, q_b14, S_b14, N_b14, H_b14, G_b14⟩ := V_b14_15
  have hin68 : ¬ ((1 : Int32) < 0 ∨ cl_b14_68.slots.size ≤ ((1 : Int32)).toNatClampNeg) := inb_of S_b14 ⟨by decide, by decide⟩
  obtain ⟨T16, h16, X16, e16, W16, st16⟩ := stI X15 hx hZ e15 Ar_b14 (j := (1 : Int32)) hin68 (g := (mkF m 68 #[.val (.int p1), .val (.int p2), .val (.int p3), .val (.int p4), .val (.int p5), .val (.ref b6), .val (.ref b10), .unset, .unset, .unset, .unset, .unset, .unset, .unset] [(.int (p5 + (7 : Int32))), (.int (1 : Int32)), (.ref b14), (.ref b14)])) rfl rfl (hb hby at_68)
  have V_b14_16 := Arv.set Ar_b14 q_b14 S_b14 N_b14 H_b14 G_b14 rfl W16 1 rfl (Nat.le_of_ble_eq_true rfl)
  have K16 : Keep h0 h16 [] := K15.wr W16 (Or.inr sz_b14)
  have N16 := Fr.snoc X16 N15 g_b14
  obtain ⟨cl_b14_76, Ar_b14, q_b14, S_b14, N_b14, H_b14, G_b14⟩ := V_b14_16
  have hin76 : ¬ ((2 : Int32) < 0 ∨ cl_b14_76.slots.size ≤ ((2 : Int32)).toNatClampNeg) := inb_of S_b14 ⟨by decide, by decide⟩
  obtain ⟨T17, h17, X17, e17, W17, st17⟩ := stI X16 hx hZ e16 Ar_b14 (j := (2 : Int32)) hin76 (g := (mkF m 76 #[.val (.int p1), .val (.int p2), .val (.int p3), .val (.int p4), .val (.int p5), .val (.ref b6), .val (.ref b10), .unset, .unset, .unset, .unset, .unset, .unset, .unset] [(.int (p5 + (8 : Int32))), (.int (2 : Int32)), (.ref b14), (.ref b14)])) rfl rfl (hb hby at_76)
  have V_b14_17 := Arv.set Ar_b14 q_b14 S_b14 N_b14 H_b14 G_b14 rfl W17 2 rfl (Nat.le_of_ble_eq_true rfl)
  have K17 : Keep h0 h17 [] := K16.wr W17 (Or.inr sz_b14)
  have N17 := Fr.snoc X17 N16 g_b14
  obtain ⟨T18, h18, X18, e18, E18, A18, D18, -, st18⟩ := newO X17 hx hZ hown (hw _ (List.mem_of_getElem? (i := 1) rfl)) (hw _ (List.mem_of_getElem? (i := 2) rfl)) (hw _ (List.mem_of_getElem? (i := 3) rfl)) e17 (g := (mkF m 79 #[.val (.int p1), .val (.int p2), .val (.int p3), .val (.int p4), .val (.int p5), .val (.ref b6), .val (.ref b10), .val (.ref b14), .unset, .unset, .unset, .unset, .unset, .unset] [])) rfl (hb hby at_79) (by decide) (by decide)
  obtain ⟨b18, g18⟩ : ∃ z, z = h17.size := ⟨_, rfl⟩
  rw [← g18] at A18 D18 st18
  have F_firsts_b18 : Fld Z h18 b18 "com/example/lambdaloom/lambdaloom/ports/Items" "firsts" "[I" .null := D18 (Or.inr (hw _ (List.mem_of_getElem? (i := 16) rfl))) (ty := (.array .int)) (by decide)
  have F_seconds_b18 : Fld Z h18 b18 "com/example/lambdaloom/lambdaloom/ports/Items" "seconds" "[I" .null := D18 (Or.inr (hw _ (List.mem_of_getElem? (i := 18) rfl))) (ty := (.array .int)) (by decide)
  have F_slots_b18 : Fld Z h18 b18 "com/example/lambdaloom/lambdaloom/ports/Items" "slots" "[I" .null := D18 (Or.inr (hw _ (List.mem_of_getElem? (i := 20) rfl))) (ty := (.array .int)) (by decide)
  have E_b18 := A18
  have g_b18 : n0 ≤ b18 := Nat.le_trans (Nat.le_trans (Nat.le_trans (Nat.le_trans (Nat.le_trans (Nat.le_trans (Nat.le_trans (Nat.le_trans (Nat.le_trans (Nat.le_trans (Nat.le_trans (Nat.le_trans (Nat.le_trans Z0 E6.1) (Keep.of_wr W7).1) (Keep.of_wr W8).1) (Keep.of_wr W9).1) E10.1) (Keep.of_wr W11).1) (Keep.of_wr W12).1) (Keep.of_wr W13).1) E14.1) (Keep.of_wr W15).1) (Keep.of_wr W16).1) (Keep.of_wr W17).1) (Nat.le_of_eq g18.symm)
  have sz_b18 : h0.size ≤ b18 := (Nat.le_trans K17.1 (Nat.le_of_eq g18.symm))
  have K18 : Keep h0 h18 [] := K17.ext E18
  obtain ⟨_, _, ⟨T19, L19, k19, n19⟩, -, X19, ⟨Lc19, hQ19, l19, y19, z19⟩, st19⟩ := X18.specialBack hx (y := (⟨"com/example/lambdaloom/lambdaloom/ports/Items", "<init>", "([I[I[I)V"⟩ : MethodName)) rfl hown (mvT hZ (hw _ (List.mem_of_getElem? (i := 4) rfl))) (mvT hZ (hw _ (List.mem_of_getElem? (i := 5) rfl))) (mvT hZ (hw _ (List.mem_of_getElem? (i := 6) rfl))) (by decide) (backOf (W := 1) (rm1 l Z a0 hw [] b18 b6 b10 b14 .null .null .null h18 n0 (Nat.le_trans (Nat.le_trans (Nat.le_trans (Nat.le_trans (Nat.le_trans (Nat.le_trans (Nat.le_trans (Nat.le_trans (Nat.le_trans (Nat.le_trans (Nat.le_trans (Nat.le_trans (Nat.le_trans Z0 E6.1) (Keep.of_wr W7).1) (Keep.of_wr W8).1) (Keep.of_wr W9).1) E10.1) (Keep.of_wr W11).1) (Keep.of_wr W12).1) (Keep.of_wr W13).1) E14.1) (Keep.of_wr W15).1) (Keep.of_wr W16).1) (Keep.of_wr W17).1) E18.1) E_b18 F_firsts_b18 g_b18 F_seconds_b18 F_slots_b18) hZ (hw _ (List.mem_of_getElem? (i := 6) rfl)) (hw _ (List.mem_of_getElem? (i := 3) rfl)) (by decide) (by decide)) (g := (mkF m 89 #[.val (.int p1), .val (.int p2), .val (.int p3), .val (.int p4), .val (.int p5), .val (.ref b6), .val (.ref b10), .val (.ref b14), .unset, .unset, .unset, .unset, .unset, .unset] [(.ref b14), (.ref b10), (.ref b6), (.ref b18), (.ref b18)])) rfl (by rw [hml]; rfl) (Steps.refl _) (a := b18) (argsL := [(.ref b6), (.ref b10), (.ref b14)]) (rest := [(.ref b18)]) (lenOf pd_0_0 rfl) rfl (by show 2 * 0 + _ ≤ _; exact Nat.le_of_eq rfl) (hb hby at_89) (fun _ _ => ⟨rfl, e18, (by decide : 4 + 0 ≤ _), (by decide : 12 + 0 ≤ _)⟩)
  dsimp only [Pt.U, Pt.locs, Pt.cells, Pt.slots] at X19 l19 y19 z19 st19 hQ19
  have y19' : k19 = 4 := y19
  have z19' : n19 = 12 := z19
  clear y19 z19
  subst y19' z19'
  obtain ⟨rfl, N19q, Kq19, Eq19, Fa19, Fb19, Fc19⟩ := hQ19
  have N19 : Fr n0 L19 := by rw [l19]; exact Fr.app N17 N19q
  have Kc19 : Keep h0 T19.heap [] := K18.trans Kq19 (fun x hx => by simp only [List.mem_cons, List.not_mem_nil, or_false] at hx; rcases hx with rfl <;> first | exact Or.inr sz_b18)
  obtain ⟨cq20, kq20, q20a, q20b, q20c⟩ := isOf hZ rfl Eq19
  obtain ⟨clA, ArA, -, SclA, -, HA, -⟩ := ((((((((((V_b6_9.ext E10).other W11 (Nat.ne_of_lt (Nat.lt_of_lt_of_le V_b6_9.lt (Nat.le_of_eq g10.symm)))).other W12 (Nat.ne_of_lt (Nat.lt_of_lt_of_le V_b6_9.lt (Nat.le_of_eq g10.symm)))).other W13 (Nat.ne_of_lt (Nat.lt_of_lt_of_le V_b6_9.lt (Nat.le_of_eq g10.symm)))).ext E14).other W15 (Nat.ne_of_lt (Nat.lt_of_lt_of_le ((((V_b6_9.ext E10).other W11 (Nat.ne_of_lt (Nat.lt_of_lt_of_le V_b6_9.lt (Nat.le_of_eq g10.symm)))).other W12 (Nat.ne_of_lt (Nat.lt_of_lt_of_le V_b6_9.lt (Nat.le_of_eq g10.symm)))).other W13 (Nat.ne_of_lt (Nat.lt_of_lt_of_le V_b6_9.lt (Nat.le_of_eq g10.symm)))).lt (Nat.le_of_eq g14.symm)))).other W16 (Nat.ne_of_lt (Nat.lt_of_lt_of_le ((((V_b6_9.ext E10).other W11 (Nat.ne_of_lt (Nat.lt_of_lt_of_le V_b6_9.lt (Nat.le_of_eq g10.symm)))).other W12 (Nat.ne_of_lt (Nat.lt_of_lt_of_le V_b6_9.lt (Nat.le_of_eq g10.symm)))).other W13 (Nat.ne_of_lt (Nat.lt_of_lt_of_le V_b6_9.lt (Nat.le_of_eq g10.symm)))).lt (Nat.le_of_eq g14.symm)))).other W17 (Nat.ne_of_lt (Nat.lt_of_lt_of_le ((((V_b6_9.ext E10).other W11 (Nat.ne_of_lt (Nat.lt_of_lt_of_le V_b6_9.lt (Nat.le_of_eq g10.symm)))).other W12 (Nat.ne_of_lt (Nat.lt_of_lt_of_le V_b6_9.lt (Nat.le_of_eq g10.symm)))).other W13 (Nat.ne_of_lt (Nat.lt_of_lt_of_le V_b6_9.lt (Nat.le_of_eq g10.symm)))).lt (Nat.le_of_eq g14.symm)))).ext E18).keep Kq19 (by simp only [List.mem_cons, List.not_mem_nil, or_false, not_or]; exact (Nat.ne_of_lt (Nat.lt_of_lt_of_le ((((((((V_b6_9.ext E10).other W11 (Nat.ne_of_lt (Nat.lt_of_lt_of_le V_b6_9.lt (Nat.le_of_eq g10.symm)))).other W12 (Nat.ne_of_lt (Nat.lt_of_lt_of_le V_b6_9.lt (Nat.le_of_eq g10.symm)))).other W13 (Nat.ne_of_lt (Nat.lt_of_lt_of_le V_b6_9.lt (Nat.le_of_eq g10.symm)))).ext E14).other W15 (Nat.ne_of_lt (Nat.lt_of_lt_of_le ((((V_b6_9.ext E10).other W11 (Nat.ne_of_lt (Nat.lt_of_lt_of_le V_b6_9.lt (Nat.le_of_eq g10.symm)))).other W12 (Nat.ne_of_lt (Nat.lt_of_lt_of_le V_b6_9.lt (Nat.le_of_eq g10.symm)))).other W13 (Nat.ne_of_lt (Nat.lt_of_lt_of_le V_b6_9.lt (Nat.le_of_eq g10.symm)))).lt (Nat.le_of_eq g14.symm)))).other W16 (Nat.ne_of_lt (Nat.lt_of_lt_of_le ((((V_b6_9.ext E10).other W11 (Nat.ne_of_lt (Nat.lt_of_lt_of_le V_b6_9.lt (Nat.le_of_eq g10.symm)))).other W12 (Nat.ne_of_lt (Nat.lt_of_lt_of_le V_b6_9.lt (Nat.le_of_eq g10.symm)))).other W13 (Nat.ne_of_lt (Nat.lt_of_lt_of_le V_b6_9.lt (Nat.le_of_eq g10.symm)))).lt (Nat.le_of_eq g14.symm)))).other W17 (Nat.ne_of_lt (Nat.lt_of_lt_of_le ((((V_b6_9.ext E10).other W11 (Nat.ne_of_lt (Nat.lt_of_lt_of_le V_b6_9.lt (Nat.le_of_eq g10.symm)))).other W12 (Nat.ne_of_lt (Nat.lt_of_lt_of_le V_b6_9.lt (Nat.le_of_eq g10.symm)))).other W13 (Nat.ne_of_lt (Nat.lt_of_lt_of_le V_b6_9.lt (Nat.le_of_eq g10.symm)))).lt (Nat.le_of_eq g14.symm)))).lt (Nat.le_of_eq g18.symm)))))
  obtain ⟨clB, ArB, -, SclB, -, HB, -⟩ := ((((((V_b10_13.ext E14).other W15 (Nat.ne_of_lt (Nat.lt_of_lt_of_le V_b10_13.lt (Nat.le_of_eq g14.symm)))).other W16 (Nat.ne_of_lt (Nat.lt_of_lt_of_le V_b10_13.lt (Nat.le_of_eq g14.symm)))).other W17 (Nat.ne_of_lt (Nat.lt_of_lt_of_le V_b10_13.lt (Nat.le_of_eq g14.symm)))).ext E18).keep Kq19 (by simp only [List.mem_cons, List.not_mem_nil, or_false, not_or]; exact (Nat.ne_of_lt (Nat.lt_of_lt_of_le ((((V_b10_13.ext E14).other W15 (Nat.ne_of_lt (Nat.lt_of_lt_of_le V_b10_13.lt (Nat.le_of_eq g14.symm)))).other W16 (Nat.ne_of_lt (Nat.lt_of_lt_of_le V_b10_13.lt (Nat.le_of_eq g14.symm)))).other W17 (Nat.ne_of_lt (Nat.lt_of_lt_of_le V_b10_13.lt (Nat.le_of_eq g14.symm)))).lt (Nat.le_of_eq g18.symm)))))
  obtain ⟨clC, ArC, -, SclC, -, HC, -⟩ := ((V_b14_17.ext E18).keep Kq19 (by simp only [List.mem_cons, List.not_mem_nil, or_false, not_or]; exact (Nat.ne_of_lt (Nat.lt_of_lt_of_le V_b14_17.lt (Nat.le_of_eq g18.symm)))))
  obtain ⟨_, _, ⟨T20, L20, k20, n20⟩, -, X20, ⟨Lc20, hQ20, l20, y20, z20⟩, st20⟩ := X19.virtualBack hx (y := (⟨"com/example/lambdaloom/lambdaloom/ports/Items", "set", "(IIII)I"⟩ : MethodName)) (z := (⟨"com/example/lambdaloom/lambdaloom/ports/Items", "set", "(IIII)I"⟩ : MethodName)) hown (mvT hZ (hw _ (List.mem_of_getElem? (i := 22) rfl))) (mvT hZ (hw _ (List.mem_of_getElem? (i := 23) rfl))) (notFace_of_selects (args := #[]) (mvT hZ (hw _ (List.mem_of_getElem? (i := 25) rfl)))) (mvT hZ (hw _ (List.mem_of_getElem? (i := 25) rfl))) (mvT hZ (hw _ (List.mem_of_getElem? (i := 24) rfl))) (by decide) (backOf (W := 0) (rm4 l Z a0 hw [] b18 ((p1 &&& (2147483647 : Int32)) - ((p1 &&& (2147483647 : Int32)) / (3 : Int32)) * (3 : Int32)) p2 p3 p4 b6 clA b10 clB b14 clC T19.heap n0 (Nat.le_trans (Nat.le_trans (Nat.le_trans (Nat.le_trans (Nat.le_trans (Nat.le_trans (Nat.le_trans (Nat.le_trans (Nat.le_trans (Nat.le_trans (Nat.le_trans (Nat.le_trans (Nat.le_trans (Nat.le_trans Z0 E6.1) (Keep.of_wr W7).1) (Keep.of_wr W8).1) (Keep.of_wr W9).1) E10.1) (Keep.of_wr W11).1) (Keep.of_wr W12).1) (Keep.of_wr W13).1) E14.1) (Keep.of_wr W15).1) (Keep.of_wr W16).1) (Keep.of_wr W17).1) E18.1) Kq19.1) Fa19 ArA (own_in SclA) g_b6 Fb19 ArB (own_in SclB) g_b10 Fc19 ArC (own_in SclC) g_b14 (Nat.ne_of_lt (Nat.lt_of_lt_of_le V_b6_9.lt (Nat.le_of_eq g10.symm))) (Nat.ne_of_lt (Nat.lt_of_lt_of_le ((((V_b6_9.ext E10).other W11 (Nat.ne_of_lt (Nat.lt_of_lt_of_le V_b6_9.lt (Nat.le_of_eq g10.symm)))).other W12 (Nat.ne_of_lt (Nat.lt_of_lt_of_le V_b6_9.lt (Nat.le_of_eq g10.symm)))).other W13 (Nat.ne_of_lt (Nat.lt_of_lt_of_le V_b6_9.lt (Nat.le_of_eq g10.symm)))).lt (Nat.le_of_eq g14.symm))) (Nat.ne_of_lt (Nat.lt_of_lt_of_le V_b10_13.lt (Nat.le_of_eq g14.symm))) (Ne.symm (Nat.ne_of_lt (Nat.lt_of_lt_of_le ((((((((V_b6_9.ext E10).other W11 (Nat.ne_of_lt (Nat.lt_of_lt_of_le V_b6_9.lt (Nat.le_of_eq g10.symm)))).other W12 (Nat.ne_of_lt (Nat.lt_of_lt_of_le V_b6_9.lt (Nat.le_of_eq g10.symm)))).other W13 (Nat.ne_of_lt (Nat.lt_of_lt_of_le V_b6_9.lt (Nat.le_of_eq g10.symm)))).ext E14).other W15 (Nat.ne_of_lt (Nat.lt_of_lt_of_le ((((V_b6_9.ext E10).other W11 (Nat.ne_of_lt (Nat.lt_of_lt_of_le V_b6_9.lt (Nat.le_of_eq g10.symm)))).other W12 (Nat.ne_of_lt (Nat.lt_of_lt_of_le V_b6_9.lt (Nat.le_of_eq g10.symm)))).other W13 (Nat.ne_of_lt (Nat.lt_of_lt_of_le V_b6_9.lt (Nat.le_of_eq g10.symm)))).lt (Nat.le_of_eq g14.symm)))).other W16 (Nat.ne_of_lt (Nat.lt_of_lt_of_le ((((V_b6_9.ext E10).other W11 (Nat.ne_of_lt (Nat.lt_of_lt_of_le V_b6_9.lt (Nat.le_of_eq g10.symm)))).other W12 (Nat.ne_of_lt (Nat.lt_of_lt_of_le V_b6_9.lt (Nat.le_of_eq g10.symm)))).other W13 (Nat.ne_of_lt (Nat.lt_of_lt_of_le V_b6_9.lt (Nat.le_of_eq g10.symm)))).lt (Nat.le_of_eq g14.symm)))).other W17 (Nat.ne_of_lt (Nat.lt_of_lt_of_le ((((V_b6_9.ext E10).other W11 (Nat.ne_of_lt (Nat.lt_of_lt_of_le V_b6_9.lt (Nat.le_of_eq g10.symm)))).other W12 (Nat.ne_of_lt (Nat.lt_of_lt_of_le V_b6_9.lt (Nat.le_of_eq g10.symm)))).other W13 (Nat.ne_of_lt (Nat.lt_of_lt_of_le V_b6_9.lt (Nat.le_of_eq g10.symm)))).lt (Nat.le_of_eq g14.symm)))).lt (Nat.le_of_eq g18.symm)))) (Ne.symm (Nat.ne_of_lt (Nat.lt_of_lt_of_le ((((V_b10_13.ext E14).other W15 (Nat.ne_of_lt (Nat.lt_of_lt_of_le V_b10_13.lt (Nat.le_of_eq g14.symm)))).other W16 (Nat.ne_of_lt (Nat.lt_of_lt_of_le V_b10_13.lt (Nat.le_of_eq g14.symm)))).other W17 (Nat.ne_of_lt (Nat.lt_of_lt_of_le V_b10_13.lt (Nat.le_of_eq g14.symm)))).lt (Nat.le_of_eq g18.symm))))) hZ (hw _ (List.mem_of_getElem? (i := 26) rfl)) (hw _ (List.mem_of_getElem? (i := 3) rfl)) (by decide) (by decide)) q20a q20c (g := (mkF m 109 #[.val (.int p1), .val (.int p2), .val (.int p3), .val (.int p4), .val (.int p5), .val (.ref b6), .val (.ref b10), .val (.ref b14), .val (.ref b18), .val (.int ((p1 &&& (2147483647 : Int32)) - ((p1 &&& (2147483647 : Int32)) / (3 : Int32)) * (3 : Int32))), .unset, .unset, .unset, .unset] [(.int p4), (.int p3), (.int p2), (.int ((p1 &&& (2147483647 : Int32)) - ((p1 &&& (2147483647 : Int32)) / (3 : Int32)) * (3 : Int32))), (.ref b18)])) rfl (by rw [hml]; rfl) (Steps.refl _) (argsL := [(.int ((p1 &&& (2147483647 : Int32)) - ((p1 &&& (2147483647 : Int32)) / (3 : Int32)) * (3 : Int32))), (.int p2), (.int p3), (.int p4)]) (rest := []) (lenOf pd_0_2 rfl) rfl (by show 2 * 0 + _ ≤ _; exact Nat.le_of_eq rfl) (hb hby at_109) (fun _ _ => ⟨rfl, rfl, (by decide : 4 + 0 ≤ _), (by decide : 12 + 0 ≤ _)⟩)
  dsimp only [Pt.U, Pt.locs, Pt.cells, Pt.slots] at X20 l20 y20 z20 st20 hQ20
  have y20' : k20 = 4 := y20
  have z20' : n20 = 12 := z20
  clear y20 z20
  subst y20' z20'
  obtain ⟨rfl, N20q, Kq20, AqA20, AqB20, AqC20⟩ := hQ20
  have N20 : Fr n0 L20 := by rw [l20]; exact Fr.app N19 N20q
  have Kc20 : Keep h0 T20.heap [] := Kc19.trans Kq20 (fun x hx => by simp only [List.mem_cons, List.not_mem_nil, or_false] at hx; rcases hx with rfl | rfl | rfl <;> first | exact Or.inr sz_b6 | exact Or.inr sz_b10 | exact Or.inr sz_b14)
  obtain ⟨cq21, kq21, q21a, q21b, q21c⟩ := isOf hZ rfl (Eq19.keep Kq20)
  obtain ⟨_, _, ⟨T21, L21, k21, n21⟩, -, X21, ⟨Lc21, hQ21, l21, y21, z21⟩, st21⟩ := X20.virtualBack hx (y := (⟨"com/example/lambdaloom/lambdaloom/ports/Items", "count", "()I"⟩ : MethodName)) (z := (⟨"com/example/lambdaloom/lambdaloom/ports/Items", "count", "()I"⟩ : MethodName)) hown (mvT hZ (hw _ (List.mem_of_getElem? (i := 27) rfl))) (mvT hZ (hw _ (List.mem_of_getElem? (i := 28) rfl))) (notFace_of_selects (args := #[]) (mvT hZ (hw _ (List.mem_of_getElem? (i := 30) rfl)))) (mvT hZ (hw _ (List.mem_of_getElem? (i := 30) rfl))) (mvT hZ (hw _ (List.mem_of_getElem? (i := 29) rfl))) (by decide) (backOf (W := 0) (rm5 l Z a0 hw [] b18 b14 (clC.setSlot (((p1 &&& (2147483647 : Int32)) - ((p1 &&& (2147483647 : Int32)) / (3 : Int32)) * (3 : Int32))).toNatClampNeg (.int p4)) (3 : Int32) T20.heap n0 (Nat.le_trans (Nat.le_trans (Nat.le_trans (Nat.le_trans (Nat.le_trans (Nat.le_trans (Nat.le_trans (Nat.le_trans (Nat.le_trans (Nat.le_trans (Nat.le_trans (Nat.le_trans (Nat.le_trans (Nat.le_trans (Nat.le_trans Z0 E6.1) (Keep.of_wr W7).1) (Keep.of_wr W8).1) (Keep.of_wr W9).1) E10.1) (Keep.of_wr W11).1) (Keep.of_wr W12).1) (Keep.of_wr W13).1) E14.1) (Keep.of_wr W15).1) (Keep.of_wr W16).1) (Keep.of_wr W17).1) E18.1) Kq19.1) Kq20.1) (Fc19.keep Kq20 (by simp only [List.mem_cons, List.not_mem_nil, or_false, not_or]; exact ⟨(Ne.symm (Nat.ne_of_lt (Nat.lt_of_lt_of_le ((((((((V_b6_9.ext E10).other W11 (Nat.ne_of_lt (Nat.lt_of_lt_of_le V_b6_9.lt (Nat.le_of_eq g10.symm)))).other W12 (Nat.ne_of_lt (Nat.lt_of_lt_of_le V_b6_9.lt (Nat.le_of_eq g10.symm)))).other W13 (Nat.ne_of_lt (Nat.lt_of_lt_of_le V_b6_9.lt (Nat.le_of_eq g10.symm)))).ext E14).other W15 (Nat.ne_of_lt (Nat.lt_of_lt_of_le ((((V_b6_9.ext E10).other W11 (Nat.ne_of_lt (Nat.lt_of_lt_of_le V_b6_9.lt (Nat.le_of_eq g10.symm)))).other W12 (Nat.ne_of_lt (Nat.lt_of_lt_of_le V_b6_9.lt (Nat.le_of_eq g10.symm)))).other W13 (Nat.ne_of_lt (Nat.lt_of_lt_of_le V_b6_9.lt (Nat.le_of_eq g10.symm)))).lt (Nat.le_of_eq g14.symm)))).other W16 (Nat.ne_of_lt (Nat.lt_of_lt_of_le ((((V_b6_9.ext E10).other W11 (Nat.ne_of_lt (Nat.lt_of_lt_of_le V_b6_9.lt (Nat.le_of_eq g10.symm)))).other W12 (Nat.ne_of_lt (Nat.lt_of_lt_of_le V_b6_9.lt (Nat.le_of_eq g10.symm)))).other W13 (Nat.ne_of_lt (Nat.lt_of_lt_of_le V_b6_9.lt (Nat.le_of_eq g10.symm)))).lt (Nat.le_of_eq g14.symm)))).other W17 (Nat.ne_of_lt (Nat.lt_of_lt_of_le ((((V_b6_9.ext E10).other W11 (Nat.ne_of_lt (Nat.lt_of_lt_of_le V_b6_9.lt (Nat.le_of_eq g10.symm)))).other W12 (Nat.ne_of_lt (Nat.lt_of_lt_of_le V_b6_9.lt (Nat.le_of_eq g10.symm)))).other W13 (Nat.ne_of_lt (Nat.lt_of_lt_of_le V_b6_9.lt (Nat.le_of_eq g10.symm)))).lt (Nat.le_of_eq g14.symm)))).lt (Nat.le_of_eq g18.symm)))), (Ne.symm (Nat.ne_of_lt (Nat.lt_of_lt_of_le ((((V_b10_13.ext E14).other W15 (Nat.ne_of_lt (Nat.lt_of_lt_of_le V_b10_13.lt (Nat.le_of_eq g14.symm)))).other W16 (Nat.ne_of_lt (Nat.lt_of_lt_of_le V_b10_13.lt (Nat.le_of_eq g14.symm)))).other W17 (Nat.ne_of_lt (Nat.lt_of_lt_of_le V_b10_13.lt (Nat.le_of_eq g14.symm)))).lt (Nat.le_of_eq g18.symm)))), (Ne.symm (Nat.ne_of_lt (Nat.lt_of_lt_of_le V_b14_17.lt (Nat.le_of_eq g18.symm))))⟩)) AqC20 (own_sz SclC) (by decide)) hZ (hw _ (List.mem_of_getElem? (i := 31) rfl)) (hw _ (List.mem_of_getElem? (i := 3) rfl)) (by decide) (by decide)) q21a q21c (g := (mkF m 127 #[.val (.int p1), .val (.int p2), .val (.int p3), .val (.int p4), .val (.int p5), .val (.ref b6), .val (.ref b10), .val (.ref b14), .val (.ref b18), .val (.int ((p1 &&& (2147483647 : Int32)) - ((p1 &&& (2147483647 : Int32)) / (3 : Int32)) * (3 : Int32))), .val (.int (((p1 &&& (2147483647 : Int32)) - ((p1 &&& (2147483647 : Int32)) / (3 : Int32)) * (3 : Int32)) + (1 : Int32))), .unset, .unset, .unset] [(.ref b18)])) rfl (by rw [hml]; rfl) (Steps.refl _) (argsL := []) (rest := []) (lenOf pd_0_3 rfl) rfl (by show 2 * 0 + _ ≤ _; exact Nat.le_of_eq rfl) (hb hby at_127) (fun _ _ => ⟨rfl, rfl, (by decide : 4 + 0 ≤ _), (by decide : 12 + 0 ≤ _)⟩)
  dsimp only [Pt.U, Pt.locs, Pt.cells, Pt.slots] at X21 l21 y21 z21 st21 hQ21
  have y21' : k21 = 4 := y21
  have z21' : n21 = 12 := z21
  clear y21 z21
  subst y21' z21'
  obtain ⟨rfl, N21q, e21q0⟩ := hQ21
  have e21q : T21.heap = T20.heap := e21q0
  have N21 : Fr n0 L21 := by rw [l21]; exact Fr.app N20 N21q
  obtain ⟨cq22, kq22, q22a, q22b, q22c⟩ := isOf hZ e21q (Eq19.keep Kq20)
  obtain ⟨_, _, ⟨T22, L22, k22, n22⟩, -, X22, ⟨Lc22, hQ22, l22, y22, z22⟩, st22⟩ := X21.virtualBack hx (y := (⟨"com/example/lambdaloom/lambdaloom/ports/Items", "firsts", "()[I"⟩ : MethodName)) (z := (⟨"com/example/lambdaloom/lambdaloom/ports/Items", "firsts", "()[I"⟩ : MethodName)) hown (mvT hZ (hw _ (List.mem_of_getElem? (i := 32) rfl))) (mvT hZ (hw _ (List.mem_of_getElem? (i := 33) rfl))) (notFace_of_selects (args := #[]) (mvT hZ (hw _ (List.mem_of_getElem? (i := 35) rfl)))) (mvT hZ (hw _ (List.mem_of_getElem? (i := 35) rfl))) (mvT hZ (hw _ (List.mem_of_getElem? (i := 34) rfl))) (by decide) (backOf (W := 0) (rm6 l Z a0 hw [] b18 b6 T20.heap n0 (Nat.le_trans (Nat.le_trans (Nat.le_trans (Nat.le_trans (Nat.le_trans (Nat.le_trans (Nat.le_trans (Nat.le_trans (Nat.le_trans (Nat.le_trans (Nat.le_trans (Nat.le_trans (Nat.le_trans (Nat.le_trans (Nat.le_trans Z0 E6.1) (Keep.of_wr W7).1) (Keep.of_wr W8).1) (Keep.of_wr W9).1) E10.1) (Keep.of_wr W11).1) (Keep.of_wr W12).1) (Keep.of_wr W13).1) E14.1) (Keep.of_wr W15).1) (Keep.of_wr W16).1) (Keep.of_wr W17).1) E18.1) Kq19.1) Kq20.1) (Fa19.keep Kq20 (by simp only [List.mem_cons, List.not_mem_nil, or_false, not_or]; exact ⟨(Ne.symm (Nat.ne_of_lt (Nat.lt_of_lt_of_le ((((((((V_b6_9.ext E10).other W11 (Nat.ne_of_lt (Nat.lt_of_lt_of_le V_b6_9.lt (Nat.le_of_eq g10.symm)))).other W12 (Nat.ne_of_lt (Nat.lt_of_lt_of_le V_b6_9.lt (Nat.le_of_eq g10.symm)))).other W13 (Nat.ne_of_lt (Nat.lt_of_lt_of_le V_b6_9.lt (Nat.le_of_eq g10.symm)))).ext E14).other W15 (Nat.ne_of_lt (Nat.lt_of_lt_of_le ((((V_b6_9.ext E10).other W11 (Nat.ne_of_lt (Nat.lt_of_lt_of_le V_b6_9.lt (Nat.le_of_eq g10.symm)))).other W12 (Nat.ne_of_lt (Nat.lt_of_lt_of_le V_b6_9.lt (Nat.le_of_eq g10.symm)))).other W13 (Nat.ne_of_lt (Nat.lt_of_lt_of_le V_b6_9.lt (Nat.le_of_eq g10.symm)))).lt (Nat.le_of_eq g14.symm)))).other W16 (Nat.ne_of_lt (Nat.lt_of_lt_of_le ((((V_b6_9.ext E10).other W11 (Nat.ne_of_lt (Nat.lt_of_lt_of_le V_b6_9.lt (Nat.le_of_eq g10.symm)))).other W12 (Nat.ne_of_lt (Nat.lt_of_lt_of_le V_b6_9.lt (Nat.le_of_eq g10.symm)))).other W13 (Nat.ne_of_lt (Nat.lt_of_lt_of_le V_b6_9.lt (Nat.le_of_eq g10.symm)))).lt (Nat.le_of_eq g14.symm)))).other W17 (Nat.ne_of_lt (Nat.lt_of_lt_of_le ((((V_b6_9.ext E10).other W11 (Nat.ne_of_lt (Nat.lt_of_lt_of_le V_b6_9.lt (Nat.le_of_eq g10.symm)))).other W12 (Nat.ne_of_lt (Nat.lt_of_lt_of_le V_b6_9.lt (Nat.le_of_eq g10.symm)))).other W13 (Nat.ne_of_lt (Nat.lt_of_lt_of_le V_b6_9.lt (Nat.le_of_eq g10.symm)))).lt (Nat.le_of_eq g14.symm)))).lt (Nat.le_of_eq g18.symm)))), (Ne.symm (Nat.ne_of_lt (Nat.lt_of_lt_of_le ((((V_b10_13.ext E14).other W15 (Nat.ne_of_lt (Nat.lt_of_lt_of_le V_b10_13.lt (Nat.le_of_eq g14.symm)))).other W16 (Nat.ne_of_lt (Nat.lt_of_lt_of_le V_b10_13.lt (Nat.le_of_eq g14.symm)))).other W17 (Nat.ne_of_lt (Nat.lt_of_lt_of_le V_b10_13.lt (Nat.le_of_eq g14.symm)))).lt (Nat.le_of_eq g18.symm)))), (Ne.symm (Nat.ne_of_lt (Nat.lt_of_lt_of_le V_b14_17.lt (Nat.le_of_eq g18.symm))))⟩))) hZ (hw _ (List.mem_of_getElem? (i := 36) rfl)) (hw _ (List.mem_of_getElem? (i := 3) rfl)) (by decide) (by decide)) q22a q22c (g := (mkF m 138 #[.val (.int p1), .val (.int p2), .val (.int p3), .val (.int p4), .val (.int p5), .val (.ref b6), .val (.ref b10), .val (.ref b14), .val (.ref b18), .val (.int ((p1 &&& (2147483647 : Int32)) - ((p1 &&& (2147483647 : Int32)) / (3 : Int32)) * (3 : Int32))), .val (.int (((p1 &&& (2147483647 : Int32)) - ((p1 &&& (2147483647 : Int32)) / (3 : Int32)) * (3 : Int32)) + (1 : Int32))), .unset, .unset, .unset] [(.ref b18)])) rfl (by rw [hml]; rfl) (Steps.refl _) (argsL := []) (rest := []) (lenOf pd_0_4 rfl) rfl (by show 2 * 0 + _ ≤ _; exact Nat.le_of_eq rfl) (hb hby at_138) (fun _ _ => ⟨rfl, e21q, (by decide : 4 + 0 ≤ _), (by decide : 12 + 0 ≤ _)⟩)
  dsimp only [Pt.U, Pt.locs, Pt.cells, Pt.slots] at X22 l22 y22 z22 st22 hQ22
  have y22' : k22 = 4 := y22
  have z22' : n22 = 12 := z22
  clear y22 z22
  subst y22' z22'
  obtain ⟨rfl, N22q, e22q0⟩ := hQ22
  have e22q : T22.heap = T20.heap := e22q0
  have N22 : Fr n0 L22 := by rw [l22]; exact Fr.app N21 N22q
  obtain ⟨cq23, kq23, q23a, q23b, q23c⟩ := isOf hZ e22q (Eq19.keep Kq20)
  obtain ⟨_, _, ⟨T23, L23, k23, n23⟩, -, X23, ⟨Lc23, hQ23, l23, y23, z23⟩, st23⟩ := X22.virtualBack hx (y := (⟨"com/example/lambdaloom/lambdaloom/ports/Items", "seconds", "()[I"⟩ : MethodName)) (z := (⟨"com/example/lambdaloom/lambdaloom/ports/Items", "seconds", "()[I"⟩ : MethodName)) hown (mvT hZ (hw _ (List.mem_of_getElem? (i := 37) rfl))) (mvT hZ (hw _ (List.mem_of_getElem? (i := 38) rfl))) (notFace_of_selects (args := #[]) (mvT hZ (hw _ (List.mem_of_getElem? (i := 40) rfl)))) (mvT hZ (hw _ (List.mem_of_getElem? (i := 40) rfl))) (mvT hZ (hw _ (List.mem_of_getElem? (i := 39) rfl))) (by decide) (backOf (W := 0) (rm7 l Z a0 hw [] b18 b10 T20.heap n0 (Nat.le_trans (Nat.le_trans (Nat.le_trans (Nat.le_trans (Nat.le_trans (Nat.le_trans (Nat.le_trans (Nat.le_trans (Nat.le_trans (Nat.le_trans (Nat.le_trans (Nat.le_trans (Nat.le_trans (Nat.le_trans (Nat.le_trans Z0 E6.1) (Keep.of_wr W7).1) (Keep.of_wr W8).1) (Keep.of_wr W9).1) E10.1) (Keep.of_wr W11).1) (Keep.of_wr W12).1) (Keep.of_wr W13).1) E14.1) (Keep.of_wr W15).1) (Keep.of_wr W16).1) (Keep.of_wr W17).1) E18.1) Kq19.1) Kq20.1) (Fb19.keep Kq20 (by simp only [List.mem_cons, List.not_mem_nil, or_false, not_or]; exact ⟨(Ne.symm (Nat.ne_of_lt (Nat.lt_of_lt_of_le ((((((((V_b6_9.ext E10).other W11 (Nat.ne_of_lt (Nat.lt_of_lt_of_le V_b6_9.lt (Nat.le_of_eq g10.symm)))).other W12 (Nat.ne_of_lt (Nat.lt_of_lt_of_le V_b6_9.lt (Nat.le_of_eq g10.symm)))).other W13 (Nat.ne_of_lt (Nat.lt_of_lt_of_le V_b6_9.lt (Nat.le_of_eq g10.symm)))).ext E14).other W15 (Nat.ne_of_lt (Nat.lt_of_lt_of_le ((((V_b6_9.ext E10).other W11 (Nat.ne_of_lt (Nat.lt_of_lt_of_le V_b6_9.lt (Nat.le_of_eq g10.symm)))).other W12 (Nat.ne_of_lt (Nat.lt_of_lt_of_le V_b6_9.lt (Nat.le_of_eq g10.symm)))).other W13 (Nat.ne_of_lt (Nat.lt_of_lt_of_le V_b6_9.lt (Nat.le_of_eq g10.symm)))).lt (Nat.le_of_eq g14.symm)))).other W16 (Nat.ne_of_lt (Nat.lt_of_lt_of_le ((((V_b6_9.ext E10).other W11 (Nat.ne_of_lt (Nat.lt_of_lt_of_le V_b6_9.lt (Nat.le_of_eq g10.symm)))).other W12 (Nat.ne_of_lt (Nat.lt_of_lt_of_le V_b6_9.lt (Nat.le_of_eq g10.symm)))).other W13 (Nat.ne_of_lt (Nat.lt_of_lt_of_le V_b6_9.lt (Nat.le_of_eq g10.symm)))).lt (Nat.le_of_eq g14.symm)))).other W17 (Nat.ne_of_lt (Nat.lt_of_lt_of_le ((((V_b6_9.ext E10).other W11 (Nat.ne_of_lt (Nat.lt_of_lt_of_le V_b6_9.lt (Nat.le_of_eq g10.symm)))).other W12 (Nat.ne_of_lt (Nat.lt_of_lt_of_le V_b6_9.lt (Nat.le_of_eq g10.symm)))).other W13 (Nat.ne_of_lt (Nat.lt_of_lt_of_le V_b6_9.lt (Nat.le_of_eq g10.symm)))).lt (Nat.le_of_eq g14.symm)))).lt (Nat.le_of_eq g18.symm)))), (Ne.symm (Nat.ne_of_lt (Nat.lt_of_lt_of_le ((((V_b10_13.ext E14).other W15 (Nat.ne_of_lt (Nat.lt_of_lt_of_le V_b10_13.lt (Nat.le_of_eq g14.symm)))).other W16 (Nat.ne_of_lt (Nat.lt_of_lt_of_le V_b10_13.lt (Nat.le_of_eq g14.symm)))).other W17 (Nat.ne_of_lt (Nat.lt_of_lt_of_le V_b10_13.lt (Nat.le_of_eq g14.symm)))).lt (Nat.le_of_eq g18.symm)))), (Ne.symm (Nat.ne_of_lt (Nat.lt_of_lt_of_le V_b14_17.lt (Nat.le_of_eq g18.symm))))⟩))) hZ (hw _ (List.mem_of_getElem? (i := 41) rfl)) (hw _ (List.mem_of_getElem? (i := 3) rfl)) (by decide) (by decide)) q23a q23c (g := (mkF m 145 #[.val (.int p1), .val (.int p2), .val (.int p3), .val (.int p4), .val (.int p5), .val (.ref b6), .val (.ref b10), .val (.ref b14), .val (.ref b18), .val (.int ((p1 &&& (2147483647 : Int32)) - ((p1 &&& (2147483647 : Int32)) / (3 : Int32)) * (3 : Int32))), .val (.int (((p1 &&& (2147483647 : Int32)) - ((p1 &&& (2147483647 : Int32)) / (3 : Int32)) * (3 : Int32)) + (1 : Int32))), .val (.ref b6), .unset, .unset] [(.ref b18)])) rfl (by rw [hml]; rfl) (Steps.refl _) (argsL := []) (rest := []) (lenOf pd_0_4 rfl) rfl (by show 2 * 0 + _ ≤ _; exact Nat.le_of_eq rfl) (hb hby at_145) (fun _ _ => ⟨rfl, e22q, (by decide : 4 + 0 ≤ _), (by decide : 12 + 0 ≤ _)⟩)
  dsimp only [Pt.U, Pt.locs, Pt.cells, Pt.slots] at X23 l23 y23 z23 st23 hQ23
  have y23' : k23 = 4 := y23
  have z23' : n23 = 12 := z23
  clear y23 z23
  subst y23' z23'
  obtain ⟨rfl, N23q, e23q0⟩ := hQ23
  have e23q : T23.heap = T20.heap := e23q0
  have N23 : Fr n0 L23 := by rw [l23]; exact Fr.app N22 N23q
  obtain ⟨cq24, kq24, q24a, q24b, q24c⟩ := isOf hZ e23q (Eq19.keep Kq20)
  obtain ⟨_, _, ⟨T24, L24, k24, n24⟩, -, X24, ⟨Lc24, hQ24, l24, y24, z24⟩, st24⟩ := X23.virtualBack hx (y := (⟨"com/example/lambdaloom/lambdaloom/ports/Items", "slots", "()[I"⟩ : MethodName)) (z := (⟨"com/example/lambdaloom/lambdaloom/ports/Items", "slots", "()[I"⟩ : MethodName)) hown (mvT hZ (hw _ (List.mem_of_getElem? (i := 42) rfl))) (mvT hZ (hw _ (List.mem_of_getElem? (i := 43) rfl))) (notFace_of_selects (args := #[]) (mvT hZ (hw _ (List.mem_of_getElem? (i := 45) rfl)))) (mvT hZ (hw _ (List.mem_of_getElem? (i := 45) rfl))) (mvT hZ (hw _ (List.mem_of_getElem? (i := 44) rfl))) (by decide) (backOf (W := 0) (rm8 l Z a0 hw [] b18 b14 T20.heap n0 (Nat.le_trans (Nat.le_trans (Nat.le_trans (Nat.le_trans (Nat.le_trans (Nat.le_trans (Nat.le_trans (Nat.le_trans (Nat.le_trans (Nat.le_trans (Nat.le_trans (Nat.le_trans (Nat.le_trans (Nat.le_trans (Nat.le_trans Z0 E6.1) (Keep.of_wr W7).1) (Keep.of_wr W8).1) (Keep.of_wr W9).1) E10.1) (Keep.of_wr W11).1) (Keep.of_wr W12).1) (Keep.of_wr W13).1) E14.1) (Keep.of_wr W15).1) (Keep.of_wr W16).1) (Keep.of_wr W17).1) E18.1) Kq19.1) Kq20.1) (Fc19.keep Kq20 (by simp only [List.mem_cons, List.not_mem_nil, or_false, not_or]; exact ⟨(Ne.symm (Nat.ne_of_lt (Nat.lt_of_lt_of_le ((((((((V_b6_9.ext E10).other W11 (Nat.ne_of_lt (Nat.lt_of_lt_of_le V_b6_9.lt (Nat.le_of_eq g10.symm)))).other W12 (Nat.ne_of_lt (Nat.lt_of_lt_of_le V_b6_9.lt (Nat.le_of_eq g10.symm)))).other W13 (Nat.ne_of_lt (Nat.lt_of_lt_of_le V_b6_9.lt (Nat.le_of_eq g10.symm)))).ext E14).other W15 (Nat.ne_of_lt (Nat.lt_of_lt_of_le ((((V_b6_9.ext E10).other W11 (Nat.ne_of_lt (Nat.lt_of_lt_of_le V_b6_9.lt (Nat.le_of_eq g10.symm)))).other W12 (Nat.ne_of_lt (Nat.lt_of_lt_of_le V_b6_9.lt (Nat.le_of_eq g10.symm)))).other W13 (Nat.ne_of_lt (Nat.lt_of_lt_of_le V_b6_9.lt (Nat.le_of_eq g10.symm)))).lt (Nat.le_of_eq g14.symm)))).other W16 (Nat.ne_of_lt (Nat.lt_of_lt_of_le ((((V_b6_9.ext E10).other W11 (Nat.ne_of_lt (Nat.lt_of_lt_of_le V_b6_9.lt (Nat.le_of_eq g10.symm)))).other W12 (Nat.ne_of_lt (Nat.lt_of_lt_of_le V_b6_9.lt (Nat.le_of_eq g10.symm)))).other W13 (Nat.ne_of_lt (Nat.lt_of_lt_of_le V_b6_9.lt (Nat.le_of_eq g10.symm)))).lt (Nat.le_of_eq g14.symm)))).other W17 (Nat.ne_of_lt (Nat.lt_of_lt_of_le ((((V_b6_9.ext E10).other W11 (Nat.ne_of_lt (Nat.lt_of_lt_of_le V_b6_9.lt (Nat.le_of_eq g10.symm)))).other W12 (Nat.ne_of_lt (Nat.lt_of_lt_of_le V_b6_9.lt (Nat.le_of_eq g10.symm)))).other W13 (Nat.ne_of_lt (Nat.lt_of_lt_of_le V_b6_9.lt (Nat.le_of_eq g10.symm)))).lt (Nat.le_of_eq g14.symm)))).lt (Nat.le_of_eq g18.symm)))), (Ne.symm (Nat.ne_of_lt (Nat.lt_of_lt_of_le ((((V_b10_13.ext E14).other W15 (Nat.ne_of_lt (Nat.lt_of_lt_of_le V_b10_13.lt (Nat.le_of_eq g14.symm)))).other W16 (Nat.ne_of_lt (Nat.lt_of_lt_of_le V_b10_13.lt (Nat.le_of_eq g14.symm)))).other W17 (Nat.ne_of_lt (Nat.lt_of_lt_of_le V_b10_13.lt (Nat.le_of_eq g14.symm)))).lt (Nat.le_of_eq g18.symm)))), (Ne.symm (Nat.ne_of_lt (Nat.lt_of_lt_of_le V_b14_17.lt (Nat.le_of_eq g18.symm))))⟩))) hZ (hw _ (List.mem_of_getElem? (i := 46) rfl)) (hw _ (List.mem_of_getElem? (i := 3) rfl)) (by decide) (by decide)) q24a q24c (g := (mkF m 152 #[.val (.int p1), .val (.int p2), .val (.int p3), .val (.int p4), .val (.int p5), .val (.ref b6), .val (.ref b10), .val (.ref b14), .val (.ref b18), .val (.int ((p1 &&& (2147483647 : Int32)) - ((p1 &&& (2147483647 : Int32)) / (3 : Int32)) * (3 : Int32))), .val (.int (((p1 &&& (2147483647 : Int32)) - ((p1 &&& (2147483647 : Int32)) / (3 : Int32)) * (3 : Int32)) + (1 : Int32))), .val (.ref b6), .val (.ref b10), .unset] [(.ref b18)])) rfl (by rw [hml]; rfl) (Steps.refl _) (argsL := []) (rest := []) (lenOf pd_0_4 rfl) rfl (by show 2 * 0 + _ ≤ _; exact Nat.le_of_eq rfl) (hb hby at_152) (fun _ _ => ⟨rfl, e23q, (by decide : 4 + 0 ≤ _), (by decide : 12 + 0 ≤ _)⟩)
  dsimp only [Pt.U, Pt.locs, Pt.cells, Pt.slots] at X24 l24 y24 z24 st24 hQ24
  have y24' : k24 = 4 := y24
  have z24' : n24 = 12 := z24
  clear y24 z24
  subst y24' z24'
  obtain ⟨rfl, N24q, e24q0⟩ := hQ24
  have e24q : T24.heap = T20.heap := e24q0
  have N24 : Fr n0 L24 := by rw [l24]; exact Fr.app N23 N24q
  obtain ⟨_, _, ⟨T25, L25, k25, n25⟩, -, X25, ⟨Lc25, hQ25, l25, y25, z25⟩, st25⟩ := Jvm.LawKit.callS X24 hx (y := (⟨"com/example/lambdaloom/lambdaloom/ports/ItemsSetPinLaw", "cell", "([IIIII)Z"⟩ : MethodName)) hown (mvT hZ (hw _ (List.mem_of_getElem? (i := 47) rfl))) (mvT hZ (hw _ (List.mem_of_getElem? (i := 48) rfl))) (mvT hZ (hw _ (List.mem_of_getElem? (i := 49) rfl))) (mvT hZ (hw _ (List.mem_of_getElem? (i := 50) rfl))) (by decide) (backOf (W := 0) (rm9 l Z a0 hw [] b6 (0 : Int32) ((p1 &&& (2147483647 : Int32)) - ((p1 &&& (2147483647 : Int32)) / (3 : Int32)) * (3 : Int32)) p2 p5 (own_g (0 : Int32) ((p1 &&& (2147483647 : Int32)) - ((p1 &&& (2147483647 : Int32)) / (3 : Int32)) * (3 : Int32)) p2 p5) (clA.setSlot (((p1 &&& (2147483647 : Int32)) - ((p1 &&& (2147483647 : Int32)) / (3 : Int32)) * (3 : Int32))).toNatClampNeg (.int p2)) T20.heap n0 (Nat.le_trans (Nat.le_trans (Nat.le_trans (Nat.le_trans (Nat.le_trans (Nat.le_trans (Nat.le_trans (Nat.le_trans (Nat.le_trans (Nat.le_trans (Nat.le_trans (Nat.le_trans (Nat.le_trans (Nat.le_trans (Nat.le_trans Z0 E6.1) (Keep.of_wr W7).1) (Keep.of_wr W8).1) (Keep.of_wr W9).1) E10.1) (Keep.of_wr W11).1) (Keep.of_wr W12).1) (Keep.of_wr W13).1) E14.1) (Keep.of_wr W15).1) (Keep.of_wr W16).1) (Keep.of_wr W17).1) E18.1) Kq19.1) Kq20.1) AqA20 (inb_of (own_sz SclA) (by decide)) (own_hat SclA (own_r3 _) (by decide) (HA _ (by rw [SclA]; decide))) (inb_of (own_sz SclA) (by decide)) (own_hat SclA (own_r3 _) (by decide) (HA _ (by rw [SclA]; decide)))) hZ (hw _ (List.mem_of_getElem? (i := 50) rfl)) (hw _ (List.mem_of_getElem? (i := 49) rfl)) (by decide) (by decide)) (g := (mkF m 188 #[.val (.int p1), .val (.int p2), .val (.int p3), .val (.int p4), .val (.int p5), .val (.ref b6), .val (.ref b10), .val (.ref b14), .val (.ref b18), .val (.int ((p1 &&& (2147483647 : Int32)) - ((p1 &&& (2147483647 : Int32)) / (3 : Int32)) * (3 : Int32))), .val (.int (((p1 &&& (2147483647 : Int32)) - ((p1 &&& (2147483647 : Int32)) / (3 : Int32)) * (3 : Int32)) + (1 : Int32))), .val (.ref b6), .val (.ref b10), .val (.ref b14)] [(.int p5), (.int p2), (.int ((p1 &&& (2147483647 : Int32)) - ((p1 &&& (2147483647 : Int32)) / (3 : Int32)) * (3 : Int32))), (.int (0 : Int32)), (.ref b6)])) rfl (by rw [hml]; rfl) (argsL := [(.ref b6), (.int (0 : Int32)), (.int ((p1 &&& (2147483647 : Int32)) - ((p1 &&& (2147483647 : Int32)) / (3 : Int32)) * (3 : Int32))), (.int p2), (.int p5)]) (rest := []) (lenOf pd_0_5 rfl) rfl (by show 2 * 0 + _ ≤ _; exact Nat.le_of_eq rfl) (hb hby at_188) (fun _ _ => ⟨rfl, e24q, (by decide : 4 + 0 ≤ _), (by decide : 12 + 0 ≤ _)⟩)
  dsimp only [Pt.U, Pt.locs, Pt.cells, Pt.slots] at X25 l25 y25 z25 st25 hQ25
  have y25' : k25 = 4 := y25
  have z25' : n25 = 12 := z25
  clear y25 z25
  subst y25' z25'
  obtain ⟨rfl, N25q, e25q0⟩ := hQ25
  have e25q : T25.heap = T20.heap := e25q0
  have N25 : Fr n0 L25 := by rw [l25]; exact Fr.app N24 N25q
  obtain ⟨_, _, ⟨T26, L26, k26, n26⟩, -, X26, ⟨Lc26, hQ26, l26, y26, z26⟩, st26⟩ := Jvm.LawKit.callS X25 hx (y := (⟨"com/example/lambdaloom/lambdaloom/ports/ItemsSetPinLaw", "cell", "([IIIII)Z"⟩ : MethodName)) hown (mvT hZ (hw _ (List.mem_of_getElem? (i := 47) rfl))) (mvT hZ (hw _ (List.mem_of_getElem? (i := 48) rfl))) (mvT hZ (hw _ (List.mem_of_getElem? (i := 49) rfl))) (mvT hZ (hw _ (List.mem_of_getElem? (i := 50) rfl))) (by decide) (backOf (W := 0) (rm9 l Z a0 hw [] b6 (1 : Int32) ((p1 &&& (2147483647 : Int32)) - ((p1 &&& (2147483647 : Int32)) / (3 : Int32)) * (3 : Int32)) p2 (p5 + (1 : Int32)) (own_g (1 : Int32) ((p1 &&& (2147483647 : Int32)) - ((p1 &&& (2147483647 : Int32)) / (3 : Int32)) * (3 : Int32)) p2 (p5 + (1 : Int32))) (clA.setSlot (((p1 &&& (2147483647 : Int32)) - ((p1 &&& (2147483647 : Int32)) / (3 : Int32)) * (3 : Int32))).toNatClampNeg (.int p2)) T20.heap n0 (Nat.le_trans (Nat.le_trans (Nat.le_trans (Nat.le_trans (Nat.le_trans (Nat.le_trans (Nat.le_trans (Nat.le_trans (Nat.le_trans (Nat.le_trans (Nat.le_trans (Nat.le_trans (Nat.le_trans (Nat.le_trans (Nat.le_trans Z0 E6.1) (Keep.of_wr W7).1) (Keep.of_wr W8).1) (Keep.of_wr W9).1) E10.1) (Keep.of_wr W11).1) (Keep.of_wr W12).1) (Keep.of_wr W13).1) E14.1) (Keep.of_wr W15).1) (Keep.of_wr W16).1) (Keep.of_wr W17).1) E18.1) Kq19.1) Kq20.1) AqA20 (inb_of (own_sz SclA) (by decide)) (own_hat SclA (own_r3 _) (by decide) (HA _ (by rw [SclA]; decide))) (inb_of (own_sz SclA) (by decide)) (own_hat SclA (own_r3 _) (by decide) (HA _ (by rw [SclA]; decide)))) hZ (hw _ (List.mem_of_getElem? (i := 50) rfl)) (hw _ (List.mem_of_getElem? (i := 49) rfl)) (by decide) (by decide)) (g := (mkF m 204 #[.val (.int p1), .val (.int p2), .val (.int p3), .val (.int p4), .val (.int p5), .val (.ref b6), .val (.ref b10), .val (.ref b14), .val (.ref b18), .val (.int ((p1 &&& (2147483647 : Int32)) - ((p1 &&& (2147483647 : Int32)) / (3 : Int32)) * (3 : Int32))), .val (.int (((p1 &&& (2147483647 : Int32)) - ((p1 &&& (2147483647 : Int32)) / (3 : Int32)) * (3 : Int32)) + (1 : Int32))), .val (.ref b6), .val (.ref b10), .val (.ref b14)] [(.int (p5 + (1 : Int32))), (.int p2), (.int ((p1 &&& (2147483647 : Int32)) - ((p1 &&& (2147483647 : Int32)) / (3 : Int32)) * (3 : Int32))), (.int (1 : Int32)), (.ref b6)])) rfl (by rw [hml]; rfl) (argsL := [(.ref b6), (.int (1 : Int32)), (.int ((p1 &&& (2147483647 : Int32)) - ((p1 &&& (2147483647 : Int32)) / (3 : Int32)) * (3 : Int32))), (.int p2), (.int (p5 + (1 : Int32)))]) (rest := []) (lenOf pd_0_5 rfl) rfl (by show 2 * 0 + _ ≤ _; exact Nat.le_of_eq rfl) (hb hby at_204) (fun _ _ => ⟨rfl, e25q, (by decide : 4 + 0 ≤ _), (by decide : 12 + 0 ≤ _)⟩)
  dsimp only [Pt.U, Pt.locs, Pt.cells, Pt.slots] at X26 l26 y26 z26 st26 hQ26
  have y26' : k26 = 4 := y26
  have z26' : n26 = 12 := z26
  clear y26 z26
  subst y26' z26'
  obtain ⟨rfl, N26q, e26q0⟩ := hQ26
  have e26q : T26.heap = T20.heap := e26q0
  have N26 : Fr n0 L26 := by rw [l26]; exact Fr.app N25 N26q
  obtain ⟨_, _, ⟨T27, L27, k27, n27⟩, -, X27, ⟨Lc27, hQ27, l27, y27, z27⟩, st27⟩ := Jvm.LawKit.callS X26 hx (y := (⟨"com/example/lambdaloom/lambdaloom/ports/ItemsSetPinLaw", "cell", "([IIIII)Z"⟩ : MethodName)) hown (mvT hZ (hw _ (List.mem_of_getElem? (i := 47) rfl))) (mvT hZ (hw _ (List.mem_of_getElem? (i := 48) rfl))) (mvT hZ (hw _ (List.mem_of_getElem? (i := 49) rfl))) (mvT hZ (hw _ (List.mem_of_getElem? (i := 50) rfl))) (by decide) (backOf (W := 0) (rm9 l Z a0 hw [] b6 (2 : Int32) ((p1 &&& (2147483647 : Int32)) - ((p1 &&& (2147483647 : Int32)) / (3 : Int32)) * (3 : Int32)) p2 (p5 + (2 : Int32)) (own_g (2 : Int32) ((p1 &&& (2147483647 : Int32)) - ((p1 &&& (2147483647 : Int32)) / (3 : Int32)) * (3 : Int32)) p2 (p5 + (2 : Int32))) (clA.setSlot (((p1 &&& (2147483647 : Int32)) - ((p1 &&& (2147483647 : Int32)) / (3 : Int32)) * (3 : Int32))).toNatClampNeg (.int p2)) T20.heap n0 (Nat.le_trans (Nat.le_trans (Nat.le_trans (Nat.le_trans (Nat.le_trans (Nat.le_trans (Nat.le_trans (Nat.le_trans (Nat.le_trans (Nat.le_trans (Nat.le_trans (Nat.le_trans (Nat.le_trans (Nat.le_trans (Nat.le_trans Z0 E6.1) (Keep.of_wr W7).1) (Keep.of_wr W8).1) (Keep.of_wr W9).1) E10.1) (Keep.of_wr W11).1) (Keep.of_wr W12).1) (Keep.of_wr W13).1) E14.1) (Keep.of_wr W15).1) (Keep.of_wr W16).1) (Keep.of_wr W17).1) E18.1) Kq19.1) Kq20.1) AqA20 (inb_of (own_sz SclA) (by decide)) (own_hat SclA (own_r3 _) (by decide) (HA _ (by rw [SclA]; decide))) (inb_of (own_sz SclA) (by decide)) (own_hat SclA (own_r3 _) (by decide) (HA _ (by rw [SclA]; decide)))) hZ (hw _ (List.mem_of_getElem? (i := 50) rfl)) (hw _ (List.mem_of_getElem? (i := 49) rfl)) (by decide) (by decide)) (g := (mkF m 220 #[.val (.int p1), .val (.int p2), .val (.int p3), .val (.int p4), .val (.int p5), .val (.ref b6), .val (.ref b10), .val (.ref b14), .val (.ref b18), .val (.int ((p1 &&& (2147483647 : Int32)) - ((p1 &&& (2147483647 : Int32)) / (3 : Int32)) * (3 : Int32))), .val (.int (((p1 &&& (2147483647 : Int32)) - ((p1 &&& (2147483647 : Int32)) / (3 : Int32)) * (3 : Int32)) + (1 : Int32))), .val (.ref b6), .val (.ref b10), .val (.ref b14)] [(.int (p5 + (2 : Int32))), (.int p2), (.int ((p1 &&& (2147483647 : Int32)) - ((p1 &&& (2147483647 : Int32)) / (3 : Int32)) * (3 : Int32))), (.int (2 : Int32)), (.ref b6)])) rfl (by rw [hml]; rfl) (argsL := [(.ref b6), (.int (2 : Int32)), (.int ((p1 &&& (2147483647 : Int32)) - ((p1 &&& (2147483647 : Int32)) / (3 : Int32)) * (3 : Int32))), (.int p2), (.int (p5 + (2 : Int32)))]) (rest := []) (lenOf pd_0_5 rfl) rfl (by show 2 * 0 + _ ≤ _; exact Nat.le_of_eq rfl) (hb hby at_220) (fun _ _ => ⟨rfl, e26q, (by decide : 4 + 0 ≤ _), (by decide : 12 + 0 ≤ _)⟩)
  dsimp only [Pt.U, Pt.locs, Pt.cells, Pt.slots] at X27 l27 y27 z27 st27 hQ27
  have y27' : k27 = 4 := y27
  have z27' : n27 = 12 := z27
  clear y27 z27
  subst y27' z27'
  obtain ⟨rfl, N27q, e27q0⟩ := hQ27
  have e27q : T27.heap = T20.heap := e27q0
  have N27 : Fr n0 L27 := by rw [l27]; exact Fr.app N26 N27q
  obtain ⟨_, _, ⟨T28, L28, k28, n28⟩, -, X28, ⟨Lc28, hQ28, l28, y28, z28⟩, st28⟩ := Jvm.LawKit.callS X27 hx (y := (⟨"com/example/lambdaloom/lambdaloom/ports/ItemsSetPinLaw", "cell", "([IIIII)Z"⟩ : MethodName)) hown (mvT hZ (hw _ (List.mem_of_getElem? (i := 47) rfl))) (mvT hZ (hw _ (List.mem_of_getElem? (i := 48) rfl))) (mvT hZ (hw _ (List.mem_of_getElem? (i := 49) rfl))) (mvT hZ (hw _ (List.mem_of_getElem? (i := 50) rfl))) (by decide) (backOf (W := 0) (rm9 l Z a0 hw [] b10 (0 : Int32) ((p1 &&& (2147483647 : Int32)) - ((p1 &&& (2147483647 : Int32)) / (3 : Int32)) * (3 : Int32)) p3 (p5 + (3 : Int32)) (own_g (0 : Int32) ((p1 &&& (2147483647 : Int32)) - ((p1 &&& (2147483647 : Int32)) / (3 : Int32)) * (3 : Int32)) p3 (p5 + (3 : Int32))) (clB.setSlot (((p1 &&& (2147483647 : Int32)) - ((p1 &&& (2147483647 : Int32)) / (3 : Int32)) * (3 : Int32))).toNatClampNeg (.int p3)) T20.heap n0 (Nat.le_trans (Nat.le_trans (Nat.le_trans (Nat.le_trans (Nat.le_trans (Nat.le_trans (Nat.le_trans (Nat.le_trans (Nat.le_trans (Nat.le_trans (Nat.le_trans (Nat.le_trans (Nat.le_trans (Nat.le_trans (Nat.le_trans Z0 E6.1) (Keep.of_wr W7).1) (Keep.of_wr W8).1) (Keep.of_wr W9).1) E10.1) (Keep.of_wr W11).1) (Keep.of_wr W12).1) (Keep.of_wr W13).1) E14.1) (Keep.of_wr W15).1) (Keep.of_wr W16).1) (Keep.of_wr W17).1) E18.1) Kq19.1) Kq20.1) AqB20 (inb_of (own_sz SclB) (by decide)) (own_hat SclB (own_r3 _) (by decide) (HB _ (by rw [SclB]; decide))) (inb_of (own_sz SclB) (by decide)) (own_hat SclB (own_r3 _) (by decide) (HB _ (by rw [SclB]; decide)))) hZ (hw _ (List.mem_of_getElem? (i := 50) rfl)) (hw _ (List.mem_of_getElem? (i := 49) rfl)) (by decide) (by decide)) (g := (mkF m 236 #[.val (.int p1), .val (.int p2), .val (.int p3), .val (.int p4), .val (.int p5), .val (.ref b6), .val (.ref b10), .val (.ref b14), .val (.ref b18), .val (.int ((p1 &&& (2147483647 : Int32)) - ((p1 &&& (2147483647 : Int32)) / (3 : Int32)) * (3 : Int32))), .val (.int (((p1 &&& (2147483647 : Int32)) - ((p1 &&& (2147483647 : Int32)) / (3 : Int32)) * (3 : Int32)) + (1 : Int32))), .val (.ref b6), .val (.ref b10), .val (.ref b14)] [(.int (p5 + (3 : Int32))), (.int p3), (.int ((p1 &&& (2147483647 : Int32)) - ((p1 &&& (2147483647 : Int32)) / (3 : Int32)) * (3 : Int32))), (.int (0 : Int32)), (.ref b10)])) rfl (by rw [hml]; rfl) (argsL := [(.ref b10), (.int (0 : Int32)), (.int ((p1 &&& (2147483647 : Int32)) - ((p1 &&& (2147483647 : Int32)) / (3 : Int32)) * (3 : Int32))), (.int p3), (.int (p5 + (3 : Int32)))]) (rest := []) (lenOf pd_0_5 rfl) rfl (by show 2 * 0 + _ ≤ _; exact Nat.le_of_eq rfl) (hb hby at_236) (fun _ _ => ⟨rfl, e27q, (by decide : 4 + 0 ≤ _), (by decide : 12 + 0 ≤ _)⟩)
  dsimp only [Pt.U, Pt.locs, Pt.cells, Pt.slots] at X28 l28 y28 z28 st28 hQ28
  have y28' : k28 = 4 := y28
  have z28' : n28 = 12 := z28
  clear y28 z28
  subst y28' z28'
  obtain ⟨rfl, N28q, e28q0⟩ := hQ28
  have e28q : T28.heap = T20.heap := e28q0
  have N28 : Fr n0 L28 := by rw [l28]; exact Fr.app N27 N28q
  obtain ⟨_, _, ⟨T29, L29, k29, n29⟩, -, X29, ⟨Lc29, hQ29, l29, y29, z29⟩, st29⟩ := Jvm.LawKit.callS X28 hx (y := (⟨"com/example/lambdaloom/lambdaloom/ports/ItemsSetPinLaw", "cell", "([IIIII)Z"⟩ : MethodName)) hown (mvT hZ (hw _ (List.mem_of_getElem? (i := 47) rfl))) (mvT hZ (hw _ (List.mem_of_getElem? (i := 48) rfl))) (mvT hZ (hw _ (List.mem_of_getElem? (i := 49) rfl))) (mvT hZ (hw _ (List.mem_of_getElem? (i := 50) rfl))) (by decide) (backOf (W := 0) (rm9 l Z a0 hw [] b10 (1 : Int32) ((p1 &&& (2147483647 : Int32)) - ((p1 &&& (2147483647 : Int32)) / (3 : Int32)) * (3 : Int32)) p3 (p5 + (4 : Int32)) (own_g (1 : Int32) ((p1 &&& (2147483647 : Int32)) - ((p1 &&& (2147483647 : Int32)) / (3 : Int32)) * (3 : Int32)) p3 (p5 + (4 : Int32))) (clB.setSlot (((p1 &&& (2147483647 : Int32)) - ((p1 &&& (2147483647 : Int32)) / (3 : Int32)) * (3 : Int32))).toNatClampNeg (.int p3)) T20.heap n0 (Nat.le_trans (Nat.le_trans (Nat.le_trans (Nat.le_trans (Nat.le_trans (Nat.le_trans (Nat.le_trans (Nat.le_trans (Nat.le_trans (Nat.le_trans (Nat.le_trans (Nat.le_trans (Nat.le_trans (Nat.le_trans (Nat.le_trans Z0 E6.1) (Keep.of_wr W7).1) (Keep.of_wr W8).1) (Keep.of_wr W9).1) E10.1) (Keep.of_wr W11).1) (Keep.of_wr W12).1) (Keep.of_wr W13).1) E14.1) (Keep.of_wr W15).1) (Keep.of_wr W16).1) (Keep.of_wr W17).1) E18.1) Kq19.1) Kq20.1) AqB20 (inb_of (own_sz SclB) (by decide)) (own_hat SclB (own_r3 _) (by decide) (HB _ (by rw [SclB]; decide))) (inb_of (own_sz SclB) (by decide)) (own_hat SclB (own_r3 _) (by decide) (HB _ (by rw [SclB]; decide)))) hZ (hw _ (List.mem_of_getElem? (i := 50) rfl)) (hw _ (List.mem_of_getElem? (i := 49) rfl)) (by decide) (by decide)) (g := (mkF m 252 #[.val (.int p1), .val (.int p2), .val (.int p3), .val (.int p4), .val (.int p5), .val (.ref b6), .val (.ref b10), .val (.ref b14), .val (.ref b18), .val (.int ((p1 &&& (2147483647 : Int32)) - ((p1 &&& (2147483647 : Int32)) / (3 : Int32)) * (3 : Int32))), .val (.int (((p1 &&& (2147483647 : Int32)) - ((p1 &&& (2147483647 : Int32)) / (3 : Int32)) * (3 : Int32)) + (1 : Int32))), .val (.ref b6), .val (.ref b10), .val (.ref b14)] [(.int (p5 + (4 : Int32))), (.int p3), (.int ((p1 &&& (2147483647 : Int32)) - ((p1 &&& (2147483647 : Int32)) / (3 : Int32)) * (3 : Int32))), (.int (1 : Int32)), (.ref b10)])) rfl (by rw [hml]; rfl) (argsL := [(.ref b10), (.int (1 : Int32)), (.int ((p1 &&& (2147483647 : Int32)) - ((p1 &&& (2147483647 : Int32)) / (3 : Int32)) * (3 : Int32))), (.int p3), (.int (p5 + (4 : Int32)))]) (rest := []) (lenOf pd_0_5 rfl) rfl (by show 2 * 0 + _ ≤ _; exact Nat.le_of_eq rfl) (hb hby at_252) (fun _ _ => ⟨rfl, e28q, (by decide : 4 + 0 ≤ _), (by decide : 12 + 0 ≤ _)⟩)
  dsimp only [Pt.U, Pt.locs, Pt.cells, Pt.slots] at X29 l29 y29 z29 st29 hQ29
  have y29' : k29 = 4 := y29
  have z29' : n29 = 12 := z29
  clear y29 z29
  subst y29' z29'
  obtain ⟨rfl, N29q, e29q0⟩ := hQ29
  have e29q : T29.heap = T20.heap := e29q0
  have N29 : Fr n0 L29 := by rw [l29]; exact Fr.app N28 N29q
  obtain ⟨_, _, ⟨T30, L30, k30, n30⟩, -, X30, ⟨Lc30, hQ30, l30, y30, z30⟩, st30⟩ := Jvm.LawKit.callS X29 hx (y := (⟨"com/example/lambdaloom/lambdaloom/ports/ItemsSetPinLaw", "cell", "([IIIII)Z"⟩ : MethodName)) hown (mvT hZ (hw _ (List.mem_of_getElem? (i := 47) rfl))) (mvT hZ (hw _ (List.mem_of_getElem? (i := 48) rfl))) (mvT hZ (hw _ (List.mem_of_getElem? (i := 49) rfl))) (mvT hZ (hw _ (List.mem_of_getElem? (i := 50) rfl))) (by decide) (backOf (W := 0) (rm9 l Z a0 hw [] b10 (2 : Int32) ((p1 &&& (2147483647 : Int32)) - ((p1 &&& (2147483647 : Int32)) / (3 : Int32)) * (3 : Int32)) p3 (p5 + (5 : Int32)) (own_g (2 : Int32) ((p1 &&& (2147483647 : Int32)) - ((p1 &&& (2147483647 : Int32)) / (3 : Int32)) * (3 : Int32)) p3 (p5 + (5 : Int32))) (clB.setSlot (((p1 &&& (2147483647 : Int32)) - ((p1 &&& (2147483647 : Int32)) / (3 : Int32)) * (3 : Int32))).toNatClampNeg (.int p3)) T20.heap n0 (Nat.le_trans (Nat.le_trans (Nat.le_trans (Nat.le_trans (Nat.le_trans (Nat.le_trans (Nat.le_trans (Nat.le_trans (Nat.le_trans (Nat.le_trans (Nat.le_trans (Nat.le_trans (Nat.le_trans (Nat.le_trans (Nat.le_trans Z0 E6.1) (Keep.of_wr W7).1) (Keep.of_wr W8).1) (Keep.of_wr W9).1) E10.1) (Keep.of_wr W11).1) (Keep.of_wr W12).1) (Keep.of_wr W13).1) E14.1) (Keep.of_wr W15).1) (Keep.of_wr W16).1) (Keep.of_wr W17).1) E18.1) Kq19.1) Kq20.1) AqB20 (inb_of (own_sz SclB) (by decide)) (own_hat SclB (own_r3 _) (by decide) (HB _ (by rw [SclB]; decide))) (inb_of (own_sz SclB) (by decide)) (own_hat SclB (own_r3 _) (by decide) (HB _ (by rw [SclB]; decide)))) hZ (hw _ (List.mem_of_getElem? (i := 50) rfl)) (hw _ (List.mem_of_getElem? (i := 49) rfl)) (by decide) (by decide)) (g := (mkF m 268 #[.val (.int p1), .val (.int p2), .val (.int p3), .val (.int p4), .val (.int p5), .val (.ref b6), .val (.ref b10), .val (.ref b14), .val (.ref b18), .val (.int ((p1 &&& (2147483647 : Int32)) - ((p1 &&& (2147483647 : Int32)) / (3 : Int32)) * (3 : Int32))), .val (.int (((p1 &&& (2147483647 : Int32)) - ((p1 &&& (2147483647 : Int32)) / (3 : Int32)) * (3 : Int32)) + (1 : Int32))), .val (.ref b6), .val (.ref b10), .val (.ref b14)] [(.int (p5 + (5 : Int32))), (.int p3), (.int ((p1 &&& (2147483647 : Int32)) - ((p1 &&& (2147483647 : Int32)) / (3 : Int32)) * (3 : Int32))), (.int (2 : Int32)), (.ref b10)])) rfl (by rw [hml]; rfl) (argsL := [(.ref b10), (.int (2 : Int32)), (.int ((p1 &&& (2147483647 : Int32)) - ((p1 &&& (2147483647 : Int32)) / (3 : Int32)) * (3 : Int32))), (.int p3), (.int (p5 + (5 : Int32)))]) (rest := []) (lenOf pd_0_5 rfl) rfl (by show 2 * 0 + _ ≤ _; exact Nat.le_of_eq rfl) (hb hby at_268) (fun _ _ => ⟨rfl, e29q, (by decide : 4 + 0 ≤ _), (by decide : 12 + 0 ≤ _)⟩)
  dsimp only [Pt.U, Pt.locs, Pt.cells, Pt.slots] at X30 l30 y30 z30 st30 hQ30
  have y30' : k30 = 4 := y30
  have z30' : n30 = 12 := z30
  clear y30 z30
  subst y30' z30'
  obtain ⟨rfl, N30q, e30q0⟩ := hQ30
  have e30q : T30.heap = T20.heap := e30q0
  have N30 : Fr n0 L30 := by rw [l30]; exact Fr.app N29 N30q
  obtain ⟨_, _, ⟨T31, L31, k31, n31⟩, -, X31, ⟨Lc31, hQ31, l31, y31, z31⟩, st31⟩ := Jvm.LawKit.callS X30 hx (y := (⟨"com/example/lambdaloom/lambdaloom/ports/ItemsSetPinLaw", "cell", "([IIIII)Z"⟩ : MethodName)) hown (mvT hZ (hw _ (List.mem_of_getElem? (i := 47) rfl))) (mvT hZ (hw _ (List.mem_of_getElem? (i := 48) rfl))) (mvT hZ (hw _ (List.mem_of_getElem? (i := 49) rfl))) (mvT hZ (hw _ (List.mem_of_getElem? (i := 50) rfl))) (by decide) (backOf (W := 0) (rm9 l Z a0 hw [] b14 (0 : Int32) ((p1 &&& (2147483647 : Int32)) - ((p1 &&& (2147483647 : Int32)) / (3 : Int32)) * (3 : Int32)) p4 (p5 + (6 : Int32)) (own_g (0 : Int32) ((p1 &&& (2147483647 : Int32)) - ((p1 &&& (2147483647 : Int32)) / (3 : Int32)) * (3 : Int32)) p4 (p5 + (6 : Int32))) (clC.setSlot (((p1 &&& (2147483647 : Int32)) - ((p1 &&& (2147483647 : Int32)) / (3 : Int32)) * (3 : Int32))).toNatClampNeg (.int p4)) T20.heap n0 (Nat.le_trans (Nat.le_trans (Nat.le_trans (Nat.le_trans (Nat.le_trans (Nat.le_trans (Nat.le_trans (Nat.le_trans (Nat.le_trans (Nat.le_trans (Nat.le_trans (Nat.le_trans (Nat.le_trans (Nat.le_trans (Nat.le_trans Z0 E6.1) (Keep.of_wr W7).1) (Keep.of_wr W8).1) (Keep.of_wr W9).1) E10.1) (Keep.of_wr W11).1) (Keep.of_wr W12).1) (Keep.of_wr W13).1) E14.1) (Keep.of_wr W15).1) (Keep.of_wr W16).1) (Keep.of_wr W17).1) E18.1) Kq19.1) Kq20.1) AqC20 (inb_of (own_sz SclC) (by decide)) (own_hat SclC (own_r3 _) (by decide) (HC _ (by rw [SclC]; decide))) (inb_of (own_sz SclC) (by decide)) (own_hat SclC (own_r3 _) (by decide) (HC _ (by rw [SclC]; decide)))) hZ (hw _ (List.mem_of_getElem? (i := 50) rfl)) (hw _ (List.mem_of_getElem? (i := 49) rfl)) (by decide) (by decide)) (g := (mkF m 285 #[.val (.int p1), .val (.int p2), .val (.int p3), .val (.int p4), .val (.int p5), .val (.ref b6), .val (.ref b10), .val (.ref b14), .val (.ref b18), .val (.int ((p1 &&& (2147483647 : Int32)) - ((p1 &&& (2147483647 : Int32)) / (3 : Int32)) * (3 : Int32))), .val (.int (((p1 &&& (2147483647 : Int32)) - ((p1 &&& (2147483647 : Int32)) / (3 : Int32)) * (3 : Int32)) + (1 : Int32))), .val (.ref b6), .val (.ref b10), .val (.ref b14)] [(.int (p5 + (6 : Int32))), (.int p4), (.int ((p1 &&& (2147483647 : Int32)) - ((p1 &&& (2147483647 : Int32)) / (3 : Int32)) * (3 : Int32))), (.int (0 : Int32)), (.ref b14)])) rfl (by rw [hml]; rfl) (argsL := [(.ref b14), (.int (0 : Int32)), (.int ((p1 &&& (2147483647 : Int32)) - ((p1 &&& (2147483647 : Int32)) / (3 : Int32)) * (3 : Int32))), (.int p4), (.int (p5 + (6 : Int32)))]) (rest := []) (lenOf pd_0_5 rfl) rfl (by show 2 * 0 + _ ≤ _; exact Nat.le_of_eq rfl) (hb hby at_285) (fun _ _ => ⟨rfl, e30q, (by decide : 4 + 0 ≤ _), (by decide : 12 + 0 ≤ _)⟩)
  dsimp only [Pt.U, Pt.locs, Pt.cells, Pt.slots] at X31 l31 y31 z31 st31 hQ31
  have y31' : k31 = 4 := y31
  have z31' : n31 = 12 := z31
  clear y31 z31
  subst y31' z31'
  obtain ⟨rfl, N31q, e31q0⟩ := hQ31
  have e31q : T31.heap = T20.heap := e31q0
  have N31 : Fr n0 L31 := by rw [l31]; exact Fr.app N30 N31q
  obtain ⟨_, _, ⟨T32, L32, k32, n32⟩, -, X32, ⟨Lc32, hQ32, l32, y32, z32⟩, st32⟩ := Jvm.LawKit.callS X31 hx (y := (⟨"com/example/lambdaloom/lambdaloom/ports/ItemsSetPinLaw", "cell", "([IIIII)Z"⟩ : MethodName)) hown (mvT hZ (hw _ (List.mem_of_getElem? (i := 47) rfl))) (mvT hZ (hw _ (List.mem_of_getElem? (i := 48) rfl))) (mvT hZ (hw _ (List.mem_of_getElem? (i := 49) rfl))) (mvT hZ (hw _ (List.mem_of_getElem? (i := 50) rfl))) (by decide) (backOf (W := 0) (rm9 l Z a0 hw [] b14 (1 : Int32) ((p1 &&& (2147483647 : Int32)) - ((p1 &&& (2147483647 : Int32)) / (3 : Int32)) * (3 : Int32)) p4 (p5 + (7 : Int32)) (own_g (1 : Int32) ((p1 &&& (2147483647 : Int32)) - ((p1 &&& (2147483647 : Int32)) / (3 : Int32)) * (3 : Int32)) p4 (p5 + (7 : Int32))) (clC.setSlot (((p1 &&& (2147483647 : Int32)) - ((p1 &&& (2147483647 : Int32)) / (3 : Int32)) * (3 : Int32))).toNatClampNeg (.int p4)) T20.heap n0 (Nat.le_trans (Nat.le_trans (Nat.le_trans (Nat.le_trans (Nat.le_trans (Nat.le_trans (Nat.le_trans (Nat.le_trans (Nat.le_trans (Nat.le_trans (Nat.le_trans (Nat.le_trans (Nat.le_trans (Nat.le_trans (Nat.le_trans Z0 E6.1) (Keep.of_wr W7).1) (Keep.of_wr W8).1) (Keep.of_wr W9).1) E10.1) (Keep.of_wr W11).1) (Keep.of_wr W12).1) (Keep.of_wr W13).1) E14.1) (Keep.of_wr W15).1) (Keep.of_wr W16).1) (Keep.of_wr W17).1) E18.1) Kq19.1) Kq20.1) AqC20 (inb_of (own_sz SclC) (by decide)) (own_hat SclC (own_r3 _) (by decide) (HC _ (by rw [SclC]; decide))) (inb_of (own_sz SclC) (by decide)) (own_hat SclC (own_r3 _) (by decide) (HC _ (by rw [SclC]; decide)))) hZ (hw _ (List.mem_of_getElem? (i := 50) rfl)) (hw _ (List.mem_of_getElem? (i := 49) rfl)) (by decide) (by decide)) (g := (mkF m 302 #[.val (.int p1), .val (.int p2), .val (.int p3), .val (.int p4), .val (.int p5), .val (.ref b6), .val (.ref b10), .val (.ref b14), .val (.ref b18), .val (.int ((p1 &&& (2147483647 : Int32)) - ((p1 &&& (2147483647 : Int32)) / (3 : Int32)) * (3 : Int32))), .val (.int (((p1 &&& (2147483647 : Int32)) - ((p1 &&& (2147483647 : Int32)) / (3 : Int32)) * (3 : Int32)) + (1 : Int32))), .val (.ref b6), .val (.ref b10), .val (.ref b14)] [(.int (p5 + (7 : Int32))), (.int p4), (.int ((p1 &&& (2147483647 : Int32)) - ((p1 &&& (2147483647 : Int32)) / (3 : Int32)) * (3 : Int32))), (.int (1 : Int32)), (.ref b14)])) rfl (by rw [hml]; rfl) (argsL := [(.ref b14), (.int (1 : Int32)), (.int ((p1 &&& (2147483647 : Int32)) - ((p1 &&& (2147483647 : Int32)) / (3 : Int32)) * (3 : Int32))), (.int p4), (.int (p5 + (7 : Int32)))]) (rest := []) (lenOf pd_0_5 rfl) rfl (by show 2 * 0 + _ ≤ _; exact Nat.le_of_eq rfl) (hb hby at_302) (fun _ _ => ⟨rfl, e31q, (by decide : 4 + 0 ≤ _), (by decide : 12 + 0 ≤ _)⟩)
  dsimp only [Pt.U, Pt.locs, Pt.cells, Pt.slots] at X32 l32 y32 z32 st32 hQ32
  have y32' : k32 = 4 := y32
  have z32' : n32 = 12 := z32
  clear y32 z32
  subst y32' z32'
  obtain ⟨rfl, N32q, e32q0⟩ := hQ32
  have e32q : T32.heap = T20.heap := e32q0
  have N32 : Fr n0 L32 := by rw [l32]; exact Fr.app N31 N32q
  obtain ⟨_, _, ⟨T33, L33, k33, n33⟩, -, X33, ⟨Lc33, hQ33, l33, y33, z33⟩, st33⟩ := Jvm.LawKit.callS X32 hx (y := (⟨"com/example/lambdaloom/lambdaloom/ports/ItemsSetPinLaw", "cell", "([IIIII)Z"⟩ : MethodName)) hown (mvT hZ (hw _ (List.mem_of_getElem? (i := 47) rfl))) (mvT hZ (hw _ (List.mem_of_getElem? (i := 48) rfl))) (mvT hZ (hw _ (List.mem_of_getElem? (i := 49) rfl))) (mvT hZ (hw _ (List.mem_of_getElem? (i := 50) rfl))) (by decide) (backOf (W := 0) (rm9 l Z a0 hw [] b14 (2 : Int32) ((p1 &&& (2147483647 : Int32)) - ((p1 &&& (2147483647 : Int32)) / (3 : Int32)) * (3 : Int32)) p4 (p5 + (8 : Int32)) (own_g (2 : Int32) ((p1 &&& (2147483647 : Int32)) - ((p1 &&& (2147483647 : Int32)) / (3 : Int32)) * (3 : Int32)) p4 (p5 + (8 : Int32))) (clC.setSlot (((p1 &&& (2147483647 : Int32)) - ((p1 &&& (2147483647 : Int32)) / (3 : Int32)) * (3 : Int32))).toNatClampNeg (.int p4)) T20.heap n0 (Nat.le_trans (Nat.le_trans (Nat.le_trans (Nat.le_trans (Nat.le_trans (Nat.le_trans (Nat.le_trans (Nat.le_trans (Nat.le_trans (Nat.le_trans (Nat.le_trans (Nat.le_trans (Nat.le_trans (Nat.le_trans (Nat.le_trans Z0 E6.1) (Keep.of_wr W7).1) (Keep.of_wr W8).1) (Keep.of_wr W9).1) E10.1) (Keep.of_wr W11).1) (Keep.of_wr W12).1) (Keep.of_wr W13).1) E14.1) (Keep.of_wr W15).1) (Keep.of_wr W16).1) (Keep.of_wr W17).1) E18.1) Kq19.1) Kq20.1) AqC20 (inb_of (own_sz SclC) (by decide)) (own_hat SclC (own_r3 _) (by decide) (HC _ (by rw [SclC]; decide))) (inb_of (own_sz SclC) (by decide)) (own_hat SclC (own_r3 _) (by decide) (HC _ (by rw [SclC]; decide)))) hZ (hw _ (List.mem_of_getElem? (i := 50) rfl)) (hw _ (List.mem_of_getElem? (i := 49) rfl)) (by decide) (by decide)) (g := (mkF m 319 #[.val (.int p1), .val (.int p2), .val (.int p3), .val (.int p4), .val (.int p5), .val (.ref b6), .val (.ref b10), .val (.ref b14), .val (.ref b18), .val (.int ((p1 &&& (2147483647 : Int32)) - ((p1 &&& (2147483647 : Int32)) / (3 : Int32)) * (3 : Int32))), .val (.int (((p1 &&& (2147483647 : Int32)) - ((p1 &&& (2147483647 : Int32)) / (3 : Int32)) * (3 : Int32)) + (1 : Int32))), .val (.ref b6), .val (.ref b10), .val (.ref b14)] [(.int (p5 + (8 : Int32))), (.int p4), (.int ((p1 &&& (2147483647 : Int32)) - ((p1 &&& (2147483647 : Int32)) / (3 : Int32)) * (3 : Int32))), (.int (2 : Int32)), (.ref b14)])) rfl (by rw [hml]; rfl) (argsL := [(.ref b14), (.int (2 : Int32)), (.int ((p1 &&& (2147483647 : Int32)) - ((p1 &&& (2147483647 : Int32)) / (3 : Int32)) * (3 : Int32))), (.int p4), (.int (p5 + (8 : Int32)))]) (rest := []) (lenOf pd_0_5 rfl) rfl (by show 2 * 0 + _ ≤ _; exact Nat.le_of_eq rfl) (hb hby at_319) (fun _ _ => ⟨rfl, e32q, (by decide : 4 + 0 ≤ _), (by decide : 12 + 0 ≤ _)⟩)
  dsimp only [Pt.U, Pt.locs, Pt.cells, Pt.slots] at X33 l33 y33 z33 st33 hQ33
  have y33' : k33 = 4 := y33
  have z33' : n33 = 12 := z33
  clear y33 z33
  subst y33' z33'
  obtain ⟨rfl, N33q, e33q0⟩ := hQ33
  have e33q : T33.heap = T20.heap := e33q0
  have N33 : Fr n0 L33 := by rw [l33]; exact Fr.app N32 N33q
  obtain ⟨fs, hr, hrun, hended, hW, hsame⟩ := X33.leave (v := some (.int (1 : Int32))) (fun h => by rw [Bd.returns] at h; cases h)
  refine ⟨_, _, pre0 _ ?_, hrun, hended, _, _, rfl, ?_, ⟨_, rfl⟩, hW, hsame.mono (by decide) (by decide)⟩
  · show Steps p.tables e below (s₁.setTop (mkF m 0 #[.val (.int p1), .val (.int p2), .val (.int p3), .val (.int p4), .val (.int p5), .unset, .unset, .unset, .unset, .unset, .unset, .unset, .unset, .unset] [])) _
    refine XS.iconst X0.here hx rfl (hb hby at_0) ?_
    show Steps p.tables e below (s₁.setTop (mkF m 1 #[.val (.int p1), .val (.int p2), .val (.int p3), .val (.int p4), .val (.int p5), .unset, .unset, .unset, .unset, .unset, .unset, .unset, .unset, .unset] [(.int (3 : Int32))])) _
    refine st6 _ ?_
    show Steps p.tables e below (T6.setTop (mkF m 3 #[.val (.int p1), .val (.int p2), .val (.int p3), .val (.int p4), .val (.int p5), .unset, .unset, .unset, .unset, .unset, .unset, .unset, .unset, .unset] [(.ref b6)])) _
    refine XS.dup X6.here hx rfl (hb hby at_3) rfl rfl ?_
    show Steps p.tables e below (T6.setTop (mkF m 4 #[.val (.int p1), .val (.int p2), .val (.int p3), .val (.int p4), .val (.int p5), .unset, .unset, .unset, .unset, .unset, .unset, .unset, .unset, .unset] [(.ref b6), (.ref b6)])) _
    refine XS.iconst X6.here hx rfl (hb hby at_4) ?_
    show Steps p.tables e below (T6.setTop (mkF m 5 #[.val (.int p1), .val (.int p2), .val (.int p3), .val (.int p4), .val (.int p5), .unset, .unset, .unset, .unset, .unset, .unset, .unset, .unset, .unset] [(.int (0 : Int32)), (.ref b6), (.ref b6)])) _
    refine XS.iload X6.here hx rfl (hb hby at_5) rfl ?_
    show Steps p.tables e below (T6.setTop (mkF m 7 #[.val (.int p1), .val (.int p2), .val (.int p3), .val (.int p4), .val (.int p5), .unset, .unset, .unset, .unset, .unset, .unset, .unset, .unset, .unset] [(.int p5), (.int (0 : Int32)), (.ref b6), (.ref b6)])) _
    refine st7 _ ?_
    show Steps p.tables e below (T7.setTop (mkF m 8 #[.val (.int p1), .val (.int p2), .val (.int p3), .val (.int p4), .val (.int p5), .unset, .unset, .unset, .unset, .unset, .unset, .unset, .unset, .unset] [(.ref b6)])) _
    refine XS.dup X7.here hx rfl (hb hby at_8) rfl rfl ?_
    show Steps p.tables e below (T7.setTop (mkF m 9 #[.val (.int p1), .val (.int p2), .val (.int p3), .val (.int p4), .val (.int p5), .unset, .unset, .unset, .unset, .unset, .unset, .unset, .unset, .unset] [(.ref b6), (.ref b6)])) _
    refine XS.iconst X7.here hx rfl (hb hby at_9) ?_
    show Steps p.tables e below (T7.setTop (mkF m 10 #[.val (.int p1), .val (.int p2), .val (.int p3), .val (.int p4), .val (.int p5), .unset, .unset, .unset, .unset, .unset, .unset, .unset, .unset, .unset] [(.int (1 : Int32)), (.ref b6), (.ref b6)])) _
    refine XS.iload X7.here hx rfl (hb hby at_10) rfl ?_
    show Steps p.tables e below (T7.setTop (mkF m 12 #[.val (.int p1), .val (.int p2), .val (.int p3), .val (.int p4), .val (.int p5), .unset, .unset, .unset, .unset, .unset, .unset, .unset, .unset, .unset] [(.int p5), (.int (1 : Int32)), (.ref b6), (.ref b6)])) _
    refine XS.iconst X7.here hx rfl (hb hby at_12) ?_
    show Steps p.tables e below (T7.setTop (mkF m 13 #[.val (.int p1), .val (.int p2), .val (.int p3), .val (.int p4), .val (.int p5), .unset, .unset, .unset, .unset, .unset, .unset, .unset, .unset, .unset] [(.int (1 : Int32)), (.int p5), (.int (1 : Int32)), (.ref b6), (.ref b6)])) _
    refine XS.iadd X7.here hx rfl (hb hby at_13) rfl ?_
    show Steps p.tables e below (T7.setTop (mkF m 14 #[.val (.int p1), .val (.int p2), .val (.int p3), .val (.int p4), .val (.int p5), .unset, .unset, .unset, .unset, .unset, .unset, .unset, .unset, .unset] [(.int (p5 + (1 : Int32))), (.int (1 : Int32)), (.ref b6), (.ref b6)])) _
    refine st8 _ ?_
    show Steps p.tables e below (T8.setTop (mkF m 15 #[.val (.int p1), .val (.int p2), .val (.int p3), .val (.int p4), .val (.int p5), .unset, .unset, .unset, .unset, .unset, .unset, .unset, .unset, .unset] [(.ref b6)])) _
    refine XS.dup X8.here hx rfl (hb hby at_15) rfl rfl ?_
    show Steps p.tables e below (T8.setTop (mkF m 16 #[.val (.int p1), .val (.int p2), .val (.int p3), .val (.int p4), .val (.int p5), .unset, .unset, .unset, .unset, .unset, .unset, .unset, .unset, .unset] [(.ref b6), (.ref b6)])) _
    refine XS.iconst X8.here hx rfl (hb hby at_16) ?_
    show Steps p.tables e below (T8.setTop (mkF m 17 #[.val (.int p1), .val (.int p2), .val (.int p3), .val (.int p4), .val (.int p5), .unset, .unset, .unset, .unset, .unset, .unset, .unset, .unset, .unset] [(.int (2 : Int32)), (.ref b6), (.ref b6)])) _
    refine XS.iload X8.here hx rfl (hb hby at_17) rfl ?_
    show Steps p.tables e below (T8.setTop (mkF m 19 #[.val (.int p1), .val (.int p2), .val (.int p3), .val (.int p4), .val (.int p5), .unset, .unset, .unset, .unset, .unset, .unset, .unset, .unset, .unset] [(.int p5), (.int (2 : Int32)), (.ref b6), (.ref b6)])) _
    refine XS.iconst X8.here hx rfl (hb hby at_19) ?_
    show Steps p.tables e below (T8.setTop (mkF m 20 #[.val (.int p1), .val (.int p2), .val (.int p3), .val (.int p4), .val (.int p5), .unset, .unset, .unset, .unset, .unset, .unset, .unset, .unset, .unset] [(.int (2 : Int32)), (.int p5), (.int (2 : Int32)), (.ref b6), (.ref b6)])) _
    refine XS.iadd X8.here hx rfl (hb hby at_20) rfl ?_
    show Steps p.tables e below (T8.setTop (mkF m 21 #[.val (.int p1), .val (.int p2), .val (.int p3), .val (.int p4), .val (.int p5), .unset, .unset, .unset, .unset, .unset, .unset, .unset, .unset, .unset] [(.int (p5 + (2 : Int32))), (.int (2 : Int32)), (.ref b6), (.ref b6)])) _
    refine st9 _ ?_
    show Steps p.tables e below (T9.setTop (mkF m 22 #[.val (.int p1), .val (.int p2), .val (.int p3), .val (.int p4), .val (.int p5), .unset, .unset, .unset, .unset, .unset, .unset, .unset, .unset, .unset] [(.ref b6)])) _
    refine XS.astore X9.here hx rfl (hb hby at_22) rfl rfl (l' := #[.val (.int p1), .val (.int p2), .val (.int p3), .val (.int p4), .val (.int p5), .val (.ref b6), .unset, .unset, .unset, .unset, .unset, .unset, .unset, .unset]) rfl ?_
    show Steps p.tables e below (T9.setTop (mkF m 24 #[.val (.int p1), .val (.int p2), .val (.int p3), .val (.int p4), .val (.int p5), .val (.ref b6), .unset, .unset, .unset, .unset, .unset, .unset, .unset, .unset] [])) _
    refine XS.iconst X9.here hx rfl (hb hby at_24) ?_
    show Steps p.tables e below (T9.setTop (mkF m 25 #[.val (.int p1), .val (.int p2), .val (.int p3), .val (.int p4), .val (.int p5), .val (.ref b6), .unset, .unset, .unset, .unset, .unset, .unset, .unset, .unset] [(.int (3 : Int32))])) _
    refine st10 _ ?_
    show Steps p.tables e below (T10.setTop (mkF m 27 #[.val (.int p1), .val (.int p2), .val (.int p3), .val (.int p4), .val (.int p5), .val (.ref b6), .unset, .unset, .unset, .unset, .unset, .unset, .unset, .unset] [(.ref b10)])) _
    refine XS.dup X10.here hx rfl (hb hby at_27) rfl rfl ?_
    show Steps p.tables e below (T10.setTop (mkF m 28 #[.val (.int p1), .val (.int p2), .val (.int p3), .val (.int p4), .val (.int p5), .val (.ref b6), .unset, .unset, .unset, .unset, .unset, .unset, .unset, .unset] [(.ref b10), (.ref b10)])) _
    refine XS.iconst X10.here hx rfl (hb hby at_28) ?_
    show Steps p.tables e below (T10.setTop (mkF m 29 #[.val (.int p1), .val (.int p2), .val (.int p3), .val (.int p4), .val (.int p5), .val (.ref b6), .unset, .unset, .unset, .unset, .unset, .unset, .unset, .unset] [(.int (0 : Int32)), (.ref b10), (.ref b10)])) _
    refine XS.iload X10.here hx rfl (hb hby at_29) rfl ?_
    show Steps p.tables e below (T10.setTop (mkF m 31 #[.val (.int p1), .val (.int p2), .val (.int p3), .val (.int p4), .val (.int p5), .val (.ref b6), .unset, .unset, .unset, .unset, .unset, .unset, .unset, .unset] [(.int p5), (.int (0 : Int32)), (.ref b10), (.ref b10)])) _
    refine XS.iconst X10.here hx rfl (hb hby at_31) ?_
    show Steps p.tables e below (T10.setTop (mkF m 32 #[.val (.int p1), .val (.int p2), .val (.int p3), .val (.int p4), .val (.int p5), .val (.ref b6), .unset, .unset, .unset, .unset, .unset, .unset, .unset, .unset] [(.int (3 : Int32)), (.int p5), (.int (0 : Int32)), (.ref b10), (.ref b10)])) _
    refine XS.iadd X10.here hx rfl (hb hby at_32) rfl ?_
    show Steps p.tables e below (T10.setTop (mkF m 33 #[.val (.int p1), .val (.int p2), .val (.int p3), .val (.int p4), .val (.int p5), .val (.ref b6), .unset, .unset, .unset, .unset, .unset, .unset, .unset, .unset] [(.int (p5 + (3 : Int32))), (.int (0 : Int32)), (.ref b10), (.ref b10)])) _
    refine st11 _ ?_
    show Steps p.tables e below (T11.setTop (mkF m 34 #[.val (.int p1), .val (.int p2), .val (.int p3), .val (.int p4), .val (.int p5), .val (.ref b6), .unset, .unset, .unset, .unset, .unset, .unset, .unset, .unset] [(.ref b10)])) _
    refine XS.dup X11.here hx rfl (hb hby at_34) rfl rfl ?_
    show Steps p.tables e below (T11.setTop (mkF m 35 #[.val (.int p1), .val (.int p2), .val (.int p3), .val (.int p4), .val (.int p5), .val (.ref b6), .unset, .unset, .unset, .unset, .unset, .unset, .unset, .unset] [(.ref b10), (.ref b10)])) _
    refine XS.iconst X11.here hx rfl (hb hby at_35) ?_
    show Steps p.tables e below (T11.setTop (mkF m 36 #[.val (.int p1), .val (.int p2), .val (.int p3), .val (.int p4), .val (.int p5), .val (.ref b6), .unset, .unset, .unset, .unset, .unset, .unset, .unset, .unset] [(.int (1 : Int32)), (.ref b10), (.ref b10)])) _
    refine XS.iload X11.here hx rfl (hb hby at_36) rfl ?_
    show Steps p.tables e below (T11.setTop (mkF m 38 #[.val (.int p1), .val (.int p2), .val (.int p3), .val (.int p4), .val (.int p5), .val (.ref b6), .unset, .unset, .unset, .unset, .unset, .unset, .unset, .unset] [(.int p5), (.int (1 : Int32)), (.ref b10), (.ref b10)])) _
    refine XS.iconst X11.here hx rfl (hb hby at_38) ?_
    show Steps p.tables e below (T11.setTop (mkF m 39 #[.val (.int p1), .val (.int p2), .val (.int p3), .val (.int p4), .val (.int p5), .val (.ref b6), .unset, .unset, .unset, .unset, .unset, .unset, .unset, .unset] [(.int (4 : Int32)), (.int p5), (.int (1 : Int32)), (.ref b10), (.ref b10)])) _
    refine XS.iadd X11.here hx rfl (hb hby at_39) rfl ?_
    show Steps p.tables e below (T11.setTop (mkF m 40 #[.val (.int p1), .val (.int p2), .val (.int p3), .val (.int p4), .val (.int p5), .val (.ref b6), .unset, .unset, .unset, .unset, .unset, .unset, .unset, .unset] [(.int (p5 + (4 : Int32))), (.int (1 : Int32)), (.ref b10), (.ref b10)])) _
    refine st12 _ ?_
    show Steps p.tables e below (T12.setTop (mkF m 41 #[.val (.int p1), .val (.int p2), .val (.int p3), .val (.int p4), .val (.int p5), .val (.ref b6), .unset, .unset, .unset, .unset, .unset, .unset, .unset, .unset] [(.ref b10)])) _
    refine XS.dup X12.here hx rfl (hb hby at_41) rfl rfl ?_
    show Steps p.tables e below (T12.setTop (mkF m 42 #[.val (.int p1), .val (.int p2), .val (.int p3), .val (.int p4), .val (.int p5), .val (.ref b6), .unset, .unset, .unset, .unset, .unset, .unset, .unset, .unset] [(.ref b10), (.ref b10)])) _
    refine XS.iconst X12.here hx rfl (hb hby at_42) ?_
    show Steps p.tables e below (T12.setTop (mkF m 43 #[.val (.int p1), .val (.int p2), .val (.int p3), .val (.int p4), .val (.int p5), .val (.ref b6), .unset, .unset, .unset, .unset, .unset, .unset, .unset, .unset] [(.int (2 : Int32)), (.ref b10), (.ref b10)])) _
    refine XS.iload X12.here hx rfl (hb hby at_43) rfl ?_
    show Steps p.tables e below (T12.setTop (mkF m 45 #[.val (.int p1), .val (.int p2), .val (.int p3), .val (.int p4), .val (.int p5), .val (.ref b6), .unset, .unset, .unset, .unset, .unset, .unset, .unset, .unset] [(.int p5), (.int (2 : Int32)), (.ref b10), (.ref b10)])) _
    refine XS.iconst X12.here hx rfl (hb hby at_45) ?_
    show Steps p.tables e below (T12.setTop (mkF m 46 #[.val (.int p1), .val (.int p2), .val (.int p3), .val (.int p4), .val (.int p5), .val (.ref b6), .unset, .unset, .unset, .unset, .unset, .unset, .unset, .unset] [(.int (5 : Int32)), (.int p5), (.int (2 : Int32)), (.ref b10), (.ref b10)])) _
    refine XS.iadd X12.here hx rfl (hb hby at_46) rfl ?_
    show Steps p.tables e below (T12.setTop (mkF m 47 #[.val (.int p1), .val (.int p2), .val (.int p3), .val (.int p4), .val (.int p5), .val (.ref b6), .unset, .unset, .unset, .unset, .unset, .unset, .unset, .unset] [(.int (p5 + (5 : Int32))), (.int (2 : Int32)), (.ref b10), (.ref b10)])) _
    refine st13 _ ?_
    show Steps p.tables e below (T13.setTop (mkF m 48 #[.val (.int p1), .val (.int p2), .val (.int p3), .val (.int p4), .val (.int p5), .val (.ref b6), .unset, .unset, .unset, .unset, .unset, .unset, .unset, .unset] [(.ref b10)])) _
    refine XS.astore X13.here hx rfl (hb hby at_48) rfl rfl (l' := #[.val (.int p1), .val (.int p2), .val (.int p3), .val (.int p4), .val (.int p5), .val (.ref b6), .val (.ref b10), .unset, .unset, .unset, .unset, .unset, .unset, .unset]) rfl ?_
    show Steps p.tables e below (T13.setTop (mkF m 50 #[.val (.int p1), .val (.int p2), .val (.int p3), .val (.int p4), .val (.int p5), .val (.ref b6), .val (.ref b10), .unset, .unset, .unset, .unset, .unset, .unset, .unset] [])) _
    refine XS.iconst X13.here hx rfl (hb hby at_50) ?_
    show Steps p.tables e below (T13.setTop (mkF m 51 #[.val (.int p1), .val (.int p2), .val (.int p3), .val (.int p4), .val (.int p5), .val (.ref b6), .val (.ref b10), .unset, .unset, .unset, .unset, .unset, .unset, .unset] [(.int (3 : Int32))])) _
    refine st14 _ ?_
    show Steps p.tables e below (T14.setTop (mkF m 53 #[.val (.int p1), .val (.int p2), .val (.int p3), .val (.int p4), .val (.int p5), .val (.ref b6), .val (.ref b10), .unset, .unset, .unset, .unset, .unset, .unset, .unset] [(.ref b14)])) _
    refine XS.dup X14.here hx rfl (hb hby at_53) rfl rfl ?_
    show Steps p.tables e below (T14.setTop (mkF m 54 #[.val (.int p1), .val (.int p2), .val (.int p3), .val (.int p4), .val (.int p5), .val (.ref b6), .val (.ref b10), .unset, .unset, .unset, .unset, .unset, .unset, .unset] [(.ref b14), (.ref b14)])) _
    refine XS.iconst X14.here hx rfl (hb hby at_54) ?_
    show Steps p.tables e below (T14.setTop (mkF m 55 #[.val (.int p1), .val (.int p2), .val (.int p3), .val (.int p4), .val (.int p5), .val (.ref b6), .val (.ref b10), .unset, .unset, .unset, .unset, .unset, .unset, .unset] [(.int (0 : Int32)), (.ref b14), (.ref b14)])) _
    refine XS.iload X14.here hx rfl (hb hby at_55) rfl ?_
    show Steps p.tables e below (T14.setTop (mkF m 57 #[.val (.int p1), .val (.int p2), .val (.int p3), .val (.int p4), .val (.int p5), .val (.ref b6), .val (.ref b10), .unset, .unset, .unset, .unset, .unset, .unset, .unset] [(.int p5), (.int (0 : Int32)), (.ref b14), (.ref b14)])) _
    refine XS.bipush X14.here hx rfl (hb hby at_57) ?_
    show Steps p.tables e below (T14.setTop (mkF m 59 #[.val (.int p1), .val (.int p2), .val (.int p3), .val (.int p4), .val (.int p5), .val (.ref b6), .val (.ref b10), .unset, .unset, .unset, .unset, .unset, .unset, .unset] [(.int (6 : Int32)), (.int p5), (.int (0 : Int32)), (.ref b14), (.ref b14)])) _
    refine XS.iadd X14.here hx rfl (hb hby at_59) rfl ?_
    show Steps p.tables e below (T14.setTop (mkF m 60 #[.val (.int p1), .val (.int p2), .val (.int p3), .val (.int p4), .val (.int p5), .val (.ref b6), .val (.ref b10), .unset, .unset, .unset, .unset, .unset, .unset, .unset] [(.int (p5 + (6 : Int32))), (.int (0 : Int32)), (.ref b14), (.ref b14)])) _
    refine st15 _ ?_
    show Steps p.tables e below (T15.setTop (mkF m 61 #[.val (.int p1), .val (.int p2), .val (.int p3), .val (.int p4), .val (.int p5), .val (.ref b6), .val (.ref b10), .unset, .unset, .unset, .unset, .unset, .unset, .unset] [(.ref b14)])) _
    refine XS.dup X15.here hx rfl (hb hby at_61) rfl rfl ?_
    show Steps p.tables e below (T15.setTop (mkF m 62 #[.val (.int p1), .val (.int p2), .val (.int p3), .val (.int p4), .val (.int p5), .val (.ref b6), .val (.ref b10), .unset, .unset, .unset, .unset, .unset, .unset, .unset] [(.ref b14), (.ref b14)])) _
    refine XS.iconst X15.here hx rfl (hb hby at_62) ?_
    show Steps p.tables e below (T15.setTop (mkF m 63 #[.val (.int p1), .val (.int p2), .val (.int p3), .val (.int p4), .val (.int p5), .val (.ref b6), .val (.ref b10), .unset, .unset, .unset, .unset, .unset, .unset, .unset] [(.int (1 : Int32)), (.ref b14), (.ref b14)])) _
    refine XS.iload X15.here hx rfl (hb hby at_63) rfl ?_
    show Steps p.tables e below (T15.setTop (mkF m 65 #[.val (.int p1), .val (.int p2), .val (.int p3), .val (.int p4), .val (.int p5), .val (.ref b6), .val (.ref b10), .unset, .unset, .unset, .unset, .unset, .unset, .unset] [(.int p5), (.int (1 : Int32)), (.ref b14), (.ref b14)])) _
    refine XS.bipush X15.here hx rfl (hb hby at_65) ?_
    show Steps p.tables e below (T15.setTop (mkF m 67 #[.val (.int p1), .val (.int p2), .val (.int p3), .val (.int p4), .val (.int p5), .val (.ref b6), .val (.ref b10), .unset, .unset, .unset, .unset, .unset, .unset, .unset] [(.int (7 : Int32)), (.int p5), (.int (1 : Int32)), (.ref b14), (.ref b14)])) _
    refine XS.iadd X15.here hx rfl (hb hby at_67) rfl ?_
    show Steps p.tables e below (T15.setTop (mkF m 68 #[.val (.int p1), .val (.int p2), .val (.int p3), .val (.int p4), .val (.int p5), .val (.ref b6), .val (.ref b10), .unset, .unset, .unset, .unset, .unset, .unset, .unset] [(.int (p5 + (7 : Int32))), (.int (1 : Int32)), (.ref b14), (.ref b14)])) _
    refine st16 _ ?_
    show Steps p.tables e below (T16.setTop (mkF m 69 #[.val (.int p1), .val (.int p2), .val (.int p3), .val (.int p4), .val (.int p5), .val (.ref b6), .val (.ref b10), .unset, .unset, .unset, .unset, .unset, .unset, .unset] [(.ref b14)])) _
    refine XS.dup X16.here hx rfl (hb hby at_69) rfl rfl ?_
    show Steps p.tables e below (T16.setTop (mkF m 70 #[.val (.int p1), .val (.int p2), .val (.int p3), .val (.int p4), .val (.int p5), .val (.ref b6), .val (.ref b10), .unset, .unset, .unset, .unset, .unset, .unset, .unset] [(.ref b14), (.ref b14)])) _
    refine XS.iconst X16.here hx rfl (hb hby at_70) ?_
    show Steps p.tables e below (T16.setTop (mkF m 71 #[.val (.int p1), .val (.int p2), .val (.int p3), .val (.int p4), .val (.int p5), .val (.ref b6), .val (.ref b10), .unset, .unset, .unset, .unset, .unset, .unset, .unset] [(.int (2 : Int32)), (.ref b14), (.ref b14)])) _
    refine XS.iload X16.here hx rfl (hb hby at_71) rfl ?_
    show Steps p.tables e below (T16.setTop (mkF m 73 #[.val (.int p1), .val (.int p2), .val (.int p3), .val (.int p4), .val (.int p5), .val (.ref b6), .val (.ref b10), .unset, .unset, .unset, .unset, .unset, .unset, .unset] [(.int p5), (.int (2 : Int32)), (.ref b14), (.ref b14)])) _
    refine XS.bipush X16.here hx rfl (hb hby at_73) ?_
    show Steps p.tables e below (T16.setTop (mkF m 75 #[.val (.int p1), .val (.int p2), .val (.int p3), .val (.int p4), .val (.int p5), .val (.ref b6), .val (.ref b10), .unset, .unset, .unset, .unset, .unset, .unset, .unset] [(.int (8 : Int32)), (.int p5), (.int (2 : Int32)), (.ref b14), (.ref b14)])) _
    refine XS.iadd X16.here hx rfl (hb hby at_75) rfl ?_
    show Steps p.tables e below (T16.setTop (mkF m 76 #[.val (.int p1), .val (.int p2), .val (.int p3), .val (.int p4), .val (.int p5), .val (.ref b6), .val (.ref b10), .unset, .unset, .unset, .unset, .unset, .unset, .unset] [(.int (p5 + (8 : Int32))), (.int (2 : Int32)), (.ref b14), (.ref b14)])) _
    refine st17 _ ?_
    show Steps p.tables e below (T17.setTop (mkF m 77 #[.val (.int p1), .val (.int p2), .val (.int p3), .val (.int p4), .val (.int p5), .val (.ref b6), .val (.ref b10), .unset, .unset, .unset, .unset, .unset, .unset, .unset] [(.ref b14)])) _
    refine XS.astore X17.here hx rfl (hb hby at_77) rfl rfl (l' := #[.val (.int p1), .val (.int p2), .val (.int p3), .val (.int p4), .val (.int p5), .val (.ref b6), .val (.ref b10), .val (.ref b14), .unset, .unset, .unset, .unset, .unset, .unset]) rfl ?_
    show Steps p.tables e below (T17.setTop (mkF m 79 #[.val (.int p1), .val (.int p2), .val (.int p3), .val (.int p4), .val (.int p5), .val (.ref b6), .val (.ref b10), .val (.ref b14), .unset, .unset, .unset, .unset, .unset, .unset] [])) _
    refine st18 _ ?_
    show Steps p.tables e below (T18.setTop (mkF m 82 #[.val (.int p1), .val (.int p2), .val (.int p3), .val (.int p4), .val (.int p5), .val (.ref b6), .val (.ref b10), .val (.ref b14), .unset, .unset, .unset, .unset, .unset, .unset] [(.ref b18)])) _
    refine XS.dup X18.here hx rfl (hb hby at_82) rfl rfl ?_
    show Steps p.tables e below (T18.setTop (mkF m 83 #[.val (.int p1), .val (.int p2), .val (.int p3), .val (.int p4), .val (.int p5), .val (.ref b6), .val (.ref b10), .val (.ref b14), .unset, .unset, .unset, .unset, .unset, .unset] [(.ref b18), (.ref b18)])) _
    refine XS.aload X18.here hx rfl (hb hby at_83) rfl rfl ?_
    show Steps p.tables e below (T18.setTop (mkF m 85 #[.val (.int p1), .val (.int p2), .val (.int p3), .val (.int p4), .val (.int p5), .val (.ref b6), .val (.ref b10), .val (.ref b14), .unset, .unset, .unset, .unset, .unset, .unset] [(.ref b6), (.ref b18), (.ref b18)])) _
    refine XS.aload X18.here hx rfl (hb hby at_85) rfl rfl ?_
    show Steps p.tables e below (T18.setTop (mkF m 87 #[.val (.int p1), .val (.int p2), .val (.int p3), .val (.int p4), .val (.int p5), .val (.ref b6), .val (.ref b10), .val (.ref b14), .unset, .unset, .unset, .unset, .unset, .unset] [(.ref b10), (.ref b6), (.ref b18), (.ref b18)])) _
    refine XS.aload X18.here hx rfl (hb hby at_87) rfl rfl ?_
    show Steps p.tables e below (T18.setTop (mkF m 89 #[.val (.int p1), .val (.int p2), .val (.int p3), .val (.int p4), .val (.int p5), .val (.ref b6), .val (.ref b10), .val (.ref b14), .unset, .unset, .unset, .unset, .unset, .unset] [(.ref b14), (.ref b10), (.ref b6), (.ref b18), (.ref b18)])) _
    refine st19.trans ?_
    show Steps p.tables e below (T19.setTop (mkF m 92 #[.val (.int p1), .val (.int p2), .val (.int p3), .val (.int p4), .val (.int p5), .val (.ref b6), .val (.ref b10), .val (.ref b14), .unset, .unset, .unset, .unset, .unset, .unset] [(.ref b18)])) _
    refine XS.astore X19.here hx rfl (hb hby at_92) rfl rfl (l' := #[.val (.int p1), .val (.int p2), .val (.int p3), .val (.int p4), .val (.int p5), .val (.ref b6), .val (.ref b10), .val (.ref b14), .val (.ref b18), .unset, .unset, .unset, .unset, .unset]) rfl ?_
    show Steps p.tables e below (T19.setTop (mkF m 94 #[.val (.int p1), .val (.int p2), .val (.int p3), .val (.int p4), .val (.int p5), .val (.ref b6), .val (.ref b10), .val (.ref b14), .val (.ref b18), .unset, .unset, .unset, .unset, .unset] [])) _
    refine XS.iloadN X19.here hx rfl (hb hby at_94) rfl ?_
    show Steps p.tables e below (T19.setTop (mkF m 95 #[.val (.int p1), .val (.int p2), .val (.int p3), .val (.int p4), .val (.int p5), .val (.ref b6), .val (.ref b10), .val (.ref b14), .val (.ref b18), .unset, .unset, .unset, .unset, .unset] [(.int p1)])) _
    refine X19.ldcInt hx hown (mvT hZ (hw _ (List.mem_of_getElem? (i := 21) rfl))) (g := (mkF m 95 #[.val (.int p1), .val (.int p2), .val (.int p3), .val (.int p4), .val (.int p5), .val (.ref b6), .val (.ref b10), .val (.ref b14), .val (.ref b18), .unset, .unset, .unset, .unset, .unset] [(.int p1)])) rfl (hb hby at_95) _ ?_
    show Steps p.tables e below (T19.setTop (mkF m 97 #[.val (.int p1), .val (.int p2), .val (.int p3), .val (.int p4), .val (.int p5), .val (.ref b6), .val (.ref b10), .val (.ref b14), .val (.ref b18), .unset, .unset, .unset, .unset, .unset] [(.int (2147483647 : Int32)), (.int p1)])) _
    refine XS.iand X19.here hx rfl (hb hby at_97) rfl ?_
    show Steps p.tables e below (T19.setTop (mkF m 98 #[.val (.int p1), .val (.int p2), .val (.int p3), .val (.int p4), .val (.int p5), .val (.ref b6), .val (.ref b10), .val (.ref b14), .val (.ref b18), .unset, .unset, .unset, .unset, .unset] [(.int (p1 &&& (2147483647 : Int32)))])) _
    refine XS.iconst X19.here hx rfl (hb hby at_98) ?_
    show Steps p.tables e below (T19.setTop (mkF m 99 #[.val (.int p1), .val (.int p2), .val (.int p3), .val (.int p4), .val (.int p5), .val (.ref b6), .val (.ref b10), .val (.ref b14), .val (.ref b18), .unset, .unset, .unset, .unset, .unset] [(.int (3 : Int32)), (.int (p1 &&& (2147483647 : Int32)))])) _
    refine XS.irem X19.here hx rfl (hb hby at_99) rfl (by decide : ¬ ((3 : Int32) = (0 : Int32))) ?_
    show Steps p.tables e below (T19.setTop (mkF m 100 #[.val (.int p1), .val (.int p2), .val (.int p3), .val (.int p4), .val (.int p5), .val (.ref b6), .val (.ref b10), .val (.ref b14), .val (.ref b18), .unset, .unset, .unset, .unset, .unset] [(.int ((p1 &&& (2147483647 : Int32)) - ((p1 &&& (2147483647 : Int32)) / (3 : Int32)) * (3 : Int32)))])) _
    refine XS.istore X19.here hx rfl (hb hby at_100) rfl (l' := #[.val (.int p1), .val (.int p2), .val (.int p3), .val (.int p4), .val (.int p5), .val (.ref b6), .val (.ref b10), .val (.ref b14), .val (.ref b18), .val (.int ((p1 &&& (2147483647 : Int32)) - ((p1 &&& (2147483647 : Int32)) / (3 : Int32)) * (3 : Int32))), .unset, .unset, .unset, .unset]) rfl ?_
    show Steps p.tables e below (T19.setTop (mkF m 102 #[.val (.int p1), .val (.int p2), .val (.int p3), .val (.int p4), .val (.int p5), .val (.ref b6), .val (.ref b10), .val (.ref b14), .val (.ref b18), .val (.int ((p1 &&& (2147483647 : Int32)) - ((p1 &&& (2147483647 : Int32)) / (3 : Int32)) * (3 : Int32))), .unset, .unset, .unset, .unset] [])) _
    refine XS.aload X19.here hx rfl (hb hby at_102) rfl rfl ?_
    show Steps p.tables e below (T19.setTop (mkF m 104 #[.val (.int p1), .val (.int p2), .val (.int p3), .val (.int p4), .val (.int p5), .val (.ref b6), .val (.ref b10), .val (.ref b14), .val (.ref b18), .val (.int ((p1 &&& (2147483647 : Int32)) - ((p1 &&& (2147483647 : Int32)) / (3 : Int32)) * (3 : Int32))), .unset, .unset, .unset, .unset] [(.ref b18)])) _
    refine XS.iload X19.here hx rfl (hb hby at_104) rfl ?_
    show Steps p.tables e below (T19.setTop (mkF m 106 #[.val (.int p1), .val (.int p2), .val (.int p3), .val (.int p4), .val (.int p5), .val (.ref b6), .val (.ref b10), .val (.ref b14), .val (.ref b18), .val (.int ((p1 &&& (2147483647 : Int32)) - ((p1 &&& (2147483647 : Int32)) / (3 : Int32)) * (3 : Int32))), .unset, .unset, .unset, .unset] [(.int ((p1 &&& (2147483647 : Int32)) - ((p1 &&& (2147483647 : Int32)) / (3 : Int32)) * (3 : Int32))), (.ref b18)])) _
    refine XS.iloadN X19.here hx rfl (hb hby at_106) rfl ?_
    show Steps p.tables e below (T19.setTop (mkF m 107 #[.val (.int p1), .val (.int p2), .val (.int p3), .val (.int p4), .val (.int p5), .val (.ref b6), .val (.ref b10), .val (.ref b14), .val (.ref b18), .val (.int ((p1 &&& (2147483647 : Int32)) - ((p1 &&& (2147483647 : Int32)) / (3 : Int32)) * (3 : Int32))), .unset, .unset, .unset, .unset] [(.int p2), (.int ((p1 &&& (2147483647 : Int32)) - ((p1 &&& (2147483647 : Int32)) / (3 : Int32)) * (3 : Int32))), (.ref b18)])) _
    refine XS.iloadN X19.here hx rfl (hb hby at_107) rfl ?_
    show Steps p.tables e below (T19.setTop (mkF m 108 #[.val (.int p1), .val (.int p2), .val (.int p3), .val (.int p4), .val (.int p5), .val (.ref b6), .val (.ref b10), .val (.ref b14), .val (.ref b18), .val (.int ((p1 &&& (2147483647 : Int32)) - ((p1 &&& (2147483647 : Int32)) / (3 : Int32)) * (3 : Int32))), .unset, .unset, .unset, .unset] [(.int p3), (.int p2), (.int ((p1 &&& (2147483647 : Int32)) - ((p1 &&& (2147483647 : Int32)) / (3 : Int32)) * (3 : Int32))), (.ref b18)])) _
    refine XS.iloadN X19.here hx rfl (hb hby at_108) rfl ?_
    show Steps p.tables e below (T19.setTop (mkF m 109 #[.val (.int p1), .val (.int p2), .val (.int p3), .val (.int p4), .val (.int p5), .val (.ref b6), .val (.ref b10), .val (.ref b14), .val (.ref b18), .val (.int ((p1 &&& (2147483647 : Int32)) - ((p1 &&& (2147483647 : Int32)) / (3 : Int32)) * (3 : Int32))), .unset, .unset, .unset, .unset] [(.int p4), (.int p3), (.int p2), (.int ((p1 &&& (2147483647 : Int32)) - ((p1 &&& (2147483647 : Int32)) / (3 : Int32)) * (3 : Int32))), (.ref b18)])) _
    refine st20.trans ?_
    show Steps p.tables e below (T20.setTop (mkF m 112 #[.val (.int p1), .val (.int p2), .val (.int p3), .val (.int p4), .val (.int p5), .val (.ref b6), .val (.ref b10), .val (.ref b14), .val (.ref b18), .val (.int ((p1 &&& (2147483647 : Int32)) - ((p1 &&& (2147483647 : Int32)) / (3 : Int32)) * (3 : Int32))), .unset, .unset, .unset, .unset] [(.int (((p1 &&& (2147483647 : Int32)) - ((p1 &&& (2147483647 : Int32)) / (3 : Int32)) * (3 : Int32)) + (1 : Int32)))])) _
    refine XS.istore X20.here hx rfl (hb hby at_112) rfl (l' := #[.val (.int p1), .val (.int p2), .val (.int p3), .val (.int p4), .val (.int p5), .val (.ref b6), .val (.ref b10), .val (.ref b14), .val (.ref b18), .val (.int ((p1 &&& (2147483647 : Int32)) - ((p1 &&& (2147483647 : Int32)) / (3 : Int32)) * (3 : Int32))), .val (.int (((p1 &&& (2147483647 : Int32)) - ((p1 &&& (2147483647 : Int32)) / (3 : Int32)) * (3 : Int32)) + (1 : Int32))), .unset, .unset, .unset]) rfl ?_
    show Steps p.tables e below (T20.setTop (mkF m 114 #[.val (.int p1), .val (.int p2), .val (.int p3), .val (.int p4), .val (.int p5), .val (.ref b6), .val (.ref b10), .val (.ref b14), .val (.ref b18), .val (.int ((p1 &&& (2147483647 : Int32)) - ((p1 &&& (2147483647 : Int32)) / (3 : Int32)) * (3 : Int32))), .val (.int (((p1 &&& (2147483647 : Int32)) - ((p1 &&& (2147483647 : Int32)) / (3 : Int32)) * (3 : Int32)) + (1 : Int32))), .unset, .unset, .unset] [])) _
    refine XS.iload X20.here hx rfl (hb hby at_114) rfl ?_
    show Steps p.tables e below (T20.setTop (mkF m 116 #[.val (.int p1), .val (.int p2), .val (.int p3), .val (.int p4), .val (.int p5), .val (.ref b6), .val (.ref b10), .val (.ref b14), .val (.ref b18), .val (.int ((p1 &&& (2147483647 : Int32)) - ((p1 &&& (2147483647 : Int32)) / (3 : Int32)) * (3 : Int32))), .val (.int (((p1 &&& (2147483647 : Int32)) - ((p1 &&& (2147483647 : Int32)) / (3 : Int32)) * (3 : Int32)) + (1 : Int32))), .unset, .unset, .unset] [(.int (((p1 &&& (2147483647 : Int32)) - ((p1 &&& (2147483647 : Int32)) / (3 : Int32)) * (3 : Int32)) + (1 : Int32)))])) _
    refine XS.iload X20.here hx rfl (hb hby at_116) rfl ?_
    show Steps p.tables e below (T20.setTop (mkF m 118 #[.val (.int p1), .val (.int p2), .val (.int p3), .val (.int p4), .val (.int p5), .val (.ref b6), .val (.ref b10), .val (.ref b14), .val (.ref b18), .val (.int ((p1 &&& (2147483647 : Int32)) - ((p1 &&& (2147483647 : Int32)) / (3 : Int32)) * (3 : Int32))), .val (.int (((p1 &&& (2147483647 : Int32)) - ((p1 &&& (2147483647 : Int32)) / (3 : Int32)) * (3 : Int32)) + (1 : Int32))), .unset, .unset, .unset] [(.int ((p1 &&& (2147483647 : Int32)) - ((p1 &&& (2147483647 : Int32)) / (3 : Int32)) * (3 : Int32))), (.int (((p1 &&& (2147483647 : Int32)) - ((p1 &&& (2147483647 : Int32)) / (3 : Int32)) * (3 : Int32)) + (1 : Int32)))])) _
    refine XS.iconst X20.here hx rfl (hb hby at_118) ?_
    show Steps p.tables e below (T20.setTop (mkF m 119 #[.val (.int p1), .val (.int p2), .val (.int p3), .val (.int p4), .val (.int p5), .val (.ref b6), .val (.ref b10), .val (.ref b14), .val (.ref b18), .val (.int ((p1 &&& (2147483647 : Int32)) - ((p1 &&& (2147483647 : Int32)) / (3 : Int32)) * (3 : Int32))), .val (.int (((p1 &&& (2147483647 : Int32)) - ((p1 &&& (2147483647 : Int32)) / (3 : Int32)) * (3 : Int32)) + (1 : Int32))), .unset, .unset, .unset] [(.int (1 : Int32)), (.int ((p1 &&& (2147483647 : Int32)) - ((p1 &&& (2147483647 : Int32)) / (3 : Int32)) * (3 : Int32))), (.int (((p1 &&& (2147483647 : Int32)) - ((p1 &&& (2147483647 : Int32)) / (3 : Int32)) * (3 : Int32)) + (1 : Int32)))])) _
    refine XS.iadd X20.here hx rfl (hb hby at_119) rfl ?_
    show Steps p.tables e below (T20.setTop (mkF m 120 #[.val (.int p1), .val (.int p2), .val (.int p3), .val (.int p4), .val (.int p5), .val (.ref b6), .val (.ref b10), .val (.ref b14), .val (.ref b18), .val (.int ((p1 &&& (2147483647 : Int32)) - ((p1 &&& (2147483647 : Int32)) / (3 : Int32)) * (3 : Int32))), .val (.int (((p1 &&& (2147483647 : Int32)) - ((p1 &&& (2147483647 : Int32)) / (3 : Int32)) * (3 : Int32)) + (1 : Int32))), .unset, .unset, .unset] [(.int (((p1 &&& (2147483647 : Int32)) - ((p1 &&& (2147483647 : Int32)) / (3 : Int32)) * (3 : Int32)) + (1 : Int32))), (.int (((p1 &&& (2147483647 : Int32)) - ((p1 &&& (2147483647 : Int32)) / (3 : Int32)) * (3 : Int32)) + (1 : Int32)))])) _
    refine XS.icmpYes X20.here hx rfl (pc0 := 120) (pc' := 125) rfl (hb hby at_120) rfl (teq (rfl : (((p1 &&& (2147483647 : Int32)) - ((p1 &&& (2147483647 : Int32)) / (3 : Int32)) * (3 : Int32)) + (1 : Int32)) = (((p1 &&& (2147483647 : Int32)) - ((p1 &&& (2147483647 : Int32)) / (3 : Int32)) * (3 : Int32)) + (1 : Int32)))).1 (by decide) (by decide) ?_
    show Steps p.tables e below (T20.setTop (mkF m 125 #[.val (.int p1), .val (.int p2), .val (.int p3), .val (.int p4), .val (.int p5), .val (.ref b6), .val (.ref b10), .val (.ref b14), .val (.ref b18), .val (.int ((p1 &&& (2147483647 : Int32)) - ((p1 &&& (2147483647 : Int32)) / (3 : Int32)) * (3 : Int32))), .val (.int (((p1 &&& (2147483647 : Int32)) - ((p1 &&& (2147483647 : Int32)) / (3 : Int32)) * (3 : Int32)) + (1 : Int32))), .unset, .unset, .unset] [])) _
    refine XS.aload X20.here hx rfl (hb hby at_125) rfl rfl ?_
    show Steps p.tables e below (T20.setTop (mkF m 127 #[.val (.int p1), .val (.int p2), .val (.int p3), .val (.int p4), .val (.int p5), .val (.ref b6), .val (.ref b10), .val (.ref b14), .val (.ref b18), .val (.int ((p1 &&& (2147483647 : Int32)) - ((p1 &&& (2147483647 : Int32)) / (3 : Int32)) * (3 : Int32))), .val (.int (((p1 &&& (2147483647 : Int32)) - ((p1 &&& (2147483647 : Int32)) / (3 : Int32)) * (3 : Int32)) + (1 : Int32))), .unset, .unset, .unset] [(.ref b18)])) _
    refine st21.trans ?_
    show Steps p.tables e below (T21.setTop (mkF m 130 #[.val (.int p1), .val (.int p2), .val (.int p3), .val (.int p4), .val (.int p5), .val (.ref b6), .val (.ref b10), .val (.ref b14), .val (.ref b18), .val (.int ((p1 &&& (2147483647 : Int32)) - ((p1 &&& (2147483647 : Int32)) / (3 : Int32)) * (3 : Int32))), .val (.int (((p1 &&& (2147483647 : Int32)) - ((p1 &&& (2147483647 : Int32)) / (3 : Int32)) * (3 : Int32)) + (1 : Int32))), .unset, .unset, .unset] [(.int (3 : Int32))])) _
    refine XS.iconst X21.here hx rfl (hb hby at_130) ?_
    show Steps p.tables e below (T21.setTop (mkF m 131 #[.val (.int p1), .val (.int p2), .val (.int p3), .val (.int p4), .val (.int p5), .val (.ref b6), .val (.ref b10), .val (.ref b14), .val (.ref b18), .val (.int ((p1 &&& (2147483647 : Int32)) - ((p1 &&& (2147483647 : Int32)) / (3 : Int32)) * (3 : Int32))), .val (.int (((p1 &&& (2147483647 : Int32)) - ((p1 &&& (2147483647 : Int32)) / (3 : Int32)) * (3 : Int32)) + (1 : Int32))), .unset, .unset, .unset] [(.int (3 : Int32)), (.int (3 : Int32))])) _
    refine XS.icmpYes X21.here hx rfl (pc0 := 131) (pc' := 136) rfl (hb hby at_131) rfl (teq (rfl : (3 : Int32) = (3 : Int32))).1 (by decide) (by decide) ?_
    show Steps p.tables e below (T21.setTop (mkF m 136 #[.val (.int p1), .val (.int p2), .val (.int p3), .val (.int p4), .val (.int p5), .val (.ref b6), .val (.ref b10), .val (.ref b14), .val (.ref b18), .val (.int ((p1 &&& (2147483647 : Int32)) - ((p1 &&& (2147483647 : Int32)) / (3 : Int32)) * (3 : Int32))), .val (.int (((p1 &&& (2147483647 : Int32)) - ((p1 &&& (2147483647 : Int32)) / (3 : Int32)) * (3 : Int32)) + (1 : Int32))), .unset, .unset, .unset] [])) _
    refine XS.aload X21.here hx rfl (hb hby at_136) rfl rfl ?_
    show Steps p.tables e below (T21.setTop (mkF m 138 #[.val (.int p1), .val (.int p2), .val (.int p3), .val (.int p4), .val (.int p5), .val (.ref b6), .val (.ref b10), .val (.ref b14), .val (.ref b18), .val (.int ((p1 &&& (2147483647 : Int32)) - ((p1 &&& (2147483647 : Int32)) / (3 : Int32)) * (3 : Int32))), .val (.int (((p1 &&& (2147483647 : Int32)) - ((p1 &&& (2147483647 : Int32)) / (3 : Int32)) * (3 : Int32)) + (1 : Int32))), .unset, .unset, .unset] [(.ref b18)])) _
    refine st22.trans ?_
    show Steps p.tables e below (T22.setTop (mkF m 141 #[.val (.int p1), .val (.int p2), .val (.int p3), .val (.int p4), .val (.int p5), .val (.ref b6), .val (.ref b10), .val (.ref b14), .val (.ref b18), .val (.int ((p1 &&& (2147483647 : Int32)) - ((p1 &&& (2147483647 : Int32)) / (3 : Int32)) * (3 : Int32))), .val (.int (((p1 &&& (2147483647 : Int32)) - ((p1 &&& (2147483647 : Int32)) / (3 : Int32)) * (3 : Int32)) + (1 : Int32))), .unset, .unset, .unset] [(.ref b6)])) _
    refine XS.astore X22.here hx rfl (hb hby at_141) rfl rfl (l' := #[.val (.int p1), .val (.int p2), .val (.int p3), .val (.int p4), .val (.int p5), .val (.ref b6), .val (.ref b10), .val (.ref b14), .val (.ref b18), .val (.int ((p1 &&& (2147483647 : Int32)) - ((p1 &&& (2147483647 : Int32)) / (3 : Int32)) * (3 : Int32))), .val (.int (((p1 &&& (2147483647 : Int32)) - ((p1 &&& (2147483647 : Int32)) / (3 : Int32)) * (3 : Int32)) + (1 : Int32))), .val (.ref b6), .unset, .unset]) rfl ?_
    show Steps p.tables e below (T22.setTop (mkF m 143 #[.val (.int p1), .val (.int p2), .val (.int p3), .val (.int p4), .val (.int p5), .val (.ref b6), .val (.ref b10), .val (.ref b14), .val (.ref b18), .val (.int ((p1 &&& (2147483647 : Int32)) - ((p1 &&& (2147483647 : Int32)) / (3 : Int32)) * (3 : Int32))), .val (.int (((p1 &&& (2147483647 : Int32)) - ((p1 &&& (2147483647 : Int32)) / (3 : Int32)) * (3 : Int32)) + (1 : Int32))), .val (.ref b6), .unset, .unset] [])) _
    refine XS.aload X22.here hx rfl (hb hby at_143) rfl rfl ?_
    show Steps p.tables e below (T22.setTop (mkF m 145 #[.val (.int p1), .val (.int p2), .val (.int p3), .val (.int p4), .val (.int p5), .val (.ref b6), .val (.ref b10), .val (.ref b14), .val (.ref b18), .val (.int ((p1 &&& (2147483647 : Int32)) - ((p1 &&& (2147483647 : Int32)) / (3 : Int32)) * (3 : Int32))), .val (.int (((p1 &&& (2147483647 : Int32)) - ((p1 &&& (2147483647 : Int32)) / (3 : Int32)) * (3 : Int32)) + (1 : Int32))), .val (.ref b6), .unset, .unset] [(.ref b18)])) _
    refine st23.trans ?_
    show Steps p.tables e below (T23.setTop (mkF m 148 #[.val (.int p1), .val (.int p2), .val (.int p3), .val (.int p4), .val (.int p5), .val (.ref b6), .val (.ref b10), .val (.ref b14), .val (.ref b18), .val (.int ((p1 &&& (2147483647 : Int32)) - ((p1 &&& (2147483647 : Int32)) / (3 : Int32)) * (3 : Int32))), .val (.int (((p1 &&& (2147483647 : Int32)) - ((p1 &&& (2147483647 : Int32)) / (3 : Int32)) * (3 : Int32)) + (1 : Int32))), .val (.ref b6), .unset, .unset] [(.ref b10)])) _
    refine XS.astore X23.here hx rfl (hb hby at_148) rfl rfl (l' := #[.val (.int p1), .val (.int p2), .val (.int p3), .val (.int p4), .val (.int p5), .val (.ref b6), .val (.ref b10), .val (.ref b14), .val (.ref b18), .val (.int ((p1 &&& (2147483647 : Int32)) - ((p1 &&& (2147483647 : Int32)) / (3 : Int32)) * (3 : Int32))), .val (.int (((p1 &&& (2147483647 : Int32)) - ((p1 &&& (2147483647 : Int32)) / (3 : Int32)) * (3 : Int32)) + (1 : Int32))), .val (.ref b6), .val (.ref b10), .unset]) rfl ?_
    show Steps p.tables e below (T23.setTop (mkF m 150 #[.val (.int p1), .val (.int p2), .val (.int p3), .val (.int p4), .val (.int p5), .val (.ref b6), .val (.ref b10), .val (.ref b14), .val (.ref b18), .val (.int ((p1 &&& (2147483647 : Int32)) - ((p1 &&& (2147483647 : Int32)) / (3 : Int32)) * (3 : Int32))), .val (.int (((p1 &&& (2147483647 : Int32)) - ((p1 &&& (2147483647 : Int32)) / (3 : Int32)) * (3 : Int32)) + (1 : Int32))), .val (.ref b6), .val (.ref b10), .unset] [])) _
    refine XS.aload X23.here hx rfl (hb hby at_150) rfl rfl ?_
    show Steps p.tables e below (T23.setTop (mkF m 152 #[.val (.int p1), .val (.int p2), .val (.int p3), .val (.int p4), .val (.int p5), .val (.ref b6), .val (.ref b10), .val (.ref b14), .val (.ref b18), .val (.int ((p1 &&& (2147483647 : Int32)) - ((p1 &&& (2147483647 : Int32)) / (3 : Int32)) * (3 : Int32))), .val (.int (((p1 &&& (2147483647 : Int32)) - ((p1 &&& (2147483647 : Int32)) / (3 : Int32)) * (3 : Int32)) + (1 : Int32))), .val (.ref b6), .val (.ref b10), .unset] [(.ref b18)])) _
    refine st24.trans ?_
    show Steps p.tables e below (T24.setTop (mkF m 155 #[.val (.int p1), .val (.int p2), .val (.int p3), .val (.int p4), .val (.int p5), .val (.ref b6), .val (.ref b10), .val (.ref b14), .val (.ref b18), .val (.int ((p1 &&& (2147483647 : Int32)) - ((p1 &&& (2147483647 : Int32)) / (3 : Int32)) * (3 : Int32))), .val (.int (((p1 &&& (2147483647 : Int32)) - ((p1 &&& (2147483647 : Int32)) / (3 : Int32)) * (3 : Int32)) + (1 : Int32))), .val (.ref b6), .val (.ref b10), .unset] [(.ref b14)])) _
    refine XS.astore X24.here hx rfl (hb hby at_155) rfl rfl (l' := #[.val (.int p1), .val (.int p2), .val (.int p3), .val (.int p4), .val (.int p5), .val (.ref b6), .val (.ref b10), .val (.ref b14), .val (.ref b18), .val (.int ((p1 &&& (2147483647 : Int32)) - ((p1 &&& (2147483647 : Int32)) / (3 : Int32)) * (3 : Int32))), .val (.int (((p1 &&& (2147483647 : Int32)) - ((p1 &&& (2147483647 : Int32)) / (3 : Int32)) * (3 : Int32)) + (1 : Int32))), .val (.ref b6), .val (.ref b10), .val (.ref b14)]) rfl ?_
    show Steps p.tables e below (T24.setTop (mkF m 157 #[.val (.int p1), .val (.int p2), .val (.int p3), .val (.int p4), .val (.int p5), .val (.ref b6), .val (.ref b10), .val (.ref b14), .val (.ref b18), .val (.int ((p1 &&& (2147483647 : Int32)) - ((p1 &&& (2147483647 : Int32)) / (3 : Int32)) * (3 : Int32))), .val (.int (((p1 &&& (2147483647 : Int32)) - ((p1 &&& (2147483647 : Int32)) / (3 : Int32)) * (3 : Int32)) + (1 : Int32))), .val (.ref b6), .val (.ref b10), .val (.ref b14)] [])) _
    refine XS.aload X24.here hx rfl (hb hby at_157) rfl rfl ?_
    show Steps p.tables e below (T24.setTop (mkF m 159 #[.val (.int p1), .val (.int p2), .val (.int p3), .val (.int p4), .val (.int p5), .val (.ref b6), .val (.ref b10), .val (.ref b14), .val (.ref b18), .val (.int ((p1 &&& (2147483647 : Int32)) - ((p1 &&& (2147483647 : Int32)) / (3 : Int32)) * (3 : Int32))), .val (.int (((p1 &&& (2147483647 : Int32)) - ((p1 &&& (2147483647 : Int32)) / (3 : Int32)) * (3 : Int32)) + (1 : Int32))), .val (.ref b6), .val (.ref b10), .val (.ref b14)] [(.ref b6)])) _
    refine X24.arraylength hx (cell := (clA.setSlot (((p1 &&& (2147483647 : Int32)) - ((p1 &&& (2147483647 : Int32)) / (3 : Int32)) * (3 : Int32))).toNatClampNeg (.int p2))) (by rw [e24q]; exact AqA20.1) (State.isArrayOf_alike hZ.alike AqA20.2.1) (g := (mkF m 159 #[.val (.int p1), .val (.int p2), .val (.int p3), .val (.int p4), .val (.int p5), .val (.ref b6), .val (.ref b10), .val (.ref b14), .val (.ref b18), .val (.int ((p1 &&& (2147483647 : Int32)) - ((p1 &&& (2147483647 : Int32)) / (3 : Int32)) * (3 : Int32))), .val (.int (((p1 &&& (2147483647 : Int32)) - ((p1 &&& (2147483647 : Int32)) / (3 : Int32)) * (3 : Int32)) + (1 : Int32))), .val (.ref b6), .val (.ref b10), .val (.ref b14)] [(.ref b6)])) rfl rfl (hb hby at_159) _ ?_
    rw [len_of (own_sz SclA) (by decide)]
    show Steps p.tables e below (T24.setTop (mkF m 160 #[.val (.int p1), .val (.int p2), .val (.int p3), .val (.int p4), .val (.int p5), .val (.ref b6), .val (.ref b10), .val (.ref b14), .val (.ref b18), .val (.int ((p1 &&& (2147483647 : Int32)) - ((p1 &&& (2147483647 : Int32)) / (3 : Int32)) * (3 : Int32))), .val (.int (((p1 &&& (2147483647 : Int32)) - ((p1 &&& (2147483647 : Int32)) / (3 : Int32)) * (3 : Int32)) + (1 : Int32))), .val (.ref b6), .val (.ref b10), .val (.ref b14)] [(.int (3 : Int32))])) _
    refine XS.iconst X24.here hx rfl (hb hby at_160) ?_
    show Steps p.tables e below (T24.setTop (mkF m 161 #[.val (.int p1), .val (.int p2), .val (.int p3), .val (.int p4), .val (.int p5), .val (.ref b6), .val (.ref b10), .val (.ref b14), .val (.ref b18), .val (.int ((p1 &&& (2147483647 : Int32)) - ((p1 &&& (2147483647 : Int32)) / (3 : Int32)) * (3 : Int32))), .val (.int (((p1 &&& (2147483647 : Int32)) - ((p1 &&& (2147483647 : Int32)) / (3 : Int32)) * (3 : Int32)) + (1 : Int32))), .val (.ref b6), .val (.ref b10), .val (.ref b14)] [(.int (3 : Int32)), (.int (3 : Int32))])) _
    refine XS.icmpNo X24.here hx rfl (hb hby at_161) rfl (teq (rfl : (3 : Int32) = (3 : Int32))).2 ?_
    show Steps p.tables e below (T24.setTop (mkF m 164 #[.val (.int p1), .val (.int p2), .val (.int p3), .val (.int p4), .val (.int p5), .val (.ref b6), .val (.ref b10), .val (.ref b14), .val (.ref b18), .val (.int ((p1 &&& (2147483647 : Int32)) - ((p1 &&& (2147483647 : Int32)) / (3 : Int32)) * (3 : Int32))), .val (.int (((p1 &&& (2147483647 : Int32)) - ((p1 &&& (2147483647 : Int32)) / (3 : Int32)) * (3 : Int32)) + (1 : Int32))), .val (.ref b6), .val (.ref b10), .val (.ref b14)] [])) _
    refine XS.aload X24.here hx rfl (hb hby at_164) rfl rfl ?_
    show Steps p.tables e below (T24.setTop (mkF m 166 #[.val (.int p1), .val (.int p2), .val (.int p3), .val (.int p4), .val (.int p5), .val (.ref b6), .val (.ref b10), .val (.ref b14), .val (.ref b18), .val (.int ((p1 &&& (2147483647 : Int32)) - ((p1 &&& (2147483647 : Int32)) / (3 : Int32)) * (3 : Int32))), .val (.int (((p1 &&& (2147483647 : Int32)) - ((p1 &&& (2147483647 : Int32)) / (3 : Int32)) * (3 : Int32)) + (1 : Int32))), .val (.ref b6), .val (.ref b10), .val (.ref b14)] [(.ref b10)])) _
    refine X24.arraylength hx (cell := (clB.setSlot (((p1 &&& (2147483647 : Int32)) - ((p1 &&& (2147483647 : Int32)) / (3 : Int32)) * (3 : Int32))).toNatClampNeg (.int p3))) (by rw [e24q]; exact AqB20.1) (State.isArrayOf_alike hZ.alike AqB20.2.1) (g := (mkF m 166 #[.val (.int p1), .val (.int p2), .val (.int p3), .val (.int p4), .val (.int p5), .val (.ref b6), .val (.ref b10), .val (.ref b14), .val (.ref b18), .val (.int ((p1 &&& (2147483647 : Int32)) - ((p1 &&& (2147483647 : Int32)) / (3 : Int32)) * (3 : Int32))), .val (.int (((p1 &&& (2147483647 : Int32)) - ((p1 &&& (2147483647 : Int32)) / (3 : Int32)) * (3 : Int32)) + (1 : Int32))), .val (.ref b6), .val (.ref b10), .val (.ref b14)] [(.ref b10)])) rfl rfl (hb hby at_166) _ ?_
    rw [len_of (own_sz SclB) (by decide)]
    show Steps p.tables e below (T24.setTop (mkF m 167 #[.val (.int p1), .val (.int p2), .val (.int p3), .val (.int p4), .val (.int p5), .val (.ref b6), .val (.ref b10), .val (.ref b14), .val (.ref b18), .val (.int ((p1 &&& (2147483647 : Int32)) - ((p1 &&& (2147483647 : Int32)) / (3 : Int32)) * (3 : Int32))), .val (.int (((p1 &&& (2147483647 : Int32)) - ((p1 &&& (2147483647 : Int32)) / (3 : Int32)) * (3 : Int32)) + (1 : Int32))), .val (.ref b6), .val (.ref b10), .val (.ref b14)] [(.int (3 : Int32))])) _
    refine XS.iconst X24.here hx rfl (hb hby at_167) ?_
    show Steps p.tables e below (T24.setTop (mkF m 168 #[.val (.int p1), .val (.int p2), .val (.int p3), .val (.int p4), .val (.int p5), .val (.ref b6), .val (.ref b10), .val (.ref b14), .val (.ref b18), .val (.int ((p1 &&& (2147483647 : Int32)) - ((p1 &&& (2147483647 : Int32)) / (3 : Int32)) * (3 : Int32))), .val (.int (((p1 &&& (2147483647 : Int32)) - ((p1 &&& (2147483647 : Int32)) / (3 : Int32)) * (3 : Int32)) + (1 : Int32))), .val (.ref b6), .val (.ref b10), .val (.ref b14)] [(.int (3 : Int32)), (.int (3 : Int32))])) _
    refine XS.icmpNo X24.here hx rfl (hb hby at_168) rfl (teq (rfl : (3 : Int32) = (3 : Int32))).2 ?_
    show Steps p.tables e below (T24.setTop (mkF m 171 #[.val (.int p1), .val (.int p2), .val (.int p3), .val (.int p4), .val (.int p5), .val (.ref b6), .val (.ref b10), .val (.ref b14), .val (.ref b18), .val (.int ((p1 &&& (2147483647 : Int32)) - ((p1 &&& (2147483647 : Int32)) / (3 : Int32)) * (3 : Int32))), .val (.int (((p1 &&& (2147483647 : Int32)) - ((p1 &&& (2147483647 : Int32)) / (3 : Int32)) * (3 : Int32)) + (1 : Int32))), .val (.ref b6), .val (.ref b10), .val (.ref b14)] [])) _
    refine XS.aload X24.here hx rfl (hb hby at_171) rfl rfl ?_
    show Steps p.tables e below (T24.setTop (mkF m 173 #[.val (.int p1), .val (.int p2), .val (.int p3), .val (.int p4), .val (.int p5), .val (.ref b6), .val (.ref b10), .val (.ref b14), .val (.ref b18), .val (.int ((p1 &&& (2147483647 : Int32)) - ((p1 &&& (2147483647 : Int32)) / (3 : Int32)) * (3 : Int32))), .val (.int (((p1 &&& (2147483647 : Int32)) - ((p1 &&& (2147483647 : Int32)) / (3 : Int32)) * (3 : Int32)) + (1 : Int32))), .val (.ref b6), .val (.ref b10), .val (.ref b14)] [(.ref b14)])) _
    refine X24.arraylength hx (cell := (clC.setSlot (((p1 &&& (2147483647 : Int32)) - ((p1 &&& (2147483647 : Int32)) / (3 : Int32)) * (3 : Int32))).toNatClampNeg (.int p4))) (by rw [e24q]; exact AqC20.1) (State.isArrayOf_alike hZ.alike AqC20.2.1) (g := (mkF m 173 #[.val (.int p1), .val (.int p2), .val (.int p3), .val (.int p4), .val (.int p5), .val (.ref b6), .val (.ref b10), .val (.ref b14), .val (.ref b18), .val (.int ((p1 &&& (2147483647 : Int32)) - ((p1 &&& (2147483647 : Int32)) / (3 : Int32)) * (3 : Int32))), .val (.int (((p1 &&& (2147483647 : Int32)) - ((p1 &&& (2147483647 : Int32)) / (3 : Int32)) * (3 : Int32)) + (1 : Int32))), .val (.ref b6), .val (.ref b10), .val (.ref b14)] [(.ref b14)])) rfl rfl (hb hby at_173) _ ?_
    rw [len_of (own_sz SclC) (by decide)]
    show Steps p.tables e below (T24.setTop (mkF m 174 #[.val (.int p1), .val (.int p2), .val (.int p3), .val (.int p4), .val (.int p5), .val (.ref b6), .val (.ref b10), .val (.ref b14), .val (.ref b18), .val (.int ((p1 &&& (2147483647 : Int32)) - ((p1 &&& (2147483647 : Int32)) / (3 : Int32)) * (3 : Int32))), .val (.int (((p1 &&& (2147483647 : Int32)) - ((p1 &&& (2147483647 : Int32)) / (3 : Int32)) * (3 : Int32)) + (1 : Int32))), .val (.ref b6), .val (.ref b10), .val (.ref b14)] [(.int (3 : Int32))])) _
    refine XS.iconst X24.here hx rfl (hb hby at_174) ?_
    show Steps p.tables e below (T24.setTop (mkF m 175 #[.val (.int p1), .val (.int p2), .val (.int p3), .val (.int p4), .val (.int p5), .val (.ref b6), .val (.ref b10), .val (.ref b14), .val (.ref b18), .val (.int ((p1 &&& (2147483647 : Int32)) - ((p1 &&& (2147483647 : Int32)) / (3 : Int32)) * (3 : Int32))), .val (.int (((p1 &&& (2147483647 : Int32)) - ((p1 &&& (2147483647 : Int32)) / (3 : Int32)) * (3 : Int32)) + (1 : Int32))), .val (.ref b6), .val (.ref b10), .val (.ref b14)] [(.int (3 : Int32)), (.int (3 : Int32))])) _
    refine XS.icmpYes X24.here hx rfl (pc0 := 175) (pc' := 180) rfl (hb hby at_175) rfl (teq (rfl : (3 : Int32) = (3 : Int32))).1 (by decide) (by decide) ?_
    show Steps p.tables e below (T24.setTop (mkF m 180 #[.val (.int p1), .val (.int p2), .val (.int p3), .val (.int p4), .val (.int p5), .val (.ref b6), .val (.ref b10), .val (.ref b14), .val (.ref b18), .val (.int ((p1 &&& (2147483647 : Int32)) - ((p1 &&& (2147483647 : Int32)) / (3 : Int32)) * (3 : Int32))), .val (.int (((p1 &&& (2147483647 : Int32)) - ((p1 &&& (2147483647 : Int32)) / (3 : Int32)) * (3 : Int32)) + (1 : Int32))), .val (.ref b6), .val (.ref b10), .val (.ref b14)] [])) _
    refine XS.aload X24.here hx rfl (hb hby at_180) rfl rfl ?_
    show Steps p.tables e below (T24.setTop (mkF m 182 #[.val (.int p1), .val (.int p2), .val (.int p3), .val (.int p4), .val (.int p5), .val (.ref b6), .val (.ref b10), .val (.ref b14), .val (.ref b18), .val (.int ((p1 &&& (2147483647 : Int32)) - ((p1 &&& (2147483647 : Int32)) / (3 : Int32)) * (3 : Int32))), .val (.int (((p1 &&& (2147483647 : Int32)) - ((p1 &&& (2147483647 : Int32)) / (3 : Int32)) * (3 : Int32)) + (1 : Int32))), .val (.ref b6), .val (.ref b10), .val (.ref b14)] [(.ref b6)])) _
    refine XS.iconst X24.here hx rfl (hb hby at_182) ?_
    show Steps p.tables e below (T24.setTop (mkF m 183 #[.val (.int p1), .val (.int p2), .val (.int p3), .val (.int p4), .val (.int p5), .val (.ref b6), .val (.ref b10), .val (.ref b14), .val (.ref b18), .val (.int ((p1 &&& (2147483647 : Int32)) - ((p1 &&& (2147483647 : Int32)) / (3 : Int32)) * (3 : Int32))), .val (.int (((p1 &&& (2147483647 : Int32)) - ((p1 &&& (2147483647 : Int32)) / (3 : Int32)) * (3 : Int32)) + (1 : Int32))), .val (.ref b6), .val (.ref b10), .val (.ref b14)] [(.int (0 : Int32)), (.ref b6)])) _
    refine XS.iload X24.here hx rfl (hb hby at_183) rfl ?_
    show Steps p.tables e below (T24.setTop (mkF m 185 #[.val (.int p1), .val (.int p2), .val (.int p3), .val (.int p4), .val (.int p5), .val (.ref b6), .val (.ref b10), .val (.ref b14), .val (.ref b18), .val (.int ((p1 &&& (2147483647 : Int32)) - ((p1 &&& (2147483647 : Int32)) / (3 : Int32)) * (3 : Int32))), .val (.int (((p1 &&& (2147483647 : Int32)) - ((p1 &&& (2147483647 : Int32)) / (3 : Int32)) * (3 : Int32)) + (1 : Int32))), .val (.ref b6), .val (.ref b10), .val (.ref b14)] [(.int ((p1 &&& (2147483647 : Int32)) - ((p1 &&& (2147483647 : Int32)) / (3 : Int32)) * (3 : Int32))), (.int (0 : Int32)), (.ref b6)])) _
    refine XS.iloadN X24.here hx rfl (hb hby at_185) rfl ?_
    show Steps p.tables e below (T24.setTop (mkF m 186 #[.val (.int p1), .val (.int p2), .val (.int p3), .val (.int p4), .val (.int p5), .val (.ref b6), .val (.ref b10), .val (.ref b14), .val (.ref b18), .val (.int ((p1 &&& (2147483647 : Int32)) - ((p1 &&& (2147483647 : Int32)) / (3 : Int32)) * (3 : Int32))), .val (.int (((p1 &&& (2147483647 : Int32)) - ((p1 &&& (2147483647 : Int32)) / (3 : Int32)) * (3 : Int32)) + (1 : Int32))), .val (.ref b6), .val (.ref b10), .val (.ref b14)] [(.int p2), (.int ((p1 &&& (2147483647 : Int32)) - ((p1 &&& (2147483647 : Int32)) / (3 : Int32)) * (3 : Int32))), (.int (0 : Int32)), (.ref b6)])) _
    refine XS.iload X24.here hx rfl (hb hby at_186) rfl ?_
    show Steps p.tables e below (T24.setTop (mkF m 188 #[.val (.int p1), .val (.int p2), .val (.int p3), .val (.int p4), .val (.int p5), .val (.ref b6), .val (.ref b10), .val (.ref b14), .val (.ref b18), .val (.int ((p1 &&& (2147483647 : Int32)) - ((p1 &&& (2147483647 : Int32)) / (3 : Int32)) * (3 : Int32))), .val (.int (((p1 &&& (2147483647 : Int32)) - ((p1 &&& (2147483647 : Int32)) / (3 : Int32)) * (3 : Int32)) + (1 : Int32))), .val (.ref b6), .val (.ref b10), .val (.ref b14)] [(.int p5), (.int p2), (.int ((p1 &&& (2147483647 : Int32)) - ((p1 &&& (2147483647 : Int32)) / (3 : Int32)) * (3 : Int32))), (.int (0 : Int32)), (.ref b6)])) _
    refine st25 _ ?_
    show Steps p.tables e below (T25.setTop (mkF m 191 #[.val (.int p1), .val (.int p2), .val (.int p3), .val (.int p4), .val (.int p5), .val (.ref b6), .val (.ref b10), .val (.ref b14), .val (.ref b18), .val (.int ((p1 &&& (2147483647 : Int32)) - ((p1 &&& (2147483647 : Int32)) / (3 : Int32)) * (3 : Int32))), .val (.int (((p1 &&& (2147483647 : Int32)) - ((p1 &&& (2147483647 : Int32)) / (3 : Int32)) * (3 : Int32)) + (1 : Int32))), .val (.ref b6), .val (.ref b10), .val (.ref b14)] [(.int (own_f9 b6 (0 : Int32) ((p1 &&& (2147483647 : Int32)) - ((p1 &&& (2147483647 : Int32)) / (3 : Int32)) * (3 : Int32)) p2 p5 (own_g (0 : Int32) ((p1 &&& (2147483647 : Int32)) - ((p1 &&& (2147483647 : Int32)) / (3 : Int32)) * (3 : Int32)) p2 p5) (clA.setSlot (((p1 &&& (2147483647 : Int32)) - ((p1 &&& (2147483647 : Int32)) / (3 : Int32)) * (3 : Int32))).toNatClampNeg (.int p2))))])) _
    refine XS.ifNo X25.here hx rfl (hb hby at_191) rfl ((if0 _ _).trans (feq (own_nz _ _ _ _ _ _ : ¬ ((own_f9 b6 (0 : Int32) ((p1 &&& (2147483647 : Int32)) - ((p1 &&& (2147483647 : Int32)) / (3 : Int32)) * (3 : Int32)) p2 p5 (own_g (0 : Int32) ((p1 &&& (2147483647 : Int32)) - ((p1 &&& (2147483647 : Int32)) / (3 : Int32)) * (3 : Int32)) p2 p5) (clA.setSlot (((p1 &&& (2147483647 : Int32)) - ((p1 &&& (2147483647 : Int32)) / (3 : Int32)) * (3 : Int32))).toNatClampNeg (.int p2))) = (0 : Int32)))).1) ?_
    show Steps p.tables e below (T25.setTop (mkF m 194 #[.val (.int p1), .val (.int p2), .val (.int p3), .val (.int p4), .val (.int p5), .val (.ref b6), .val (.ref b10), .val (.ref b14), .val (.ref b18), .val (.int ((p1 &&& (2147483647 : Int32)) - ((p1 &&& (2147483647 : Int32)) / (3 : Int32)) * (3 : Int32))), .val (.int (((p1 &&& (2147483647 : Int32)) - ((p1 &&& (2147483647 : Int32)) / (3 : Int32)) * (3 : Int32)) + (1 : Int32))), .val (.ref b6), .val (.ref b10), .val (.ref b14)] [])) _
    refine XS.aload X25.here hx rfl (hb hby at_194) rfl rfl ?_
    show Steps p.tables e below (T25.setTop (mkF m 196 #[.val (.int p1), .val (.int p2), .val (.int p3), .val (.int p4), .val (.int p5), .val (.ref b6), .val (.ref b10), .val (.ref b14), .val (.ref b18), .val (.int ((p1 &&& (2147483647 : Int32)) - ((p1 &&& (2147483647 : Int32)) / (3 : Int32)) * (3 : Int32))), .val (.int (((p1 &&& (2147483647 : Int32)) - ((p1 &&& (2147483647 : Int32)) / (3 : Int32)) * (3 : Int32)) + (1 : Int32))), .val (.ref b6), .val (.ref b10), .val (.ref b14)] [(.ref b6)])) _
    refine XS.iconst X25.here hx rfl (hb hby at_196) ?_
    show Steps p.tables e below (T25.setTop (mkF m 197 #[.val (.int p1), .val (.int p2), .val (.int p3), .val (.int p4), .val (.int p5), .val (.ref b6), .val (.ref b10), .val (.ref b14), .val (.ref b18), .val (.int ((p1 &&& (2147483647 : Int32)) - ((p1 &&& (2147483647 : Int32)) / (3 : Int32)) * (3 : Int32))), .val (.int (((p1 &&& (2147483647 : Int32)) - ((p1 &&& (2147483647 : Int32)) / (3 : Int32)) * (3 : Int32)) + (1 : Int32))), .val (.ref b6), .val (.ref b10), .val (.ref b14)] [(.int (1 : Int32)), (.ref b6)])) _
    refine XS.iload X25.here hx rfl (hb hby at_197) rfl ?_
    show Steps p.tables e below (T25.setTop (mkF m 199 #[.val (.int p1), .val (.int p2), .val (.int p3), .val (.int p4), .val (.int p5), .val (.ref b6), .val (.ref b10), .val (.ref b14), .val (.ref b18), .val (.int ((p1 &&& (2147483647 : Int32)) - ((p1 &&& (2147483647 : Int32)) / (3 : Int32)) * (3 : Int32))), .val (.int (((p1 &&& (2147483647 : Int32)) - ((p1 &&& (2147483647 : Int32)) / (3 : Int32)) * (3 : Int32)) + (1 : Int32))), .val (.ref b6), .val (.ref b10), .val (.ref b14)] [(.int ((p1 &&& (2147483647 : Int32)) - ((p1 &&& (2147483647 : Int32)) / (3 : Int32)) * (3 : Int32))), (.int (1 : Int32)), (.ref b6)])) _
    refine XS.iloadN X25.here hx rfl (hb hby at_199) rfl ?_
    show Steps p.tables e below (T25.setTop (mkF m 200 #[.val (.int p1), .val (.int p2), .val (.int p3), .val (.int p4), .val (.int p5), .val (.ref b6), .val (.ref b10), .val (.ref b14), .val (.ref b18), .val (.int ((p1 &&& (2147483647 : Int32)) - ((p1 &&& (2147483647 : Int32)) / (3 : Int32)) * (3 : Int32))), .val (.int (((p1 &&& (2147483647 : Int32)) - ((p1 &&& (2147483647 : Int32)) / (3 : Int32)) * (3 : Int32)) + (1 : Int32))), .val (.ref b6), .val (.ref b10), .val (.ref b14)] [(.int p2), (.int ((p1 &&& (2147483647 : Int32)) - ((p1 &&& (2147483647 : Int32)) / (3 : Int32)) * (3 : Int32))), (.int (1 : Int32)), (.ref b6)])) _
    refine XS.iload X25.here hx rfl (hb hby at_200) rfl ?_
    show Steps p.tables e below (T25.setTop (mkF m 202 #[.val (.int p1), .val (.int p2), .val (.int p3), .val (.int p4), .val (.int p5), .val (.ref b6), .val (.ref b10), .val (.ref b14), .val (.ref b18), .val (.int ((p1 &&& (2147483647 : Int32)) - ((p1 &&& (2147483647 : Int32)) / (3 : Int32)) * (3 : Int32))), .val (.int (((p1 &&& (2147483647 : Int32)) - ((p1 &&& (2147483647 : Int32)) / (3 : Int32)) * (3 : Int32)) + (1 : Int32))), .val (.ref b6), .val (.ref b10), .val (.ref b14)] [(.int p5), (.int p2), (.int ((p1 &&& (2147483647 : Int32)) - ((p1 &&& (2147483647 : Int32)) / (3 : Int32)) * (3 : Int32))), (.int (1 : Int32)), (.ref b6)])) _
    refine XS.iconst X25.here hx rfl (hb hby at_202) ?_
    show Steps p.tables e below (T25.setTop (mkF m 203 #[.val (.int p1), .val (.int p2), .val (.int p3), .val (.int p4), .val (.int p5), .val (.ref b6), .val (.ref b10), .val (.ref b14), .val (.ref b18), .val (.int ((p1 &&& (2147483647 : Int32)) - ((p1 &&& (2147483647 : Int32)) / (3 : Int32)) * (3 : Int32))), .val (.int (((p1 &&& (2147483647 : Int32)) - ((p1 &&& (2147483647 : Int32)) / (3 : Int32)) * (3 : Int32)) + (1 : Int32))), .val (.ref b6), .val (.ref b10), .val (.ref b14)] [(.int (1 : Int32)), (.int p5), (.int p2), (.int ((p1 &&& (2147483647 : Int32)) - ((p1 &&& (2147483647 : Int32)) / (3 : Int32)) * (3 : Int32))), (.int (1 : Int32)), (.ref b6)])) _
    refine XS.iadd X25.here hx rfl (hb hby at_203) rfl ?_
    show Steps p.tables e below (T25.setTop (mkF m 204 #[.val (.int p1), .val (.int p2), .val (.int p3), .val (.int p4), .val (.int p5), .val (.ref b6), .val (.ref b10), .val (.ref b14), .val (.ref b18), .val (.int ((p1 &&& (2147483647 : Int32)) - ((p1 &&& (2147483647 : Int32)) / (3 : Int32)) * (3 : Int32))), .val (.int (((p1 &&& (2147483647 : Int32)) - ((p1 &&& (2147483647 : Int32)) / (3 : Int32)) * (3 : Int32)) + (1 : Int32))), .val (.ref b6), .val (.ref b10), .val (.ref b14)] [(.int (p5 + (1 : Int32))), (.int p2), (.int ((p1 &&& (2147483647 : Int32)) - ((p1 &&& (2147483647 : Int32)) / (3 : Int32)) * (3 : Int32))), (.int (1 : Int32)), (.ref b6)])) _
    refine st26 _ ?_
    show Steps p.tables e below (T26.setTop (mkF m 207 #[.val (.int p1), .val (.int p2), .val (.int p3), .val (.int p4), .val (.int p5), .val (.ref b6), .val (.ref b10), .val (.ref b14), .val (.ref b18), .val (.int ((p1 &&& (2147483647 : Int32)) - ((p1 &&& (2147483647 : Int32)) / (3 : Int32)) * (3 : Int32))), .val (.int (((p1 &&& (2147483647 : Int32)) - ((p1 &&& (2147483647 : Int32)) / (3 : Int32)) * (3 : Int32)) + (1 : Int32))), .val (.ref b6), .val (.ref b10), .val (.ref b14)] [(.int (own_f9 b6 (1 : Int32) ((p1 &&& (2147483647 : Int32)) - ((p1 &&& (2147483647 : Int32)) / (3 : Int32)) * (3 : Int32)) p2 (p5 + (1 : Int32)) (own_g (1 : Int32) ((p1 &&& (2147483647 : Int32)) - ((p1 &&& (2147483647 : Int32)) / (3 : Int32)) * (3 : Int32)) p2 (p5 + (1 : Int32))) (clA.setSlot (((p1 &&& (2147483647 : Int32)) - ((p1 &&& (2147483647 : Int32)) / (3 : Int32)) * (3 : Int32))).toNatClampNeg (.int p2))))])) _
    refine XS.ifNo X26.here hx rfl (hb hby at_207) rfl ((if0 _ _).trans (feq (own_nz _ _ _ _ _ _ : ¬ ((own_f9 b6 (1 : Int32) ((p1 &&& (2147483647 : Int32)) - ((p1 &&& (2147483647 : Int32)) / (3 : Int32)) * (3 : Int32)) p2 (p5 + (1 : Int32)) (own_g (1 : Int32) ((p1 &&& (2147483647 : Int32)) - ((p1 &&& (2147483647 : Int32)) / (3 : Int32)) * (3 : Int32)) p2 (p5 + (1 : Int32))) (clA.setSlot (((p1 &&& (2147483647 : Int32)) - ((p1 &&& (2147483647 : Int32)) / (3 : Int32)) * (3 : Int32))).toNatClampNeg (.int p2))) = (0 : Int32)))).1) ?_
    show Steps p.tables e below (T26.setTop (mkF m 210 #[.val (.int p1), .val (.int p2), .val (.int p3), .val (.int p4), .val (.int p5), .val (.ref b6), .val (.ref b10), .val (.ref b14), .val (.ref b18), .val (.int ((p1 &&& (2147483647 : Int32)) - ((p1 &&& (2147483647 : Int32)) / (3 : Int32)) * (3 : Int32))), .val (.int (((p1 &&& (2147483647 : Int32)) - ((p1 &&& (2147483647 : Int32)) / (3 : Int32)) * (3 : Int32)) + (1 : Int32))), .val (.ref b6), .val (.ref b10), .val (.ref b14)] [])) _
    refine XS.aload X26.here hx rfl (hb hby at_210) rfl rfl ?_
    show Steps p.tables e below (T26.setTop (mkF m 212 #[.val (.int p1), .val (.int p2), .val (.int p3), .val (.int p4), .val (.int p5), .val (.ref b6), .val (.ref b10), .val (.ref b14), .val (.ref b18), .val (.int ((p1 &&& (2147483647 : Int32)) - ((p1 &&& (2147483647 : Int32)) / (3 : Int32)) * (3 : Int32))), .val (.int (((p1 &&& (2147483647 : Int32)) - ((p1 &&& (2147483647 : Int32)) / (3 : Int32)) * (3 : Int32)) + (1 : Int32))), .val (.ref b6), .val (.ref b10), .val (.ref b14)] [(.ref b6)])) _
    refine XS.iconst X26.here hx rfl (hb hby at_212) ?_
    show Steps p.tables e below (T26.setTop (mkF m 213 #[.val (.int p1), .val (.int p2), .val (.int p3), .val (.int p4), .val (.int p5), .val (.ref b6), .val (.ref b10), .val (.ref b14), .val (.ref b18), .val (.int ((p1 &&& (2147483647 : Int32)) - ((p1 &&& (2147483647 : Int32)) / (3 : Int32)) * (3 : Int32))), .val (.int (((p1 &&& (2147483647 : Int32)) - ((p1 &&& (2147483647 : Int32)) / (3 : Int32)) * (3 : Int32)) + (1 : Int32))), .val (.ref b6), .val (.ref b10), .val (.ref b14)] [(.int (2 : Int32)), (.ref b6)])) _
    refine XS.iload X26.here hx rfl (hb hby at_213) rfl ?_
    show Steps p.tables e below (T26.setTop (mkF m 215 #[.val (.int p1), .val (.int p2), .val (.int p3), .val (.int p4), .val (.int p5), .val (.ref b6), .val (.ref b10), .val (.ref b14), .val (.ref b18), .val (.int ((p1 &&& (2147483647 : Int32)) - ((p1 &&& (2147483647 : Int32)) / (3 : Int32)) * (3 : Int32))), .val (.int (((p1 &&& (2147483647 : Int32)) - ((p1 &&& (2147483647 : Int32)) / (3 : Int32)) * (3 : Int32)) + (1 : Int32))), .val (.ref b6), .val (.ref b10), .val (.ref b14)] [(.int ((p1 &&& (2147483647 : Int32)) - ((p1 &&& (2147483647 : Int32)) / (3 : Int32)) * (3 : Int32))), (.int (2 : Int32)), (.ref b6)])) _
    refine XS.iloadN X26.here hx rfl (hb hby at_215) rfl ?_
    show Steps p.tables e below (T26.setTop (mkF m 216 #[.val (.int p1), .val (.int p2), .val (.int p3), .val (.int p4), .val (.int p5), .val (.ref b6), .val (.ref b10), .val (.ref b14), .val (.ref b18), .val (.int ((p1 &&& (2147483647 : Int32)) - ((p1 &&& (2147483647 : Int32)) / (3 : Int32)) * (3 : Int32))), .val (.int (((p1 &&& (2147483647 : Int32)) - ((p1 &&& (2147483647 : Int32)) / (3 : Int32)) * (3 : Int32)) + (1 : Int32))), .val (.ref b6), .val (.ref b10), .val (.ref b14)] [(.int p2), (.int ((p1 &&& (2147483647 : Int32)) - ((p1 &&& (2147483647 : Int32)) / (3 : Int32)) * (3 : Int32))), (.int (2 : Int32)), (.ref b6)])) _
    refine XS.iload X26.here hx rfl (hb hby at_216) rfl ?_
    show Steps p.tables e below (T26.setTop (mkF m 218 #[.val (.int p1), .val (.int p2), .val (.int p3), .val (.int p4), .val (.int p5), .val (.ref b6), .val (.ref b10), .val (.ref b14), .val (.ref b18), .val (.int ((p1 &&& (2147483647 : Int32)) - ((p1 &&& (2147483647 : Int32)) / (3 : Int32)) * (3 : Int32))), .val (.int (((p1 &&& (2147483647 : Int32)) - ((p1 &&& (2147483647 : Int32)) / (3 : Int32)) * (3 : Int32)) + (1 : Int32))), .val (.ref b6), .val (.ref b10), .val (.ref b14)] [(.int p5), (.int p2), (.int ((p1 &&& (2147483647 : Int32)) - ((p1 &&& (2147483647 : Int32)) / (3 : Int32)) * (3 : Int32))), (.int (2 : Int32)), (.ref b6)])) _
    refine XS.iconst X26.here hx rfl (hb hby at_218) ?_
    show Steps p.tables e below (T26.setTop (mkF m 219 #[.val (.int p1), .val (.int p2), .val (.int p3), .val (.int p4), .val (.int p5), .val (.ref b6), .val (.ref b10), .val (.ref b14), .val (.ref b18), .val (.int ((p1 &&& (2147483647 : Int32)) - ((p1 &&& (2147483647 : Int32)) / (3 : Int32)) * (3 : Int32))), .val (.int (((p1 &&& (2147483647 : Int32)) - ((p1 &&& (2147483647 : Int32)) / (3 : Int32)) * (3 : Int32)) + (1 : Int32))), .val (.ref b6), .val (.ref b10), .val (.ref b14)] [(.int (2 : Int32)), (.int p5), (.int p2), (.int ((p1 &&& (2147483647 : Int32)) - ((p1 &&& (2147483647 : Int32)) / (3 : Int32)) * (3 : Int32))), (.int (2 : Int32)), (.ref b6)])) _
    refine XS.iadd X26.here hx rfl (hb hby at_219) rfl ?_
    show Steps p.tables e below (T26.setTop (mkF m 220 #[.val (.int p1), .val (.int p2), .val (.int p3), .val (.int p4), .val (.int p5), .val (.ref b6), .val (.ref b10), .val (.ref b14), .val (.ref b18), .val (.int ((p1 &&& (2147483647 : Int32)) - ((p1 &&& (2147483647 : Int32)) / (3 : Int32)) * (3 : Int32))), .val (.int (((p1 &&& (2147483647 : Int32)) - ((p1 &&& (2147483647 : Int32)) / (3 : Int32)) * (3 : Int32)) + (1 : Int32))), .val (.ref b6), .val (.ref b10), .val (.ref b14)] [(.int (p5 + (2 : Int32))), (.int p2), (.int ((p1 &&& (2147483647 : Int32)) - ((p1 &&& (2147483647 : Int32)) / (3 : Int32)) * (3 : Int32))), (.int (2 : Int32)), (.ref b6)])) _
    refine st27 _ ?_
    show Steps p.tables e below (T27.setTop (mkF m 223 #[.val (.int p1), .val (.int p2), .val (.int p3), .val (.int p4), .val (.int p5), .val (.ref b6), .val (.ref b10), .val (.ref b14), .val (.ref b18), .val (.int ((p1 &&& (2147483647 : Int32)) - ((p1 &&& (2147483647 : Int32)) / (3 : Int32)) * (3 : Int32))), .val (.int (((p1 &&& (2147483647 : Int32)) - ((p1 &&& (2147483647 : Int32)) / (3 : Int32)) * (3 : Int32)) + (1 : Int32))), .val (.ref b6), .val (.ref b10), .val (.ref b14)] [(.int (own_f9 b6 (2 : Int32) ((p1 &&& (2147483647 : Int32)) - ((p1 &&& (2147483647 : Int32)) / (3 : Int32)) * (3 : Int32)) p2 (p5 + (2 : Int32)) (own_g (2 : Int32) ((p1 &&& (2147483647 : Int32)) - ((p1 &&& (2147483647 : Int32)) / (3 : Int32)) * (3 : Int32)) p2 (p5 + (2 : Int32))) (clA.setSlot (((p1 &&& (2147483647 : Int32)) - ((p1 &&& (2147483647 : Int32)) / (3 : Int32)) * (3 : Int32))).toNatClampNeg (.int p2))))])) _
    refine XS.ifNo X27.here hx rfl (hb hby at_223) rfl ((if0 _ _).trans (feq (own_nz _ _ _ _ _ _ : ¬ ((own_f9 b6 (2 : Int32) ((p1 &&& (2147483647 : Int32)) - ((p1 &&& (2147483647 : Int32)) / (3 : Int32)) * (3 : Int32)) p2 (p5 + (2 : Int32)) (own_g (2 : Int32) ((p1 &&& (2147483647 : Int32)) - ((p1 &&& (2147483647 : Int32)) / (3 : Int32)) * (3 : Int32)) p2 (p5 + (2 : Int32))) (clA.setSlot (((p1 &&& (2147483647 : Int32)) - ((p1 &&& (2147483647 : Int32)) / (3 : Int32)) * (3 : Int32))).toNatClampNeg (.int p2))) = (0 : Int32)))).1) ?_
    show Steps p.tables e below (T27.setTop (mkF m 226 #[.val (.int p1), .val (.int p2), .val (.int p3), .val (.int p4), .val (.int p5), .val (.ref b6), .val (.ref b10), .val (.ref b14), .val (.ref b18), .val (.int ((p1 &&& (2147483647 : Int32)) - ((p1 &&& (2147483647 : Int32)) / (3 : Int32)) * (3 : Int32))), .val (.int (((p1 &&& (2147483647 : Int32)) - ((p1 &&& (2147483647 : Int32)) / (3 : Int32)) * (3 : Int32)) + (1 : Int32))), .val (.ref b6), .val (.ref b10), .val (.ref b14)] [])) _
    refine XS.aload X27.here hx rfl (hb hby at_226) rfl rfl ?_
    show Steps p.tables e below (T27.setTop (mkF m 228 #[.val (.int p1), .val (.int p2), .val (.int p3), .val (.int p4), .val (.int p5), .val (.ref b6), .val (.ref b10), .val (.ref b14), .val (.ref b18), .val (.int ((p1 &&& (2147483647 : Int32)) - ((p1 &&& (2147483647 : Int32)) / (3 : Int32)) * (3 : Int32))), .val (.int (((p1 &&& (2147483647 : Int32)) - ((p1 &&& (2147483647 : Int32)) / (3 : Int32)) * (3 : Int32)) + (1 : Int32))), .val (.ref b6), .val (.ref b10), .val (.ref b14)] [(.ref b10)])) _
    refine XS.iconst X27.here hx rfl (hb hby at_228) ?_
    show Steps p.tables e below (T27.setTop (mkF m 229 #[.val (.int p1), .val (.int p2), .val (.int p3), .val (.int p4), .val (.int p5), .val (.ref b6), .val (.ref b10), .val (.ref b14), .val (.ref b18), .val (.int ((p1 &&& (2147483647 : Int32)) - ((p1 &&& (2147483647 : Int32)) / (3 : Int32)) * (3 : Int32))), .val (.int (((p1 &&& (2147483647 : Int32)) - ((p1 &&& (2147483647 : Int32)) / (3 : Int32)) * (3 : Int32)) + (1 : Int32))), .val (.ref b6), .val (.ref b10), .val (.ref b14)] [(.int (0 : Int32)), (.ref b10)])) _
    refine XS.iload X27.here hx rfl (hb hby at_229) rfl ?_
    show Steps p.tables e below (T27.setTop (mkF m 231 #[.val (.int p1), .val (.int p2), .val (.int p3), .val (.int p4), .val (.int p5), .val (.ref b6), .val (.ref b10), .val (.ref b14), .val (.ref b18), .val (.int ((p1 &&& (2147483647 : Int32)) - ((p1 &&& (2147483647 : Int32)) / (3 : Int32)) * (3 : Int32))), .val (.int (((p1 &&& (2147483647 : Int32)) - ((p1 &&& (2147483647 : Int32)) / (3 : Int32)) * (3 : Int32)) + (1 : Int32))), .val (.ref b6), .val (.ref b10), .val (.ref b14)] [(.int ((p1 &&& (2147483647 : Int32)) - ((p1 &&& (2147483647 : Int32)) / (3 : Int32)) * (3 : Int32))), (.int (0 : Int32)), (.ref b10)])) _
    refine XS.iloadN X27.here hx rfl (hb hby at_231) rfl ?_
    show Steps p.tables e below (T27.setTop (mkF m 232 #[.val (.int p1), .val (.int p2), .val (.int p3), .val (.int p4), .val (.int p5), .val (.ref b6), .val (.ref b10), .val (.ref b14), .val (.ref b18), .val (.int ((p1 &&& (2147483647 : Int32)) - ((p1 &&& (2147483647 : Int32)) / (3 : Int32)) * (3 : Int32))), .val (.int (((p1 &&& (2147483647 : Int32)) - ((p1 &&& (2147483647 : Int32)) / (3 : Int32)) * (3 : Int32)) + (1 : Int32))), .val (.ref b6), .val (.ref b10), .val (.ref b14)] [(.int p3), (.int ((p1 &&& (2147483647 : Int32)) - ((p1 &&& (2147483647 : Int32)) / (3 : Int32)) * (3 : Int32))), (.int (0 : Int32)), (.ref b10)])) _
    refine XS.iload X27.here hx rfl (hb hby at_232) rfl ?_
    show Steps p.tables e below (T27.setTop (mkF m 234 #[.val (.int p1), .val (.int p2), .val (.int p3), .val (.int p4), .val (.int p5), .val (.ref b6), .val (.ref b10), .val (.ref b14), .val (.ref b18), .val (.int ((p1 &&& (2147483647 : Int32)) - ((p1 &&& (2147483647 : Int32)) / (3 : Int32)) * (3 : Int32))), .val (.int (((p1 &&& (2147483647 : Int32)) - ((p1 &&& (2147483647 : Int32)) / (3 : Int32)) * (3 : Int32)) + (1 : Int32))), .val (.ref b6), .val (.ref b10), .val (.ref b14)] [(.int p5), (.int p3), (.int ((p1 &&& (2147483647 : Int32)) - ((p1 &&& (2147483647 : Int32)) / (3 : Int32)) * (3 : Int32))), (.int (0 : Int32)), (.ref b10)])) _
    refine XS.iconst X27.here hx rfl (hb hby at_234) ?_
    show Steps p.tables e below (T27.setTop (mkF m 235 #[.val (.int p1), .val (.int p2), .val (.int p3), .val (.int p4), .val (.int p5), .val (.ref b6), .val (.ref b10), .val (.ref b14), .val (.ref b18), .val (.int ((p1 &&& (2147483647 : Int32)) - ((p1 &&& (2147483647 : Int32)) / (3 : Int32)) * (3 : Int32))), .val (.int (((p1 &&& (2147483647 : Int32)) - ((p1 &&& (2147483647 : Int32)) / (3 : Int32)) * (3 : Int32)) + (1 : Int32))), .val (.ref b6), .val (.ref b10), .val (.ref b14)] [(.int (3 : Int32)), (.int p5), (.int p3), (.int ((p1 &&& (2147483647 : Int32)) - ((p1 &&& (2147483647 : Int32)) / (3 : Int32)) * (3 : Int32))), (.int (0 : Int32)), (.ref b10)])) _
    refine XS.iadd X27.here hx rfl (hb hby at_235) rfl ?_
    show Steps p.tables e below (T27.setTop (mkF m 236 #[.val (.int p1), .val (.int p2), .val (.int p3), .val (.int p4), .val (.int p5), .val (.ref b6), .val (.ref b10), .val (.ref b14), .val (.ref b18), .val (.int ((p1 &&& (2147483647 : Int32)) - ((p1 &&& (2147483647 : Int32)) / (3 : Int32)) * (3 : Int32))), .val (.int (((p1 &&& (2147483647 : Int32)) - ((p1 &&& (2147483647 : Int32)) / (3 : Int32)) * (3 : Int32)) + (1 : Int32))), .val (.ref b6), .val (.ref b10), .val (.ref b14)] [(.int (p5 + (3 : Int32))), (.int p3), (.int ((p1 &&& (2147483647 : Int32)) - ((p1 &&& (2147483647 : Int32)) / (3 : Int32)) * (3 : Int32))), (.int (0 : Int32)), (.ref b10)])) _
    refine st28 _ ?_
    show Steps p.tables e below (T28.setTop (mkF m 239 #[.val (.int p1), .val (.int p2), .val (.int p3), .val (.int p4), .val (.int p5), .val (.ref b6), .val (.ref b10), .val (.ref b14), .val (.ref b18), .val (.int ((p1 &&& (2147483647 : Int32)) - ((p1 &&& (2147483647 : Int32)) / (3 : Int32)) * (3 : Int32))), .val (.int (((p1 &&& (2147483647 : Int32)) - ((p1 &&& (2147483647 : Int32)) / (3 : Int32)) * (3 : Int32)) + (1 : Int32))), .val (.ref b6), .val (.ref b10), .val (.ref b14)] [(.int (own_f9 b10 (0 : Int32) ((p1 &&& (2147483647 : Int32)) - ((p1 &&& (2147483647 : Int32)) / (3 : Int32)) * (3 : Int32)) p3 (p5 + (3 : Int32)) (own_g (0 : Int32) ((p1 &&& (2147483647 : Int32)) - ((p1 &&& (2147483647 : Int32)) / (3 : Int32)) * (3 : Int32)) p3 (p5 + (3 : Int32))) (clB.setSlot (((p1 &&& (2147483647 : Int32)) - ((p1 &&& (2147483647 : Int32)) / (3 : Int32)) * (3 : Int32))).toNatClampNeg (.int p3))))])) _
    refine XS.ifNo X28.here hx rfl (hb hby at_239) rfl ((if0 _ _).trans (feq (own_nz _ _ _ _ _ _ : ¬ ((own_f9 b10 (0 : Int32) ((p1 &&& (2147483647 : Int32)) - ((p1 &&& (2147483647 : Int32)) / (3 : Int32)) * (3 : Int32)) p3 (p5 + (3 : Int32)) (own_g (0 : Int32) ((p1 &&& (2147483647 : Int32)) - ((p1 &&& (2147483647 : Int32)) / (3 : Int32)) * (3 : Int32)) p3 (p5 + (3 : Int32))) (clB.setSlot (((p1 &&& (2147483647 : Int32)) - ((p1 &&& (2147483647 : Int32)) / (3 : Int32)) * (3 : Int32))).toNatClampNeg (.int p3))) = (0 : Int32)))).1) ?_
    show Steps p.tables e below (T28.setTop (mkF m 242 #[.val (.int p1), .val (.int p2), .val (.int p3), .val (.int p4), .val (.int p5), .val (.ref b6), .val (.ref b10), .val (.ref b14), .val (.ref b18), .val (.int ((p1 &&& (2147483647 : Int32)) - ((p1 &&& (2147483647 : Int32)) / (3 : Int32)) * (3 : Int32))), .val (.int (((p1 &&& (2147483647 : Int32)) - ((p1 &&& (2147483647 : Int32)) / (3 : Int32)) * (3 : Int32)) + (1 : Int32))), .val (.ref b6), .val (.ref b10), .val (.ref b14)] [])) _
    refine XS.aload X28.here hx rfl (hb hby at_242) rfl rfl ?_
    show Steps p.tables e below (T28.setTop (mkF m 244 #[.val (.int p1), .val (.int p2), .val (.int p3), .val (.int p4), .val (.int p5), .val (.ref b6), .val (.ref b10), .val (.ref b14), .val (.ref b18), .val (.int ((p1 &&& (2147483647 : Int32)) - ((p1 &&& (2147483647 : Int32)) / (3 : Int32)) * (3 : Int32))), .val (.int (((p1 &&& (2147483647 : Int32)) - ((p1 &&& (2147483647 : Int32)) / (3 : Int32)) * (3 : Int32)) + (1 : Int32))), .val (.ref b6), .val (.ref b10), .val (.ref b14)] [(.ref b10)])) _
    refine XS.iconst X28.here hx rfl (hb hby at_244) ?_
    show Steps p.tables e below (T28.setTop (mkF m 245 #[.val (.int p1), .val (.int p2), .val (.int p3), .val (.int p4), .val (.int p5), .val (.ref b6), .val (.ref b10), .val (.ref b14), .val (.ref b18), .val (.int ((p1 &&& (2147483647 : Int32)) - ((p1 &&& (2147483647 : Int32)) / (3 : Int32)) * (3 : Int32))), .val (.int (((p1 &&& (2147483647 : Int32)) - ((p1 &&& (2147483647 : Int32)) / (3 : Int32)) * (3 : Int32)) + (1 : Int32))), .val (.ref b6), .val (.ref b10), .val (.ref b14)] [(.int (1 : Int32)), (.ref b10)])) _
    refine XS.iload X28.here hx rfl (hb hby at_245) rfl ?_
    show Steps p.tables e below (T28.setTop (mkF m 247 #[.val (.int p1), .val (.int p2), .val (.int p3), .val (.int p4), .val (.int p5), .val (.ref b6), .val (.ref b10), .val (.ref b14), .val (.ref b18), .val (.int ((p1 &&& (2147483647 : Int32)) - ((p1 &&& (2147483647 : Int32)) / (3 : Int32)) * (3 : Int32))), .val (.int (((p1 &&& (2147483647 : Int32)) - ((p1 &&& (2147483647 : Int32)) / (3 : Int32)) * (3 : Int32)) + (1 : Int32))), .val (.ref b6), .val (.ref b10), .val (.ref b14)] [(.int ((p1 &&& (2147483647 : Int32)) - ((p1 &&& (2147483647 : Int32)) / (3 : Int32)) * (3 : Int32))), (.int (1 : Int32)), (.ref b10)])) _
    refine XS.iloadN X28.here hx rfl (hb hby at_247) rfl ?_
    show Steps p.tables e below (T28.setTop (mkF m 248 #[.val (.int p1), .val (.int p2), .val (.int p3), .val (.int p4), .val (.int p5), .val (.ref b6), .val (.ref b10), .val (.ref b14), .val (.ref b18), .val (.int ((p1 &&& (2147483647 : Int32)) - ((p1 &&& (2147483647 : Int32)) / (3 : Int32)) * (3 : Int32))), .val (.int (((p1 &&& (2147483647 : Int32)) - ((p1 &&& (2147483647 : Int32)) / (3 : Int32)) * (3 : Int32)) + (1 : Int32))), .val (.ref b6), .val (.ref b10), .val (.ref b14)] [(.int p3), (.int ((p1 &&& (2147483647 : Int32)) - ((p1 &&& (2147483647 : Int32)) / (3 : Int32)) * (3 : Int32))), (.int (1 : Int32)), (.ref b10)])) _
    refine XS.iload X28.here hx rfl (hb hby at_248) rfl ?_
    show Steps p.tables e below (T28.setTop (mkF m 250 #[.val (.int p1), .val (.int p2), .val (.int p3), .val (.int p4), .val (.int p5), .val (.ref b6), .val (.ref b10), .val (.ref b14), .val (.ref b18), .val (.int ((p1 &&& (2147483647 : Int32)) - ((p1 &&& (2147483647 : Int32)) / (3 : Int32)) * (3 : Int32))), .val (.int (((p1 &&& (2147483647 : Int32)) - ((p1 &&& (2147483647 : Int32)) / (3 : Int32)) * (3 : Int32)) + (1 : Int32))), .val (.ref b6), .val (.ref b10), .val (.ref b14)] [(.int p5), (.int p3), (.int ((p1 &&& (2147483647 : Int32)) - ((p1 &&& (2147483647 : Int32)) / (3 : Int32)) * (3 : Int32))), (.int (1 : Int32)), (.ref b10)])) _
    refine XS.iconst X28.here hx rfl (hb hby at_250) ?_
    show Steps p.tables e below (T28.setTop (mkF m 251 #[.val (.int p1), .val (.int p2), .val (.int p3), .val (.int p4), .val (.int p5), .val (.ref b6), .val (.ref b10), .val (.ref b14), .val (.ref b18), .val (.int ((p1 &&& (2147483647 : Int32)) - ((p1 &&& (2147483647 : Int32)) / (3 : Int32)) * (3 : Int32))), .val (.int (((p1 &&& (2147483647 : Int32)) - ((p1 &&& (2147483647 : Int32)) / (3 : Int32)) * (3 : Int32)) + (1 : Int32))), .val (.ref b6), .val (.ref b10), .val (.ref b14)] [(.int (4 : Int32)), (.int p5), (.int p3), (.int ((p1 &&& (2147483647 : Int32)) - ((p1 &&& (2147483647 : Int32)) / (3 : Int32)) * (3 : Int32))), (.int (1 : Int32)), (.ref b10)])) _
    refine XS.iadd X28.here hx rfl (hb hby at_251) rfl ?_
    show Steps p.tables e below (T28.setTop (mkF m 252 #[.val (.int p1), .val (.int p2), .val (.int p3), .val (.int p4), .val (.int p5), .val (.ref b6), .val (.ref b10), .val (.ref b14), .val (.ref b18), .val (.int ((p1 &&& (2147483647 : Int32)) - ((p1 &&& (2147483647 : Int32)) / (3 : Int32)) * (3 : Int32))), .val (.int (((p1 &&& (2147483647 : Int32)) - ((p1 &&& (2147483647 : Int32)) / (3 : Int32)) * (3 : Int32)) + (1 : Int32))), .val (.ref b6), .val (.ref b10), .val (.ref b14)] [(.int (p5 + (4 : Int32))), (.int p3), (.int ((p1 &&& (2147483647 : Int32)) - ((p1 &&& (2147483647 : Int32)) / (3 : Int32)) * (3 : Int32))), (.int (1 : Int32)), (.ref b10)])) _
    refine st29 _ ?_
    show Steps p.tables e below (T29.setTop (mkF m 255 #[.val (.int p1), .val (.int p2), .val (.int p3), .val (.int p4), .val (.int p5), .val (.ref b6), .val (.ref b10), .val (.ref b14), .val (.ref b18), .val (.int ((p1 &&& (2147483647 : Int32)) - ((p1 &&& (2147483647 : Int32)) / (3 : Int32)) * (3 : Int32))), .val (.int (((p1 &&& (2147483647 : Int32)) - ((p1 &&& (2147483647 : Int32)) / (3 : Int32)) * (3 : Int32)) + (1 : Int32))), .val (.ref b6), .val (.ref b10), .val (.ref b14)] [(.int (own_f9 b10 (1 : Int32) ((p1 &&& (2147483647 : Int32)) - ((p1 &&& (2147483647 : Int32)) / (3 : Int32)) * (3 : Int32)) p3 (p5 + (4 : Int32)) (own_g (1 : Int32) ((p1 &&& (2147483647 : Int32)) - ((p1 &&& (2147483647 : Int32)) / (3 : Int32)) * (3 : Int32)) p3 (p5 + (4 : Int32))) (clB.setSlot (((p1 &&& (2147483647 : Int32)) - ((p1 &&& (2147483647 : Int32)) / (3 : Int32)) * (3 : Int32))).toNatClampNeg (.int p3))))])) _
    refine XS.ifNo X29.here hx rfl (hb hby at_255) rfl ((if0 _ _).trans (feq (own_nz _ _ _ _ _ _ : ¬ ((own_f9 b10 (1 : Int32) ((p1 &&& (2147483647 : Int32)) - ((p1 &&& (2147483647 : Int32)) / (3 : Int32)) * (3 : Int32)) p3 (p5 + (4 : Int32)) (own_g (1 : Int32) ((p1 &&& (2147483647 : Int32)) - ((p1 &&& (2147483647 : Int32)) / (3 : Int32)) * (3 : Int32)) p3 (p5 + (4 : Int32))) (clB.setSlot (((p1 &&& (2147483647 : Int32)) - ((p1 &&& (2147483647 : Int32)) / (3 : Int32)) * (3 : Int32))).toNatClampNeg (.int p3))) = (0 : Int32)))).1) ?_
    show Steps p.tables e below (T29.setTop (mkF m 258 #[.val (.int p1), .val (.int p2), .val (.int p3), .val (.int p4), .val (.int p5), .val (.ref b6), .val (.ref b10), .val (.ref b14), .val (.ref b18), .val (.int ((p1 &&& (2147483647 : Int32)) - ((p1 &&& (2147483647 : Int32)) / (3 : Int32)) * (3 : Int32))), .val (.int (((p1 &&& (2147483647 : Int32)) - ((p1 &&& (2147483647 : Int32)) / (3 : Int32)) * (3 : Int32)) + (1 : Int32))), .val (.ref b6), .val (.ref b10), .val (.ref b14)] [])) _
    refine XS.aload X29.here hx rfl (hb hby at_258) rfl rfl ?_
    show Steps p.tables e below (T29.setTop (mkF m 260 #[.val (.int p1), .val (.int p2), .val (.int p3), .val (.int p4), .val (.int p5), .val (.ref b6), .val (.ref b10), .val (.ref b14), .val (.ref b18), .val (.int ((p1 &&& (2147483647 : Int32)) - ((p1 &&& (2147483647 : Int32)) / (3 : Int32)) * (3 : Int32))), .val (.int (((p1 &&& (2147483647 : Int32)) - ((p1 &&& (2147483647 : Int32)) / (3 : Int32)) * (3 : Int32)) + (1 : Int32))), .val (.ref b6), .val (.ref b10), .val (.ref b14)] [(.ref b10)])) _
    refine XS.iconst X29.here hx rfl (hb hby at_260) ?_
    show Steps p.tables e below (T29.setTop (mkF m 261 #[.val (.int p1), .val (.int p2), .val (.int p3), .val (.int p4), .val (.int p5), .val (.ref b6), .val (.ref b10), .val (.ref b14), .val (.ref b18), .val (.int ((p1 &&& (2147483647 : Int32)) - ((p1 &&& (2147483647 : Int32)) / (3 : Int32)) * (3 : Int32))), .val (.int (((p1 &&& (2147483647 : Int32)) - ((p1 &&& (2147483647 : Int32)) / (3 : Int32)) * (3 : Int32)) + (1 : Int32))), .val (.ref b6), .val (.ref b10), .val (.ref b14)] [(.int (2 : Int32)), (.ref b10)])) _
    refine XS.iload X29.here hx rfl (hb hby at_261) rfl ?_
    show Steps p.tables e below (T29.setTop (mkF m 263 #[.val (.int p1), .val (.int p2), .val (.int p3), .val (.int p4), .val (.int p5), .val (.ref b6), .val (.ref b10), .val (.ref b14), .val (.ref b18), .val (.int ((p1 &&& (2147483647 : Int32)) - ((p1 &&& (2147483647 : Int32)) / (3 : Int32)) * (3 : Int32))), .val (.int (((p1 &&& (2147483647 : Int32)) - ((p1 &&& (2147483647 : Int32)) / (3 : Int32)) * (3 : Int32)) + (1 : Int32))), .val (.ref b6), .val (.ref b10), .val (.ref b14)] [(.int ((p1 &&& (2147483647 : Int32)) - ((p1 &&& (2147483647 : Int32)) / (3 : Int32)) * (3 : Int32))), (.int (2 : Int32)), (.ref b10)])) _
    refine XS.iloadN X29.here hx rfl (hb hby at_263) rfl ?_
    show Steps p.tables e below (T29.setTop (mkF m 264 #[.val (.int p1), .val (.int p2), .val (.int p3), .val (.int p4), .val (.int p5), .val (.ref b6), .val (.ref b10), .val (.ref b14), .val (.ref b18), .val (.int ((p1 &&& (2147483647 : Int32)) - ((p1 &&& (2147483647 : Int32)) / (3 : Int32)) * (3 : Int32))), .val (.int (((p1 &&& (2147483647 : Int32)) - ((p1 &&& (2147483647 : Int32)) / (3 : Int32)) * (3 : Int32)) + (1 : Int32))), .val (.ref b6), .val (.ref b10), .val (.ref b14)] [(.int p3), (.int ((p1 &&& (2147483647 : Int32)) - ((p1 &&& (2147483647 : Int32)) / (3 : Int32)) * (3 : Int32))), (.int (2 : Int32)), (.ref b10)])) _
    refine XS.iload X29.here hx rfl (hb hby at_264) rfl ?_
    show Steps p.tables e below (T29.setTop (mkF m 266 #[.val (.int p1), .val (.int p2), .val (.int p3), .val (.int p4), .val (.int p5), .val (.ref b6), .val (.ref b10), .val (.ref b14), .val (.ref b18), .val (.int ((p1 &&& (2147483647 : Int32)) - ((p1 &&& (2147483647 : Int32)) / (3 : Int32)) * (3 : Int32))), .val (.int (((p1 &&& (2147483647 : Int32)) - ((p1 &&& (2147483647 : Int32)) / (3 : Int32)) * (3 : Int32)) + (1 : Int32))), .val (.ref b6), .val (.ref b10), .val (.ref b14)] [(.int p5), (.int p3), (.int ((p1 &&& (2147483647 : Int32)) - ((p1 &&& (2147483647 : Int32)) / (3 : Int32)) * (3 : Int32))), (.int (2 : Int32)), (.ref b10)])) _
    refine XS.iconst X29.here hx rfl (hb hby at_266) ?_
    show Steps p.tables e below (T29.setTop (mkF m 267 #[.val (.int p1), .val (.int p2), .val (.int p3), .val (.int p4), .val (.int p5), .val (.ref b6), .val (.ref b10), .val (.ref b14), .val (.ref b18), .val (.int ((p1 &&& (2147483647 : Int32)) - ((p1 &&& (2147483647 : Int32)) / (3 : Int32)) * (3 : Int32))), .val (.int (((p1 &&& (2147483647 : Int32)) - ((p1 &&& (2147483647 : Int32)) / (3 : Int32)) * (3 : Int32)) + (1 : Int32))), .val (.ref b6), .val (.ref b10), .val (.ref b14)] [(.int (5 : Int32)), (.int p5), (.int p3), (.int ((p1 &&& (2147483647 : Int32)) - ((p1 &&& (2147483647 : Int32)) / (3 : Int32)) * (3 : Int32))), (.int (2 : Int32)), (.ref b10)])) _
    refine XS.iadd X29.here hx rfl (hb hby at_267) rfl ?_
    show Steps p.tables e below (T29.setTop (mkF m 268 #[.val (.int p1), .val (.int p2), .val (.int p3), .val (.int p4), .val (.int p5), .val (.ref b6), .val (.ref b10), .val (.ref b14), .val (.ref b18), .val (.int ((p1 &&& (2147483647 : Int32)) - ((p1 &&& (2147483647 : Int32)) / (3 : Int32)) * (3 : Int32))), .val (.int (((p1 &&& (2147483647 : Int32)) - ((p1 &&& (2147483647 : Int32)) / (3 : Int32)) * (3 : Int32)) + (1 : Int32))), .val (.ref b6), .val (.ref b10), .val (.ref b14)] [(.int (p5 + (5 : Int32))), (.int p3), (.int ((p1 &&& (2147483647 : Int32)) - ((p1 &&& (2147483647 : Int32)) / (3 : Int32)) * (3 : Int32))), (.int (2 : Int32)), (.ref b10)])) _
    refine st30 _ ?_
    show Steps p.tables e below (T30.setTop (mkF m 271 #[.val (.int p1), .val (.int p2), .val (.int p3), .val (.int p4), .val (.int p5), .val (.ref b6), .val (.ref b10), .val (.ref b14), .val (.ref b18), .val (.int ((p1 &&& (2147483647 : Int32)) - ((p1 &&& (2147483647 : Int32)) / (3 : Int32)) * (3 : Int32))), .val (.int (((p1 &&& (2147483647 : Int32)) - ((p1 &&& (2147483647 : Int32)) / (3 : Int32)) * (3 : Int32)) + (1 : Int32))), .val (.ref b6), .val (.ref b10), .val (.ref b14)] [(.int (own_f9 b10 (2 : Int32) ((p1 &&& (2147483647 : Int32)) - ((p1 &&& (2147483647 : Int32)) / (3 : Int32)) * (3 : Int32)) p3 (p5 + (5 : Int32)) (own_g (2 : Int32) ((p1 &&& (2147483647 : Int32)) - ((p1 &&& (2147483647 : Int32)) / (3 : Int32)) * (3 : Int32)) p3 (p5 + (5 : Int32))) (clB.setSlot (((p1 &&& (2147483647 : Int32)) - ((p1 &&& (2147483647 : Int32)) / (3 : Int32)) * (3 : Int32))).toNatClampNeg (.int p3))))])) _
    refine XS.ifNo X30.here hx rfl (hb hby at_271) rfl ((if0 _ _).trans (feq (own_nz _ _ _ _ _ _ : ¬ ((own_f9 b10 (2 : Int32) ((p1 &&& (2147483647 : Int32)) - ((p1 &&& (2147483647 : Int32)) / (3 : Int32)) * (3 : Int32)) p3 (p5 + (5 : Int32)) (own_g (2 : Int32) ((p1 &&& (2147483647 : Int32)) - ((p1 &&& (2147483647 : Int32)) / (3 : Int32)) * (3 : Int32)) p3 (p5 + (5 : Int32))) (clB.setSlot (((p1 &&& (2147483647 : Int32)) - ((p1 &&& (2147483647 : Int32)) / (3 : Int32)) * (3 : Int32))).toNatClampNeg (.int p3))) = (0 : Int32)))).1) ?_
    show Steps p.tables e below (T30.setTop (mkF m 274 #[.val (.int p1), .val (.int p2), .val (.int p3), .val (.int p4), .val (.int p5), .val (.ref b6), .val (.ref b10), .val (.ref b14), .val (.ref b18), .val (.int ((p1 &&& (2147483647 : Int32)) - ((p1 &&& (2147483647 : Int32)) / (3 : Int32)) * (3 : Int32))), .val (.int (((p1 &&& (2147483647 : Int32)) - ((p1 &&& (2147483647 : Int32)) / (3 : Int32)) * (3 : Int32)) + (1 : Int32))), .val (.ref b6), .val (.ref b10), .val (.ref b14)] [])) _
    refine XS.aload X30.here hx rfl (hb hby at_274) rfl rfl ?_
    show Steps p.tables e below (T30.setTop (mkF m 276 #[.val (.int p1), .val (.int p2), .val (.int p3), .val (.int p4), .val (.int p5), .val (.ref b6), .val (.ref b10), .val (.ref b14), .val (.ref b18), .val (.int ((p1 &&& (2147483647 : Int32)) - ((p1 &&& (2147483647 : Int32)) / (3 : Int32)) * (3 : Int32))), .val (.int (((p1 &&& (2147483647 : Int32)) - ((p1 &&& (2147483647 : Int32)) / (3 : Int32)) * (3 : Int32)) + (1 : Int32))), .val (.ref b6), .val (.ref b10), .val (.ref b14)] [(.ref b14)])) _
    refine XS.iconst X30.here hx rfl (hb hby at_276) ?_
    show Steps p.tables e below (T30.setTop (mkF m 277 #[.val (.int p1), .val (.int p2), .val (.int p3), .val (.int p4), .val (.int p5), .val (.ref b6), .val (.ref b10), .val (.ref b14), .val (.ref b18), .val (.int ((p1 &&& (2147483647 : Int32)) - ((p1 &&& (2147483647 : Int32)) / (3 : Int32)) * (3 : Int32))), .val (.int (((p1 &&& (2147483647 : Int32)) - ((p1 &&& (2147483647 : Int32)) / (3 : Int32)) * (3 : Int32)) + (1 : Int32))), .val (.ref b6), .val (.ref b10), .val (.ref b14)] [(.int (0 : Int32)), (.ref b14)])) _
    refine XS.iload X30.here hx rfl (hb hby at_277) rfl ?_
    show Steps p.tables e below (T30.setTop (mkF m 279 #[.val (.int p1), .val (.int p2), .val (.int p3), .val (.int p4), .val (.int p5), .val (.ref b6), .val (.ref b10), .val (.ref b14), .val (.ref b18), .val (.int ((p1 &&& (2147483647 : Int32)) - ((p1 &&& (2147483647 : Int32)) / (3 : Int32)) * (3 : Int32))), .val (.int (((p1 &&& (2147483647 : Int32)) - ((p1 &&& (2147483647 : Int32)) / (3 : Int32)) * (3 : Int32)) + (1 : Int32))), .val (.ref b6), .val (.ref b10), .val (.ref b14)] [(.int ((p1 &&& (2147483647 : Int32)) - ((p1 &&& (2147483647 : Int32)) / (3 : Int32)) * (3 : Int32))), (.int (0 : Int32)), (.ref b14)])) _
    refine XS.iloadN X30.here hx rfl (hb hby at_279) rfl ?_
    show Steps p.tables e below (T30.setTop (mkF m 280 #[.val (.int p1), .val (.int p2), .val (.int p3), .val (.int p4), .val (.int p5), .val (.ref b6), .val (.ref b10), .val (.ref b14), .val (.ref b18), .val (.int ((p1 &&& (2147483647 : Int32)) - ((p1 &&& (2147483647 : Int32)) / (3 : Int32)) * (3 : Int32))), .val (.int (((p1 &&& (2147483647 : Int32)) - ((p1 &&& (2147483647 : Int32)) / (3 : Int32)) * (3 : Int32)) + (1 : Int32))), .val (.ref b6), .val (.ref b10), .val (.ref b14)] [(.int p4), (.int ((p1 &&& (2147483647 : Int32)) - ((p1 &&& (2147483647 : Int32)) / (3 : Int32)) * (3 : Int32))), (.int (0 : Int32)), (.ref b14)])) _
    refine XS.iload X30.here hx rfl (hb hby at_280) rfl ?_
    show Steps p.tables e below (T30.setTop (mkF m 282 #[.val (.int p1), .val (.int p2), .val (.int p3), .val (.int p4), .val (.int p5), .val (.ref b6), .val (.ref b10), .val (.ref b14), .val (.ref b18), .val (.int ((p1 &&& (2147483647 : Int32)) - ((p1 &&& (2147483647 : Int32)) / (3 : Int32)) * (3 : Int32))), .val (.int (((p1 &&& (2147483647 : Int32)) - ((p1 &&& (2147483647 : Int32)) / (3 : Int32)) * (3 : Int32)) + (1 : Int32))), .val (.ref b6), .val (.ref b10), .val (.ref b14)] [(.int p5), (.int p4), (.int ((p1 &&& (2147483647 : Int32)) - ((p1 &&& (2147483647 : Int32)) / (3 : Int32)) * (3 : Int32))), (.int (0 : Int32)), (.ref b14)])) _
    refine XS.bipush X30.here hx rfl (hb hby at_282) ?_
    show Steps p.tables e below (T30.setTop (mkF m 284 #[.val (.int p1), .val (.int p2), .val (.int p3), .val (.int p4), .val (.int p5), .val (.ref b6), .val (.ref b10), .val (.ref b14), .val (.ref b18), .val (.int ((p1 &&& (2147483647 : Int32)) - ((p1 &&& (2147483647 : Int32)) / (3 : Int32)) * (3 : Int32))), .val (.int (((p1 &&& (2147483647 : Int32)) - ((p1 &&& (2147483647 : Int32)) / (3 : Int32)) * (3 : Int32)) + (1 : Int32))), .val (.ref b6), .val (.ref b10), .val (.ref b14)] [(.int (6 : Int32)), (.int p5), (.int p4), (.int ((p1 &&& (2147483647 : Int32)) - ((p1 &&& (2147483647 : Int32)) / (3 : Int32)) * (3 : Int32))), (.int (0 : Int32)), (.ref b14)])) _
    refine XS.iadd X30.here hx rfl (hb hby at_284) rfl ?_
    show Steps p.tables e below (T30.setTop (mkF m 285 #[.val (.int p1), .val (.int p2), .val (.int p3), .val (.int p4), .val (.int p5), .val (.ref b6), .val (.ref b10), .val (.ref b14), .val (.ref b18), .val (.int ((p1 &&& (2147483647 : Int32)) - ((p1 &&& (2147483647 : Int32)) / (3 : Int32)) * (3 : Int32))), .val (.int (((p1 &&& (2147483647 : Int32)) - ((p1 &&& (2147483647 : Int32)) / (3 : Int32)) * (3 : Int32)) + (1 : Int32))), .val (.ref b6), .val (.ref b10), .val (.ref b14)] [(.int (p5 + (6 : Int32))), (.int p4), (.int ((p1 &&& (2147483647 : Int32)) - ((p1 &&& (2147483647 : Int32)) / (3 : Int32)) * (3 : Int32))), (.int (0 : Int32)), (.ref b14)])) _
    refine st31 _ ?_
    show Steps p.tables e below (T31.setTop (mkF m 288 #[.val (.int p1), .val (.int p2), .val (.int p3), .val (.int p4), .val (.int p5), .val (.ref b6), .val (.ref b10), .val (.ref b14), .val (.ref b18), .val (.int ((p1 &&& (2147483647 : Int32)) - ((p1 &&& (2147483647 : Int32)) / (3 : Int32)) * (3 : Int32))), .val (.int (((p1 &&& (2147483647 : Int32)) - ((p1 &&& (2147483647 : Int32)) / (3 : Int32)) * (3 : Int32)) + (1 : Int32))), .val (.ref b6), .val (.ref b10), .val (.ref b14)] [(.int (own_f9 b14 (0 : Int32) ((p1 &&& (2147483647 : Int32)) - ((p1 &&& (2147483647 : Int32)) / (3 : Int32)) * (3 : Int32)) p4 (p5 + (6 : Int32)) (own_g (0 : Int32) ((p1 &&& (2147483647 : Int32)) - ((p1 &&& (2147483647 : Int32)) / (3 : Int32)) * (3 : Int32)) p4 (p5 + (6 : Int32))) (clC.setSlot (((p1 &&& (2147483647 : Int32)) - ((p1 &&& (2147483647 : Int32)) / (3 : Int32)) * (3 : Int32))).toNatClampNeg (.int p4))))])) _
    refine XS.ifNo X31.here hx rfl (hb hby at_288) rfl ((if0 _ _).trans (feq (own_nz _ _ _ _ _ _ : ¬ ((own_f9 b14 (0 : Int32) ((p1 &&& (2147483647 : Int32)) - ((p1 &&& (2147483647 : Int32)) / (3 : Int32)) * (3 : Int32)) p4 (p5 + (6 : Int32)) (own_g (0 : Int32) ((p1 &&& (2147483647 : Int32)) - ((p1 &&& (2147483647 : Int32)) / (3 : Int32)) * (3 : Int32)) p4 (p5 + (6 : Int32))) (clC.setSlot (((p1 &&& (2147483647 : Int32)) - ((p1 &&& (2147483647 : Int32)) / (3 : Int32)) * (3 : Int32))).toNatClampNeg (.int p4))) = (0 : Int32)))).1) ?_
    show Steps p.tables e below (T31.setTop (mkF m 291 #[.val (.int p1), .val (.int p2), .val (.int p3), .val (.int p4), .val (.int p5), .val (.ref b6), .val (.ref b10), .val (.ref b14), .val (.ref b18), .val (.int ((p1 &&& (2147483647 : Int32)) - ((p1 &&& (2147483647 : Int32)) / (3 : Int32)) * (3 : Int32))), .val (.int (((p1 &&& (2147483647 : Int32)) - ((p1 &&& (2147483647 : Int32)) / (3 : Int32)) * (3 : Int32)) + (1 : Int32))), .val (.ref b6), .val (.ref b10), .val (.ref b14)] [])) _
    refine XS.aload X31.here hx rfl (hb hby at_291) rfl rfl ?_
    show Steps p.tables e below (T31.setTop (mkF m 293 #[.val (.int p1), .val (.int p2), .val (.int p3), .val (.int p4), .val (.int p5), .val (.ref b6), .val (.ref b10), .val (.ref b14), .val (.ref b18), .val (.int ((p1 &&& (2147483647 : Int32)) - ((p1 &&& (2147483647 : Int32)) / (3 : Int32)) * (3 : Int32))), .val (.int (((p1 &&& (2147483647 : Int32)) - ((p1 &&& (2147483647 : Int32)) / (3 : Int32)) * (3 : Int32)) + (1 : Int32))), .val (.ref b6), .val (.ref b10), .val (.ref b14)] [(.ref b14)])) _
    refine XS.iconst X31.here hx rfl (hb hby at_293) ?_
    show Steps p.tables e below (T31.setTop (mkF m 294 #[.val (.int p1), .val (.int p2), .val (.int p3), .val (.int p4), .val (.int p5), .val (.ref b6), .val (.ref b10), .val (.ref b14), .val (.ref b18), .val (.int ((p1 &&& (2147483647 : Int32)) - ((p1 &&& (2147483647 : Int32)) / (3 : Int32)) * (3 : Int32))), .val (.int (((p1 &&& (2147483647 : Int32)) - ((p1 &&& (2147483647 : Int32)) / (3 : Int32)) * (3 : Int32)) + (1 : Int32))), .val (.ref b6), .val (.ref b10), .val (.ref b14)] [(.int (1 : Int32)), (.ref b14)])) _
    refine XS.iload X31.here hx rfl (hb hby at_294) rfl ?_
    show Steps p.tables e below (T31.setTop (mkF m 296 #[.val (.int p1), .val (.int p2), .val (.int p3), .val (.int p4), .val (.int p5), .val (.ref b6), .val (.ref b10), .val (.ref b14), .val (.ref b18), .val (.int ((p1 &&& (2147483647 : Int32)) - ((p1 &&& (2147483647 : Int32)) / (3 : Int32)) * (3 : Int32))), .val (.int (((p1 &&& (2147483647 : Int32)) - ((p1 &&& (2147483647 : Int32)) / (3 : Int32)) * (3 : Int32)) + (1 : Int32))), .val (.ref b6), .val (.ref b10), .val (.ref b14)] [(.int ((p1 &&& (2147483647 : Int32)) - ((p1 &&& (2147483647 : Int32)) / (3 : Int32)) * (3 : Int32))), (.int (1 : Int32)), (.ref b14)])) _
    refine XS.iloadN X31.here hx rfl (hb hby at_296) rfl ?_
    show Steps p.tables e below (T31.setTop (mkF m 297 #[.val (.int p1), .val (.int p2), .val (.int p3), .val (.int p4), .val (.int p5), .val (.ref b6), .val (.ref b10), .val (.ref b14), .val (.ref b18), .val (.int ((p1 &&& (2147483647 : Int32)) - ((p1 &&& (2147483647 : Int32)) / (3 : Int32)) * (3 : Int32))), .val (.int (((p1 &&& (2147483647 : Int32)) - ((p1 &&& (2147483647 : Int32)) / (3 : Int32)) * (3 : Int32)) + (1 : Int32))), .val (.ref b6), .val (.ref b10), .val (.ref b14)] [(.int p4), (.int ((p1 &&& (2147483647 : Int32)) - ((p1 &&& (2147483647 : Int32)) / (3 : Int32)) * (3 : Int32))), (.int (1 : Int32)), (.ref b14)])) _
    refine XS.iload X31.here hx rfl (hb hby at_297) rfl ?_
    show Steps p.tables e below (T31.setTop (mkF m 299 #[.val (.int p1), .val (.int p2), .val (.int p3), .val (.int p4), .val (.int p5), .val (.ref b6), .val (.ref b10), .val (.ref b14), .val (.ref b18), .val (.int ((p1 &&& (2147483647 : Int32)) - ((p1 &&& (2147483647 : Int32)) / (3 : Int32)) * (3 : Int32))), .val (.int (((p1 &&& (2147483647 : Int32)) - ((p1 &&& (2147483647 : Int32)) / (3 : Int32)) * (3 : Int32)) + (1 : Int32))), .val (.ref b6), .val (.ref b10), .val (.ref b14)] [(.int p5), (.int p4), (.int ((p1 &&& (2147483647 : Int32)) - ((p1 &&& (2147483647 : Int32)) / (3 : Int32)) * (3 : Int32))), (.int (1 : Int32)), (.ref b14)])) _
    refine XS.bipush X31.here hx rfl (hb hby at_299) ?_
    show Steps p.tables e below (T31.setTop (mkF m 301 #[.val (.int p1), .val (.int p2), .val (.int p3), .val (.int p4), .val (.int p5), .val (.ref b6), .val (.ref b10), .val (.ref b14), .val (.ref b18), .val (.int ((p1 &&& (2147483647 : Int32)) - ((p1 &&& (2147483647 : Int32)) / (3 : Int32)) * (3 : Int32))), .val (.int (((p1 &&& (2147483647 : Int32)) - ((p1 &&& (2147483647 : Int32)) / (3 : Int32)) * (3 : Int32)) + (1 : Int32))), .val (.ref b6), .val (.ref b10), .val (.ref b14)] [(.int (7 : Int32)), (.int p5), (.int p4), (.int ((p1 &&& (2147483647 : Int32)) - ((p1 &&& (2147483647 : Int32)) / (3 : Int32)) * (3 : Int32))), (.int (1 : Int32)), (.ref b14)])) _
    refine XS.iadd X31.here hx rfl (hb hby at_301) rfl ?_
    show Steps p.tables e below (T31.setTop (mkF m 302 #[.val (.int p1), .val (.int p2), .val (.int p3), .val (.int p4), .val (.int p5), .val (.ref b6), .val (.ref b10), .val (.ref b14), .val (.ref b18), .val (.int ((p1 &&& (2147483647 : Int32)) - ((p1 &&& (2147483647 : Int32)) / (3 : Int32)) * (3 : Int32))), .val (.int (((p1 &&& (2147483647 : Int32)) - ((p1 &&& (2147483647 : Int32)) / (3 : Int32)) * (3 : Int32)) + (1 : Int32))), .val (.ref b6), .val (.ref b10), .val (.ref b14)] [(.int (p5 + (7 : Int32))), (.int p4), (.int ((p1 &&& (2147483647 : Int32)) - ((p1 &&& (2147483647 : Int32)) / (3 : Int32)) * (3 : Int32))), (.int (1 : Int32)), (.ref b14)])) _
    refine st32 _ ?_
    show Steps p.tables e below (T32.setTop (mkF m 305 #[.val (.int p1), .val (.int p2), .val (.int p3), .val (.int p4), .val (.int p5), .val (.ref b6), .val (.ref b10), .val (.ref b14), .val (.ref b18), .val (.int ((p1 &&& (2147483647 : Int32)) - ((p1 &&& (2147483647 : Int32)) / (3 : Int32)) * (3 : Int32))), .val (.int (((p1 &&& (2147483647 : Int32)) - ((p1 &&& (2147483647 : Int32)) / (3 : Int32)) * (3 : Int32)) + (1 : Int32))), .val (.ref b6), .val (.ref b10), .val (.ref b14)] [(.int (own_f9 b14 (1 : Int32) ((p1 &&& (2147483647 : Int32)) - ((p1 &&& (2147483647 : Int32)) / (3 : Int32)) * (3 : Int32)) p4 (p5 + (7 : Int32)) (own_g (1 : Int32) ((p1 &&& (2147483647 : Int32)) - ((p1 &&& (2147483647 : Int32)) / (3 : Int32)) * (3 : Int32)) p4 (p5 + (7 : Int32))) (clC.setSlot (((p1 &&& (2147483647 : Int32)) - ((p1 &&& (2147483647 : Int32)) / (3 : Int32)) * (3 : Int32))).toNatClampNeg (.int p4))))])) _
    refine XS.ifNo X32.here hx rfl (hb hby at_305) rfl ((if0 _ _).trans (feq (own_nz _ _ _ _ _ _ : ¬ ((own_f9 b14 (1 : Int32) ((p1 &&& (2147483647 : Int32)) - ((p1 &&& (2147483647 : Int32)) / (3 : Int32)) * (3 : Int32)) p4 (p5 + (7 : Int32)) (own_g (1 : Int32) ((p1 &&& (2147483647 : Int32)) - ((p1 &&& (2147483647 : Int32)) / (3 : Int32)) * (3 : Int32)) p4 (p5 + (7 : Int32))) (clC.setSlot (((p1 &&& (2147483647 : Int32)) - ((p1 &&& (2147483647 : Int32)) / (3 : Int32)) * (3 : Int32))).toNatClampNeg (.int p4))) = (0 : Int32)))).1) ?_
    show Steps p.tables e below (T32.setTop (mkF m 308 #[.val (.int p1), .val (.int p2), .val (.int p3), .val (.int p4), .val (.int p5), .val (.ref b6), .val (.ref b10), .val (.ref b14), .val (.ref b18), .val (.int ((p1 &&& (2147483647 : Int32)) - ((p1 &&& (2147483647 : Int32)) / (3 : Int32)) * (3 : Int32))), .val (.int (((p1 &&& (2147483647 : Int32)) - ((p1 &&& (2147483647 : Int32)) / (3 : Int32)) * (3 : Int32)) + (1 : Int32))), .val (.ref b6), .val (.ref b10), .val (.ref b14)] [])) _
    refine XS.aload X32.here hx rfl (hb hby at_308) rfl rfl ?_
    show Steps p.tables e below (T32.setTop (mkF m 310 #[.val (.int p1), .val (.int p2), .val (.int p3), .val (.int p4), .val (.int p5), .val (.ref b6), .val (.ref b10), .val (.ref b14), .val (.ref b18), .val (.int ((p1 &&& (2147483647 : Int32)) - ((p1 &&& (2147483647 : Int32)) / (3 : Int32)) * (3 : Int32))), .val (.int (((p1 &&& (2147483647 : Int32)) - ((p1 &&& (2147483647 : Int32)) / (3 : Int32)) * (3 : Int32)) + (1 : Int32))), .val (.ref b6), .val (.ref b10), .val (.ref b14)] [(.ref b14)])) _
    refine XS.iconst X32.here hx rfl (hb hby at_310) ?_
    show Steps p.tables e below (T32.setTop (mkF m 311 #[.val (.int p1), .val (.int p2), .val (.int p3), .val (.int p4), .val (.int p5), .val (.ref b6), .val (.ref b10), .val (.ref b14), .val (.ref b18), .val (.int ((p1 &&& (2147483647 : Int32)) - ((p1 &&& (2147483647 : Int32)) / (3 : Int32)) * (3 : Int32))), .val (.int (((p1 &&& (2147483647 : Int32)) - ((p1 &&& (2147483647 : Int32)) / (3 : Int32)) * (3 : Int32)) + (1 : Int32))), .val (.ref b6), .val (.ref b10), .val (.ref b14)] [(.int (2 : Int32)), (.ref b14)])) _
    refine XS.iload X32.here hx rfl (hb hby at_311) rfl ?_
    show Steps p.tables e below (T32.setTop (mkF m 313 #[.val (.int p1), .val (.int p2), .val (.int p3), .val (.int p4), .val (.int p5), .val (.ref b6), .val (.ref b10), .val (.ref b14), .val (.ref b18), .val (.int ((p1 &&& (2147483647 : Int32)) - ((p1 &&& (2147483647 : Int32)) / (3 : Int32)) * (3 : Int32))), .val (.int (((p1 &&& (2147483647 : Int32)) - ((p1 &&& (2147483647 : Int32)) / (3 : Int32)) * (3 : Int32)) + (1 : Int32))), .val (.ref b6), .val (.ref b10), .val (.ref b14)] [(.int ((p1 &&& (2147483647 : Int32)) - ((p1 &&& (2147483647 : Int32)) / (3 : Int32)) * (3 : Int32))), (.int (2 : Int32)), (.ref b14)])) _
    refine XS.iloadN X32.here hx rfl (hb hby at_313) rfl ?_
    show Steps p.tables e below (T32.setTop (mkF m 314 #[.val (.int p1), .val (.int p2), .val (.int p3), .val (.int p4), .val (.int p5), .val (.ref b6), .val (.ref b10), .val (.ref b14), .val (.ref b18), .val (.int ((p1 &&& (2147483647 : Int32)) - ((p1 &&& (2147483647 : Int32)) / (3 : Int32)) * (3 : Int32))), .val (.int (((p1 &&& (2147483647 : Int32)) - ((p1 &&& (2147483647 : Int32)) / (3 : Int32)) * (3 : Int32)) + (1 : Int32))), .val (.ref b6), .val (.ref b10), .val (.ref b14)] [(.int p4), (.int ((p1 &&& (2147483647 : Int32)) - ((p1 &&& (2147483647 : Int32)) / (3 : Int32)) * (3 : Int32))), (.int (2 : Int32)), (.ref b14)])) _
    refine XS.iload X32.here hx rfl (hb hby at_314) rfl ?_
    show Steps p.tables e below (T32.setTop (mkF m 316 #[.val (.int p1), .val (.int p2), .val (.int p3), .val (.int p4), .val (.int p5), .val (.ref b6), .val (.ref b10), .val (.ref b14), .val (.ref b18), .val (.int ((p1 &&& (2147483647 : Int32)) - ((p1 &&& (2147483647 : Int32)) / (3 : Int32)) * (3 : Int32))), .val (.int (((p1 &&& (2147483647 : Int32)) - ((p1 &&& (2147483647 : Int32)) / (3 : Int32)) * (3 : Int32)) + (1 : Int32))), .val (.ref b6), .val (.ref b10), .val (.ref b14)] [(.int p5), (.int p4), (.int ((p1 &&& (2147483647 : Int32)) - ((p1 &&& (2147483647 : Int32)) / (3 : Int32)) * (3 : Int32))), (.int (2 : Int32)), (.ref b14)])) _
    refine XS.bipush X32.here hx rfl (hb hby at_316) ?_
    show Steps p.tables e below (T32.setTop (mkF m 318 #[.val (.int p1), .val (.int p2), .val (.int p3), .val (.int p4), .val (.int p5), .val (.ref b6), .val (.ref b10), .val (.ref b14), .val (.ref b18), .val (.int ((p1 &&& (2147483647 : Int32)) - ((p1 &&& (2147483647 : Int32)) / (3 : Int32)) * (3 : Int32))), .val (.int (((p1 &&& (2147483647 : Int32)) - ((p1 &&& (2147483647 : Int32)) / (3 : Int32)) * (3 : Int32)) + (1 : Int32))), .val (.ref b6), .val (.ref b10), .val (.ref b14)] [(.int (8 : Int32)), (.int p5), (.int p4), (.int ((p1 &&& (2147483647 : Int32)) - ((p1 &&& (2147483647 : Int32)) / (3 : Int32)) * (3 : Int32))), (.int (2 : Int32)), (.ref b14)])) _
    refine XS.iadd X32.here hx rfl (hb hby at_318) rfl ?_
    show Steps p.tables e below (T32.setTop (mkF m 319 #[.val (.int p1), .val (.int p2), .val (.int p3), .val (.int p4), .val (.int p5), .val (.ref b6), .val (.ref b10), .val (.ref b14), .val (.ref b18), .val (.int ((p1 &&& (2147483647 : Int32)) - ((p1 &&& (2147483647 : Int32)) / (3 : Int32)) * (3 : Int32))), .val (.int (((p1 &&& (2147483647 : Int32)) - ((p1 &&& (2147483647 : Int32)) / (3 : Int32)) * (3 : Int32)) + (1 : Int32))), .val (.ref b6), .val (.ref b10), .val (.ref b14)] [(.int (p5 + (8 : Int32))), (.int p4), (.int ((p1 &&& (2147483647 : Int32)) - ((p1 &&& (2147483647 : Int32)) / (3 : Int32)) * (3 : Int32))), (.int (2 : Int32)), (.ref b14)])) _
    refine st33 _ ?_
    show Steps p.tables e below (T33.setTop (mkF m 322 #[.val (.int p1), .val (.int p2), .val (.int p3), .val (.int p4), .val (.int p5), .val (.ref b6), .val (.ref b10), .val (.ref b14), .val (.ref b18), .val (.int ((p1 &&& (2147483647 : Int32)) - ((p1 &&& (2147483647 : Int32)) / (3 : Int32)) * (3 : Int32))), .val (.int (((p1 &&& (2147483647 : Int32)) - ((p1 &&& (2147483647 : Int32)) / (3 : Int32)) * (3 : Int32)) + (1 : Int32))), .val (.ref b6), .val (.ref b10), .val (.ref b14)] [(.int (own_f9 b14 (2 : Int32) ((p1 &&& (2147483647 : Int32)) - ((p1 &&& (2147483647 : Int32)) / (3 : Int32)) * (3 : Int32)) p4 (p5 + (8 : Int32)) (own_g (2 : Int32) ((p1 &&& (2147483647 : Int32)) - ((p1 &&& (2147483647 : Int32)) / (3 : Int32)) * (3 : Int32)) p4 (p5 + (8 : Int32))) (clC.setSlot (((p1 &&& (2147483647 : Int32)) - ((p1 &&& (2147483647 : Int32)) / (3 : Int32)) * (3 : Int32))).toNatClampNeg (.int p4))))])) _
    refine XS.ifNo X33.here hx rfl (hb hby at_322) rfl ((if0 _ _).trans (feq (own_nz _ _ _ _ _ _ : ¬ ((own_f9 b14 (2 : Int32) ((p1 &&& (2147483647 : Int32)) - ((p1 &&& (2147483647 : Int32)) / (3 : Int32)) * (3 : Int32)) p4 (p5 + (8 : Int32)) (own_g (2 : Int32) ((p1 &&& (2147483647 : Int32)) - ((p1 &&& (2147483647 : Int32)) / (3 : Int32)) * (3 : Int32)) p4 (p5 + (8 : Int32))) (clC.setSlot (((p1 &&& (2147483647 : Int32)) - ((p1 &&& (2147483647 : Int32)) / (3 : Int32)) * (3 : Int32))).toNatClampNeg (.int p4))) = (0 : Int32)))).1) ?_
    show Steps p.tables e below (T33.setTop (mkF m 325 #[.val (.int p1), .val (.int p2), .val (.int p3), .val (.int p4), .val (.int p5), .val (.ref b6), .val (.ref b10), .val (.ref b14), .val (.ref b18), .val (.int ((p1 &&& (2147483647 : Int32)) - ((p1 &&& (2147483647 : Int32)) / (3 : Int32)) * (3 : Int32))), .val (.int (((p1 &&& (2147483647 : Int32)) - ((p1 &&& (2147483647 : Int32)) / (3 : Int32)) * (3 : Int32)) + (1 : Int32))), .val (.ref b6), .val (.ref b10), .val (.ref b14)] [])) _
    refine XS.iconst X33.here hx rfl (hb hby at_325) ?_
    show Steps p.tables e below (T33.setTop (mkF m 326 #[.val (.int p1), .val (.int p2), .val (.int p3), .val (.int p4), .val (.int p5), .val (.ref b6), .val (.ref b10), .val (.ref b14), .val (.ref b18), .val (.int ((p1 &&& (2147483647 : Int32)) - ((p1 &&& (2147483647 : Int32)) / (3 : Int32)) * (3 : Int32))), .val (.int (((p1 &&& (2147483647 : Int32)) - ((p1 &&& (2147483647 : Int32)) / (3 : Int32)) * (3 : Int32)) + (1 : Int32))), .val (.ref b6), .val (.ref b10), .val (.ref b14)] [(.int (1 : Int32))])) _
    refine XS.goto X33.here hx rfl (pc0 := 326) (pc' := 330) rfl (hb hby at_326) (by decide) (by decide) ?_
    show Steps p.tables e below (T33.setTop (mkF m 330 #[.val (.int p1), .val (.int p2), .val (.int p3), .val (.int p4), .val (.int p5), .val (.ref b6), .val (.ref b10), .val (.ref b14), .val (.ref b18), .val (.int ((p1 &&& (2147483647 : Int32)) - ((p1 &&& (2147483647 : Int32)) / (3 : Int32)) * (3 : Int32))), .val (.int (((p1 &&& (2147483647 : Int32)) - ((p1 &&& (2147483647 : Int32)) / (3 : Int32)) * (3 : Int32)) + (1 : Int32))), .val (.ref b6), .val (.ref b10), .val (.ref b14)] [(.int (1 : Int32))])) _
    exact retN X33 hx (t := .boolean) Bd.returns (by simp) (hb hby at_330) hr
  · show Q0 Z p1 p2 p3 p4 p5 h0 n0 _ T33.heap _
    rw [e33q]
    exact ⟨rfl, N33⟩
set_option maxRecDepth 65536 in
theorem rm0 (l : Launch) (Z : State) (a0 : Array Value) (hw : ∀ d ∈ tables_1, d.before a0 Z = true) (ws : List Jvm.Cond) (p1 : Int32) (p2 : Int32) (p3 : Int32) (p4 : Int32) (p5 : Int32) (h0 : Heap) (n0 : Nat) (Z0 : n0 ≤ h0.size) :
    MetFree l x (head1 (Jvm.Cond.code x code maxLocals ret :: ws) room_1) (fun a U => a = #[(.int p1), (.int p2), (.int p3), (.int p4), (.int p5)] ∧ Z.Warmed39 U.vm ∧ U.heap = h0) (fun _ _ _ _ _ => True) (fun _ U o U' => ∃ v L, o = .returned v ∧ Q0 Z p1 p2 p3 p4 p5 h0 n0 v U'.heap L ∧ FrameEnd U o U' L room_1.cells room_1.slots) := by
  exact rm0_ttfftfffffffff l Z a0 hw ws p1 p2 p3 p4 p5 h0 n0 Z0
set_option maxRecDepth 65536 in
set_option maxHeartbeats 40000000 in
theorem comes_1 {Post : Tables → Env → Array Value → State → Outcome → State → Prop} (hpost : ∀ tb e args s v u, (limb_1_1.after args s (.returned v) u = true ∧ limb_1_2.after args s (.returned v) u = true ∧ True) → FrameEnd s (.returned v) u (Jvm.fieldLocs frame_1_writes args s ++ Jvm.arrayLocs frame_1_arrays args s ++ Jvm.staticLocs frame_1_statics s) 16 128 → Post tb e args s (.returned v) u) :
    ArmFor flags0 classFile x code maxLocals ret World_1 tables_1 room_1 Calls_1 rest_1 Pre_1 Post := by
  intro l hfl _ _ p e ha hc hk s m args below hf hA hF happ hP
  obtain ⟨hcalls, hrest, hpre⟩ := hP
  obtain ⟨-, -, -, hnamed, -, -, -, hat⟩ := (Spec.applies_iff hf).mp happ
  obtain ⟨hg, hn⟩ := and_e (Cond.before_iff.mp (show (Jvm.Cond.and given_1 narrow_1).before args s = true from hpre))
  obtain ⟨g34, g35⟩ := and_e hg
  obtain ⟨g36, g37⟩ := and_e g35
  obtain ⟨g38, g39⟩ := and_e g37
  obtain ⟨g40, g41⟩ := and_e g39
  obtain ⟨g42, g43⟩ := and_e g41
  obtain ⟨w0, w1, w2, w3, w4, rfl⟩ : ∃ w0 w1 w2 w3 w4 : Value, args = #[w0, w1, w2, w3, w4] := by
    have hs : args.size = 5 := by simpa [Cond.value, given_1] using g34
    obtain ⟨L⟩ := args
    match L, hs with
    | [w0, w1, w2, w3, w4], _ => exact ⟨w0, w1, w2, w3, w4, rfl⟩
  have hw := fun d (hd : d ∈ tables_1) => atoms_spec (ws := Jvm.Cond.code x code maxLocals ret :: tables_1) hat d (List.mem_cons_of_mem _ hd)
  have hfit : Fit s := fun {y c} hc i hi => by
    obtain ⟨ha, rfl⟩ := Array.getElem?_eq_some_iff.mp hc
    have q := List.all_eq_true.mp ((Array.all_eq_true_iff_forall_mem.mp hF) _ (Array.getElem_mem ha)) i (List.mem_range.mpr hi)
    simpa [Array.getElem?_eq_getElem hi] using q
  obtain ⟨i0, ei0⟩ := is_v g36
  obtain rfl : w0 = (.int i0) := Option.some.inj ei0
  obtain ⟨i1, ei1⟩ := is_v g38
  obtain rfl : w1 = (.int i1) := Option.some.inj ei1
  obtain ⟨i2, ei2⟩ := is_v g40
  obtain rfl : w2 = (.int i2) := Option.some.inj ei2
  obtain ⟨i3, ei3⟩ := is_v g42
  obtain rfl : w3 = (.int i3) := Option.some.inj ei3
  obtain ⟨i4, ei4⟩ := is_v g43
  obtain rfl : w4 = (.int i4) := Option.some.inj ei4
  obtain ⟨n, o, h1, h2, h3, _, L, rfl, ⟨rfl, N⟩, hq⟩ := rm0 l s _ hw tables_1 i0 i1 i2 i3 i4 s.heap s.heap.size (Nat.le_refl _) p e ha hc hk s m _ below hf ((Spec.applies_iff_loose hf).mp happ).1 ⟨rfl, State.Warmed39.refl s, rfl⟩ trivial
  refine ⟨n, _, h1, h2, h3, hpost _ _ _ _ _ _ ⟨Cond.after_iff.mpr rfl, Cond.after_iff.mpr (eq_i res_at (Term.int_eval (1)) rfl), trivial⟩ ⟨hq.1, hq.2.1, (hq.2.2.sift fun y hy => Or.inr (N y hy)).mono (by decide) (by decide)⟩⟩
theorem main_1_1 : Claimed_1_1 := comes_1 fun _ _ _ _ _ _ h hF => ⟨h.1, hF⟩
theorem main_1_2 : Claimed_1_2 := comes_1 fun _ _ _ _ _ _ h hF => ⟨h.2.1, hF⟩
end Jvm.Pilot.@@N@@
namespace Jvm.Pilot.@@N@@
open Jvm Jvm.ClassFile Sem Op Lib Jvm.Free Jvm.Stand Jvm.Pilot.@@N@@.Jvm.D
/-! MADE BY PROGRAM (witnessworld.py) out of the Statement's table words and the real class files: 10 classes; the members and pool entries that the words name. The judged class is class 1, her method 1. -/
namespace start1
open Jvm.ClassFile
def u (s : String) : CpInfo := .utf8 (stringToUtf16 s)
/-- a pool by its gaps: so many unusable entries, then the entry; so many at the end -/
def gap : Nat → List CpInfo → List CpInfo
  | 0, r => r
  | n + 1, r => .unusable :: gap n r
def poolList (es : List (Nat × CpInfo)) (last : Nat) : List CpInfo := es.foldr (fun e r => gap e.1 (e.2 :: r)) (gap last [])
def pool (es : List (Nat × CpInfo)) (last : Nat) : Array CpInfo := ⟨poolList es last⟩
def fileOf (pool : Array CpInfo) (this : Nat) (attrs : Array Attribute := #[]) (ms : Array MethodInfo := #[]) (fl : Nat := 33) (sup : Nat := 0) (ifs : Array Nat := #[]) (fds : Array FieldInfo := #[]) : ClassFile where
  minorVersion := 0
  majorVersion := 65
  constantPool := pool
  accessFlags := fl
  thisClass := this
  superClass := sup
  interfaces := ifs
  fields := fds
  methods := ms
  attributes := attrs
def plain (name : String) (sup : Option ClassId) : Class where
  name := name
  kind := .ordinary
  loader := none
  accessFlags := 33
  super := sup
  interfaces := #[]
  cf := none
  fields := #[]
  methods := #[]
  instanceTypes := #[]
  staticTypes := #[]
  resolved := #[]
  callSites := []
  init := .initialized
  statics := none
  mirror := none

def pool0 : Array CpInfo := pool [(5, u "<init>"), (0, u "()V"), (1, .class_ 10), (1, u "java/lang/Object")] 113

def k0c0 : Code := { maxStack := 0, maxLocals := 1, code := object_method_1_code, exceptionTable := #[], attributes := #[] }
def k0m0 : Method := { name := "<init>", desc := "()V", sig := { parameters := [], returnType := none }, accessFlags := 1, code := some k0c0 }
/-- java/lang/Object -/
def k0 : Class := { plain "java/lang/Object" none with
  accessFlags := 33
  interfaces := #[]
  cf := some (fileOf pool0 8 #[] #[{ accessFlags := 1, nameIndex := 5, descriptorIndex := 6, attributes := #[] }] 33 0 #[] #[])
  fields := #[]
  methods := #[k0m0]
  instanceTypes := #[]
  staticTypes := #[]
  resolved := Array.replicate 124 none
  statics := none }

def pool1 : Array CpInfo := pool [(2, .class_ 4), (1, u "java/lang/Object"), (0, u "<init>"), (0, u "()V"), (0, .class_ 8), (0, u "com/example/lambdaloom/lambdaloom/ports/Items"), (0, .methodref 7 10), (0, .nameAndType 5 11), (0, u "([I[I[I)V"), (0, .integer 2147483647), (0, .methodref 7 14), (0, .nameAndType 15 16), (0, u "set"), (0, u "(IIII)I"), (0, .methodref 7 18), (0, .nameAndType 19 20), (0, u "count"), (0, u "()I"), (0, .methodref 7 22), (0, .nameAndType 23 24), (0, u "firsts"), (0, u "()[I"), (0, .methodref 7 26), (0, .nameAndType 27 24), (0, u "seconds"), (0, .methodref 7 29), (0, .nameAndType 30 24), (0, u "slots"), (0, .methodref 32 33), (0, .class_ 34), (0, .nameAndType 35 36), (0, u "com/example/lambdaloom/lambdaloom/ports/ItemsSetPinLaw"), (0, u "cell"), (0, u "([IIIII)Z"), (2, u "law"), (0, u "(IIIII)Z")] 5

def k1m0 : Method := { name := "<init>", desc := "()V", sig := { parameters := [], returnType := none }, accessFlags := 1, code := none }
def k1c1 : Code := { maxStack := 6, maxLocals := 14, code := code, exceptionTable := #[], attributes := #[] }
def k1m1 : Method := { name := "law", desc := "(IIIII)Z", sig := { parameters := [.int, .int, .int, .int, .int], returnType := some .boolean }, accessFlags := 9, code := some k1c1 }
def k1c2 : Code := { maxStack := 2, maxLocals := 5, code := method_3_code, exceptionTable := #[], attributes := #[] }
def k1m2 : Method := { name := "cell", desc := "([IIIII)Z", sig := { parameters := [(.array .int), .int, .int, .int, .int], returnType := some .boolean }, accessFlags := 10, code := some k1c2 }
/-- com/example/lambdaloom/lambdaloom/ports/ItemsSetPinLaw -/
def k1 : Class := { plain "com/example/lambdaloom/lambdaloom/ports/ItemsSetPinLaw" (some 0) with
  accessFlags := 49
  interfaces := #[]
  cf := some (fileOf pool1 32 #[] #[{ accessFlags := 1, nameIndex := 5, descriptorIndex := 6, attributes := #[] }, { accessFlags := 9, nameIndex := 39, descriptorIndex := 40, attributes := #[] }, { accessFlags := 10, nameIndex := 35, descriptorIndex := 36, attributes := #[] }] 49 2 #[] #[])
  fields := #[]
  methods := #[k1m0, k1m1, k1m2]
  instanceTypes := #[]
  staticTypes := #[]
  resolved := Array.replicate 46 none
  statics := none }

def pool2 : Array CpInfo := pool [(1, .methodref 2 3), (0, .class_ 4), (0, .nameAndType 5 6), (0, u "java/lang/Object"), (0, u "<init>"), (0, u "()V"), (0, .class_ 8), (0, u "java/lang/Record")] 13

def k2c0 : Code := { maxStack := 1, maxLocals := 1, code := jdk_30_method_1_code, exceptionTable := #[], attributes := #[] }
def k2m0 : Method := { name := "<init>", desc := "()V", sig := { parameters := [], returnType := none }, accessFlags := 4, code := some k2c0 }
/-- java/lang/Record -/
def k2 : Class := { plain "java/lang/Record" (some 0) with
  accessFlags := 1057
  interfaces := #[]
  cf := some (fileOf pool2 7 #[] #[{ accessFlags := 4, nameIndex := 5, descriptorIndex := 6, attributes := #[] }] 1057 2 #[] #[])
  fields := #[]
  methods := #[k2m0]
  instanceTypes := #[]
  staticTypes := #[]
  resolved := Array.replicate 22 none
  statics := none }

def pool3 : Array CpInfo := pool [(1, .methodref 2 3), (0, .class_ 4), (0, .nameAndType 5 6), (0, u "java/lang/Record"), (0, u "<init>"), (0, u "()V"), (0, .fieldref 8 9), (0, .class_ 10), (0, .nameAndType 11 12), (0, u "com/example/lambdaloom/lambdaloom/ports/Items"), (0, u "firsts"), (0, u "[I"), (0, .fieldref 8 14), (0, .nameAndType 15 12), (0, u "seconds"), (0, .fieldref 8 17), (0, .nameAndType 18 12), (0, u "slots"), (2, u "([I[I[I)V"), (16, u "set"), (0, u "(IIII)I"), (0, u "count"), (0, u "()I"), (2, u "()[I")] 22

def k3c0 : Code := { maxStack := 2, maxLocals := 4, code := prog_26_method_2_code, exceptionTable := #[], attributes := #[] }
def k3m0 : Method := { name := "<init>", desc := "([I[I[I)V", sig := { parameters := [(.array .int), (.array .int), (.array .int)], returnType := none }, accessFlags := 0, code := some k3c0 }
def k3c1 : Code := { maxStack := 3, maxLocals := 5, code := prog_26_method_3_code, exceptionTable := #[], attributes := #[] }
def k3m1 : Method := { name := "set", desc := "(IIII)I", sig := { parameters := [.int, .int, .int, .int], returnType := some .int }, accessFlags := 0, code := some k3c1 }
def k3c2 : Code := { maxStack := 1, maxLocals := 1, code := prog_26_method_4_code, exceptionTable := #[], attributes := #[] }
def k3m2 : Method := { name := "count", desc := "()I", sig := { parameters := [], returnType := some .int }, accessFlags := 0, code := some k3c2 }
def k3c3 : Code := { maxStack := 1, maxLocals := 1, code := prog_26_method_8_code, exceptionTable := #[], attributes := #[] }
def k3m3 : Method := { name := "firsts", desc := "()[I", sig := { parameters := [], returnType := some (.array .int) }, accessFlags := 1, code := some k3c3 }
def k3c4 : Code := { maxStack := 1, maxLocals := 1, code := prog_26_method_9_code, exceptionTable := #[], attributes := #[] }
def k3m4 : Method := { name := "seconds", desc := "()[I", sig := { parameters := [], returnType := some (.array .int) }, accessFlags := 1, code := some k3c4 }
def k3c5 : Code := { maxStack := 1, maxLocals := 1, code := prog_26_method_10_code, exceptionTable := #[], attributes := #[] }
def k3m5 : Method := { name := "slots", desc := "()[I", sig := { parameters := [], returnType := some (.array .int) }, accessFlags := 1, code := some k3c5 }
/-- com/example/lambdaloom/lambdaloom/ports/Items -/
def k3 : Class := { plain "com/example/lambdaloom/lambdaloom/ports/Items" (some 2) with
  accessFlags := 48
  interfaces := #[]
  cf := some (fileOf pool3 8 #[] #[{ accessFlags := 0, nameIndex := 5, descriptorIndex := 21, attributes := #[] }, { accessFlags := 0, nameIndex := 38, descriptorIndex := 39, attributes := #[] }, { accessFlags := 0, nameIndex := 40, descriptorIndex := 41, attributes := #[] }, { accessFlags := 1, nameIndex := 11, descriptorIndex := 44, attributes := #[] }, { accessFlags := 1, nameIndex := 15, descriptorIndex := 44, attributes := #[] }, { accessFlags := 1, nameIndex := 18, descriptorIndex := 44, attributes := #[] }] 48 2 #[] #[{ accessFlags := 18, nameIndex := 11, descriptorIndex := 12, attributes := #[] }, { accessFlags := 18, nameIndex := 15, descriptorIndex := 12, attributes := #[] }, { accessFlags := 18, nameIndex := 18, descriptorIndex := 12, attributes := #[] }])
  fields := #[{ name := "firsts", type := (.array .int), accessFlags := 18, slot := 0, constantValue := 0 }, { name := "seconds", type := (.array .int), accessFlags := 18, slot := 1, constantValue := 0 }, { name := "slots", type := (.array .int), accessFlags := 18, slot := 2, constantValue := 0 }]
  methods := #[k3m0, k3m1, k3m2, k3m3, k3m4, k3m5]
  instanceTypes := #[(.array .int), (.array .int), (.array .int)]
  staticTypes := #[]
  resolved := Array.replicate 67 none
  statics := none }

def pool4 : Array CpInfo := pool [(1, u "java/lang/Cloneable"), (0, .class_ 1), (0, u "java/lang/Object"), (0, .class_ 3)] 3

/-- java/lang/Cloneable -/
def k4 : Class := { plain "java/lang/Cloneable" (some 0) with
  accessFlags := 1537
  interfaces := #[]
  cf := some (fileOf pool4 2 #[] #[] 1537 4 #[] #[])
  fields := #[]
  methods := #[]
  instanceTypes := #[]
  staticTypes := #[]
  resolved := Array.replicate 8 none
  statics := none }

def pool5 : Array CpInfo := pool [(1, u "java/io/Serializable"), (0, .class_ 1), (0, u "java/lang/Object"), (0, .class_ 3)] 3

/-- java/io/Serializable -/
def k5 : Class := { plain "java/io/Serializable" (some 0) with
  accessFlags := 1537
  interfaces := #[]
  cf := some (fileOf pool5 2 #[] #[] 1537 4 #[] #[])
  fields := #[]
  methods := #[]
  instanceTypes := #[]
  staticTypes := #[]
  resolved := Array.replicate 8 none
  statics := none }

/-- the primitive byte -/
def k6 : Class := { plain "byte" none with kind := .primitive 'B', accessFlags := 0x411 }
/-- [B -/
def k7 : Class := { plain "[B" (some 0) with kind := .array 6 .byte, interfaces := #[4, 5], accessFlags := 1041 }

/-- the primitive int -/
def k8 : Class := { plain "int" none with kind := .primitive 'I', accessFlags := 0x411 }
/-- [I -/
def k9 : Class := { plain "[I" (some 0) with kind := .array 8 .int, interfaces := #[4, 5], accessFlags := 1041 }

def heap : Heap := #[]
def classes : Array Class := #[k0, k1, k2, k3, k4, k5, k6, k7, k8, k9]
def interned : List (Array UInt16 × Addr) := []
def slotsUsed : Nat := 0
def theMethod : MethodId := ⟨1, 1⟩
def args0 : Array Value := #[.int 5, .int 6, .int 0, .int 3, .int 9]
def aboutOver (below : List Frame) : State where
  vm := { classes := classes, interned := interned.toArray }
  heap := heap
  slotsUsed := slotsUsed
  threads := #[{ frames := .invoking theMethod args0 :: below }]
def below0 : List Frame := [.native { method := ⟨0, 0⟩, args := #[] }]
def about1 : State := aboutOver below0
def p0 : Program := .bare "" "" ""
def e0 : Env := launch0.env 0 0 0
theorem w_frames : about1.frames = Frame.invoking theMethod args0 :: below0 := rfl
set_option maxRecDepth 65536 in
theorem w_args : argsFit about1.vm theMethod args0 = true := by decide +kernel
set_option maxRecDepth 65536 in
theorem w_heap : heapFits about1 = true := by decide +kernel
set_option maxRecDepth 65536 in
theorem w_runnable : about1.curStatus? = some .runnable := by decide +kernel
set_option maxRecDepth 65536 in
theorem w_alone : about1.alone = true := by decide +kernel
set_option maxRecDepth 65536 in
theorem w_named : about1.methodNamed? x = some theMethod := by decide +kernel
set_option maxRecDepth 65536 in
theorem w_hears : about1.hears theMethod below0 = true := by decide +kernel
set_option maxRecDepth 65536 in
theorem w_ripe : about1.ripe theMethod args0 below0 = true := by decide +kernel
theorem w_running : about1.status = .running := rfl
set_option maxRecDepth 65536 in
theorem w_room : about1.hasRoom e0.platform room_1 = true :=
  launch0.hasRoom_least _ room_1 (by decide +kernel) (by decide +kernel) (by decide +kernel) (by decide +kernel) (by decide +kernel) (by decide +kernel)
theorem allAtoms_all (ts : List Jvm.Cond) (a : Array Jvm.Value) (st : Jvm.State) : (allAtoms ts).before a st = ts.all (fun c => c.before a st) := by
  induction ts with
  | nil => rfl
  | cons c t ih =>
    show (Jvm.Cond.and c (allAtoms t)).before a st = _
    rw [Jvm.Cond.before_and, ih, List.all_cons]
def words1 : List Jvm.Cond := Jvm.Cond.code x code maxLocals ret :: tables_1
/-- a 'code' word, met by the world's own term for the bytes: nothing is compared byte by byte -/
theorem code_word {y : MethodName} {bytes : ByteArray} {mx : Nat} {rt : Option FieldType} {a : Array Value} {s : State} {m : MethodId} {meth : Method} {c : Code} (h1 : s.methodNamed? y = some m) (h2 : s.vm.method? m = some meth) (h3 : meth.code = some c) (h4 : c.code = bytes)
    (h5 : (c.maxLocals == mx && c.exceptionTable.isEmpty && decide (c.maxStack ≤ mostOperands) && decide (meth.sig.returnType = rt) && !meth.locks && decide (parseMethodDescriptor y.desc = some meth.sig)) = true) : (Jvm.Cond.code y bytes mx rt).before a s = true := by
  simp only [Bool.and_eq_true, beq_iff_eq, Bool.not_eq_true', decide_eq_true_eq] at h5
  obtain ⟨⟨⟨⟨⟨g1, g2⟩, g3⟩, g4⟩, g5⟩, g6⟩ := h5
  simp [Cond.before, Cond.holds, Cond.value, h1, h2, h3, h4, g1, g2, g3, g4, g5, g6]
def isCode : Jvm.Cond → Bool
  | .code _ _ _ _ => true
  | _ => false
theorem all_split {L : List Jvm.Cond} {P : Jvm.Cond → Bool} (h1 : L.all (fun c => isCode c || P c) = true) (h2 : ∀ c ∈ L.filter isCode, P c = true) : L.all P = true := by
  refine List.all_eq_true.mpr fun c hc => ?_
  have h := List.all_eq_true.mp h1 c hc
  rcases Bool.eq_false_or_eq_true (isCode c) with hi | hi
  · exact h2 c (List.mem_filter.mpr ⟨hc, hi⟩)
  · simpa [hi] using h
set_option maxRecDepth 65536 in
theorem w_c0 : (Jvm.Cond.code x code maxLocals ret).before args0 about1 = true := code_word (m := ⟨1, 1⟩) (meth := k1m1) (c := k1c1) (by decide +kernel) rfl rfl rfl (by decide +kernel)
set_option maxRecDepth 65536 in
theorem w_c1 : (Jvm.Cond.code ({ cls := "com/example/lambdaloom/lambdaloom/ports/Items", name := "<init>", desc := "([I[I[I)V" } : Jvm.MethodName) prog_26_method_2_code (4 : Nat) (Option.none : Option Jvm.ClassFile.FieldType)).before args0 about1 = true := code_word (m := ⟨3, 0⟩) (meth := k3m0) (c := k3c0) (by decide +kernel) rfl rfl rfl (by decide +kernel)
set_option maxRecDepth 65536 in
theorem w_c2 : (Jvm.Cond.code ({ cls := "java/lang/Record", name := "<init>", desc := "()V" } : Jvm.MethodName) jdk_30_method_1_code (1 : Nat) (Option.none : Option Jvm.ClassFile.FieldType)).before args0 about1 = true := code_word (m := ⟨2, 0⟩) (meth := k2m0) (c := k2c0) (by decide +kernel) rfl rfl rfl (by decide +kernel)
set_option maxRecDepth 65536 in
theorem w_c3 : (Jvm.Cond.code ({ cls := "java/lang/Object", name := "<init>", desc := "()V" } : Jvm.MethodName) object_method_1_code (1 : Nat) (Option.none : Option Jvm.ClassFile.FieldType)).before args0 about1 = true := code_word (m := ⟨0, 0⟩) (meth := k0m0) (c := k0c0) (by decide +kernel) rfl rfl rfl (by decide +kernel)
set_option maxRecDepth 65536 in
theorem w_c4 : (Jvm.Cond.code ({ cls := "com/example/lambdaloom/lambdaloom/ports/Items", name := "set", desc := "(IIII)I" } : Jvm.MethodName) prog_26_method_3_code (5 : Nat) (Option.some Jvm.ClassFile.FieldType.int)).before args0 about1 = true := code_word (m := ⟨3, 1⟩) (meth := k3m1) (c := k3c1) (by decide +kernel) rfl rfl rfl (by decide +kernel)
set_option maxRecDepth 65536 in
theorem w_c5 : (Jvm.Cond.code ({ cls := "com/example/lambdaloom/lambdaloom/ports/Items", name := "count", desc := "()I" } : Jvm.MethodName) prog_26_method_4_code (1 : Nat) (Option.some Jvm.ClassFile.FieldType.int)).before args0 about1 = true := code_word (m := ⟨3, 2⟩) (meth := k3m2) (c := k3c2) (by decide +kernel) rfl rfl rfl (by decide +kernel)
set_option maxRecDepth 65536 in
theorem w_c6 : (Jvm.Cond.code ({ cls := "com/example/lambdaloom/lambdaloom/ports/Items", name := "firsts", desc := "()[I" } : Jvm.MethodName) prog_26_method_8_code (1 : Nat) (Option.some (Jvm.ClassFile.FieldType.array Jvm.ClassFile.FieldType.int))).before args0 about1 = true := code_word (m := ⟨3, 3⟩) (meth := k3m3) (c := k3c3) (by decide +kernel) rfl rfl rfl (by decide +kernel)
set_option maxRecDepth 65536 in
theorem w_c7 : (Jvm.Cond.code ({ cls := "com/example/lambdaloom/lambdaloom/ports/Items", name := "seconds", desc := "()[I" } : Jvm.MethodName) prog_26_method_9_code (1 : Nat) (Option.some (Jvm.ClassFile.FieldType.array Jvm.ClassFile.FieldType.int))).before args0 about1 = true := code_word (m := ⟨3, 4⟩) (meth := k3m4) (c := k3c4) (by decide +kernel) rfl rfl rfl (by decide +kernel)
set_option maxRecDepth 65536 in
theorem w_c8 : (Jvm.Cond.code ({ cls := "com/example/lambdaloom/lambdaloom/ports/Items", name := "slots", desc := "()[I" } : Jvm.MethodName) prog_26_method_10_code (1 : Nat) (Option.some (Jvm.ClassFile.FieldType.array Jvm.ClassFile.FieldType.int))).before args0 about1 = true := code_word (m := ⟨3, 5⟩) (meth := k3m5) (c := k3c5) (by decide +kernel) rfl rfl rfl (by decide +kernel)
set_option maxRecDepth 65536 in
theorem w_c9 : (Jvm.Cond.code ({ cls := "com/example/lambdaloom/lambdaloom/ports/ItemsSetPinLaw", name := "cell", desc := "([IIIII)Z" } : Jvm.MethodName) method_3_code (5 : Nat) (Option.some Jvm.ClassFile.FieldType.boolean)).before args0 about1 = true := code_word (m := ⟨1, 2⟩) (meth := k1m2) (c := k1c2) (by decide +kernel) rfl rfl rfl (by decide +kernel)
def codes1 : List Jvm.Cond := [Jvm.Cond.code x code maxLocals ret, Jvm.Cond.code ({ cls := "com/example/lambdaloom/lambdaloom/ports/Items", name := "<init>", desc := "([I[I[I)V" } : Jvm.MethodName) prog_26_method_2_code (4 : Nat) (Option.none : Option Jvm.ClassFile.FieldType), Jvm.Cond.code ({ cls := "java/lang/Record", name := "<init>", desc := "()V" } : Jvm.MethodName) jdk_30_method_1_code (1 : Nat) (Option.none : Option Jvm.ClassFile.FieldType), Jvm.Cond.code ({ cls := "java/lang/Object", name := "<init>", desc := "()V" } : Jvm.MethodName) object_method_1_code (1 : Nat) (Option.none : Option Jvm.ClassFile.FieldType), Jvm.Cond.code ({ cls := "com/example/lambdaloom/lambdaloom/ports/Items", name := "set", desc := "(IIII)I" } : Jvm.MethodName) prog_26_method_3_code (5 : Nat) (Option.some Jvm.ClassFile.FieldType.int), Jvm.Cond.code ({ cls := "com/example/lambdaloom/lambdaloom/ports/Items", name := "count", desc := "()I" } : Jvm.MethodName) prog_26_method_4_code (1 : Nat) (Option.some Jvm.ClassFile.FieldType.int), Jvm.Cond.code ({ cls := "com/example/lambdaloom/lambdaloom/ports/Items", name := "firsts", desc := "()[I" } : Jvm.MethodName) prog_26_method_8_code (1 : Nat) (Option.some (Jvm.ClassFile.FieldType.array Jvm.ClassFile.FieldType.int)), Jvm.Cond.code ({ cls := "com/example/lambdaloom/lambdaloom/ports/Items", name := "seconds", desc := "()[I" } : Jvm.MethodName) prog_26_method_9_code (1 : Nat) (Option.some (Jvm.ClassFile.FieldType.array Jvm.ClassFile.FieldType.int)), Jvm.Cond.code ({ cls := "com/example/lambdaloom/lambdaloom/ports/Items", name := "slots", desc := "()[I" } : Jvm.MethodName) prog_26_method_10_code (1 : Nat) (Option.some (Jvm.ClassFile.FieldType.array Jvm.ClassFile.FieldType.int)), Jvm.Cond.code ({ cls := "com/example/lambdaloom/lambdaloom/ports/ItemsSetPinLaw", name := "cell", desc := "([IIIII)Z" } : Jvm.MethodName) method_3_code (5 : Nat) (Option.some Jvm.ClassFile.FieldType.boolean)]
set_option maxRecDepth 65536 in
theorem codes_eq : words1.filter isCode = codes1 := rfl
theorem w_codes : ∀ c ∈ words1.filter isCode, c.before args0 about1 = true := by
  rw [codes_eq]
  intro c hc
  simp only [codes1, List.mem_cons, List.not_mem_nil, or_false] at hc
  rcases hc with rfl | rfl | rfl | rfl | rfl | rfl | rfl | rfl | rfl | rfl
  · exact w_c0
  · exact w_c1
  · exact w_c2
  · exact w_c3
  · exact w_c4
  · exact w_c5
  · exact w_c6
  · exact w_c7
  · exact w_c8
  · exact w_c9
set_option maxRecDepth 65536 in
theorem w_t1 : (words1.take 24).all (fun c => isCode c || c.before args0 about1) = true := by decide +kernel
set_option maxRecDepth 65536 in
theorem w_t2 : ((words1.drop 24).take 24).all (fun c => isCode c || c.before args0 about1) = true := by decide +kernel
set_option maxRecDepth 65536 in
theorem w_t3 : ((words1.drop 24).drop 24).all (fun c => isCode c || c.before args0 about1) = true := by decide +kernel
theorem w_tables : (allAtoms (Jvm.Cond.code x code maxLocals ret :: tables_1)).before args0 about1 = true := by
  rw [allAtoms_all]
  show words1.all (fun c => c.before args0 about1) = true
  refine all_split ?_ w_codes
  rw [← List.take_append_drop 24 words1, List.all_append, w_t1, ← List.take_append_drop 24 (words1.drop 24), List.all_append, w_t2, w_t3]
  rfl
set_option maxRecDepth 65536 in
theorem w_case : (Jvm.Cond.and given_1 narrow_1).before args0 about1 = true := by decide +kernel
theorem w_applies : (headSpec (Jvm.Cond.code x code maxLocals ret :: tables_1) room_1).applies x e0.platform about1 = true :=
  (Spec.applies_iff w_frames).mpr ⟨w_running, w_runnable, w_alone, w_named, w_hears, w_ripe, w_room, w_tables⟩
theorem atStart : AtStart classFile x code maxLocals ret World_1 tables_1 room_1 Calls_1 rest_1 Pre_1 launch0 p0 e0 about1 theMethod args0 below0 :=
  ⟨lists_1, trivial, launch0.admits_env _ _ _, launch0.least_env, fairChoices_fair.cas, fairChoices_fair.clock, w_frames, w_args, w_heap, w_applies, trivial, trivial, w_case⟩
end start1
theorem witness_1 : WitnessClaimed_1 := ⟨start1.p0, start1.e0, start1.about1, start1.theMethod, start1.args0, start1.below0, start1.atStart⟩
end Jvm.Pilot.@@N@@
