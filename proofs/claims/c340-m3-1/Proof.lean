import JvmDerived
import JvmDerived.Pilot.@@N@@Statement
import JvmDerived.Pilot.@@N@@Code
set_option linter.unusedVariables false
set_option linter.unusedSimpArgs false
namespace Jvm.RoadKit
open Sem ClassFile Op Lib Jvm.Stand Jvm.Free Jvm.LawKit
section New
variable {p : Program} {l : Launch} {e : Env} {R : Room} {s : State} {m : MethodId} {args : Array Value} {below : List Frame} {meth : Method} {c : Code} {T : State} {locs : List Loc} {cells slots : Nat}
theorem retI (X : Stand p l e R s m args below meth c T locs cells slots) (hx : p.tables.exec = Jvm.exec) {pc : Nat} {Ls : Array Slot} {z : Int32} {rest : List Value} (hret : meth.sig.returnType = some .int) (hd : decode c.code pc = .ok (.ireturn, 1)) {fs : List Frame}
    (hl : ∀ (f : JFrame) (acts : List Action), f.method = m → f.locked = none → f.entered = [] → (doReturn e (T.setTop f) acts (some (.int z))).1 = T.setFrames fs) : Steps p.tables e below (T.setTop (mkF m pc Ls (.int z :: rest))) (T.setFrames fs) := by
  have hm' : T.vm.method? m = some meth := X.method'
  have hn : narrow .int (.int z) = .int z := rfl
  show Steps p.tables e below (T.setTop { method := m, pc := pc, locals := Ls, stack := _ :: rest, locked := none }) _
  jvm_step X.here [X.here.top, hx, hd, hm', hret, hn]
  first | (intro acts; rw [hl _ acts rfl rfl rfl]) | rw [hl _ _ rfl rfl rfl]
  exact Steps.refl _
end New
end Jvm.RoadKit
namespace Jvm.Pilot.@@N@@
open Jvm Jvm.ClassFile Sem Op Lib Jvm.Free Jvm.Stand Jvm.LawKit Jvm.RoadKit Bundle Jvm.Pilot.@@N@@.Jvm.D
theorem own_and7 (x : Int32) : 0 ≤ (x &&& (7 : Int32)).toInt ∧ (x &&& (7 : Int32)).toInt ≤ 7 := by
  have a := c_mask x 7 3 (by decide) (by decide)
  rw [show ((2 ^ 3 : Nat) : Int) = 8 from rfl] at a; omega
theorem own_nn {x : Int32} (h : 0 ≤ x.toInt) : ¬ x < 0 := by rw [Int32.lt_iff_toInt_lt, show (0 : Int32).toInt = 0 from rfl]; omega
theorem own_nn' {x : Int32} (h : ¬ x < 0) : 0 ≤ x.toInt := by rw [Int32.lt_iff_toInt_lt, show (0 : Int32).toInt = 0 from rfl] at h; omega
theorem own_cap {x : Int32} (h : x.toInt ≤ 7) : x.toNatClampNeg ≤ 7 := by show x.toInt.toNat ≤ 7; omega
theorem d2_0 : decode jdk_30_method_1_code 0 = .ok (.aload_n 0, 1) := by decide +kernel
theorem d2_1 : decode jdk_30_method_1_code 1 = .ok (.invokespecial 1, 3) := by decide +kernel
theorem d2_4 : decode jdk_30_method_1_code 4 = .ok (.return_, 1) := by decide +kernel
theorem pn_2 : plainName "java/lang/Record" = true := by first | (simp [plainName, overriddenIn]; done) | decide +kernel
theorem ef_2 (m : MethodId) (x0 : Addr) : entryFrame m #[(.ref x0)] 1 = mkF m 0 #[.val (.ref x0)] [] := by first | (simp [entryFrame, mkF, argsToLocals, Value.category]; done) | rfl
def Q2 (Z : State) (a1 : Addr) (h0 : Heap) (n0 : Nat) (v : Option Value) (h : Heap) (L : List Loc) : Prop := v = none ∧ Fr n0 L ∧ h = h0
set_option maxRecDepth 65536 in
set_option maxHeartbeats 40000000 in
theorem rm2 (l : Launch) (Z : State) (a0 : Array Value) (hw : ∀ d ∈ tables_1, d.before a0 Z = true) (ws : List Jvm.Cond) (a1 : Addr) (h0 : Heap) (n0 : Nat) (Z0 : n0 ≤ h0.size) :
    MetFree l (⟨"java/lang/Record", "<init>", "()V"⟩ : MethodName) (head1 (Jvm.Cond.code (⟨"java/lang/Record", "<init>", "()V"⟩ : MethodName) jdk_30_method_1_code 1 none :: ws) ({ frames := 1, cells := 0, slots := 0, locals := 12 } : Room)) (fun a U => a = #[(.ref a1)] ∧ Z.Warmed39 U.vm ∧ U.heap = h0) (fun _ _ _ _ _ => True) (fun _ U o U' => ∃ v L, o = .returned v ∧ Q2 Z a1 h0 n0 v U'.heap L ∧ FrameEnd U o U' L ({ frames := 1, cells := 0, slots := 0, locals := 12 } : Room).cells ({ frames := 1, cells := 0, slots := 0, locals := 12 } : Room).slots) := by
  refine MetFree.of_bodySF (plainFor_of_name pn_2) hisR ?_
  intro p e s m args below meth c s₁ Bd hml0 hP hK
  obtain ⟨rfl, hZ, hh⟩ := hP
  have hx := Bd.exec
  have hby := Bd.bytes
  have hml : c.maxLocals = 1 := hml0
  have hown : s.vm.findClass "java/lang/Record" = some m.cls := findClass_of_methodNamed Bd.named
  have hnm := (name_of_methodNamed Bd.named Bd.method).1
  have X0 : Stand p l e ({ frames := 1, cells := 0, slots := 0, locals := 12 } : Room) s m #[(.ref a1)] below meth c s₁ [] 0 0 := Stand.of_body Bd
  have e0 : s₁.heap = h0 := by rw [← hh, Bd.state]; rfl
  have N0 := Fr.nil n0
  have pre0 : ∀ t, Steps p.tables e below (s₁.setTop (mkF m 0 #[.val (.ref a1)] [])) t → Steps p.tables e below (s₁.setTop (entryFrame m #[(.ref a1)] 1)) t := fun t k => castTop (ef_2 m a1) k
  obtain ⟨T2, X2, e2, st2⟩ := initO X0 hx hZ hown (hw _ (List.mem_of_getElem? (i := 12) rfl)) (hw _ (List.mem_of_getElem? (i := 13) rfl)) (hw _ (List.mem_of_getElem? (i := 14) rfl)) e0 (g := (mkF m 1 #[.val (.ref a1)] [(.ref a1)])) rfl (by rw [hml]; rfl) rfl (hb hby d2_1) (by decide) (W := 0) (by show 2 * 0 + _ ≤ _; exact Nat.le_of_eq rfl) (by decide)
  obtain ⟨fs, hr, hrun, hended, hW, hsame⟩ := X2.leave (v := none) (fun _ => rfl)
  refine ⟨_, _, pre0 _ ?_, hrun, hended, _, _, rfl, ?_, ⟨_, rfl⟩, hW, hsame.mono (by decide) (by decide)⟩
  · show Steps p.tables e below (s₁.setTop (mkF m 0 #[.val (.ref a1)] [])) _
    refine XS.aloadN X0.here hx rfl (hb hby d2_0) rfl rfl ?_
    show Steps p.tables e below (s₁.setTop (mkF m 1 #[.val (.ref a1)] [(.ref a1)])) _
    refine st2 _ ?_
    show Steps p.tables e below (T2.setTop (mkF m 4 #[.val (.ref a1)] [])) _
    exact X2.returnOut hx Bd.returns (hb hby d2_4) hr
  · show Q2 Z a1 h0 n0 _ T2.heap _
    rw [e2]
    exact ⟨rfl, N0, rfl⟩
theorem d1_0 : decode prog_14_method_1_code 0 = .ok (.aload_n 0, 1) := by decide +kernel
theorem d1_1 : decode prog_14_method_1_code 1 = .ok (.invokespecial 1, 3) := by decide +kernel
theorem d1_4 : decode prog_14_method_1_code 4 = .ok (.aload_n 0, 1) := by decide +kernel
theorem d1_5 : decode prog_14_method_1_code 5 = .ok (.aload_n 1, 1) := by decide +kernel
theorem d1_6 : decode prog_14_method_1_code 6 = .ok (.putfield 7, 3) := by decide +kernel
theorem d1_9 : decode prog_14_method_1_code 9 = .ok (.aload_n 0, 1) := by decide +kernel
theorem d1_10 : decode prog_14_method_1_code 10 = .ok (.lload_n 2, 1) := by decide +kernel
theorem d1_11 : decode prog_14_method_1_code 11 = .ok (.putfield 13, 3) := by decide +kernel
theorem d1_14 : decode prog_14_method_1_code 14 = .ok (.return_, 1) := by decide +kernel
theorem pn_1 : plainName "com/example/crewroster/crewroster/http/Body" = true := by first | (simp [plainName, overriddenIn]; done) | decide +kernel
theorem pd_1_1 : parseMethodDescriptor "()V" = some ⟨[], none⟩ := by decide +kernel
theorem ef_1 (m : MethodId) (x0 : Addr) (x1 : Addr) (x2 : Int64) : entryFrame m #[(.ref x0), (.ref x1), (.long x2)] 4 = mkF m 0 #[.val (.ref x0), .val (.ref x1), .val (.long x2), .second] [] := by first | (simp [entryFrame, mkF, argsToLocals, Value.category]; done) | rfl
def Q1 (Z : State) (a1 : Addr) (a2 : Addr) (q3 : Int64) (u_kept_a1 : Value) (u_length_a1 : Value) (h0 : Heap) (n0 : Nat) (v : Option Value) (h : Heap) (L : List Loc) : Prop := v = none ∧ Fr n0 L ∧ Keep h0 h [a1] ∧ Exa Z h a1 "com/example/crewroster/crewroster/http/Body" ∧ Fld Z h a1 "com/example/crewroster/crewroster/http/Body" "kept" "[B" (.ref a2) ∧ Fld Z h a1 "com/example/crewroster/crewroster/http/Body" "length" "J" (.long q3)
set_option maxRecDepth 65536 in
set_option maxHeartbeats 40000000 in
theorem rm1 (l : Launch) (Z : State) (a0 : Array Value) (hw : ∀ d ∈ tables_1, d.before a0 Z = true) (ws : List Jvm.Cond) (a1 : Addr) (a2 : Addr) (q3 : Int64) (u_kept_a1 : Value) (u_length_a1 : Value) (h0 : Heap) (n0 : Nat) (Z0 : n0 ≤ h0.size) (E_a1 : Exa Z h0 a1 "com/example/crewroster/crewroster/http/Body") (F_kept_a1 : Fld Z h0 a1 "com/example/crewroster/crewroster/http/Body" "kept" "[B" u_kept_a1) (g_a1 : n0 ≤ a1) (F_length_a1 : Fld Z h0 a1 "com/example/crewroster/crewroster/http/Body" "length" "J" u_length_a1) :
    MetFree l (⟨"com/example/crewroster/crewroster/http/Body", "<init>", "([BJ)V"⟩ : MethodName) (head1 (Jvm.Cond.code (⟨"com/example/crewroster/crewroster/http/Body", "<init>", "([BJ)V"⟩ : MethodName) prog_14_method_1_code 4 none :: ws) ({ frames := 2, cells := 0, slots := 0, locals := 24 } : Room)) (fun a U => a = #[(.ref a1), (.ref a2), (.long q3)] ∧ Z.Warmed39 U.vm ∧ U.heap = h0) (fun _ _ _ _ _ => True) (fun _ U o U' => ∃ v L, o = .returned v ∧ Q1 Z a1 a2 q3 u_kept_a1 u_length_a1 h0 n0 v U'.heap L ∧ FrameEnd U o U' L ({ frames := 2, cells := 0, slots := 0, locals := 24 } : Room).cells ({ frames := 2, cells := 0, slots := 0, locals := 24 } : Room).slots) := by
  refine MetFree.of_bodySF (plainFor_of_name pn_1) hisR ?_
  intro p e s m args below meth c s₁ Bd hml0 hP hK
  obtain ⟨rfl, hZ, hh⟩ := hP
  have hx := Bd.exec
  have hby := Bd.bytes
  have hml : c.maxLocals = 4 := hml0
  have hown : s.vm.findClass "com/example/crewroster/crewroster/http/Body" = some m.cls := findClass_of_methodNamed Bd.named
  have hnm := (name_of_methodNamed Bd.named Bd.method).1
  have X0 : Stand p l e ({ frames := 2, cells := 0, slots := 0, locals := 24 } : Room) s m #[(.ref a1), (.ref a2), (.long q3)] below meth c s₁ [] 0 0 := Stand.of_body Bd
  have e0 : s₁.heap = h0 := by rw [← hh, Bd.state]; rfl
  have N0 := Fr.nil n0
  have pre0 : ∀ t, Steps p.tables e below (s₁.setTop (mkF m 0 #[.val (.ref a1), .val (.ref a2), .val (.long q3), .second] [])) t → Steps p.tables e below (s₁.setTop (entryFrame m #[(.ref a1), (.ref a2), (.long q3)] 4)) t := fun t k => castTop (ef_1 m a1 a2 q3) k
  obtain ⟨_, _, ⟨T4, L4, k4, n4⟩, -, X4, ⟨Lc4, hQ4, l4, y4, z4⟩, st4⟩ := X0.specialBack hx (y := (⟨"java/lang/Record", "<init>", "()V"⟩ : MethodName)) rfl hown (mvT hZ (hw _ (List.mem_of_getElem? (i := 7) rfl))) (mvT hZ (hw _ (List.mem_of_getElem? (i := 8) rfl))) (mvT hZ (hw _ (List.mem_of_getElem? (i := 11) rfl))) (by decide) (backOf (W := 0) (rm2 l Z a0 hw [] a1  h0 n0 Z0 ) hZ (hw _ (List.mem_of_getElem? (i := 11) rfl)) (hw _ (List.mem_of_getElem? (i := 10) rfl)) (by decide) (by decide)) (g := (mkF m 1 #[.val (.ref a1), .val (.ref a2), .val (.long q3), .second] [(.ref a1)])) rfl (by rw [hml]; rfl) (Steps.refl _) (a := a1) (argsL := []) (rest := []) (lenOf pd_1_1 rfl) rfl (by show 2 * 0 + _ ≤ _; exact Nat.le_of_eq rfl) (hb hby d1_1) (fun _ _ => ⟨rfl, e0, (by decide : 0 + 0 ≤ _), (by decide : 0 + 0 ≤ _)⟩)
  dsimp only [Pt.U, Pt.locs, Pt.cells, Pt.slots] at X4 l4 y4 z4 st4 hQ4
  have y4' : k4 = 0 := y4
  have z4' : n4 = 0 := z4
  clear y4 z4
  subst y4' z4'
  obtain ⟨rfl, N4q, e4q0⟩ := hQ4
  have e4q : T4.heap = h0 := e4q0
  have N4 : Fr n0 L4 := by rw [l4]; exact Fr.app N0 N4q
  obtain ⟨T5, h5, X5, e5, W5, st5⟩ := putF X4 hx hZ hown (host := "") (Or.inl (hw _ (List.mem_of_getElem? (i := 15) rfl))) Via.refl e4q F_kept_a1 E_a1 (Or.inr ⟨(hw _ (List.mem_of_getElem? (i := 16) rfl)), rfl, hnm⟩) (hw _ (List.mem_of_getElem? (i := 2) rfl)) (ty := (.array .byte)) (by decide) rfl rfl (g := (mkF m 6 #[.val (.ref a1), .val (.ref a2), .val (.long q3), .second] [(.ref a2), (.ref a1)])) rfl rfl (hb hby d1_6)
  have Fw5 := F_kept_a1.same W5
  have K5 : Keep h0 h5 [a1] := (Keep.refl h0 [a1]).wr W5 (Or.inl (List.mem_of_getElem? (i := 0) rfl))
  have N5 := Fr.snoc X5 N4 g_a1
  obtain ⟨T6, h6, X6, e6, W6, st6⟩ := putF X5 hx hZ hown (host := "") (Or.inl (hw _ (List.mem_of_getElem? (i := 17) rfl))) Via.refl e5 (F_length_a1.other W5 (Or.inr (slot_ne (Or.inr (hw _ (List.mem_of_getElem? (i := 18) rfl))) (Or.inr (hw _ (List.mem_of_getElem? (i := 16) rfl))) (by decide) (t := .long) (t' := (.array .byte)) (by decide) (by decide)))) (E_a1.wr W5) (Or.inr ⟨(hw _ (List.mem_of_getElem? (i := 18) rfl)), rfl, hnm⟩) (hw _ (List.mem_of_getElem? (i := 2) rfl)) (ty := .long) (by decide) rfl rfl (g := (mkF m 11 #[.val (.ref a1), .val (.ref a2), .val (.long q3), .second] [(.long q3), (.ref a1)])) rfl rfl (hb hby d1_11)
  have Fw6 := (F_length_a1.other W5 (Or.inr (slot_ne (Or.inr (hw _ (List.mem_of_getElem? (i := 18) rfl))) (Or.inr (hw _ (List.mem_of_getElem? (i := 16) rfl))) (by decide) (t := .long) (t' := (.array .byte)) (by decide) (by decide)))).same W6
  have K6 : Keep h0 h6 [a1] := K5.wr W6 (Or.inl (List.mem_of_getElem? (i := 0) rfl))
  have N6 := Fr.snoc X6 N5 g_a1
  obtain ⟨fs, hr, hrun, hended, hW, hsame⟩ := X6.leave (v := none) (fun _ => rfl)
  refine ⟨_, _, pre0 _ ?_, hrun, hended, _, _, rfl, ?_, ⟨_, rfl⟩, hW, hsame.mono (by decide) (by decide)⟩
  · show Steps p.tables e below (s₁.setTop (mkF m 0 #[.val (.ref a1), .val (.ref a2), .val (.long q3), .second] [])) _
    refine XS.aloadN X0.here hx rfl (hb hby d1_0) rfl rfl ?_
    show Steps p.tables e below (s₁.setTop (mkF m 1 #[.val (.ref a1), .val (.ref a2), .val (.long q3), .second] [(.ref a1)])) _
    refine st4.trans ?_
    show Steps p.tables e below (T4.setTop (mkF m 4 #[.val (.ref a1), .val (.ref a2), .val (.long q3), .second] [])) _
    refine XS.aloadN X4.here hx rfl (hb hby d1_4) rfl rfl ?_
    show Steps p.tables e below (T4.setTop (mkF m 5 #[.val (.ref a1), .val (.ref a2), .val (.long q3), .second] [(.ref a1)])) _
    refine XS.aloadN X4.here hx rfl (hb hby d1_5) rfl rfl ?_
    show Steps p.tables e below (T4.setTop (mkF m 6 #[.val (.ref a1), .val (.ref a2), .val (.long q3), .second] [(.ref a2), (.ref a1)])) _
    refine st5 _ ?_
    show Steps p.tables e below (T5.setTop (mkF m 9 #[.val (.ref a1), .val (.ref a2), .val (.long q3), .second] [])) _
    refine XS.aloadN X5.here hx rfl (hb hby d1_9) rfl rfl ?_
    show Steps p.tables e below (T5.setTop (mkF m 10 #[.val (.ref a1), .val (.ref a2), .val (.long q3), .second] [(.ref a1)])) _
    refine XS.lloadN X5.here hx rfl (hb hby d1_10) rfl ?_
    show Steps p.tables e below (T5.setTop (mkF m 11 #[.val (.ref a1), .val (.ref a2), .val (.long q3), .second] [(.long q3), (.ref a1)])) _
    refine st6 _ ?_
    show Steps p.tables e below (T6.setTop (mkF m 14 #[.val (.ref a1), .val (.ref a2), .val (.long q3), .second] [])) _
    exact X6.returnOut hx Bd.returns (hb hby d1_14) hr
  · show Q1 Z a1 a2 q3 u_kept_a1 u_length_a1 h0 n0 _ T6.heap _
    rw [e6]
    exact ⟨rfl, N6, K6, ((E_a1.wr W5).wr W6), (Fw5.other W6 (Or.inr (slot_ne (Or.inr (hw _ (List.mem_of_getElem? (i := 16) rfl))) (Or.inr (hw _ (List.mem_of_getElem? (i := 18) rfl))) (by decide) (t := (.array .byte)) (t' := .long) (by decide) (by decide)))), Fw6⟩
theorem d4_0 : decode prog_14_method_3_code 0 = .ok (.aload_n 0, 1) := by decide +kernel
theorem d4_1 : decode prog_14_method_3_code 1 = .ok (.getfield 7, 3) := by decide +kernel
theorem d4_4 : decode prog_14_method_3_code 4 = .ok (.arraylength, 1) := by decide +kernel
theorem d4_5 : decode prog_14_method_3_code 5 = .ok (.i2l, 1) := by decide +kernel
theorem d4_6 : decode prog_14_method_3_code 6 = .ok (.aload_n 0, 1) := by decide +kernel
theorem d4_7 : decode prog_14_method_3_code 7 = .ok (.getfield 13, 3) := by decide +kernel
theorem d4_10 : decode prog_14_method_3_code 10 = .ok (.lcmp, 1) := by decide +kernel
theorem d4_11 : decode prog_14_method_3_code 11 = .ok (.ifCond .ne 7, 3) := by decide +kernel
theorem d4_18 : decode prog_14_method_3_code 18 = .ok (.iconst 0, 1) := by decide +kernel
theorem d4_19 : decode prog_14_method_3_code 19 = .ok (.ireturn, 1) := by decide +kernel
theorem pn_4 : plainName "com/example/crewroster/crewroster/http/Body" = true := by first | (simp [plainName, overriddenIn]; done) | decide +kernel
theorem ef_4 (m : MethodId) (x0 : Addr) : entryFrame m #[(.ref x0)] 1 = mkF m 0 #[.val (.ref x0)] [] := by first | (simp [entryFrame, mkF, argsToLocals, Value.category]; done) | rfl
theorem d4_14 : decode prog_14_method_3_code 14 = .ok (.iconst 1, 1) := by decide +kernel
theorem d4_15 : decode prog_14_method_3_code 15 = .ok (.goto 4, 3) := by decide +kernel
def Q4 (r : Int32) (n0 : Nat) (h0 : Heap) (v : Option Value) (h : Heap) (L : List Loc) : Prop := v = some (.int r) ∧ Fr n0 L ∧ h = h0
set_option maxRecDepth 65536 in
set_option maxHeartbeats 40000000 in
theorem rm4_t (l : Launch) (Z : State) (a0 : Array Value) (hw : ∀ d ∈ tables_1, d.before a0 Z = true) (ws : List Jvm.Cond) (a1 : Addr) (w2 : Addr) (cl_w2 : Cell) (z_w2 : Int32) (w4 : Int64) (h0 : Heap) (n0 : Nat) (Z0 : n0 ≤ h0.size) (F_kept_a1 : Fld Z h0 a1 "com/example/crewroster/crewroster/http/Body" "kept" "[B" (.ref w2)) (Ar_w2 : Arr Z h0 w2 cl_w2 .byte) (S_w2 : cl_w2.slots.size = z_w2.toNatClampNeg) (N_w2 : ¬ z_w2 < 0) (F_length_a1 : Fld Z h0 a1 "com/example/crewroster/crewroster/http/Body" "length" "J" (.long w4)) (hc11 : ¬ ((lcmpW (z_w2.toInt64) w4) = (0 : Int32))) :
    MetFree l (⟨"com/example/crewroster/crewroster/http/Body", "isWhole", "()Z"⟩ : MethodName) (head1 (Jvm.Cond.code (⟨"com/example/crewroster/crewroster/http/Body", "isWhole", "()Z"⟩ : MethodName) prog_14_method_3_code 1 (some .boolean) :: ws) ({ frames := 0, cells := 0, slots := 0, locals := 0 } : Room)) (fun a U => a = #[(.ref a1)] ∧ Z.Warmed39 U.vm ∧ U.heap = h0) (fun _ _ _ _ _ => True) (fun _ U o U' => ∃ v L, o = .returned v ∧ Q4 (0 : Int32) n0 h0 v U'.heap L ∧ FrameEnd U o U' L ({ frames := 0, cells := 0, slots := 0, locals := 0 } : Room).cells ({ frames := 0, cells := 0, slots := 0, locals := 0 } : Room).slots) := by
  refine MetFree.of_bodySF (plainFor_of_name pn_4) hisR ?_
  intro p e s m args below meth c s₁ Bd hml0 hP hK
  obtain ⟨rfl, hZ, hh⟩ := hP
  have hx := Bd.exec
  have hby := Bd.bytes
  have hml : c.maxLocals = 1 := hml0
  have hown : s.vm.findClass "com/example/crewroster/crewroster/http/Body" = some m.cls := findClass_of_methodNamed Bd.named
  have hnm := (name_of_methodNamed Bd.named Bd.method).1
  have X0 : Stand p l e ({ frames := 0, cells := 0, slots := 0, locals := 0 } : Room) s m #[(.ref a1)] below meth c s₁ [] 0 0 := Stand.of_body Bd
  have e0 : s₁.heap = h0 := by rw [← hh, Bd.state]; rfl
  have N0 := Fr.nil n0
  have pre0 : ∀ t, Steps p.tables e below (s₁.setTop (mkF m 0 #[.val (.ref a1)] [])) t → Steps p.tables e below (s₁.setTop (entryFrame m #[(.ref a1)] 1)) t := fun t k => castTop (ef_4 m a1) k
  obtain ⟨T3, X3, e3, st3⟩ := getF X0 hx hZ hown (host := "") (Or.inl (hw _ (List.mem_of_getElem? (i := 15) rfl))) Via.refl e0 F_kept_a1 (g := (mkF m 1 #[.val (.ref a1)] [(.ref a1)])) rfl rfl (hb hby d4_1)
  obtain ⟨T5, X5, e5, st5⟩ := getF X3 hx hZ hown (host := "") (Or.inl (hw _ (List.mem_of_getElem? (i := 17) rfl))) Via.refl e3 F_length_a1 (g := (mkF m 7 #[.val (.ref a1)] [(.ref a1), (.long (z_w2.toInt64))])) rfl rfl (hb hby d4_7)
  obtain ⟨fs, hr, hrun, hended, hW, hsame⟩ := X5.leave (v := some (.int (0 : Int32))) (fun h => by rw [Bd.returns] at h; cases h)
  refine ⟨_, _, pre0 _ ?_, hrun, hended, _, _, rfl, ?_, ⟨_, rfl⟩, hW, hsame.mono (by decide) (by decide)⟩
  · show Steps p.tables e below (s₁.setTop (mkF m 0 #[.val (.ref a1)] [])) _
    refine XS.aloadN X0.here hx rfl (hb hby d4_0) rfl rfl ?_
    show Steps p.tables e below (s₁.setTop (mkF m 1 #[.val (.ref a1)] [(.ref a1)])) _
    refine st3 _ ?_
    show Steps p.tables e below (T3.setTop (mkF m 4 #[.val (.ref a1)] [(.ref w2)])) _
    refine X3.arraylength hx (by rw [e3]; exact Ar_w2.1) (State.isArrayOf_alike hZ.alike Ar_w2.2.1) (g := (mkF m 4 #[.val (.ref a1)] [(.ref w2)])) rfl rfl (hb hby d4_4) _ ?_
    rw [len_of S_w2 N_w2]
    show Steps p.tables e below (T3.setTop (mkF m 5 #[.val (.ref a1)] [(.int z_w2)])) _
    refine XS.i2l X3.here hx rfl (hb hby d4_5) rfl ?_
    show Steps p.tables e below (T3.setTop (mkF m 6 #[.val (.ref a1)] [(.long (z_w2.toInt64))])) _
    refine XS.aloadN X3.here hx rfl (hb hby d4_6) rfl rfl ?_
    show Steps p.tables e below (T3.setTop (mkF m 7 #[.val (.ref a1)] [(.ref a1), (.long (z_w2.toInt64))])) _
    refine st5 _ ?_
    show Steps p.tables e below (T5.setTop (mkF m 10 #[.val (.ref a1)] [(.long w4), (.long (z_w2.toInt64))])) _
    refine XS.lcmp X5.here hx rfl (hb hby d4_10) rfl ?_
    show Steps p.tables e below (T5.setTop (mkF m 11 #[.val (.ref a1)] [(.int (lcmpW (z_w2.toInt64) w4))])) _
    refine XS.ifYes X5.here hx rfl (pc0 := 11) (pc' := 18) rfl (hb hby d4_11) rfl ((if0 _ _).trans (feq hc11).2) (by decide) (by decide) ?_
    show Steps p.tables e below (T5.setTop (mkF m 18 #[.val (.ref a1)] [])) _
    refine XS.iconst X5.here hx rfl (hb hby d4_18) ?_
    show Steps p.tables e below (T5.setTop (mkF m 19 #[.val (.ref a1)] [(.int (0 : Int32))])) _
    exact retN X5 hx (t := .boolean) Bd.returns (by simp) (hb hby d4_19) hr
  · show Q4 (0 : Int32) n0 h0 _ T5.heap _
    rw [e5]
    exact ⟨rfl, N0, rfl⟩
set_option maxRecDepth 65536 in
set_option maxHeartbeats 40000000 in
theorem rm4_f (l : Launch) (Z : State) (a0 : Array Value) (hw : ∀ d ∈ tables_1, d.before a0 Z = true) (ws : List Jvm.Cond) (a1 : Addr) (w2 : Addr) (cl_w2 : Cell) (z_w2 : Int32) (w4 : Int64) (h0 : Heap) (n0 : Nat) (Z0 : n0 ≤ h0.size) (F_kept_a1 : Fld Z h0 a1 "com/example/crewroster/crewroster/http/Body" "kept" "[B" (.ref w2)) (Ar_w2 : Arr Z h0 w2 cl_w2 .byte) (S_w2 : cl_w2.slots.size = z_w2.toNatClampNeg) (N_w2 : ¬ z_w2 < 0) (F_length_a1 : Fld Z h0 a1 "com/example/crewroster/crewroster/http/Body" "length" "J" (.long w4)) (hc11 : (lcmpW (z_w2.toInt64) w4) = (0 : Int32)) :
    MetFree l (⟨"com/example/crewroster/crewroster/http/Body", "isWhole", "()Z"⟩ : MethodName) (head1 (Jvm.Cond.code (⟨"com/example/crewroster/crewroster/http/Body", "isWhole", "()Z"⟩ : MethodName) prog_14_method_3_code 1 (some .boolean) :: ws) ({ frames := 0, cells := 0, slots := 0, locals := 0 } : Room)) (fun a U => a = #[(.ref a1)] ∧ Z.Warmed39 U.vm ∧ U.heap = h0) (fun _ _ _ _ _ => True) (fun _ U o U' => ∃ v L, o = .returned v ∧ Q4 (1 : Int32) n0 h0 v U'.heap L ∧ FrameEnd U o U' L ({ frames := 0, cells := 0, slots := 0, locals := 0 } : Room).cells ({ frames := 0, cells := 0, slots := 0, locals := 0 } : Room).slots) := by
  refine MetFree.of_bodySF (plainFor_of_name pn_4) hisR ?_
  intro p e s m args below meth c s₁ Bd hml0 hP hK
  obtain ⟨rfl, hZ, hh⟩ := hP
  have hx := Bd.exec
  have hby := Bd.bytes
  have hml : c.maxLocals = 1 := hml0
  have hown : s.vm.findClass "com/example/crewroster/crewroster/http/Body" = some m.cls := findClass_of_methodNamed Bd.named
  have hnm := (name_of_methodNamed Bd.named Bd.method).1
  have X0 : Stand p l e ({ frames := 0, cells := 0, slots := 0, locals := 0 } : Room) s m #[(.ref a1)] below meth c s₁ [] 0 0 := Stand.of_body Bd
  have e0 : s₁.heap = h0 := by rw [← hh, Bd.state]; rfl
  have N0 := Fr.nil n0
  have pre0 : ∀ t, Steps p.tables e below (s₁.setTop (mkF m 0 #[.val (.ref a1)] [])) t → Steps p.tables e below (s₁.setTop (entryFrame m #[(.ref a1)] 1)) t := fun t k => castTop (ef_4 m a1) k
  obtain ⟨T3, X3, e3, st3⟩ := getF X0 hx hZ hown (host := "") (Or.inl (hw _ (List.mem_of_getElem? (i := 15) rfl))) Via.refl e0 F_kept_a1 (g := (mkF m 1 #[.val (.ref a1)] [(.ref a1)])) rfl rfl (hb hby d4_1)
  obtain ⟨T5, X5, e5, st5⟩ := getF X3 hx hZ hown (host := "") (Or.inl (hw _ (List.mem_of_getElem? (i := 17) rfl))) Via.refl e3 F_length_a1 (g := (mkF m 7 #[.val (.ref a1)] [(.ref a1), (.long (z_w2.toInt64))])) rfl rfl (hb hby d4_7)
  obtain ⟨fs, hr, hrun, hended, hW, hsame⟩ := X5.leave (v := some (.int (1 : Int32))) (fun h => by rw [Bd.returns] at h; cases h)
  refine ⟨_, _, pre0 _ ?_, hrun, hended, _, _, rfl, ?_, ⟨_, rfl⟩, hW, hsame.mono (by decide) (by decide)⟩
  · show Steps p.tables e below (s₁.setTop (mkF m 0 #[.val (.ref a1)] [])) _
    refine XS.aloadN X0.here hx rfl (hb hby d4_0) rfl rfl ?_
    show Steps p.tables e below (s₁.setTop (mkF m 1 #[.val (.ref a1)] [(.ref a1)])) _
    refine st3 _ ?_
    show Steps p.tables e below (T3.setTop (mkF m 4 #[.val (.ref a1)] [(.ref w2)])) _
    refine X3.arraylength hx (by rw [e3]; exact Ar_w2.1) (State.isArrayOf_alike hZ.alike Ar_w2.2.1) (g := (mkF m 4 #[.val (.ref a1)] [(.ref w2)])) rfl rfl (hb hby d4_4) _ ?_
    rw [len_of S_w2 N_w2]
    show Steps p.tables e below (T3.setTop (mkF m 5 #[.val (.ref a1)] [(.int z_w2)])) _
    refine XS.i2l X3.here hx rfl (hb hby d4_5) rfl ?_
    show Steps p.tables e below (T3.setTop (mkF m 6 #[.val (.ref a1)] [(.long (z_w2.toInt64))])) _
    refine XS.aloadN X3.here hx rfl (hb hby d4_6) rfl rfl ?_
    show Steps p.tables e below (T3.setTop (mkF m 7 #[.val (.ref a1)] [(.ref a1), (.long (z_w2.toInt64))])) _
    refine st5 _ ?_
    show Steps p.tables e below (T5.setTop (mkF m 10 #[.val (.ref a1)] [(.long w4), (.long (z_w2.toInt64))])) _
    refine XS.lcmp X5.here hx rfl (hb hby d4_10) rfl ?_
    show Steps p.tables e below (T5.setTop (mkF m 11 #[.val (.ref a1)] [(.int (lcmpW (z_w2.toInt64) w4))])) _
    refine XS.ifNo X5.here hx rfl (hb hby d4_11) rfl ((if0 _ _).trans (teq hc11).2) ?_
    show Steps p.tables e below (T5.setTop (mkF m 14 #[.val (.ref a1)] [])) _
    refine XS.iconst X5.here hx rfl (hb hby d4_14) ?_
    show Steps p.tables e below (T5.setTop (mkF m 15 #[.val (.ref a1)] [(.int (1 : Int32))])) _
    refine XS.goto X5.here hx rfl (pc0 := 15) (pc' := 19) rfl (hb hby d4_15) (by decide) (by decide) ?_
    show Steps p.tables e below (T5.setTop (mkF m 19 #[.val (.ref a1)] [(.int (1 : Int32))])) _
    exact retN X5 hx (t := .boolean) Bd.returns (by simp) (hb hby d4_19) hr
  · show Q4 (1 : Int32) n0 h0 _ T5.heap _
    rw [e5]
    exact ⟨rfl, N0, rfl⟩
def own_f4 (a1 : Addr) (w2 : Addr) (cl_w2 : Cell) (z_w2 : Int32) (w4 : Int64) : Int32 := (if (lcmpW (z_w2.toInt64) w4) = (0 : Int32) then (1 : Int32) else (0 : Int32))
set_option maxRecDepth 65536 in
theorem rm4 (l : Launch) (Z : State) (a0 : Array Value) (hw : ∀ d ∈ tables_1, d.before a0 Z = true) (ws : List Jvm.Cond) (a1 : Addr) (w2 : Addr) (cl_w2 : Cell) (z_w2 : Int32) (w4 : Int64) (h0 : Heap) (n0 : Nat) (Z0 : n0 ≤ h0.size) (F_kept_a1 : Fld Z h0 a1 "com/example/crewroster/crewroster/http/Body" "kept" "[B" (.ref w2)) (Ar_w2 : Arr Z h0 w2 cl_w2 .byte) (S_w2 : cl_w2.slots.size = z_w2.toNatClampNeg) (N_w2 : ¬ z_w2 < 0) (F_length_a1 : Fld Z h0 a1 "com/example/crewroster/crewroster/http/Body" "length" "J" (.long w4)) :
    MetFree l (⟨"com/example/crewroster/crewroster/http/Body", "isWhole", "()Z"⟩ : MethodName) (head1 (Jvm.Cond.code (⟨"com/example/crewroster/crewroster/http/Body", "isWhole", "()Z"⟩ : MethodName) prog_14_method_3_code 1 (some .boolean) :: ws) ({ frames := 0, cells := 0, slots := 0, locals := 0 } : Room)) (fun a U => a = #[(.ref a1)] ∧ Z.Warmed39 U.vm ∧ U.heap = h0) (fun _ _ _ _ _ => True) (fun _ U o U' => ∃ v L, o = .returned v ∧ Q4 (own_f4 a1 w2 cl_w2 z_w2 w4) n0 h0 v U'.heap L ∧ FrameEnd U o U' L ({ frames := 0, cells := 0, slots := 0, locals := 0 } : Room).cells ({ frames := 0, cells := 0, slots := 0, locals := 0 } : Room).slots) := by
  by_cases hc11 : (lcmpW (z_w2.toInt64) w4) = (0 : Int32)
  · rw [show own_f4 a1 w2 cl_w2 z_w2 w4 = (1 : Int32) from by rw [own_f4, if_pos hc11]]
    exact rm4_f l Z a0 hw ws a1 w2 cl_w2 z_w2 w4 h0 n0 Z0 F_kept_a1 Ar_w2 S_w2 N_w2 F_length_a1 hc11
  · rw [show own_f4 a1 w2 cl_w2 z_w2 w4 = (0 : Int32) from by rw [own_f4, if_neg hc11]]
    exact rm4_t l Z a0 hw ws a1 w2 cl_w2 z_w2 w4 h0 n0 Z0 F_kept_a1 Ar_w2 S_w2 N_w2 F_length_a1 hc11
theorem d6_0 : decode jdk_29_method_70_code 0 = .ok (.lload_n 0, 1) := by decide +kernel
theorem d6_1 : decode jdk_29_method_70_code 1 = .ok (.lload_n 2, 1) := by decide +kernel
theorem d6_2 : decode jdk_29_method_70_code 2 = .ok (.lcmp, 1) := by decide +kernel
theorem d6_3 : decode jdk_29_method_70_code 3 = .ok (.ifCond .gt 7, 3) := by decide +kernel
theorem d6_10 : decode jdk_29_method_70_code 10 = .ok (.lload_n 2, 1) := by decide +kernel
theorem d6_11 : decode jdk_29_method_70_code 11 = .ok (.lreturn, 1) := by decide +kernel
theorem ef_6 (m : MethodId) (x0 : Int64) (x1 : Int64) : entryFrame m #[(.long x0), (.long x1)] 4 = mkF m 0 #[.val (.long x0), .second, .val (.long x1), .second] [] := by first | (simp [entryFrame, mkF, argsToLocals, Value.category]; done) | rfl
theorem d6_6 : decode jdk_29_method_70_code 6 = .ok (.lload_n 0, 1) := by decide +kernel
theorem d6_7 : decode jdk_29_method_70_code 7 = .ok (.goto 4, 3) := by decide +kernel
def Q6 (r : Int64) (n0 : Nat) (h0 : Heap) (v : Option Value) (h : Heap) (L : List Loc) : Prop := v = some (.long r) ∧ Fr n0 L ∧ h = h0
set_option maxRecDepth 65536 in
set_option maxHeartbeats 40000000 in
theorem rm6_t (l : Launch) (Z : State) (a0 : Array Value) (hw : ∀ d ∈ tables_1, d.before a0 Z = true) (ws : List Jvm.Cond) (q1 : Int64) (q2 : Int64) (h0 : Heap) (n0 : Nat) (Z0 : n0 ≤ h0.size) (hc3 : (0 : Int32) < (lcmpW q1 q2)) :
    MetFree l (⟨"java/lang/Math", "min", "(JJ)J"⟩ : MethodName) (head1 (Jvm.Cond.code (⟨"java/lang/Math", "min", "(JJ)J"⟩ : MethodName) jdk_29_method_70_code 4 (some .long) :: ws) ({ frames := 0, cells := 0, slots := 0, locals := 0 } : Room)) (fun a U => a = #[(.long q1), (.long q2)] ∧ Z.Warmed39 U.vm ∧ U.heap = h0) (fun _ _ _ _ _ => True) (fun _ U o U' => ∃ v L, o = .returned v ∧ Q6 q2 n0 h0 v U'.heap L ∧ FrameEnd U o U' L ({ frames := 0, cells := 0, slots := 0, locals := 0 } : Room).cells ({ frames := 0, cells := 0, slots := 0, locals := 0 } : Room).slots) := by
  refine MetFree.of_bodySF (Jvm.Free.JP.mathPlain rfl (by decide +kernel)) hisR ?_
  intro p e s m args below meth c s₁ Bd hml0 hP hK
  obtain ⟨rfl, hZ, hh⟩ := hP
  have hx := Bd.exec
  have hby := Bd.bytes
  have hml : c.maxLocals = 4 := hml0
  have hown : s.vm.findClass "java/lang/Math" = some m.cls := findClass_of_methodNamed Bd.named
  have hnm := (name_of_methodNamed Bd.named Bd.method).1
  have X0 : Stand p l e ({ frames := 0, cells := 0, slots := 0, locals := 0 } : Room) s m #[(.long q1), (.long q2)] below meth c s₁ [] 0 0 := Stand.of_body Bd
  have e0 : s₁.heap = h0 := by rw [← hh, Bd.state]; rfl
  have N0 := Fr.nil n0
  have pre0 : ∀ t, Steps p.tables e below (s₁.setTop (mkF m 0 #[.val (.long q1), .second, .val (.long q2), .second] [])) t → Steps p.tables e below (s₁.setTop (entryFrame m #[(.long q1), (.long q2)] 4)) t := fun t k => castTop (ef_6 m q1 q2) k

  obtain ⟨fs, hr, hrun, hended, hW, hsame⟩ := X0.leave (v := some (.long q2)) (fun h => by rw [Bd.returns] at h; cases h)
  refine ⟨_, _, pre0 _ ?_, hrun, hended, _, _, rfl, ?_, ⟨_, rfl⟩, hW, hsame.mono (by decide) (by decide)⟩
  · show Steps p.tables e below (s₁.setTop (mkF m 0 #[.val (.long q1), .second, .val (.long q2), .second] [])) _
    refine XS.lloadN X0.here hx rfl (hb hby d6_0) rfl ?_
    show Steps p.tables e below (s₁.setTop (mkF m 1 #[.val (.long q1), .second, .val (.long q2), .second] [(.long q1)])) _
    refine XS.lloadN X0.here hx rfl (hb hby d6_1) rfl ?_
    show Steps p.tables e below (s₁.setTop (mkF m 2 #[.val (.long q1), .second, .val (.long q2), .second] [(.long q2), (.long q1)])) _
    refine XS.lcmp X0.here hx rfl (hb hby d6_2) rfl ?_
    show Steps p.tables e below (s₁.setTop (mkF m 3 #[.val (.long q1), .second, .val (.long q2), .second] [(.int (lcmpW q1 q2))])) _
    refine XS.ifYes X0.here hx rfl (pc0 := 3) (pc' := 10) rfl (hb hby d6_3) rfl ((if0 _ _).trans (tlt hc3).2.2.1) (by decide) (by decide) ?_
    show Steps p.tables e below (s₁.setTop (mkF m 10 #[.val (.long q1), .second, .val (.long q2), .second] [])) _
    refine XS.lloadN X0.here hx rfl (hb hby d6_10) rfl ?_
    show Steps p.tables e below (s₁.setTop (mkF m 11 #[.val (.long q1), .second, .val (.long q2), .second] [(.long q2)])) _
    exact X0.lreturnOut hx Bd.returns (hb hby d6_11) hr
  · show Q6 q2 n0 h0 _ s₁.heap _
    rw [e0]
    exact ⟨rfl, N0, rfl⟩
set_option maxRecDepth 65536 in
set_option maxHeartbeats 40000000 in
theorem rm6_f (l : Launch) (Z : State) (a0 : Array Value) (hw : ∀ d ∈ tables_1, d.before a0 Z = true) (ws : List Jvm.Cond) (q1 : Int64) (q2 : Int64) (h0 : Heap) (n0 : Nat) (Z0 : n0 ≤ h0.size) (hc3 : ¬ ((0 : Int32) < (lcmpW q1 q2))) :
    MetFree l (⟨"java/lang/Math", "min", "(JJ)J"⟩ : MethodName) (head1 (Jvm.Cond.code (⟨"java/lang/Math", "min", "(JJ)J"⟩ : MethodName) jdk_29_method_70_code 4 (some .long) :: ws) ({ frames := 0, cells := 0, slots := 0, locals := 0 } : Room)) (fun a U => a = #[(.long q1), (.long q2)] ∧ Z.Warmed39 U.vm ∧ U.heap = h0) (fun _ _ _ _ _ => True) (fun _ U o U' => ∃ v L, o = .returned v ∧ Q6 q1 n0 h0 v U'.heap L ∧ FrameEnd U o U' L ({ frames := 0, cells := 0, slots := 0, locals := 0 } : Room).cells ({ frames := 0, cells := 0, slots := 0, locals := 0 } : Room).slots) := by
  refine MetFree.of_bodySF (Jvm.Free.JP.mathPlain rfl (by decide +kernel)) hisR ?_
  intro p e s m args below meth c s₁ Bd hml0 hP hK
  obtain ⟨rfl, hZ, hh⟩ := hP
  have hx := Bd.exec
  have hby := Bd.bytes
  have hml : c.maxLocals = 4 := hml0
  have hown : s.vm.findClass "java/lang/Math" = some m.cls := findClass_of_methodNamed Bd.named
  have hnm := (name_of_methodNamed Bd.named Bd.method).1
  have X0 : Stand p l e ({ frames := 0, cells := 0, slots := 0, locals := 0 } : Room) s m #[(.long q1), (.long q2)] below meth c s₁ [] 0 0 := Stand.of_body Bd
  have e0 : s₁.heap = h0 := by rw [← hh, Bd.state]; rfl
  have N0 := Fr.nil n0
  have pre0 : ∀ t, Steps p.tables e below (s₁.setTop (mkF m 0 #[.val (.long q1), .second, .val (.long q2), .second] [])) t → Steps p.tables e below (s₁.setTop (entryFrame m #[(.long q1), (.long q2)] 4)) t := fun t k => castTop (ef_6 m q1 q2) k

  obtain ⟨fs, hr, hrun, hended, hW, hsame⟩ := X0.leave (v := some (.long q1)) (fun h => by rw [Bd.returns] at h; cases h)
  refine ⟨_, _, pre0 _ ?_, hrun, hended, _, _, rfl, ?_, ⟨_, rfl⟩, hW, hsame.mono (by decide) (by decide)⟩
  · show Steps p.tables e below (s₁.setTop (mkF m 0 #[.val (.long q1), .second, .val (.long q2), .second] [])) _
    refine XS.lloadN X0.here hx rfl (hb hby d6_0) rfl ?_
    show Steps p.tables e below (s₁.setTop (mkF m 1 #[.val (.long q1), .second, .val (.long q2), .second] [(.long q1)])) _
    refine XS.lloadN X0.here hx rfl (hb hby d6_1) rfl ?_
    show Steps p.tables e below (s₁.setTop (mkF m 2 #[.val (.long q1), .second, .val (.long q2), .second] [(.long q2), (.long q1)])) _
    refine XS.lcmp X0.here hx rfl (hb hby d6_2) rfl ?_
    show Steps p.tables e below (s₁.setTop (mkF m 3 #[.val (.long q1), .second, .val (.long q2), .second] [(.int (lcmpW q1 q2))])) _
    refine XS.ifNo X0.here hx rfl (hb hby d6_3) rfl ((if0 _ _).trans (flt hc3).2.2.1) ?_
    show Steps p.tables e below (s₁.setTop (mkF m 6 #[.val (.long q1), .second, .val (.long q2), .second] [])) _
    refine XS.lloadN X0.here hx rfl (hb hby d6_6) rfl ?_
    show Steps p.tables e below (s₁.setTop (mkF m 7 #[.val (.long q1), .second, .val (.long q2), .second] [(.long q1)])) _
    refine XS.goto X0.here hx rfl (pc0 := 7) (pc' := 11) rfl (hb hby d6_7) (by decide) (by decide) ?_
    show Steps p.tables e below (s₁.setTop (mkF m 11 #[.val (.long q1), .second, .val (.long q2), .second] [(.long q1)])) _
    exact X0.lreturnOut hx Bd.returns (hb hby d6_11) hr
  · show Q6 q1 n0 h0 _ s₁.heap _
    rw [e0]
    exact ⟨rfl, N0, rfl⟩
def own_f6 (q1 : Int64) (q2 : Int64) : Int64 := (if (0 : Int32) < (lcmpW q1 q2) then q2 else q1)
set_option maxRecDepth 65536 in
theorem rm6 (l : Launch) (Z : State) (a0 : Array Value) (hw : ∀ d ∈ tables_1, d.before a0 Z = true) (ws : List Jvm.Cond) (q1 : Int64) (q2 : Int64) (h0 : Heap) (n0 : Nat) (Z0 : n0 ≤ h0.size) :
    MetFree l (⟨"java/lang/Math", "min", "(JJ)J"⟩ : MethodName) (head1 (Jvm.Cond.code (⟨"java/lang/Math", "min", "(JJ)J"⟩ : MethodName) jdk_29_method_70_code 4 (some .long) :: ws) ({ frames := 0, cells := 0, slots := 0, locals := 0 } : Room)) (fun a U => a = #[(.long q1), (.long q2)] ∧ Z.Warmed39 U.vm ∧ U.heap = h0) (fun _ _ _ _ _ => True) (fun _ U o U' => ∃ v L, o = .returned v ∧ Q6 (own_f6 q1 q2) n0 h0 v U'.heap L ∧ FrameEnd U o U' L ({ frames := 0, cells := 0, slots := 0, locals := 0 } : Room).cells ({ frames := 0, cells := 0, slots := 0, locals := 0 } : Room).slots) := by
  by_cases hc3 : (0 : Int32) < (lcmpW q1 q2)
  · rw [show own_f6 q1 q2 = q2 from by rw [own_f6, if_pos hc3]]
    exact rm6_t l Z a0 hw ws q1 q2 h0 n0 Z0 hc3
  · rw [show own_f6 q1 q2 = q1 from by rw [own_f6, if_neg hc3]]
    exact rm6_f l Z a0 hw ws q1 q2 h0 n0 Z0 hc3
theorem d8_0 : decode jdk_29_method_69_code 0 = .ok (.iload_n 0, 1) := by decide +kernel
theorem d8_1 : decode jdk_29_method_69_code 1 = .ok (.iload_n 1, 1) := by decide +kernel
theorem d8_2 : decode jdk_29_method_69_code 2 = .ok (.if_icmp .gt 7, 3) := by decide +kernel
theorem d8_9 : decode jdk_29_method_69_code 9 = .ok (.iload_n 1, 1) := by decide +kernel
theorem d8_10 : decode jdk_29_method_69_code 10 = .ok (.ireturn, 1) := by decide +kernel
theorem ef_8 (m : MethodId) (x0 : Int32) (x1 : Int32) : entryFrame m #[(.int x0), (.int x1)] 2 = mkF m 0 #[.val (.int x0), .val (.int x1)] [] := by first | (simp [entryFrame, mkF, argsToLocals, Value.category]; done) | rfl
theorem d8_5 : decode jdk_29_method_69_code 5 = .ok (.iload_n 0, 1) := by decide +kernel
theorem d8_6 : decode jdk_29_method_69_code 6 = .ok (.goto 4, 3) := by decide +kernel
def Q8 (r : Int32) (n0 : Nat) (h0 : Heap) (v : Option Value) (h : Heap) (L : List Loc) : Prop := v = some (.int r) ∧ Fr n0 L ∧ h = h0
set_option maxRecDepth 65536 in
set_option maxHeartbeats 40000000 in
theorem rm8_t (l : Launch) (Z : State) (a0 : Array Value) (hw : ∀ d ∈ tables_1, d.before a0 Z = true) (ws : List Jvm.Cond) (p1 : Int32) (p2 : Int32) (h0 : Heap) (n0 : Nat) (Z0 : n0 ≤ h0.size) (hc2 : p2 < p1) :
    MetFree l (⟨"java/lang/Math", "min", "(II)I"⟩ : MethodName) (head1 (Jvm.Cond.code (⟨"java/lang/Math", "min", "(II)I"⟩ : MethodName) jdk_29_method_69_code 2 (some .int) :: ws) ({ frames := 0, cells := 0, slots := 0, locals := 0 } : Room)) (fun a U => a = #[(.int p1), (.int p2)] ∧ Z.Warmed39 U.vm ∧ U.heap = h0) (fun _ _ _ _ _ => True) (fun _ U o U' => ∃ v L, o = .returned v ∧ Q8 p2 n0 h0 v U'.heap L ∧ FrameEnd U o U' L ({ frames := 0, cells := 0, slots := 0, locals := 0 } : Room).cells ({ frames := 0, cells := 0, slots := 0, locals := 0 } : Room).slots) := by
  refine MetFree.of_bodySF (Jvm.Free.JP.mathPlain rfl (by decide +kernel)) hisR ?_
  intro p e s m args below meth c s₁ Bd hml0 hP hK
  obtain ⟨rfl, hZ, hh⟩ := hP
  have hx := Bd.exec
  have hby := Bd.bytes
  have hml : c.maxLocals = 2 := hml0
  have hown : s.vm.findClass "java/lang/Math" = some m.cls := findClass_of_methodNamed Bd.named
  have hnm := (name_of_methodNamed Bd.named Bd.method).1
  have X0 : Stand p l e ({ frames := 0, cells := 0, slots := 0, locals := 0 } : Room) s m #[(.int p1), (.int p2)] below meth c s₁ [] 0 0 := Stand.of_body Bd
  have e0 : s₁.heap = h0 := by rw [← hh, Bd.state]; rfl
  have N0 := Fr.nil n0
  have pre0 : ∀ t, Steps p.tables e below (s₁.setTop (mkF m 0 #[.val (.int p1), .val (.int p2)] [])) t → Steps p.tables e below (s₁.setTop (entryFrame m #[(.int p1), (.int p2)] 2)) t := fun t k => castTop (ef_8 m p1 p2) k

  obtain ⟨fs, hr, hrun, hended, hW, hsame⟩ := X0.leave (v := some (.int p2)) (fun h => by rw [Bd.returns] at h; cases h)
  refine ⟨_, _, pre0 _ ?_, hrun, hended, _, _, rfl, ?_, ⟨_, rfl⟩, hW, hsame.mono (by decide) (by decide)⟩
  · show Steps p.tables e below (s₁.setTop (mkF m 0 #[.val (.int p1), .val (.int p2)] [])) _
    refine XS.iloadN X0.here hx rfl (hb hby d8_0) rfl ?_
    show Steps p.tables e below (s₁.setTop (mkF m 1 #[.val (.int p1), .val (.int p2)] [(.int p1)])) _
    refine XS.iloadN X0.here hx rfl (hb hby d8_1) rfl ?_
    show Steps p.tables e below (s₁.setTop (mkF m 2 #[.val (.int p1), .val (.int p2)] [(.int p2), (.int p1)])) _
    refine XS.icmpYes X0.here hx rfl (pc0 := 2) (pc' := 9) rfl (hb hby d8_2) rfl (tlt hc2).2.2.1 (by decide) (by decide) ?_
    show Steps p.tables e below (s₁.setTop (mkF m 9 #[.val (.int p1), .val (.int p2)] [])) _
    refine XS.iloadN X0.here hx rfl (hb hby d8_9) rfl ?_
    show Steps p.tables e below (s₁.setTop (mkF m 10 #[.val (.int p1), .val (.int p2)] [(.int p2)])) _
    exact retI X0 hx Bd.returns (hb hby d8_10) hr
  · show Q8 p2 n0 h0 _ s₁.heap _
    rw [e0]
    exact ⟨rfl, N0, rfl⟩
set_option maxRecDepth 65536 in
set_option maxHeartbeats 40000000 in
theorem rm8_f (l : Launch) (Z : State) (a0 : Array Value) (hw : ∀ d ∈ tables_1, d.before a0 Z = true) (ws : List Jvm.Cond) (p1 : Int32) (p2 : Int32) (h0 : Heap) (n0 : Nat) (Z0 : n0 ≤ h0.size) (hc2 : ¬ (p2 < p1)) :
    MetFree l (⟨"java/lang/Math", "min", "(II)I"⟩ : MethodName) (head1 (Jvm.Cond.code (⟨"java/lang/Math", "min", "(II)I"⟩ : MethodName) jdk_29_method_69_code 2 (some .int) :: ws) ({ frames := 0, cells := 0, slots := 0, locals := 0 } : Room)) (fun a U => a = #[(.int p1), (.int p2)] ∧ Z.Warmed39 U.vm ∧ U.heap = h0) (fun _ _ _ _ _ => True) (fun _ U o U' => ∃ v L, o = .returned v ∧ Q8 p1 n0 h0 v U'.heap L ∧ FrameEnd U o U' L ({ frames := 0, cells := 0, slots := 0, locals := 0 } : Room).cells ({ frames := 0, cells := 0, slots := 0, locals := 0 } : Room).slots) := by
  refine MetFree.of_bodySF (Jvm.Free.JP.mathPlain rfl (by decide +kernel)) hisR ?_
  intro p e s m args below meth c s₁ Bd hml0 hP hK
  obtain ⟨rfl, hZ, hh⟩ := hP
  have hx := Bd.exec
  have hby := Bd.bytes
  have hml : c.maxLocals = 2 := hml0
  have hown : s.vm.findClass "java/lang/Math" = some m.cls := findClass_of_methodNamed Bd.named
  have hnm := (name_of_methodNamed Bd.named Bd.method).1
  have X0 : Stand p l e ({ frames := 0, cells := 0, slots := 0, locals := 0 } : Room) s m #[(.int p1), (.int p2)] below meth c s₁ [] 0 0 := Stand.of_body Bd
  have e0 : s₁.heap = h0 := by rw [← hh, Bd.state]; rfl
  have N0 := Fr.nil n0
  have pre0 : ∀ t, Steps p.tables e below (s₁.setTop (mkF m 0 #[.val (.int p1), .val (.int p2)] [])) t → Steps p.tables e below (s₁.setTop (entryFrame m #[(.int p1), (.int p2)] 2)) t := fun t k => castTop (ef_8 m p1 p2) k

  obtain ⟨fs, hr, hrun, hended, hW, hsame⟩ := X0.leave (v := some (.int p1)) (fun h => by rw [Bd.returns] at h; cases h)
  refine ⟨_, _, pre0 _ ?_, hrun, hended, _, _, rfl, ?_, ⟨_, rfl⟩, hW, hsame.mono (by decide) (by decide)⟩
  · show Steps p.tables e below (s₁.setTop (mkF m 0 #[.val (.int p1), .val (.int p2)] [])) _
    refine XS.iloadN X0.here hx rfl (hb hby d8_0) rfl ?_
    show Steps p.tables e below (s₁.setTop (mkF m 1 #[.val (.int p1), .val (.int p2)] [(.int p1)])) _
    refine XS.iloadN X0.here hx rfl (hb hby d8_1) rfl ?_
    show Steps p.tables e below (s₁.setTop (mkF m 2 #[.val (.int p1), .val (.int p2)] [(.int p2), (.int p1)])) _
    refine XS.icmpNo X0.here hx rfl (hb hby d8_2) rfl (flt hc2).2.2.1 ?_
    show Steps p.tables e below (s₁.setTop (mkF m 5 #[.val (.int p1), .val (.int p2)] [])) _
    refine XS.iloadN X0.here hx rfl (hb hby d8_5) rfl ?_
    show Steps p.tables e below (s₁.setTop (mkF m 6 #[.val (.int p1), .val (.int p2)] [(.int p1)])) _
    refine XS.goto X0.here hx rfl (pc0 := 6) (pc' := 10) rfl (hb hby d8_6) (by decide) (by decide) ?_
    show Steps p.tables e below (s₁.setTop (mkF m 10 #[.val (.int p1), .val (.int p2)] [(.int p1)])) _
    exact retI X0 hx Bd.returns (hb hby d8_10) hr
  · show Q8 p1 n0 h0 _ s₁.heap _
    rw [e0]
    exact ⟨rfl, N0, rfl⟩
def own_f8 (p1 : Int32) (p2 : Int32) : Int32 := (if p2 < p1 then p2 else p1)
set_option maxRecDepth 65536 in
theorem rm8 (l : Launch) (Z : State) (a0 : Array Value) (hw : ∀ d ∈ tables_1, d.before a0 Z = true) (ws : List Jvm.Cond) (p1 : Int32) (p2 : Int32) (h0 : Heap) (n0 : Nat) (Z0 : n0 ≤ h0.size) :
    MetFree l (⟨"java/lang/Math", "min", "(II)I"⟩ : MethodName) (head1 (Jvm.Cond.code (⟨"java/lang/Math", "min", "(II)I"⟩ : MethodName) jdk_29_method_69_code 2 (some .int) :: ws) ({ frames := 0, cells := 0, slots := 0, locals := 0 } : Room)) (fun a U => a = #[(.int p1), (.int p2)] ∧ Z.Warmed39 U.vm ∧ U.heap = h0) (fun _ _ _ _ _ => True) (fun _ U o U' => ∃ v L, o = .returned v ∧ Q8 (own_f8 p1 p2) n0 h0 v U'.heap L ∧ FrameEnd U o U' L ({ frames := 0, cells := 0, slots := 0, locals := 0 } : Room).cells ({ frames := 0, cells := 0, slots := 0, locals := 0 } : Room).slots) := by
  by_cases hc2 : p2 < p1
  · rw [show own_f8 p1 p2 = p2 from by rw [own_f8, if_pos hc2]]
    exact rm8_t l Z a0 hw ws p1 p2 h0 n0 Z0 hc2
  · rw [show own_f8 p1 p2 = p1 from by rw [own_f8, if_neg hc2]]
    exact rm8_f l Z a0 hw ws p1 p2 h0 n0 Z0 hc2
theorem own_min (a b : Int64) : (own_f6 a b).toInt = if a.toInt ≤ b.toInt then a.toInt else b.toInt := by
  unfold own_f6
  simp only [lw_gt, Int64.lt_iff_toInt_lt]
  by_cases h : b.toInt < a.toInt
  · rw [if_pos h, if_neg (by omega)]
  · rw [if_neg h, if_pos (by omega)]
theorem own_mini (a b : Int32) : (own_f8 a b).toInt = if a.toInt ≤ b.toInt then a.toInt else b.toInt := by
  unfold own_f8
  simp only [Int32.lt_iff_toInt_lt]
  by_cases h : b.toInt < a.toInt
  · rw [if_pos h, if_neg (by omega)]
  · rw [if_neg h, if_pos (by omega)]
def Q7 (Z : State) (p2 : Int32) (h0 : Heap) (n0 : Nat) (v : Option Value) (h : Heap) (L : List Loc) : Prop := v = some (.ref h0.size) ∧ Fr n0 L ∧ Keep h0 h [] ∧ ∃ (k : ClassId) (vs : List Value) (d : Value), Arv Z h h0.size k .byte p2 vs d
theorem d7_0 : decode jdk_65_method_121_code 0 = .ok (.iload_n 1, 1) := by decide +kernel
theorem d7_1 : decode jdk_65_method_121_code 1 = .ok (.aload_n 0, 1) := by decide +kernel
theorem d7_2 : decode jdk_65_method_121_code 2 = .ok (.arraylength, 1) := by decide +kernel
theorem d7_3 : decode jdk_65_method_121_code 3 = .ok (.if_icmp .ne 11, 3) := by decide +kernel
theorem d7_6 : decode jdk_65_method_121_code 6 = .ok (.aload_n 0, 1) := by decide +kernel
theorem d7_7 : decode jdk_65_method_121_code 7 = .ok (.invokevirtual 310, 3) := by decide +kernel
theorem d7_10 : decode jdk_65_method_121_code 10 = .ok (.checkcast 311, 3) := by decide +kernel
theorem d7_13 : decode jdk_65_method_121_code 13 = .ok (.areturn, 1) := by decide +kernel
theorem pn_7 : plainName "java/util/Arrays" = true := by first | (simp [plainName, overriddenIn]; done) | decide +kernel
theorem pd_7_6 : parseMethodDescriptor "()Ljava/lang/Object;" = some ⟨[], some (.object "java/lang/Object")⟩ := by decide +kernel
theorem ef_7 (m : MethodId) (x0 : Addr) (x1 : Int32) : entryFrame m #[(.ref x0), (.int x1)] 3 = mkF m 0 #[.val (.ref x0), .val (.int x1), .unset] [] := by first | (simp [entryFrame, mkF, argsToLocals, Value.category]; done) | rfl
set_option maxRecDepth 65536 in
set_option maxHeartbeats 40000000 in
theorem rm7_f (l : Launch) (Z : State) (a0 : Array Value) (hw : ∀ d ∈ tables_1, d.before a0 Z = true) (ws : List Jvm.Cond) (a1 : Addr) (p2 : Int32) (cl_a1 : Cell) (z_a1 : Int32) (k : ClassId) (vs : List Value) (dv : Value) (h0 : Heap) (n0 : Nat) (Z0 : n0 ≤ h0.size) (V : Arv Z h0 a1 k .byte z_a1 vs dv) (Ex : Exa Z h0 a1 "[B") (hp : ¬ p2 < 0) (hle : p2.toInt ≤ z_a1.toInt) (h7 : z_a1.toInt ≤ 7) (Ar_a1 : Arr Z h0 a1 cl_a1 .byte) (S_a1 : cl_a1.slots.size = z_a1.toNatClampNeg) (N_a1 : ¬ z_a1 < 0) (E_a1 : Exa Z h0 a1 "[B") (hc3 : p2 = z_a1) :
    MetFree l (⟨"java/util/Arrays", "copyOf", "([BI)[B"⟩ : MethodName) (head1 (Jvm.Cond.code (⟨"java/util/Arrays", "copyOf", "([BI)[B"⟩ : MethodName) jdk_65_method_121_code 3 (some (.array .byte)) :: ws) ({ frames := 1, cells := 1, slots := 7, locals := 40 } : Room)) (fun a U => a = #[(.ref a1), (.int p2)] ∧ Z.Warmed39 U.vm ∧ U.heap = h0) (fun _ _ _ _ _ => True) (fun _ U o U' => ∃ v L, o = .returned v ∧ Q7 Z p2 h0 n0 v U'.heap L ∧ FrameEnd U o U' L ({ frames := 1, cells := 1, slots := 7, locals := 40 } : Room).cells ({ frames := 1, cells := 1, slots := 7, locals := 40 } : Room).slots) := by
  refine MetFree.of_bodySF (plainFor_of_name pn_7) hisR ?_
  intro p e s m args below meth c s₁ Bd hml0 hP hK
  obtain ⟨rfl, hZ, hh⟩ := hP
  have hx := Bd.exec
  have hby := Bd.bytes
  have hml : c.maxLocals = 3 := hml0
  have hown : s.vm.findClass "java/util/Arrays" = some m.cls := findClass_of_methodNamed Bd.named
  have hnm := (name_of_methodNamed Bd.named Bd.method).1
  have X0 : Stand p l e ({ frames := 1, cells := 1, slots := 7, locals := 40 } : Room) s m #[(.ref a1), (.int p2)] below meth c s₁ [] 0 0 := Stand.of_body Bd
  have e0 : s₁.heap = h0 := by rw [← hh, Bd.state]; rfl
  have N0 := Fr.nil n0
  have pre0 : ∀ t, Steps p.tables e below (s₁.setTop (mkF m 0 #[.val (.ref a1), .val (.int p2), .unset] [])) t → Steps p.tables e below (s₁.setTop (entryFrame m #[(.ref a1), (.int p2)] 3)) t := fun t k => castTop (ef_7 m a1 p2) k
  obtain ⟨T3, h3, X3, e3, E3, V3, Ex3, st3⟩ := cloneH X0 hx hZ hown (hw _ (List.mem_of_getElem? (i := 36) rfl)) (hw _ (List.mem_of_getElem? (i := 37) rfl)) (hw _ (List.mem_of_getElem? (i := 41) rfl)) (hw _ (List.mem_of_getElem? (i := 39) rfl)) (hw _ (List.mem_of_getElem? (i := 40) rfl)) (hw _ (List.mem_of_getElem? (i := 42) rfl)) e0 V.arh Ex (g := (mkF m 7 #[.val (.ref a1), .val (.int p2), .unset] [(.ref a1)])) rfl (by rw [hml]; rfl) (rest := []) rfl (hb hby d7_7) (by decide) (W := 0) (cap := 7) (by show 2 * 0 + _ ≤ _; exact Nat.le_of_eq rfl) (by decide) (own_cap h7) (by decide) (by decide)
  obtain ⟨T4, X4, e4, st4⟩ := castY X3 hx hZ hown (hw _ (List.mem_of_getElem? (i := 43) rfl)) e3 (Ins.self Ex3) (g := (mkF m 10 #[.val (.ref a1), .val (.int p2), .unset] [(.ref h0.size)])) rfl rfl (hb hby d7_10)
  obtain ⟨fs, hr, hrun, hended, hW, hsame⟩ := X4.leave (v := some (.ref h0.size)) (fun h => by rw [Bd.returns] at h; cases h)
  refine ⟨_, _, pre0 _ ?_, hrun, hended, _, _, rfl, ?_, ⟨_, rfl⟩, hW, hsame.mono (by decide) (by decide)⟩
  · show Steps p.tables e below (s₁.setTop (mkF m 0 #[.val (.ref a1), .val (.int p2), .unset] [])) _
    refine XS.iloadN X0.here hx rfl (hb hby d7_0) rfl ?_
    show Steps p.tables e below (s₁.setTop (mkF m 1 #[.val (.ref a1), .val (.int p2), .unset] [(.int p2)])) _
    refine XS.aloadN X0.here hx rfl (hb hby d7_1) rfl rfl ?_
    show Steps p.tables e below (s₁.setTop (mkF m 2 #[.val (.ref a1), .val (.int p2), .unset] [(.ref a1), (.int p2)])) _
    refine X0.arraylength hx (by rw [e0]; exact Ar_a1.1) (State.isArrayOf_alike hZ.alike Ar_a1.2.1) (g := (mkF m 2 #[.val (.ref a1), .val (.int p2), .unset] [(.ref a1), (.int p2)])) rfl rfl (hb hby d7_2) _ ?_
    rw [len_of S_a1 N_a1]
    show Steps p.tables e below (s₁.setTop (mkF m 3 #[.val (.ref a1), .val (.int p2), .unset] [(.int z_a1), (.int p2)])) _
    refine XS.icmpNo X0.here hx rfl (hb hby d7_3) rfl (teq hc3).2 ?_
    show Steps p.tables e below (s₁.setTop (mkF m 6 #[.val (.ref a1), .val (.int p2), .unset] [])) _
    refine XS.aloadN X0.here hx rfl (hb hby d7_6) rfl rfl ?_
    show Steps p.tables e below (s₁.setTop (mkF m 7 #[.val (.ref a1), .val (.int p2), .unset] [(.ref a1)])) _
    refine st3 _ ?_
    show Steps p.tables e below (T3.setTop (mkF m 10 #[.val (.ref a1), .val (.int p2), .unset] [(.ref h0.size)])) _
    refine st4 _ ?_
    show Steps p.tables e below (T4.setTop (mkF m 13 #[.val (.ref a1), .val (.int p2), .unset] [(.ref h0.size)])) _
    jvm_step X4.here [X4.here.top, hx, (hb hby d7_13), X4.method', Bd.returns, Value.isRef, FieldType.isReference]
    first | (intro acts; rw [hr _ acts rfl rfl rfl]) | rw [hr _ _ rfl rfl rfl]
    exact Steps.refl _
  · show Q7 Z p2 h0 n0 _ T4.heap _
    rw [e4]
    exact ⟨rfl, N0, (Keep.refl h0 []).ext E3, k, vs, dv, by rw [hc3]; exact V3⟩
theorem d7_14 : decode jdk_65_method_121_code 14 = .ok (.iload_n 1, 1) := by decide +kernel
theorem d7_15 : decode jdk_65_method_121_code 15 = .ok (.newarray .byte, 2) := by decide +kernel
theorem d7_17 : decode jdk_65_method_121_code 17 = .ok (.astore_n 2, 1) := by decide +kernel
theorem d7_18 : decode jdk_65_method_121_code 18 = .ok (.aload_n 0, 1) := by decide +kernel
theorem d7_19 : decode jdk_65_method_121_code 19 = .ok (.iconst 0, 1) := by decide +kernel
theorem d7_20 : decode jdk_65_method_121_code 20 = .ok (.aload_n 2, 1) := by decide +kernel
theorem d7_21 : decode jdk_65_method_121_code 21 = .ok (.iconst 0, 1) := by decide +kernel
theorem d7_22 : decode jdk_65_method_121_code 22 = .ok (.aload_n 0, 1) := by decide +kernel
theorem d7_23 : decode jdk_65_method_121_code 23 = .ok (.arraylength, 1) := by decide +kernel
theorem d7_24 : decode jdk_65_method_121_code 24 = .ok (.iload_n 1, 1) := by decide +kernel
theorem d7_25 : decode jdk_65_method_121_code 25 = .ok (.invokestatic 304, 3) := by decide +kernel
theorem d7_28 : decode jdk_65_method_121_code 28 = .ok (.invokestatic 150, 3) := by decide +kernel
theorem d7_31 : decode jdk_65_method_121_code 31 = .ok (.aload_n 2, 1) := by decide +kernel
theorem d7_32 : decode jdk_65_method_121_code 32 = .ok (.areturn, 1) := by decide +kernel
theorem pd_7_7 : parseMethodDescriptor "(II)I" = some ⟨[.int, .int], some .int⟩ := by decide +kernel
theorem pd_7_8 : parseMethodDescriptor "(Ljava/lang/Object;ILjava/lang/Object;II)V" = some ⟨[(.object "java/lang/Object"), .int, (.object "java/lang/Object"), .int, .int], none⟩ := by decide +kernel
set_option maxRecDepth 65536 in
set_option maxHeartbeats 40000000 in
theorem rm7_t (l : Launch) (Z : State) (a0 : Array Value) (hw : ∀ d ∈ tables_1, d.before a0 Z = true) (ws : List Jvm.Cond) (a1 : Addr) (p2 : Int32) (cl_a1 : Cell) (z_a1 : Int32) (k : ClassId) (vs : List Value) (dv : Value) (h0 : Heap) (n0 : Nat) (Z0 : n0 ≤ h0.size) (V : Arv Z h0 a1 k .byte z_a1 vs dv) (Ex : Exa Z h0 a1 "[B") (hp : ¬ p2 < 0) (hle : p2.toInt ≤ z_a1.toInt) (h7 : z_a1.toInt ≤ 7) (Ar_a1 : Arr Z h0 a1 cl_a1 .byte) (S_a1 : cl_a1.slots.size = z_a1.toNatClampNeg) (N_a1 : ¬ z_a1 < 0) (hc3 : ¬ (p2 = z_a1)) :
    MetFree l (⟨"java/util/Arrays", "copyOf", "([BI)[B"⟩ : MethodName) (head1 (Jvm.Cond.code (⟨"java/util/Arrays", "copyOf", "([BI)[B"⟩ : MethodName) jdk_65_method_121_code 3 (some (.array .byte)) :: ws) ({ frames := 1, cells := 1, slots := 7, locals := 40 } : Room)) (fun a U => a = #[(.ref a1), (.int p2)] ∧ Z.Warmed39 U.vm ∧ U.heap = h0) (fun _ _ _ _ _ => True) (fun _ U o U' => ∃ v L, o = .returned v ∧ Q7 Z p2 h0 n0 v U'.heap L ∧ FrameEnd U o U' L ({ frames := 1, cells := 1, slots := 7, locals := 40 } : Room).cells ({ frames := 1, cells := 1, slots := 7, locals := 40 } : Room).slots) := by
  refine MetFree.of_bodySF (plainFor_of_name pn_7) hisR ?_
  intro p e s m args below meth c s₁ Bd hml0 hP hK
  obtain ⟨rfl, hZ, hh⟩ := hP
  have hx := Bd.exec
  have hby := Bd.bytes
  have hml : c.maxLocals = 3 := hml0
  have hown : s.vm.findClass "java/util/Arrays" = some m.cls := findClass_of_methodNamed Bd.named
  have hnm := (name_of_methodNamed Bd.named Bd.method).1
  have X0 : Stand p l e ({ frames := 1, cells := 1, slots := 7, locals := 40 } : Room) s m #[(.ref a1), (.int p2)] below meth c s₁ [] 0 0 := Stand.of_body Bd
  have e0 : s₁.heap = h0 := by rw [← hh, Bd.state]; rfl
  have N0 := Fr.nil n0
  have pre0 : ∀ t, Steps p.tables e below (s₁.setTop (mkF m 0 #[.val (.ref a1), .val (.int p2), .unset] [])) t → Steps p.tables e below (s₁.setTop (entryFrame m #[(.ref a1), (.int p2)] 3)) t := fun t k => castTop (ef_7 m a1 p2) k
  obtain ⟨T3, h3, k3, X3, e3, E3, A3, st3⟩ := newP X0 hx hZ (hw _ (List.mem_of_getElem? (i := 0) rfl)) e0 (g := (mkF m 15 #[.val (.ref a1), .val (.int p2), .unset] [(.int p2)])) rfl (hb hby d7_15) rfl hp (cap := 7) (own_cap (by omega)) (by decide) (by decide) (by decide)
  obtain ⟨b3, g3⟩ : ∃ z, z = h0.size := ⟨_, rfl⟩
  rw [← g3] at A3 st3
  have V_b3 := Arv.new A3 hp
  have g_b3 : n0 ≤ b3 := Nat.le_trans Z0 (Nat.le_of_eq g3.symm)
  have sz_b3 : h0.size ≤ b3 := (Nat.le_trans (Keep.refl h0 []).1 (Nat.le_of_eq g3.symm))
  have K3 : Keep h0 h3 [] := (Keep.refl h0 []).ext E3
  obtain ⟨_, _, ⟨T4, L4, k4, n4⟩, -, X4, ⟨Lc4, hQ4, l4, y4, z4⟩, st4⟩ := Jvm.LawKit.callS X3 hx (y := (⟨"java/lang/Math", "min", "(II)I"⟩ : MethodName)) hown (mvT hZ (hw _ (List.mem_of_getElem? (i := 49) rfl))) (mvT hZ (hw _ (List.mem_of_getElem? (i := 50) rfl))) (mvT hZ (hw _ (List.mem_of_getElem? (i := 30) rfl))) (mvT hZ (hw _ (List.mem_of_getElem? (i := 51) rfl))) (by decide) (backOf (W := 4) (rm8 l Z a0 hw [] z_a1 p2  h3 n0 (Nat.le_trans Z0 E3.1) ) hZ (hw _ (List.mem_of_getElem? (i := 51) rfl)) (hw _ (List.mem_of_getElem? (i := 30) rfl)) (by decide) (by decide)) (g := (mkF m 25 #[.val (.ref a1), .val (.int p2), .val (.ref b3)] [(.int p2), (.int z_a1), (.int (0 : Int32)), (.ref b3), (.int (0 : Int32)), (.ref a1)])) rfl (by rw [hml]; rfl) (argsL := [(.int z_a1), (.int p2)]) (rest := [(.int (0 : Int32)), (.ref b3), (.int (0 : Int32)), (.ref a1)]) (lenOf pd_7_7 rfl) rfl (by show 2 * 0 + _ ≤ _; exact Nat.le_of_eq rfl) (hb hby d7_25) (fun _ _ => ⟨rfl, e3, (by decide : 1 + 0 ≤ _), (by decide : 7 + 0 ≤ _)⟩)
  dsimp only [Pt.U, Pt.locs, Pt.cells, Pt.slots] at X4 l4 y4 z4 st4 hQ4
  have y4' : k4 = 1 := y4
  have z4' : n4 = 7 := z4
  clear y4 z4
  subst y4' z4'
  obtain ⟨rfl, N4q, e4q0⟩ := hQ4
  have e4q : T4.heap = h3 := e4q0
  have N4 : Fr n0 L4 := by rw [l4]; exact Fr.app N0 N4q
  have hm := own_mini z_a1 p2
  have hp' := own_nn' hp
  have V3' : Arv Z h3 b3 k3 .byte p2 ([] ++ List.replicate p2.toNatClampNeg (.int (0 : Int32))) (.int (0 : Int32)) := (Arv.new A3 hp).pad (pad_rep [] (.int (0 : Int32)) p2.toNatClampNeg)
  obtain ⟨T5, h5, L5, X5, e5, N5, K5q, V5, st5⟩ := cpA X4 hx hZ hown (hw _ (List.mem_of_getElem? (i := 52) rfl)) (hw _ (List.mem_of_getElem? (i := 55) rfl)) (hw _ (List.mem_of_getElem? (i := 53) rfl)) (hw _ (List.mem_of_getElem? (i := 54) rfl)) e4q (V.ext E3) V3' (Or.inl ⟨rfl, rfl⟩) (by decide) (by decide) (own_nn (x := own_f8 z_a1 p2) (by split at hm <;> omega)) (by show 0 + (own_f8 z_a1 p2).toInt.toNat ≤ z_a1.toInt.toNat; split at hm <;> omega) (by show 0 + (own_f8 z_a1 p2).toInt.toNat ≤ p2.toInt.toNat; split at hm <;> omega) rfl (by simp only [List.nil_append, List.length_replicate]; show 0 + (own_f8 z_a1 p2).toInt.toNat ≤ p2.toInt.toNat; split at hm <;> omega) N4 g_b3 (g := (mkF m 28 #[.val (.ref a1), .val (.int p2), .val (.ref b3)] [(.int (own_f8 z_a1 p2)), (.int (0 : Int32)), (.ref b3), (.int (0 : Int32)), (.ref a1)])) rfl (by rw [hml]; rfl) (rest := []) rfl (hb hby d7_28) (by decide) (W := 0) (by show 2 * 0 + _ ≤ _; exact Nat.le_of_eq rfl) (by decide)
  obtain ⟨fs, hr, hrun, hended, hW, hsame⟩ := X5.leave (v := some (.ref b3)) (fun h => by rw [Bd.returns] at h; cases h)
  refine ⟨_, _, pre0 _ ?_, hrun, hended, _, _, rfl, ?_, ⟨_, rfl⟩, hW, hsame.mono (by decide) (by decide)⟩
  · show Steps p.tables e below (s₁.setTop (mkF m 0 #[.val (.ref a1), .val (.int p2), .unset] [])) _
    refine XS.iloadN X0.here hx rfl (hb hby d7_0) rfl ?_
    show Steps p.tables e below (s₁.setTop (mkF m 1 #[.val (.ref a1), .val (.int p2), .unset] [(.int p2)])) _
    refine XS.aloadN X0.here hx rfl (hb hby d7_1) rfl rfl ?_
    show Steps p.tables e below (s₁.setTop (mkF m 2 #[.val (.ref a1), .val (.int p2), .unset] [(.ref a1), (.int p2)])) _
    refine X0.arraylength hx (by rw [e0]; exact Ar_a1.1) (State.isArrayOf_alike hZ.alike Ar_a1.2.1) (g := (mkF m 2 #[.val (.ref a1), .val (.int p2), .unset] [(.ref a1), (.int p2)])) rfl rfl (hb hby d7_2) _ ?_
    rw [len_of S_a1 N_a1]
    show Steps p.tables e below (s₁.setTop (mkF m 3 #[.val (.ref a1), .val (.int p2), .unset] [(.int z_a1), (.int p2)])) _
    refine XS.icmpYes X0.here hx rfl (pc0 := 3) (pc' := 14) rfl (hb hby d7_3) rfl (feq hc3).2 (by decide) (by decide) ?_
    show Steps p.tables e below (s₁.setTop (mkF m 14 #[.val (.ref a1), .val (.int p2), .unset] [])) _
    refine XS.iloadN X0.here hx rfl (hb hby d7_14) rfl ?_
    show Steps p.tables e below (s₁.setTop (mkF m 15 #[.val (.ref a1), .val (.int p2), .unset] [(.int p2)])) _
    refine st3 _ ?_
    show Steps p.tables e below (T3.setTop (mkF m 17 #[.val (.ref a1), .val (.int p2), .unset] [(.ref b3)])) _
    refine XS.astoreN X3.here hx rfl (hb hby d7_17) rfl rfl (l' := #[.val (.ref a1), .val (.int p2), .val (.ref b3)]) rfl ?_
    show Steps p.tables e below (T3.setTop (mkF m 18 #[.val (.ref a1), .val (.int p2), .val (.ref b3)] [])) _
    refine XS.aloadN X3.here hx rfl (hb hby d7_18) rfl rfl ?_
    show Steps p.tables e below (T3.setTop (mkF m 19 #[.val (.ref a1), .val (.int p2), .val (.ref b3)] [(.ref a1)])) _
    refine XS.iconst X3.here hx rfl (hb hby d7_19) ?_
    show Steps p.tables e below (T3.setTop (mkF m 20 #[.val (.ref a1), .val (.int p2), .val (.ref b3)] [(.int (0 : Int32)), (.ref a1)])) _
    refine XS.aloadN X3.here hx rfl (hb hby d7_20) rfl rfl ?_
    show Steps p.tables e below (T3.setTop (mkF m 21 #[.val (.ref a1), .val (.int p2), .val (.ref b3)] [(.ref b3), (.int (0 : Int32)), (.ref a1)])) _
    refine XS.iconst X3.here hx rfl (hb hby d7_21) ?_
    show Steps p.tables e below (T3.setTop (mkF m 22 #[.val (.ref a1), .val (.int p2), .val (.ref b3)] [(.int (0 : Int32)), (.ref b3), (.int (0 : Int32)), (.ref a1)])) _
    refine XS.aloadN X3.here hx rfl (hb hby d7_22) rfl rfl ?_
    show Steps p.tables e below (T3.setTop (mkF m 23 #[.val (.ref a1), .val (.int p2), .val (.ref b3)] [(.ref a1), (.int (0 : Int32)), (.ref b3), (.int (0 : Int32)), (.ref a1)])) _
    refine X3.arraylength hx (by rw [e3]; exact (Ar_a1.ext E3).1) (State.isArrayOf_alike hZ.alike Ar_a1.2.1) (g := (mkF m 23 #[.val (.ref a1), .val (.int p2), .val (.ref b3)] [(.ref a1), (.int (0 : Int32)), (.ref b3), (.int (0 : Int32)), (.ref a1)])) rfl rfl (hb hby d7_23) _ ?_
    rw [len_of S_a1 N_a1]
    show Steps p.tables e below (T3.setTop (mkF m 24 #[.val (.ref a1), .val (.int p2), .val (.ref b3)] [(.int z_a1), (.int (0 : Int32)), (.ref b3), (.int (0 : Int32)), (.ref a1)])) _
    refine XS.iloadN X3.here hx rfl (hb hby d7_24) rfl ?_
    show Steps p.tables e below (T3.setTop (mkF m 25 #[.val (.ref a1), .val (.int p2), .val (.ref b3)] [(.int p2), (.int z_a1), (.int (0 : Int32)), (.ref b3), (.int (0 : Int32)), (.ref a1)])) _
    refine st4 _ ?_
    show Steps p.tables e below (T4.setTop (mkF m 28 #[.val (.ref a1), .val (.int p2), .val (.ref b3)] [(.int (own_f8 z_a1 p2)), (.int (0 : Int32)), (.ref b3), (.int (0 : Int32)), (.ref a1)])) _
    refine st5 _ ?_
    show Steps p.tables e below (T5.setTop (mkF m 31 #[.val (.ref a1), .val (.int p2), .val (.ref b3)] [])) _
    refine XS.aloadN X5.here hx rfl (hb hby d7_31) rfl rfl ?_
    show Steps p.tables e below (T5.setTop (mkF m 32 #[.val (.ref a1), .val (.int p2), .val (.ref b3)] [(.ref b3)])) _
    jvm_step X5.here [X5.here.top, hx, (hb hby d7_32), X5.method', Bd.returns, Value.isRef, FieldType.isReference]
    first | (intro acts; rw [hr _ acts rfl rfl rfl]) | rw [hr _ _ rfl rfl rfl]
    exact Steps.refl _
  · show Q7 Z p2 h0 n0 _ T5.heap _
    rw [e5]
    subst g3
    exact ⟨rfl, N5, ((Keep.refl h0 []).ext E3).trans K5q (fun x hx => by cases List.mem_singleton.mp hx; exact Or.inr (Nat.le_refl _)), k3, _, _, V5⟩
set_option maxRecDepth 65536 in
theorem rm7 (l : Launch) (Z : State) (a0 : Array Value) (hw : ∀ d ∈ tables_1, d.before a0 Z = true) (ws : List Jvm.Cond) (a1 : Addr) (p2 : Int32) (cl_a1 : Cell) (z_a1 : Int32) (k : ClassId) (vs : List Value) (dv : Value) (h0 : Heap) (n0 : Nat) (Z0 : n0 ≤ h0.size) (V : Arv Z h0 a1 k .byte z_a1 vs dv) (Ex : Exa Z h0 a1 "[B") (hp : ¬ p2 < 0) (hle : p2.toInt ≤ z_a1.toInt) (h7 : z_a1.toInt ≤ 7) (Ar_a1 : Arr Z h0 a1 cl_a1 .byte) (S_a1 : cl_a1.slots.size = z_a1.toNatClampNeg) (N_a1 : ¬ z_a1 < 0) :
    MetFree l (⟨"java/util/Arrays", "copyOf", "([BI)[B"⟩ : MethodName) (head1 (Jvm.Cond.code (⟨"java/util/Arrays", "copyOf", "([BI)[B"⟩ : MethodName) jdk_65_method_121_code 3 (some (.array .byte)) :: ws) ({ frames := 1, cells := 1, slots := 7, locals := 40 } : Room)) (fun a U => a = #[(.ref a1), (.int p2)] ∧ Z.Warmed39 U.vm ∧ U.heap = h0) (fun _ _ _ _ _ => True) (fun _ U o U' => ∃ v L, o = .returned v ∧ Q7 Z p2 h0 n0 v U'.heap L ∧ FrameEnd U o U' L ({ frames := 1, cells := 1, slots := 7, locals := 40 } : Room).cells ({ frames := 1, cells := 1, slots := 7, locals := 40 } : Room).slots) := by
  by_cases hc3 : p2 = z_a1
  · exact rm7_f l Z a0 hw ws a1 p2 cl_a1 z_a1 k vs dv h0 n0 Z0 V Ex hp hle h7 Ar_a1 S_a1 N_a1 Ex hc3
  · exact rm7_t l Z a0 hw ws a1 p2 cl_a1 z_a1 k vs dv h0 n0 Z0 V Ex hp hle h7 Ar_a1 S_a1 N_a1 hc3
theorem own_P {q : Int64} {z : Int32} (hq : 0 ≤ q.toInt) (hz : 0 ≤ z.toInt) (h7 : z.toInt ≤ 7) : ((own_f6 q (z.toInt64)).toInt32).toInt = if q.toInt ≤ z.toInt then q.toInt else z.toInt := by
  have a := own_min q z.toInt64
  have b := c_l2i (own_f6 q (z.toInt64))
  have c := rng32 ((own_f6 q (z.toInt64)).toInt32)
  rw [c_i2l] at a
  split <;> rename_i h
  · rw [if_pos h] at a; omega
  · rw [if_neg h] at a; omega
theorem own_iff {q : Int64} {z : Int32} (hq : 0 ≤ q.toInt) (hz : 0 ≤ z.toInt) (h7 : z.toInt ≤ 7) : ((own_f6 q (z.toInt64)).toInt32).toInt64 = q ↔ q.toInt ≤ z.toInt := by
  have a := own_P hq hz h7
  rw [← Int64.toInt_inj, c_i2l, a]
  split <;> omega
def Q5 (Z : State) (q2 : Int64) (z : Int32) (h0 : Heap) (n0 : Nat) (v : Option Value) (h : Heap) (L : List Loc) : Prop := ∃ (r w : Addr) (cl : Cell) (y : Int32), v = some (.ref r) ∧ Fr n0 L ∧ Keep h0 h [] ∧ Exa Z h r "com/example/crewroster/crewroster/http/Body" ∧ Fld Z h r "com/example/crewroster/crewroster/http/Body" "kept" "[B" (.ref w) ∧ Arr Z h w cl .byte ∧ cl.slots.size = y.toNatClampNeg ∧ ¬ y < 0 ∧ Fld Z h r "com/example/crewroster/crewroster/http/Body" "length" "J" (.long q2) ∧ (y.toInt64 = q2 ↔ q2.toInt ≤ z.toInt)
theorem d5_0 : decode prog_14_method_2_code 0 = .ok (.lload_n 1, 1) := by decide +kernel
theorem d5_1 : decode prog_14_method_2_code 1 = .ok (.lconst 0, 1) := by decide +kernel
theorem d5_2 : decode prog_14_method_2_code 2 = .ok (.lcmp, 1) := by decide +kernel
theorem d5_3 : decode prog_14_method_2_code 3 = .ok (.ifCond .ne 9, 3) := by decide +kernel
theorem d5_12 : decode prog_14_method_2_code 12 = .ok (.new 8, 3) := by decide +kernel
theorem d5_15 : decode prog_14_method_2_code 15 = .ok (.dup, 1) := by decide +kernel
theorem d5_16 : decode prog_14_method_2_code 16 = .ok (.aload_n 0, 1) := by decide +kernel
theorem d5_17 : decode prog_14_method_2_code 17 = .ok (.lload_n 1, 1) := by decide +kernel
theorem d5_18 : decode prog_14_method_2_code 18 = .ok (.aload_n 0, 1) := by decide +kernel
theorem d5_19 : decode prog_14_method_2_code 19 = .ok (.arraylength, 1) := by decide +kernel
theorem d5_20 : decode prog_14_method_2_code 20 = .ok (.i2l, 1) := by decide +kernel
theorem d5_21 : decode prog_14_method_2_code 21 = .ok (.invokestatic 21, 3) := by decide +kernel
theorem d5_24 : decode prog_14_method_2_code 24 = .ok (.l2i, 1) := by decide +kernel
theorem d5_25 : decode prog_14_method_2_code 25 = .ok (.invokestatic 27, 3) := by decide +kernel
theorem d5_28 : decode prog_14_method_2_code 28 = .ok (.lload_n 1, 1) := by decide +kernel
theorem d5_29 : decode prog_14_method_2_code 29 = .ok (.invokespecial 33, 3) := by decide +kernel
theorem d5_32 : decode prog_14_method_2_code 32 = .ok (.areturn, 1) := by decide +kernel
theorem pn_5 : plainName "com/example/crewroster/crewroster/http/Body" = true := by first | (simp [plainName, overriddenIn]; done) | decide +kernel
theorem pd_5_4 : parseMethodDescriptor "(JJ)J" = some ⟨[.long, .long], some .long⟩ := by decide +kernel
theorem pd_5_5 : parseMethodDescriptor "([BI)[B" = some ⟨[(.array .byte), .int], some (.array .byte)⟩ := by decide +kernel
theorem pd_5_0 : parseMethodDescriptor "([BJ)V" = some ⟨[(.array .byte), .long], none⟩ := by decide +kernel
theorem ef_5 (m : MethodId) (x0 : Addr) (x1 : Int64) : entryFrame m #[(.ref x0), (.long x1)] 3 = mkF m 0 #[.val (.ref x0), .val (.long x1), .second] [] := by first | (simp [entryFrame, mkF, argsToLocals, Value.category]; done) | rfl
theorem d5_6 : decode prog_14_method_2_code 6 = .ok (.getstatic 17, 3) := by decide +kernel
theorem d5_9 : decode prog_14_method_2_code 9 = .ok (.goto 23, 3) := by decide +kernel
set_option maxRecDepth 65536 in
set_option maxHeartbeats 40000000 in
theorem rm5_t (l : Launch) (Z : State) (a0 : Array Value) (hw : ∀ d ∈ tables_1, d.before a0 Z = true) (ws : List Jvm.Cond) (a1 : Addr) (q2 : Int64) (cl_a1 : Cell) (z_a1 : Int32) (k : ClassId) (vs : List Value) (dv : Value) (wN wK : Addr) (clK : Cell) (h0 : Heap) (n0 : Nat) (Z0 : n0 ≤ h0.size) (V : Arv Z h0 a1 k .byte z_a1 vs dv) (Ex : Exa Z h0 a1 "[B") (hq : 0 ≤ q2.toInt) (h7 : z_a1.toInt ≤ 7) (Ar_a1 : Arr Z h0 a1 cl_a1 .byte) (S_a1 : cl_a1.slots.size = z_a1.toNatClampNeg) (N_a1 : ¬ z_a1 < 0) (S_NONE : Sta Z h0 "com/example/crewroster/crewroster/http/Body" "NONE" "Lcom/example/crewroster/crewroster/http/Body;" (.ref wN)) (E_N : Exa Z h0 wN "com/example/crewroster/crewroster/http/Body") (F_k : Fld Z h0 wN "com/example/crewroster/crewroster/http/Body" "kept" "[B" (.ref wK)) (ArK : Arr Z h0 wK clK .byte) (SK : clK.slots.size = (0 : Int32).toNatClampNeg) (F_l : Fld Z h0 wN "com/example/crewroster/crewroster/http/Body" "length" "J" (.long (0 : Int64))) (hc3 : ¬ ((lcmpW q2 (0 : Int64)) = (0 : Int32))) :
    MetFree l (⟨"com/example/crewroster/crewroster/http/Body", "of", "([BJ)Lcom/example/crewroster/crewroster/http/Body;"⟩ : MethodName) (head1 (Jvm.Cond.code (⟨"com/example/crewroster/crewroster/http/Body", "of", "([BJ)Lcom/example/crewroster/crewroster/http/Body;"⟩ : MethodName) prog_14_method_2_code 3 (some (.object "com/example/crewroster/crewroster/http/Body")) :: ws) ({ frames := 3, cells := 3, slots := 16, locals := 56 } : Room)) (fun a U => a = #[(.ref a1), (.long q2)] ∧ Z.Warmed39 U.vm ∧ U.heap = h0) (fun _ _ _ _ _ => True) (fun _ U o U' => ∃ v L, o = .returned v ∧ Q5 Z q2 z_a1 h0 n0 v U'.heap L ∧ FrameEnd U o U' L ({ frames := 3, cells := 3, slots := 16, locals := 56 } : Room).cells ({ frames := 3, cells := 3, slots := 16, locals := 56 } : Room).slots) := by
  refine MetFree.of_bodySF (plainFor_of_name pn_5) hisR ?_
  intro p e s m args below meth c s₁ Bd hml0 hP hK
  obtain ⟨rfl, hZ, hh⟩ := hP
  have hx := Bd.exec
  have hby := Bd.bytes
  have hml : c.maxLocals = 3 := hml0
  have hown : s.vm.findClass "com/example/crewroster/crewroster/http/Body" = some m.cls := findClass_of_methodNamed Bd.named
  have hnm := (name_of_methodNamed Bd.named Bd.method).1
  have X0 : Stand p l e ({ frames := 3, cells := 3, slots := 16, locals := 56 } : Room) s m #[(.ref a1), (.long q2)] below meth c s₁ [] 0 0 := Stand.of_body Bd
  have e0 : s₁.heap = h0 := by rw [← hh, Bd.state]; rfl
  have N0 := Fr.nil n0
  have pre0 : ∀ t, Steps p.tables e below (s₁.setTop (mkF m 0 #[.val (.ref a1), .val (.long q2), .second] [])) t → Steps p.tables e below (s₁.setTop (entryFrame m #[(.ref a1), (.long q2)] 3)) t := fun t k => castTop (ef_5 m a1 q2) k
  obtain ⟨T3, h3, X3, e3, E3, A3, D3, -, st3⟩ := newO X0 hx hZ hown (hw _ (List.mem_of_getElem? (i := 27) rfl)) (hw _ (List.mem_of_getElem? (i := 2) rfl)) (hw _ (List.mem_of_getElem? (i := 3) rfl)) e0 (g := (mkF m 12 #[.val (.ref a1), .val (.long q2), .second] [])) rfl (hb hby d5_12) (by decide) (by decide)
  obtain ⟨b3, g3⟩ : ∃ z, z = h0.size := ⟨_, rfl⟩
  rw [← g3] at A3 D3 st3
  have F_kept_b3 : Fld Z h3 b3 "com/example/crewroster/crewroster/http/Body" "kept" "[B" .null := D3 (Or.inr (hw _ (List.mem_of_getElem? (i := 16) rfl))) (ty := (.array .byte)) (by decide)
  have F_length_b3 : Fld Z h3 b3 "com/example/crewroster/crewroster/http/Body" "length" "J" (.long (0 : Int64)) := D3 (Or.inr (hw _ (List.mem_of_getElem? (i := 18) rfl))) (ty := .long) (by decide)
  have E_b3 := A3
  have g_b3 : n0 ≤ b3 := Nat.le_trans Z0 (Nat.le_of_eq g3.symm)
  have sz_b3 : h0.size ≤ b3 := (Nat.le_trans (Keep.refl h0 []).1 (Nat.le_of_eq g3.symm))
  have K3 : Keep h0 h3 [] := (Keep.refl h0 []).ext E3
  obtain ⟨_, _, ⟨T4, L4, k4, n4⟩, -, X4, ⟨Lc4, hQ4, l4, y4, z4⟩, st4⟩ := Jvm.LawKit.callS X3 hx (y := (⟨"java/lang/Math", "min", "(JJ)J"⟩ : MethodName)) hown (mvT hZ (hw _ (List.mem_of_getElem? (i := 28) rfl))) (mvT hZ (hw _ (List.mem_of_getElem? (i := 29) rfl))) (mvT hZ (hw _ (List.mem_of_getElem? (i := 30) rfl))) (mvT hZ (hw _ (List.mem_of_getElem? (i := 31) rfl))) (by decide) (backOf (W := 3) (rm6 l Z a0 hw [] q2 (z_a1.toInt64)  h3 n0 (Nat.le_trans Z0 E3.1) ) hZ (hw _ (List.mem_of_getElem? (i := 31) rfl)) (hw _ (List.mem_of_getElem? (i := 30) rfl)) (by decide) (by decide)) (g := (mkF m 21 #[.val (.ref a1), .val (.long q2), .second] [(.long (z_a1.toInt64)), (.long q2), (.ref a1), (.ref b3), (.ref b3)])) rfl (by rw [hml]; rfl) (argsL := [(.long q2), (.long (z_a1.toInt64))]) (rest := [(.ref a1), (.ref b3), (.ref b3)]) (lenOf pd_5_4 rfl) rfl (by show 2 * 0 + _ ≤ _; exact Nat.le_of_eq rfl) (hb hby d5_21) (fun _ _ => ⟨rfl, e3, (by decide : 1 + 0 ≤ _), (by decide : 2 + 0 ≤ _)⟩)
  dsimp only [Pt.U, Pt.locs, Pt.cells, Pt.slots] at X4 l4 y4 z4 st4 hQ4
  have y4' : k4 = 1 := y4
  have z4' : n4 = 2 := z4
  clear y4 z4
  subst y4' z4'
  obtain ⟨rfl, N4q, e4q0⟩ := hQ4
  have e4q : T4.heap = h3 := e4q0
  have N4 : Fr n0 L4 := by rw [l4]; exact Fr.app N0 N4q
  obtain ⟨_, _, ⟨T5, L5, k5, n5⟩, -, X5, ⟨Lc5, hQ5, l5, y5, z5⟩, st5⟩ := Jvm.LawKit.callS X4 hx (y := (⟨"java/util/Arrays", "copyOf", "([BI)[B"⟩ : MethodName)) hown (mvT hZ (hw _ (List.mem_of_getElem? (i := 32) rfl))) (mvT hZ (hw _ (List.mem_of_getElem? (i := 33) rfl))) (mvT hZ (hw _ (List.mem_of_getElem? (i := 34) rfl))) (mvT hZ (hw _ (List.mem_of_getElem? (i := 35) rfl))) (by decide) (backOf (W := 2) (rm7 l Z a0 hw [] a1 ((own_f6 q2 (z_a1.toInt64)).toInt32) cl_a1 z_a1 k vs dv h3 n0 (Nat.le_trans Z0 E3.1) (V.ext E3) (Ex.ext E3) (own_nn (by have := own_P hq (own_nn' N_a1) h7; split at this <;> have := own_nn' N_a1 <;> omega)) (by have := own_P hq (own_nn' N_a1) h7; split at this <;> omega) h7 (Ar_a1.ext E3) S_a1 N_a1) hZ (hw _ (List.mem_of_getElem? (i := 35) rfl)) (hw _ (List.mem_of_getElem? (i := 34) rfl)) (by decide) (by decide)) (g := (mkF m 25 #[.val (.ref a1), .val (.long q2), .second] [(.int ((own_f6 q2 (z_a1.toInt64)).toInt32)), (.ref a1), (.ref b3), (.ref b3)])) rfl (by rw [hml]; rfl) (argsL := [(.ref a1), (.int ((own_f6 q2 (z_a1.toInt64)).toInt32))]) (rest := [(.ref b3), (.ref b3)]) (lenOf pd_5_5 rfl) rfl (by show 2 * 0 + _ ≤ _; exact Nat.le_of_eq rfl) (hb hby d5_25) (fun _ _ => ⟨rfl, e4q, (by decide : 1 + 1 ≤ _), (by decide : 2 + 7 ≤ _)⟩)
  dsimp only [Pt.U, Pt.locs, Pt.cells, Pt.slots] at X5 l5 y5 z5 st5 hQ5
  have y5' : k5 = 2 := y5
  have z5' : n5 = 9 := z5
  clear y5 z5
  subst y5' z5'
  obtain ⟨rfl, N5q, Kq5, kc5, vc5, dc5, V5⟩ := hQ5
  have N5 : Fr n0 L5 := by rw [l5]; exact Fr.app N4 N5q
  have Kc5 : Keep h0 T5.heap [] := K3.trans Kq5 (fun x hx => absurd hx List.not_mem_nil)
  obtain ⟨_, _, ⟨T6, L6, k6, n6⟩, -, X6, ⟨Lc6, hQ6, l6, y6, z6⟩, st6⟩ := X5.specialBack hx (y := (⟨"com/example/crewroster/crewroster/http/Body", "<init>", "([BJ)V"⟩ : MethodName)) rfl hown (mvT hZ (hw _ (List.mem_of_getElem? (i := 45) rfl))) (mvT hZ (hw _ (List.mem_of_getElem? (i := 5) rfl))) (mvT hZ (hw _ (List.mem_of_getElem? (i := 6) rfl))) (by decide) (backOf (W := 1) (rm1 l Z a0 hw [] b3 h3.size q2 .null (.long (0 : Int64)) T5.heap n0 (Nat.le_trans (Nat.le_trans Z0 E3.1) Kq5.1) (E_b3.keep Kq5) (F_kept_b3.keep Kq5 List.not_mem_nil) g_b3 (F_length_b3.keep Kq5 List.not_mem_nil)) hZ (hw _ (List.mem_of_getElem? (i := 6) rfl)) (hw _ (List.mem_of_getElem? (i := 3) rfl)) (by decide) (by decide)) (g := (mkF m 29 #[.val (.ref a1), .val (.long q2), .second] [(.long q2), (.ref h3.size), (.ref b3), (.ref b3)])) rfl (by rw [hml]; rfl) (Steps.refl _) (a := b3) (argsL := [(.ref h3.size), (.long q2)]) (rest := [(.ref b3)]) (lenOf pd_5_0 rfl) rfl (by show 2 * 0 + _ ≤ _; exact Nat.le_of_eq rfl) (hb hby d5_29) (fun _ _ => ⟨rfl, rfl, (by decide : 2 + 0 ≤ _), (by decide : 9 + 0 ≤ _)⟩)
  dsimp only [Pt.U, Pt.locs, Pt.cells, Pt.slots] at X6 l6 y6 z6 st6 hQ6
  have y6' : k6 = 2 := y6
  have z6' : n6 = 9 := z6
  clear y6 z6
  subst y6' z6'
  obtain ⟨rfl, N6q, Kq6, Eq6, Fk6, Fl6⟩ := hQ6
  have N6 : Fr n0 L6 := by rw [l6]; exact Fr.app N5 N6q
  have Kc6 : Keep h0 T6.heap [] := Kc5.trans Kq6 (fun x hx => by simp only [List.mem_cons, List.not_mem_nil, or_false] at hx; rcases hx with rfl <;> first | exact Or.inr sz_b3)
  obtain ⟨fs, hr, hrun, hended, hW, hsame⟩ := X6.leave (v := some (.ref b3)) (fun h => by rw [Bd.returns] at h; cases h)
  refine ⟨_, _, pre0 _ ?_, hrun, hended, _, _, rfl, ?_, ⟨_, rfl⟩, hW, hsame.mono (by decide) (by decide)⟩
  · show Steps p.tables e below (s₁.setTop (mkF m 0 #[.val (.ref a1), .val (.long q2), .second] [])) _
    refine XS.lloadN X0.here hx rfl (hb hby d5_0) rfl ?_
    show Steps p.tables e below (s₁.setTop (mkF m 1 #[.val (.ref a1), .val (.long q2), .second] [(.long q2)])) _
    refine XS.lconst X0.here hx rfl (hb hby d5_1) ?_
    show Steps p.tables e below (s₁.setTop (mkF m 2 #[.val (.ref a1), .val (.long q2), .second] [(.long (0 : Int64)), (.long q2)])) _
    refine XS.lcmp X0.here hx rfl (hb hby d5_2) rfl ?_
    show Steps p.tables e below (s₁.setTop (mkF m 3 #[.val (.ref a1), .val (.long q2), .second] [(.int (lcmpW q2 (0 : Int64)))])) _
    refine XS.ifYes X0.here hx rfl (pc0 := 3) (pc' := 12) rfl (hb hby d5_3) rfl ((if0 _ _).trans (feq hc3).2) (by decide) (by decide) ?_
    show Steps p.tables e below (s₁.setTop (mkF m 12 #[.val (.ref a1), .val (.long q2), .second] [])) _
    refine st3 _ ?_
    show Steps p.tables e below (T3.setTop (mkF m 15 #[.val (.ref a1), .val (.long q2), .second] [(.ref b3)])) _
    refine XS.dup X3.here hx rfl (hb hby d5_15) rfl rfl ?_
    show Steps p.tables e below (T3.setTop (mkF m 16 #[.val (.ref a1), .val (.long q2), .second] [(.ref b3), (.ref b3)])) _
    refine XS.aloadN X3.here hx rfl (hb hby d5_16) rfl rfl ?_
    show Steps p.tables e below (T3.setTop (mkF m 17 #[.val (.ref a1), .val (.long q2), .second] [(.ref a1), (.ref b3), (.ref b3)])) _
    refine XS.lloadN X3.here hx rfl (hb hby d5_17) rfl ?_
    show Steps p.tables e below (T3.setTop (mkF m 18 #[.val (.ref a1), .val (.long q2), .second] [(.long q2), (.ref a1), (.ref b3), (.ref b3)])) _
    refine XS.aloadN X3.here hx rfl (hb hby d5_18) rfl rfl ?_
    show Steps p.tables e below (T3.setTop (mkF m 19 #[.val (.ref a1), .val (.long q2), .second] [(.ref a1), (.long q2), (.ref a1), (.ref b3), (.ref b3)])) _
    refine X3.arraylength hx (by rw [e3]; exact (Ar_a1.ext E3).1) (State.isArrayOf_alike hZ.alike Ar_a1.2.1) (g := (mkF m 19 #[.val (.ref a1), .val (.long q2), .second] [(.ref a1), (.long q2), (.ref a1), (.ref b3), (.ref b3)])) rfl rfl (hb hby d5_19) _ ?_
    rw [len_of S_a1 N_a1]
    show Steps p.tables e below (T3.setTop (mkF m 20 #[.val (.ref a1), .val (.long q2), .second] [(.int z_a1), (.long q2), (.ref a1), (.ref b3), (.ref b3)])) _
    refine XS.i2l X3.here hx rfl (hb hby d5_20) rfl ?_
    show Steps p.tables e below (T3.setTop (mkF m 21 #[.val (.ref a1), .val (.long q2), .second] [(.long (z_a1.toInt64)), (.long q2), (.ref a1), (.ref b3), (.ref b3)])) _
    refine st4 _ ?_
    show Steps p.tables e below (T4.setTop (mkF m 24 #[.val (.ref a1), .val (.long q2), .second] [(.long (own_f6 q2 (z_a1.toInt64))), (.ref a1), (.ref b3), (.ref b3)])) _
    refine XS.l2i X4.here hx rfl (hb hby d5_24) rfl ?_
    show Steps p.tables e below (T4.setTop (mkF m 25 #[.val (.ref a1), .val (.long q2), .second] [(.int ((own_f6 q2 (z_a1.toInt64)).toInt32)), (.ref a1), (.ref b3), (.ref b3)])) _
    refine st5 _ ?_
    show Steps p.tables e below (T5.setTop (mkF m 28 #[.val (.ref a1), .val (.long q2), .second] [(.ref h3.size), (.ref b3), (.ref b3)])) _
    refine XS.lloadN X5.here hx rfl (hb hby d5_28) rfl ?_
    show Steps p.tables e below (T5.setTop (mkF m 29 #[.val (.ref a1), .val (.long q2), .second] [(.long q2), (.ref h3.size), (.ref b3), (.ref b3)])) _
    refine st6.trans ?_
    show Steps p.tables e below (T6.setTop (mkF m 32 #[.val (.ref a1), .val (.long q2), .second] [(.ref b3)])) _
    jvm_step X6.here [X6.here.top, hx, (hb hby d5_32), X6.method', Bd.returns, Value.isRef, FieldType.isReference]
    first | (intro acts; rw [hr _ acts rfl rfl rfl]) | rw [hr _ _ rfl rfl rfl]
    exact Steps.refl _
  · show Q5 Z q2 z_a1 h0 n0 _ T6.heap _
    obtain ⟨clv, Ar', -, Sv, Nv, -, -⟩ := V5.keep Kq6 (by rw [List.mem_singleton]; exact Nat.ne_of_gt E_b3.lt)
    exact ⟨b3, h3.size, clv, _, rfl, N6, Kc6, Eq6, Fk6, Ar', Sv, Nv, Fl6, own_iff hq (own_nn' N_a1) h7⟩
set_option maxRecDepth 65536 in
set_option maxHeartbeats 40000000 in
theorem rm5_f (l : Launch) (Z : State) (a0 : Array Value) (hw : ∀ d ∈ tables_1, d.before a0 Z = true) (ws : List Jvm.Cond) (a1 : Addr) (q2 : Int64) (cl_a1 : Cell) (z_a1 : Int32) (k : ClassId) (vs : List Value) (dv : Value) (wN wK : Addr) (clK : Cell) (h0 : Heap) (n0 : Nat) (Z0 : n0 ≤ h0.size) (V : Arv Z h0 a1 k .byte z_a1 vs dv) (Ex : Exa Z h0 a1 "[B") (hq : 0 ≤ q2.toInt) (h7 : z_a1.toInt ≤ 7) (Ar_a1 : Arr Z h0 a1 cl_a1 .byte) (S_a1 : cl_a1.slots.size = z_a1.toNatClampNeg) (N_a1 : ¬ z_a1 < 0) (S_NONE : Sta Z h0 "com/example/crewroster/crewroster/http/Body" "NONE" "Lcom/example/crewroster/crewroster/http/Body;" (.ref wN)) (E_N : Exa Z h0 wN "com/example/crewroster/crewroster/http/Body") (F_k : Fld Z h0 wN "com/example/crewroster/crewroster/http/Body" "kept" "[B" (.ref wK)) (ArK : Arr Z h0 wK clK .byte) (SK : clK.slots.size = (0 : Int32).toNatClampNeg) (F_l : Fld Z h0 wN "com/example/crewroster/crewroster/http/Body" "length" "J" (.long (0 : Int64))) (hc3 : (lcmpW q2 (0 : Int64)) = (0 : Int32)) :
    MetFree l (⟨"com/example/crewroster/crewroster/http/Body", "of", "([BJ)Lcom/example/crewroster/crewroster/http/Body;"⟩ : MethodName) (head1 (Jvm.Cond.code (⟨"com/example/crewroster/crewroster/http/Body", "of", "([BJ)Lcom/example/crewroster/crewroster/http/Body;"⟩ : MethodName) prog_14_method_2_code 3 (some (.object "com/example/crewroster/crewroster/http/Body")) :: ws) ({ frames := 3, cells := 3, slots := 16, locals := 56 } : Room)) (fun a U => a = #[(.ref a1), (.long q2)] ∧ Z.Warmed39 U.vm ∧ U.heap = h0) (fun _ _ _ _ _ => True) (fun _ U o U' => ∃ v L, o = .returned v ∧ Q5 Z q2 z_a1 h0 n0 v U'.heap L ∧ FrameEnd U o U' L ({ frames := 3, cells := 3, slots := 16, locals := 56 } : Room).cells ({ frames := 3, cells := 3, slots := 16, locals := 56 } : Room).slots) := by
  refine MetFree.of_bodySF (plainFor_of_name pn_5) hisR ?_
  intro p e s m args below meth c s₁ Bd hml0 hP hK
  obtain ⟨rfl, hZ, hh⟩ := hP
  have hx := Bd.exec
  have hby := Bd.bytes
  have hml : c.maxLocals = 3 := hml0
  have hown : s.vm.findClass "com/example/crewroster/crewroster/http/Body" = some m.cls := findClass_of_methodNamed Bd.named
  have hnm := (name_of_methodNamed Bd.named Bd.method).1
  have X0 : Stand p l e ({ frames := 3, cells := 3, slots := 16, locals := 56 } : Room) s m #[(.ref a1), (.long q2)] below meth c s₁ [] 0 0 := Stand.of_body Bd
  have e0 : s₁.heap = h0 := by rw [← hh, Bd.state]; rfl
  have N0 := Fr.nil n0
  have pre0 : ∀ t, Steps p.tables e below (s₁.setTop (mkF m 0 #[.val (.ref a1), .val (.long q2), .second] [])) t → Steps p.tables e below (s₁.setTop (entryFrame m #[(.ref a1), (.long q2)] 3)) t := fun t k => castTop (ef_5 m a1 q2) k
  obtain ⟨T4, X4, e4, st4⟩ := getS2 X0 hx hZ hown (host := "") (Or.inl (hw _ (List.mem_of_getElem? (i := 47) rfl))) Via.refl e0 S_NONE (g := (mkF m 6 #[.val (.ref a1), .val (.long q2), .second] [])) rfl (hb hby d5_6)
  obtain ⟨fs, hr, hrun, hended, hW, hsame⟩ := X4.leave (v := some (.ref wN)) (fun h => by rw [Bd.returns] at h; cases h)
  refine ⟨_, _, pre0 _ ?_, hrun, hended, _, _, rfl, ?_, ⟨_, rfl⟩, hW, hsame.mono (by decide) (by decide)⟩
  · show Steps p.tables e below (s₁.setTop (mkF m 0 #[.val (.ref a1), .val (.long q2), .second] [])) _
    refine XS.lloadN X0.here hx rfl (hb hby d5_0) rfl ?_
    show Steps p.tables e below (s₁.setTop (mkF m 1 #[.val (.ref a1), .val (.long q2), .second] [(.long q2)])) _
    refine XS.lconst X0.here hx rfl (hb hby d5_1) ?_
    show Steps p.tables e below (s₁.setTop (mkF m 2 #[.val (.ref a1), .val (.long q2), .second] [(.long (0 : Int64)), (.long q2)])) _
    refine XS.lcmp X0.here hx rfl (hb hby d5_2) rfl ?_
    show Steps p.tables e below (s₁.setTop (mkF m 3 #[.val (.ref a1), .val (.long q2), .second] [(.int (lcmpW q2 (0 : Int64)))])) _
    refine XS.ifNo X0.here hx rfl (hb hby d5_3) rfl ((if0 _ _).trans (teq hc3).2) ?_
    show Steps p.tables e below (s₁.setTop (mkF m 6 #[.val (.ref a1), .val (.long q2), .second] [])) _
    refine st4 _ ?_
    show Steps p.tables e below (T4.setTop (mkF m 9 #[.val (.ref a1), .val (.long q2), .second] [(.ref wN)])) _
    refine XS.goto X4.here hx rfl (pc0 := 9) (pc' := 32) rfl (hb hby d5_9) (by decide) (by decide) ?_
    show Steps p.tables e below (T4.setTop (mkF m 32 #[.val (.ref a1), .val (.long q2), .second] [(.ref wN)])) _
    jvm_step X4.here [X4.here.top, hx, (hb hby d5_32), X4.method', Bd.returns, Value.isRef, FieldType.isReference]
    first | (intro acts; rw [hr _ acts rfl rfl rfl]) | rw [hr _ _ rfl rfl rfl]
    exact Steps.refl _
  · show Q5 Z q2 z_a1 h0 n0 _ T4.heap _
    rw [e4]
    have eq : q2 = 0 := (lw_eq _ _).mp hc3
    subst eq
    exact ⟨wN, wK, clK, 0, rfl, N0, Keep.refl _ _, E_N, F_k, ArK, SK, by decide, F_l, ⟨fun _ => own_nn' N_a1, fun _ => rfl⟩⟩
set_option maxRecDepth 65536 in
theorem rm5 (l : Launch) (Z : State) (a0 : Array Value) (hw : ∀ d ∈ tables_1, d.before a0 Z = true) (ws : List Jvm.Cond) (a1 : Addr) (q2 : Int64) (cl_a1 : Cell) (z_a1 : Int32) (k : ClassId) (vs : List Value) (dv : Value) (wN wK : Addr) (clK : Cell) (h0 : Heap) (n0 : Nat) (Z0 : n0 ≤ h0.size) (V : Arv Z h0 a1 k .byte z_a1 vs dv) (Ex : Exa Z h0 a1 "[B") (hq : 0 ≤ q2.toInt) (h7 : z_a1.toInt ≤ 7) (Ar_a1 : Arr Z h0 a1 cl_a1 .byte) (S_a1 : cl_a1.slots.size = z_a1.toNatClampNeg) (N_a1 : ¬ z_a1 < 0) (S_NONE : Sta Z h0 "com/example/crewroster/crewroster/http/Body" "NONE" "Lcom/example/crewroster/crewroster/http/Body;" (.ref wN)) (E_N : Exa Z h0 wN "com/example/crewroster/crewroster/http/Body") (F_k : Fld Z h0 wN "com/example/crewroster/crewroster/http/Body" "kept" "[B" (.ref wK)) (ArK : Arr Z h0 wK clK .byte) (SK : clK.slots.size = (0 : Int32).toNatClampNeg) (F_l : Fld Z h0 wN "com/example/crewroster/crewroster/http/Body" "length" "J" (.long (0 : Int64))) :
    MetFree l (⟨"com/example/crewroster/crewroster/http/Body", "of", "([BJ)Lcom/example/crewroster/crewroster/http/Body;"⟩ : MethodName) (head1 (Jvm.Cond.code (⟨"com/example/crewroster/crewroster/http/Body", "of", "([BJ)Lcom/example/crewroster/crewroster/http/Body;"⟩ : MethodName) prog_14_method_2_code 3 (some (.object "com/example/crewroster/crewroster/http/Body")) :: ws) ({ frames := 3, cells := 3, slots := 16, locals := 56 } : Room)) (fun a U => a = #[(.ref a1), (.long q2)] ∧ Z.Warmed39 U.vm ∧ U.heap = h0) (fun _ _ _ _ _ => True) (fun _ U o U' => ∃ v L, o = .returned v ∧ Q5 Z q2 z_a1 h0 n0 v U'.heap L ∧ FrameEnd U o U' L ({ frames := 3, cells := 3, slots := 16, locals := 56 } : Room).cells ({ frames := 3, cells := 3, slots := 16, locals := 56 } : Room).slots) := by
  by_cases hc3 : (lcmpW q2 (0 : Int64)) = (0 : Int32)
  · exact rm5_f l Z a0 hw ws a1 q2 cl_a1 z_a1 k vs dv wN wK clK h0 n0 Z0 V Ex hq h7 Ar_a1 S_a1 N_a1 S_NONE E_N F_k ArK SK F_l hc3
  · exact rm5_t l Z a0 hw ws a1 q2 cl_a1 z_a1 k vs dv wN wK clK h0 n0 Z0 V Ex hq h7 Ar_a1 S_a1 N_a1 S_NONE E_N F_k ArK SK F_l hc3
set_option maxRecDepth 65536 in
set_option maxHeartbeats 40000000 in
theorem tn0_12_36_t {p : Program} {l : Launch} {e : Env} {R : Room} {s : State} {m : MethodId} {args : Array Value} {below : List Frame} {meth : Method} {c : Code} {T0 : State} {locs : List Loc} {cells slots : Nat} {Z : State} {a0 : Array Value} {h0 : Heap} (s0 : Slot) (j1 : Int64) (i3 : Int32) (s4 : Slot) (s5 : Slot) (s6 : Slot) (s7 : Slot) (s8 : Slot) (s9 : Slot) (s12 : Slot) (s13 : Slot) (s14 : Slot) (s15 : Slot) (s16 : Slot) (s17 : Slot) (s18 : Slot) (s19 : Slot)
    (X0 : Stand p l e R s m args below meth c T0 locs cells slots) (hx : p.tables.exec = Jvm.exec) (hZ : Z.Warmed39 s.vm) (hw : ∀ d ∈ tables_1, d.before a0 Z = true) (hby : c.code = code) (hml : c.maxLocals = 20) (hown : s.vm.findClass "com/example/crewroster/crewroster/http/BodyIsWholePinLaw" = some m.cls) (e0 : T0.heap = h0) (hc15 : (i3 &&& (1 : Int32)) = (0 : Int32)) :
    ∃ (T' : State), Stand p l e R s m args below meth c T' locs cells slots ∧ T'.heap = h0 ∧
      ∀ target, Steps p.tables e below (T'.setTop (mkF m 36 #[s0, .val (.long j1), .second, .val (.int i3), s4, s5, s6, s7, s8, s9, .val (.long j1), .second, s12, s13, s14, s15, s16, s17, s18, s19] [])) target → Steps p.tables e below (T0.setTop (mkF m 12 #[s0, .val (.long j1), .second, .val (.int i3), s4, s5, s6, s7, s8, s9, .unset, .unset, s12, s13, s14, s15, s16, s17, s18, s19] [])) target := by

  refine ⟨T0, X0, e0, fun target kt => ?_⟩
  show Steps p.tables e below (T0.setTop (mkF m 12 #[s0, .val (.long j1), .second, .val (.int i3), s4, s5, s6, s7, s8, s9, .unset, .unset, s12, s13, s14, s15, s16, s17, s18, s19] [])) _
  refine XS.iloadN X0.here hx rfl (hb hby at_12) rfl ?_
  show Steps p.tables e below (T0.setTop (mkF m 13 #[s0, .val (.long j1), .second, .val (.int i3), s4, s5, s6, s7, s8, s9, .unset, .unset, s12, s13, s14, s15, s16, s17, s18, s19] [(.int i3)])) _
  refine XS.iconst X0.here hx rfl (hb hby at_13) ?_
  show Steps p.tables e below (T0.setTop (mkF m 14 #[s0, .val (.long j1), .second, .val (.int i3), s4, s5, s6, s7, s8, s9, .unset, .unset, s12, s13, s14, s15, s16, s17, s18, s19] [(.int (1 : Int32)), (.int i3)])) _
  refine XS.iand X0.here hx rfl (hb hby at_14) rfl ?_
  show Steps p.tables e below (T0.setTop (mkF m 15 #[s0, .val (.long j1), .second, .val (.int i3), s4, s5, s6, s7, s8, s9, .unset, .unset, s12, s13, s14, s15, s16, s17, s18, s19] [(.int (i3 &&& (1 : Int32)))])) _
  refine XS.ifYes X0.here hx rfl (pc0 := 15) (pc' := 33) rfl (hb hby at_15) rfl ((if0 _ _).trans (teq hc15).1) (by decide) (by decide) ?_
  show Steps p.tables e below (T0.setTop (mkF m 33 #[s0, .val (.long j1), .second, .val (.int i3), s4, s5, s6, s7, s8, s9, .unset, .unset, s12, s13, s14, s15, s16, s17, s18, s19] [])) _
  refine XS.lloadN X0.here hx rfl (hb hby at_33) rfl ?_
  show Steps p.tables e below (T0.setTop (mkF m 34 #[s0, .val (.long j1), .second, .val (.int i3), s4, s5, s6, s7, s8, s9, .unset, .unset, s12, s13, s14, s15, s16, s17, s18, s19] [(.long j1)])) _
  refine XS.lstore X0.here hx rfl (hb hby at_34) rfl (l' := #[s0, .val (.long j1), .second, .val (.int i3), s4, s5, s6, s7, s8, s9, .val (.long j1), .second, s12, s13, s14, s15, s16, s17, s18, s19]) rfl ?_
  exact kt
set_option maxRecDepth 65536 in
set_option maxHeartbeats 40000000 in
theorem tn0_12_36_f {p : Program} {l : Launch} {e : Env} {R : Room} {s : State} {m : MethodId} {args : Array Value} {below : List Frame} {meth : Method} {c : Code} {T0 : State} {locs : List Loc} {cells slots : Nat} {Z : State} {a0 : Array Value} {h0 : Heap} (s0 : Slot) (j1 : Int64) (i3 : Int32) (s4 : Slot) (s5 : Slot) (s6 : Slot) (s7 : Slot) (i8 : Int32) (s9 : Slot) (s12 : Slot) (s13 : Slot) (s14 : Slot) (s15 : Slot) (s16 : Slot) (s17 : Slot) (s18 : Slot) (s19 : Slot)
    (X0 : Stand p l e R s m args below meth c T0 locs cells slots) (hx : p.tables.exec = Jvm.exec) (hZ : Z.Warmed39 s.vm) (hw : ∀ d ∈ tables_1, d.before a0 Z = true) (hby : c.code = code) (hml : c.maxLocals = 20) (hown : s.vm.findClass "com/example/crewroster/crewroster/http/BodyIsWholePinLaw" = some m.cls) (e0 : T0.heap = h0) (hc15 : ¬ ((i3 &&& (1 : Int32)) = (0 : Int32))) :
    ∃ (T' : State), Stand p l e R s m args below meth c T' locs cells slots ∧ T'.heap = h0 ∧
      ∀ target, Steps p.tables e below (T'.setTop (mkF m 36 #[s0, .val (.long j1), .second, .val (.int i3), s4, s5, s6, s7, .val (.int i8), s9, .val (.long (((i8.toInt64) + (((i3 >>> ((1 : Int32) &&& 31)) &&& (3 : Int32)).toInt64)) - (1 : Int64))), .second, s12, s13, s14, s15, s16, s17, s18, s19] [])) target → Steps p.tables e below (T0.setTop (mkF m 12 #[s0, .val (.long j1), .second, .val (.int i3), s4, s5, s6, s7, .val (.int i8), s9, .unset, .unset, s12, s13, s14, s15, s16, s17, s18, s19] [])) target := by

  refine ⟨T0, X0, e0, fun target kt => ?_⟩
  show Steps p.tables e below (T0.setTop (mkF m 12 #[s0, .val (.long j1), .second, .val (.int i3), s4, s5, s6, s7, .val (.int i8), s9, .unset, .unset, s12, s13, s14, s15, s16, s17, s18, s19] [])) _
  refine XS.iloadN X0.here hx rfl (hb hby at_12) rfl ?_
  show Steps p.tables e below (T0.setTop (mkF m 13 #[s0, .val (.long j1), .second, .val (.int i3), s4, s5, s6, s7, .val (.int i8), s9, .unset, .unset, s12, s13, s14, s15, s16, s17, s18, s19] [(.int i3)])) _
  refine XS.iconst X0.here hx rfl (hb hby at_13) ?_
  show Steps p.tables e below (T0.setTop (mkF m 14 #[s0, .val (.long j1), .second, .val (.int i3), s4, s5, s6, s7, .val (.int i8), s9, .unset, .unset, s12, s13, s14, s15, s16, s17, s18, s19] [(.int (1 : Int32)), (.int i3)])) _
  refine XS.iand X0.here hx rfl (hb hby at_14) rfl ?_
  show Steps p.tables e below (T0.setTop (mkF m 15 #[s0, .val (.long j1), .second, .val (.int i3), s4, s5, s6, s7, .val (.int i8), s9, .unset, .unset, s12, s13, s14, s15, s16, s17, s18, s19] [(.int (i3 &&& (1 : Int32)))])) _
  refine XS.ifNo X0.here hx rfl (hb hby at_15) rfl ((if0 _ _).trans (feq hc15).1) ?_
  show Steps p.tables e below (T0.setTop (mkF m 18 #[s0, .val (.long j1), .second, .val (.int i3), s4, s5, s6, s7, .val (.int i8), s9, .unset, .unset, s12, s13, s14, s15, s16, s17, s18, s19] [])) _
  refine XS.iload X0.here hx rfl (hb hby at_18) rfl ?_
  show Steps p.tables e below (T0.setTop (mkF m 20 #[s0, .val (.long j1), .second, .val (.int i3), s4, s5, s6, s7, .val (.int i8), s9, .unset, .unset, s12, s13, s14, s15, s16, s17, s18, s19] [(.int i8)])) _
  refine XS.i2l X0.here hx rfl (hb hby at_20) rfl ?_
  show Steps p.tables e below (T0.setTop (mkF m 21 #[s0, .val (.long j1), .second, .val (.int i3), s4, s5, s6, s7, .val (.int i8), s9, .unset, .unset, s12, s13, s14, s15, s16, s17, s18, s19] [(.long (i8.toInt64))])) _
  refine XS.iloadN X0.here hx rfl (hb hby at_21) rfl ?_
  show Steps p.tables e below (T0.setTop (mkF m 22 #[s0, .val (.long j1), .second, .val (.int i3), s4, s5, s6, s7, .val (.int i8), s9, .unset, .unset, s12, s13, s14, s15, s16, s17, s18, s19] [(.int i3), (.long (i8.toInt64))])) _
  refine XS.iconst X0.here hx rfl (hb hby at_22) ?_
  show Steps p.tables e below (T0.setTop (mkF m 23 #[s0, .val (.long j1), .second, .val (.int i3), s4, s5, s6, s7, .val (.int i8), s9, .unset, .unset, s12, s13, s14, s15, s16, s17, s18, s19] [(.int (1 : Int32)), (.int i3), (.long (i8.toInt64))])) _
  refine XS.ishr X0.here hx rfl (hb hby at_23) rfl ?_
  show Steps p.tables e below (T0.setTop (mkF m 24 #[s0, .val (.long j1), .second, .val (.int i3), s4, s5, s6, s7, .val (.int i8), s9, .unset, .unset, s12, s13, s14, s15, s16, s17, s18, s19] [(.int (i3 >>> ((1 : Int32) &&& 31))), (.long (i8.toInt64))])) _
  refine XS.iconst X0.here hx rfl (hb hby at_24) ?_
  show Steps p.tables e below (T0.setTop (mkF m 25 #[s0, .val (.long j1), .second, .val (.int i3), s4, s5, s6, s7, .val (.int i8), s9, .unset, .unset, s12, s13, s14, s15, s16, s17, s18, s19] [(.int (3 : Int32)), (.int (i3 >>> ((1 : Int32) &&& 31))), (.long (i8.toInt64))])) _
  refine XS.iand X0.here hx rfl (hb hby at_25) rfl ?_
  show Steps p.tables e below (T0.setTop (mkF m 26 #[s0, .val (.long j1), .second, .val (.int i3), s4, s5, s6, s7, .val (.int i8), s9, .unset, .unset, s12, s13, s14, s15, s16, s17, s18, s19] [(.int ((i3 >>> ((1 : Int32) &&& 31)) &&& (3 : Int32))), (.long (i8.toInt64))])) _
  refine XS.i2l X0.here hx rfl (hb hby at_26) rfl ?_
  show Steps p.tables e below (T0.setTop (mkF m 27 #[s0, .val (.long j1), .second, .val (.int i3), s4, s5, s6, s7, .val (.int i8), s9, .unset, .unset, s12, s13, s14, s15, s16, s17, s18, s19] [(.long (((i3 >>> ((1 : Int32) &&& 31)) &&& (3 : Int32)).toInt64)), (.long (i8.toInt64))])) _
  refine XS.ladd X0.here hx rfl (hb hby at_27) rfl ?_
  show Steps p.tables e below (T0.setTop (mkF m 28 #[s0, .val (.long j1), .second, .val (.int i3), s4, s5, s6, s7, .val (.int i8), s9, .unset, .unset, s12, s13, s14, s15, s16, s17, s18, s19] [(.long ((i8.toInt64) + (((i3 >>> ((1 : Int32) &&& 31)) &&& (3 : Int32)).toInt64)))])) _
  refine XS.lconst X0.here hx rfl (hb hby at_28) ?_
  show Steps p.tables e below (T0.setTop (mkF m 29 #[s0, .val (.long j1), .second, .val (.int i3), s4, s5, s6, s7, .val (.int i8), s9, .unset, .unset, s12, s13, s14, s15, s16, s17, s18, s19] [(.long (1 : Int64)), (.long ((i8.toInt64) + (((i3 >>> ((1 : Int32) &&& 31)) &&& (3 : Int32)).toInt64)))])) _
  refine XS.lsub X0.here hx rfl (hb hby at_29) rfl ?_
  show Steps p.tables e below (T0.setTop (mkF m 30 #[s0, .val (.long j1), .second, .val (.int i3), s4, s5, s6, s7, .val (.int i8), s9, .unset, .unset, s12, s13, s14, s15, s16, s17, s18, s19] [(.long (((i8.toInt64) + (((i3 >>> ((1 : Int32) &&& 31)) &&& (3 : Int32)).toInt64)) - (1 : Int64)))])) _
  refine XS.goto X0.here hx rfl (pc0 := 30) (pc' := 34) rfl (hb hby at_30) (by decide) (by decide) ?_
  show Steps p.tables e below (T0.setTop (mkF m 34 #[s0, .val (.long j1), .second, .val (.int i3), s4, s5, s6, s7, .val (.int i8), s9, .unset, .unset, s12, s13, s14, s15, s16, s17, s18, s19] [(.long (((i8.toInt64) + (((i3 >>> ((1 : Int32) &&& 31)) &&& (3 : Int32)).toInt64)) - (1 : Int64)))])) _
  refine XS.lstore X0.here hx rfl (hb hby at_34) rfl (l' := #[s0, .val (.long j1), .second, .val (.int i3), s4, s5, s6, s7, .val (.int i8), s9, .val (.long (((i8.toInt64) + (((i3 >>> ((1 : Int32) &&& 31)) &&& (3 : Int32)).toInt64)) - (1 : Int64))), .second, s12, s13, s14, s15, s16, s17, s18, s19]) rfl ?_
  exact kt
def own_s0_12_10 (j1 : Int64) (i3 : Int32) (i8 : Int32) : Int64 := (if (i3 &&& (1 : Int32)) = (0 : Int32) then j1 else (((i8.toInt64) + (((i3 >>> ((1 : Int32) &&& 31)) &&& (3 : Int32)).toInt64)) - (1 : Int64)))
set_option maxRecDepth 65536 in
theorem seg0_12_36 {p : Program} {l : Launch} {e : Env} {R : Room} {s : State} {m : MethodId} {args : Array Value} {below : List Frame} {meth : Method} {c : Code} {T0 : State} {locs : List Loc} {cells slots : Nat} {Z : State} {a0 : Array Value} {h0 : Heap} (s0 : Slot) (j1 : Int64) (i3 : Int32) (s4 : Slot) (s5 : Slot) (s6 : Slot) (s7 : Slot) (i8 : Int32) (s9 : Slot) (s12 : Slot) (s13 : Slot) (s14 : Slot) (s15 : Slot) (s16 : Slot) (s17 : Slot) (s18 : Slot) (s19 : Slot)
    (X0 : Stand p l e R s m args below meth c T0 locs cells slots) (hx : p.tables.exec = Jvm.exec) (hZ : Z.Warmed39 s.vm) (hw : ∀ d ∈ tables_1, d.before a0 Z = true) (hby : c.code = code) (hml : c.maxLocals = 20) (hown : s.vm.findClass "com/example/crewroster/crewroster/http/BodyIsWholePinLaw" = some m.cls) (e0 : T0.heap = h0) :
    ∃ (T' : State), Stand p l e R s m args below meth c T' locs cells slots ∧ T'.heap = h0 ∧
      ∀ target, Steps p.tables e below (T'.setTop (mkF m 36 #[s0, .val (.long j1), .second, .val (.int i3), s4, s5, s6, s7, .val (.int i8), s9, .val (.long (own_s0_12_10 j1 i3 i8)), .second, s12, s13, s14, s15, s16, s17, s18, s19] [])) target → Steps p.tables e below (T0.setTop (mkF m 12 #[s0, .val (.long j1), .second, .val (.int i3), s4, s5, s6, s7, .val (.int i8), s9, .unset, .unset, s12, s13, s14, s15, s16, s17, s18, s19] [])) target := by
  by_cases hc15 : (i3 &&& (1 : Int32)) = (0 : Int32)
  · simp only [own_s0_12_10, if_pos hc15]
    exact tn0_12_36_t (s0) j1 i3 (s4) (s5) (s6) (s7) (.val (.int i8)) (s9) (s12) (s13) (s14) (s15) (s16) (s17) (s18) (s19) X0 hx hZ hw hby hml hown e0 hc15
  · simp only [own_s0_12_10, if_neg hc15]
    exact tn0_12_36_f (s0) j1 i3 (s4) (s5) (s6) (s7) i8 (s9) (s12) (s13) (s14) (s15) (s16) (s17) (s18) (s19) X0 hx hZ hw hby hml hown e0 hc15
set_option maxRecDepth 65536 in
set_option maxHeartbeats 40000000 in
theorem tn0_91_117_t {p : Program} {l : Launch} {e : Env} {R : Room} {s : State} {m : MethodId} {args : Array Value} {below : List Frame} {meth : Method} {c : Code} {T0 : State} {locs : List Loc} {cells slots : Nat} {Z : State} {a0 : Array Value} {h0 : Heap} (s0 : Slot) (s1 : Slot) (s2 : Slot) (s3 : Slot) (s4 : Slot) (i5 : Int32) (j6 : Int64) (s8 : Slot) (s9 : Slot) (s10 : Slot) (s11 : Slot) (s12 : Slot) (s13 : Slot) (s14 : Slot) (s15 : Slot) (s18 : Slot) (s19 : Slot)
    (X0 : Stand p l e R s m args below meth c T0 locs cells slots) (hx : p.tables.exec = Jvm.exec) (hZ : Z.Warmed39 s.vm) (hw : ∀ d ∈ tables_1, d.before a0 Z = true) (hby : c.code = code) (hml : c.maxLocals = 20) (hown : s.vm.findClass "com/example/crewroster/crewroster/http/BodyIsWholePinLaw" = some m.cls) (e0 : T0.heap = h0) (hc95 : (i5 &&& (1 : Int32)) = (0 : Int32)) :
    ∃ (T' : State), Stand p l e R s m args below meth c T' locs cells slots ∧ T'.heap = h0 ∧
      ∀ target, Steps p.tables e below (T'.setTop (mkF m 117 #[s0, s1, s2, s3, s4, .val (.int i5), .val (.long j6), .second, s8, s9, s10, s11, s12, s13, s14, s15, .val (.long (j6 &&& (9223372036854775807 : Int64))), .second, s18, s19] [])) target → Steps p.tables e below (T0.setTop (mkF m 91 #[s0, s1, s2, s3, s4, .val (.int i5), .val (.long j6), .second, s8, s9, s10, s11, s12, s13, s14, s15, .unset, .unset, s18, s19] [])) target := by

  refine ⟨T0, X0, e0, fun target kt => ?_⟩
  show Steps p.tables e below (T0.setTop (mkF m 91 #[s0, s1, s2, s3, s4, .val (.int i5), .val (.long j6), .second, s8, s9, s10, s11, s12, s13, s14, s15, .unset, .unset, s18, s19] [])) _
  refine XS.iload X0.here hx rfl (hb hby at_91) rfl ?_
  show Steps p.tables e below (T0.setTop (mkF m 93 #[s0, s1, s2, s3, s4, .val (.int i5), .val (.long j6), .second, s8, s9, s10, s11, s12, s13, s14, s15, .unset, .unset, s18, s19] [(.int i5)])) _
  refine XS.iconst X0.here hx rfl (hb hby at_93) ?_
  show Steps p.tables e below (T0.setTop (mkF m 94 #[s0, s1, s2, s3, s4, .val (.int i5), .val (.long j6), .second, s8, s9, s10, s11, s12, s13, s14, s15, .unset, .unset, s18, s19] [(.int (1 : Int32)), (.int i5)])) _
  refine XS.iand X0.here hx rfl (hb hby at_94) rfl ?_
  show Steps p.tables e below (T0.setTop (mkF m 95 #[s0, s1, s2, s3, s4, .val (.int i5), .val (.long j6), .second, s8, s9, s10, s11, s12, s13, s14, s15, .unset, .unset, s18, s19] [(.int (i5 &&& (1 : Int32)))])) _
  refine XS.ifYes X0.here hx rfl (pc0 := 95) (pc' := 109) rfl (hb hby at_95) rfl ((if0 _ _).trans (teq hc95).1) (by decide) (by decide) ?_
  show Steps p.tables e below (T0.setTop (mkF m 109 #[s0, s1, s2, s3, s4, .val (.int i5), .val (.long j6), .second, s8, s9, s10, s11, s12, s13, s14, s15, .unset, .unset, s18, s19] [])) _
  refine XS.lload X0.here hx rfl (hb hby at_109) rfl ?_
  show Steps p.tables e below (T0.setTop (mkF m 111 #[s0, s1, s2, s3, s4, .val (.int i5), .val (.long j6), .second, s8, s9, s10, s11, s12, s13, s14, s15, .unset, .unset, s18, s19] [(.long j6)])) _
  refine X0.ldc2Long hx hown (mvT hZ (hw _ (List.mem_of_getElem? (i := 46) rfl))) (g := (mkF m 111 #[s0, s1, s2, s3, s4, .val (.int i5), .val (.long j6), .second, s8, s9, s10, s11, s12, s13, s14, s15, .unset, .unset, s18, s19] [(.long j6)])) rfl (hb hby at_111) _ ?_
  show Steps p.tables e below (T0.setTop (mkF m 114 #[s0, s1, s2, s3, s4, .val (.int i5), .val (.long j6), .second, s8, s9, s10, s11, s12, s13, s14, s15, .unset, .unset, s18, s19] [(.long (9223372036854775807 : Int64)), (.long j6)])) _
  refine XS.land X0.here hx rfl (hb hby at_114) rfl ?_
  show Steps p.tables e below (T0.setTop (mkF m 115 #[s0, s1, s2, s3, s4, .val (.int i5), .val (.long j6), .second, s8, s9, s10, s11, s12, s13, s14, s15, .unset, .unset, s18, s19] [(.long (j6 &&& (9223372036854775807 : Int64)))])) _
  refine XS.lstore X0.here hx rfl (hb hby at_115) rfl (l' := #[s0, s1, s2, s3, s4, .val (.int i5), .val (.long j6), .second, s8, s9, s10, s11, s12, s13, s14, s15, .val (.long (j6 &&& (9223372036854775807 : Int64))), .second, s18, s19]) rfl ?_
  exact kt
set_option maxRecDepth 65536 in
set_option maxHeartbeats 40000000 in
theorem tn0_91_117_f {p : Program} {l : Launch} {e : Env} {R : Room} {s : State} {m : MethodId} {args : Array Value} {below : List Frame} {meth : Method} {c : Code} {T0 : State} {locs : List Loc} {cells slots : Nat} {Z : State} {a0 : Array Value} {h0 : Heap} (s0 : Slot) (s1 : Slot) (s2 : Slot) (s3 : Slot) (s4 : Slot) (i5 : Int32) (j6 : Int64) (s8 : Slot) (s9 : Slot) (s10 : Slot) (s11 : Slot) (s12 : Slot) (s13 : Slot) (s14 : Slot) (s15 : Slot) (s18 : Slot) (s19 : Slot)
    (X0 : Stand p l e R s m args below meth c T0 locs cells slots) (hx : p.tables.exec = Jvm.exec) (hZ : Z.Warmed39 s.vm) (hw : ∀ d ∈ tables_1, d.before a0 Z = true) (hby : c.code = code) (hml : c.maxLocals = 20) (hown : s.vm.findClass "com/example/crewroster/crewroster/http/BodyIsWholePinLaw" = some m.cls) (e0 : T0.heap = h0) (hc95 : ¬ ((i5 &&& (1 : Int32)) = (0 : Int32))) :
    ∃ (T' : State), Stand p l e R s m args below meth c T' locs cells slots ∧ T'.heap = h0 ∧
      ∀ target, Steps p.tables e below (T'.setTop (mkF m 117 #[s0, s1, s2, s3, s4, .val (.int i5), .val (.long j6), .second, s8, s9, s10, s11, s12, s13, s14, s15, .val (.long (((i5 >>> ((1 : Int32) &&& 31)) &&& (15 : Int32)).toInt64)), .second, s18, s19] [])) target → Steps p.tables e below (T0.setTop (mkF m 91 #[s0, s1, s2, s3, s4, .val (.int i5), .val (.long j6), .second, s8, s9, s10, s11, s12, s13, s14, s15, .unset, .unset, s18, s19] [])) target := by

  refine ⟨T0, X0, e0, fun target kt => ?_⟩
  show Steps p.tables e below (T0.setTop (mkF m 91 #[s0, s1, s2, s3, s4, .val (.int i5), .val (.long j6), .second, s8, s9, s10, s11, s12, s13, s14, s15, .unset, .unset, s18, s19] [])) _
  refine XS.iload X0.here hx rfl (hb hby at_91) rfl ?_
  show Steps p.tables e below (T0.setTop (mkF m 93 #[s0, s1, s2, s3, s4, .val (.int i5), .val (.long j6), .second, s8, s9, s10, s11, s12, s13, s14, s15, .unset, .unset, s18, s19] [(.int i5)])) _
  refine XS.iconst X0.here hx rfl (hb hby at_93) ?_
  show Steps p.tables e below (T0.setTop (mkF m 94 #[s0, s1, s2, s3, s4, .val (.int i5), .val (.long j6), .second, s8, s9, s10, s11, s12, s13, s14, s15, .unset, .unset, s18, s19] [(.int (1 : Int32)), (.int i5)])) _
  refine XS.iand X0.here hx rfl (hb hby at_94) rfl ?_
  show Steps p.tables e below (T0.setTop (mkF m 95 #[s0, s1, s2, s3, s4, .val (.int i5), .val (.long j6), .second, s8, s9, s10, s11, s12, s13, s14, s15, .unset, .unset, s18, s19] [(.int (i5 &&& (1 : Int32)))])) _
  refine XS.ifNo X0.here hx rfl (hb hby at_95) rfl ((if0 _ _).trans (feq hc95).1) ?_
  show Steps p.tables e below (T0.setTop (mkF m 98 #[s0, s1, s2, s3, s4, .val (.int i5), .val (.long j6), .second, s8, s9, s10, s11, s12, s13, s14, s15, .unset, .unset, s18, s19] [])) _
  refine XS.iload X0.here hx rfl (hb hby at_98) rfl ?_
  show Steps p.tables e below (T0.setTop (mkF m 100 #[s0, s1, s2, s3, s4, .val (.int i5), .val (.long j6), .second, s8, s9, s10, s11, s12, s13, s14, s15, .unset, .unset, s18, s19] [(.int i5)])) _
  refine XS.iconst X0.here hx rfl (hb hby at_100) ?_
  show Steps p.tables e below (T0.setTop (mkF m 101 #[s0, s1, s2, s3, s4, .val (.int i5), .val (.long j6), .second, s8, s9, s10, s11, s12, s13, s14, s15, .unset, .unset, s18, s19] [(.int (1 : Int32)), (.int i5)])) _
  refine XS.ishr X0.here hx rfl (hb hby at_101) rfl ?_
  show Steps p.tables e below (T0.setTop (mkF m 102 #[s0, s1, s2, s3, s4, .val (.int i5), .val (.long j6), .second, s8, s9, s10, s11, s12, s13, s14, s15, .unset, .unset, s18, s19] [(.int (i5 >>> ((1 : Int32) &&& 31)))])) _
  refine XS.bipush X0.here hx rfl (hb hby at_102) ?_
  show Steps p.tables e below (T0.setTop (mkF m 104 #[s0, s1, s2, s3, s4, .val (.int i5), .val (.long j6), .second, s8, s9, s10, s11, s12, s13, s14, s15, .unset, .unset, s18, s19] [(.int (15 : Int32)), (.int (i5 >>> ((1 : Int32) &&& 31)))])) _
  refine XS.iand X0.here hx rfl (hb hby at_104) rfl ?_
  show Steps p.tables e below (T0.setTop (mkF m 105 #[s0, s1, s2, s3, s4, .val (.int i5), .val (.long j6), .second, s8, s9, s10, s11, s12, s13, s14, s15, .unset, .unset, s18, s19] [(.int ((i5 >>> ((1 : Int32) &&& 31)) &&& (15 : Int32)))])) _
  refine XS.i2l X0.here hx rfl (hb hby at_105) rfl ?_
  show Steps p.tables e below (T0.setTop (mkF m 106 #[s0, s1, s2, s3, s4, .val (.int i5), .val (.long j6), .second, s8, s9, s10, s11, s12, s13, s14, s15, .unset, .unset, s18, s19] [(.long (((i5 >>> ((1 : Int32) &&& 31)) &&& (15 : Int32)).toInt64))])) _
  refine XS.goto X0.here hx rfl (pc0 := 106) (pc' := 115) rfl (hb hby at_106) (by decide) (by decide) ?_
  show Steps p.tables e below (T0.setTop (mkF m 115 #[s0, s1, s2, s3, s4, .val (.int i5), .val (.long j6), .second, s8, s9, s10, s11, s12, s13, s14, s15, .unset, .unset, s18, s19] [(.long (((i5 >>> ((1 : Int32) &&& 31)) &&& (15 : Int32)).toInt64))])) _
  refine XS.lstore X0.here hx rfl (hb hby at_115) rfl (l' := #[s0, s1, s2, s3, s4, .val (.int i5), .val (.long j6), .second, s8, s9, s10, s11, s12, s13, s14, s15, .val (.long (((i5 >>> ((1 : Int32) &&& 31)) &&& (15 : Int32)).toInt64)), .second, s18, s19]) rfl ?_
  exact kt
def own_s0_91_16 (i5 : Int32) (j6 : Int64) : Int64 := (if (i5 &&& (1 : Int32)) = (0 : Int32) then (j6 &&& (9223372036854775807 : Int64)) else (((i5 >>> ((1 : Int32) &&& 31)) &&& (15 : Int32)).toInt64))
set_option maxRecDepth 65536 in
theorem seg0_91_117 {p : Program} {l : Launch} {e : Env} {R : Room} {s : State} {m : MethodId} {args : Array Value} {below : List Frame} {meth : Method} {c : Code} {T0 : State} {locs : List Loc} {cells slots : Nat} {Z : State} {a0 : Array Value} {h0 : Heap} (s0 : Slot) (s1 : Slot) (s2 : Slot) (s3 : Slot) (s4 : Slot) (i5 : Int32) (j6 : Int64) (s8 : Slot) (s9 : Slot) (s10 : Slot) (s11 : Slot) (s12 : Slot) (s13 : Slot) (s14 : Slot) (s15 : Slot) (s18 : Slot) (s19 : Slot)
    (X0 : Stand p l e R s m args below meth c T0 locs cells slots) (hx : p.tables.exec = Jvm.exec) (hZ : Z.Warmed39 s.vm) (hw : ∀ d ∈ tables_1, d.before a0 Z = true) (hby : c.code = code) (hml : c.maxLocals = 20) (hown : s.vm.findClass "com/example/crewroster/crewroster/http/BodyIsWholePinLaw" = some m.cls) (e0 : T0.heap = h0) :
    ∃ (T' : State), Stand p l e R s m args below meth c T' locs cells slots ∧ T'.heap = h0 ∧
      ∀ target, Steps p.tables e below (T'.setTop (mkF m 117 #[s0, s1, s2, s3, s4, .val (.int i5), .val (.long j6), .second, s8, s9, s10, s11, s12, s13, s14, s15, .val (.long (own_s0_91_16 i5 j6)), .second, s18, s19] [])) target → Steps p.tables e below (T0.setTop (mkF m 91 #[s0, s1, s2, s3, s4, .val (.int i5), .val (.long j6), .second, s8, s9, s10, s11, s12, s13, s14, s15, .unset, .unset, s18, s19] [])) target := by
  by_cases hc95 : (i5 &&& (1 : Int32)) = (0 : Int32)
  · simp only [own_s0_91_16, if_pos hc95]
    exact tn0_91_117_t (s0) (s1) (s2) (s3) (s4) i5 j6 (s8) (s9) (s10) (s11) (s12) (s13) (s14) (s15) (s18) (s19) X0 hx hZ hw hby hml hown e0 hc95
  · simp only [own_s0_91_16, if_neg hc95]
    exact tn0_91_117_f (s0) (s1) (s2) (s3) (s4) i5 j6 (s8) (s9) (s10) (s11) (s12) (s13) (s14) (s15) (s18) (s19) X0 hx hZ hw hby hml hown e0 hc95
theorem own_ext {h h' : Heap} (K : Keep h h' []) : Ext h h' := ⟨K.1, fun a c q => K.2.1 a c q List.not_mem_nil⟩
def OwnN (Z : State) (h0 : Heap) : Prop := ∃ (wN wK : Addr) (clK : Cell), Sta Z h0 "com/example/crewroster/crewroster/http/Body" "NONE" "Lcom/example/crewroster/crewroster/http/Body;" (.ref wN) ∧ Exa Z h0 wN "com/example/crewroster/crewroster/http/Body" ∧ Fld Z h0 wN "com/example/crewroster/crewroster/http/Body" "kept" "[B" (.ref wK) ∧ Arr Z h0 wK clK .byte ∧ clK.slots.size = (0 : Int32).toNatClampNeg ∧ Fld Z h0 wN "com/example/crewroster/crewroster/http/Body" "length" "J" (.long (0 : Int64))
theorem own_q (i : Int32) (j : Int64) : 0 ≤ (own_s0_91_16 i j).toInt := by
  unfold own_s0_91_16; split
  · rw [c_maskL j 9223372036854775807 63 (by decide) (by decide), show ((2 ^ 63 : Nat) : Int) = 9223372036854775808 from rfl]; omega
  · rw [c_i2l, c_mask _ 15 4 (by decide) (by decide), show ((2 ^ 4 : Nat) : Int) = 16 from rfl]; omega
theorem own_w1 {a w : Addr} {c : Cell} {z : Int32} {q : Int64} (h : lcmpW q z.toInt64 = 0) : own_f4 a w c z q = 1 := by
  rw [own_f4, if_pos ((lw_eq _ _).mpr ((lw_eq _ _).mp h).symm)]
theorem own_w0 {a w : Addr} {c : Cell} {z : Int32} {q : Int64} (h : ¬ lcmpW q z.toInt64 = 0) : own_f4 a w c z q = 0 := by
  rw [own_f4, if_neg fun k => h ((lw_eq _ _).mpr ((lw_eq _ _).mp k).symm)]
theorem own_v1 {a w : Addr} {c : Cell} {y z : Int32} {q : Int64} (I : y.toInt64 = q ↔ q.toInt ≤ z.toInt) (h : ¬ (0 : Int32) < lcmpW q z.toInt64) : own_f4 a w c y q = 1 := by
  rw [lw_gt, Int64.lt_iff_toInt_lt, c_i2l] at h
  rw [own_f4, if_pos ((lw_eq _ _).mpr (I.mpr (by omega)))]
theorem own_v0 {a w : Addr} {c : Cell} {y z : Int32} {q : Int64} (I : y.toInt64 = q ↔ q.toInt ≤ z.toInt) (h : (0 : Int32) < lcmpW q z.toInt64) : own_f4 a w c y q = 0 := by
  rw [lw_gt, Int64.lt_iff_toInt_lt, c_i2l] at h
  rw [own_f4, if_neg fun k => absurd (I.mp ((lw_eq _ _).mp k)) (by omega)]
theorem own_eqi {t : Term} {k : Int32} {args : Array Value} {first s : State} {o : Option Outcome} {idx : List Nat} (h : (Cond.eq t (.int k)).value args first o s idx = some true) : t.eval args first o idx s = some (.int k) := by
  simp only [Cond.value, Term.eval] at h
  cases ht : t.eval args first o idx s with
  | none => simp [ht] at h
  | some x => cases x <;> simp [ht] at h ⊢ <;> exact h
theorem own_eql {t : Term} {k : Int64} {args : Array Value} {first s : State} {o : Option Outcome} {idx : List Nat} (h : (Cond.eq t (.long k)).value args first o s idx = some true) : t.eval args first o idx s = some (.long k) := by
  simp only [Cond.value, Term.eval] at h
  cases ht : t.eval args first o idx s with
  | none => simp [ht] at h
  | some x => cases x <;> simp [ht] at h ⊢ <;> exact h
theorem own_len0 {args : Array Value} {s : State} {t : Term} {a : Addr} {cl : Cell} (ht : t.eval args s none [] s = some (.ref a)) (ha : s.arrayAt? a = some cl) (h : (Term.length t).eval args s none [] s = some (.int 0)) : cl.slots.size = 0 := by
  have q : cl.slots.size < 2 ^ 31 ∧ cl.slots.size.toInt32 = 0 := by simpa [Term.eval, ht, ha] using h
  have e := congrArg Int32.toInt q.2
  have r : cl.slots.size.toInt32.toInt = cl.slots.size := Int32.toInt_ofNat_of_lt q.1
  rw [r] at e
  have z : (0 : Int32).toInt = 0 := rfl
  omega
theorem pn_0 : plainName "com/example/crewroster/crewroster/http/BodyIsWholePinLaw" = true := by first | (simp [plainName, overriddenIn]; done) | decide +kernel
theorem pd_0_0 : parseMethodDescriptor "([BJ)V" = some ⟨[(.array .byte), .long], none⟩ := by decide +kernel
theorem pd_0_2 : parseMethodDescriptor "()Z" = some ⟨[], some .boolean⟩ := by decide +kernel
theorem pd_0_3 : parseMethodDescriptor "([BJ)Lcom/example/crewroster/crewroster/http/Body;" = some ⟨[(.array .byte), .long], some (.object "com/example/crewroster/crewroster/http/Body")⟩ := by decide +kernel
theorem ef_0 (m : MethodId) (x0 : Int32) (x1 : Int64) (x2 : Int32) (x3 : Int32) (x4 : Int32) (x5 : Int64) : entryFrame m #[(.int x0), (.long x1), (.int x2), (.int x3), (.int x4), (.long x5)] maxLocals = mkF m 0 #[.val (.int x0), .val (.long x1), .second, .val (.int x2), .val (.int x3), .val (.int x4), .val (.long x5), .second, .unset, .unset, .unset, .unset, .unset, .unset, .unset, .unset, .unset, .unset, .unset, .unset] [] := by first | (simp [entryFrame, mkF, argsToLocals, Value.category, maxLocals]; done) | rfl
def Q0 (Z : State) (p1 : Int32) (q2 : Int64) (p3 : Int32) (p4 : Int32) (p5 : Int32) (q6 : Int64) (h0 : Heap) (n0 : Nat) (v : Option Value) (h : Heap) (L : List Loc) : Prop := v = some (.int (1 : Int32)) ∧ Fr n0 L
set_option maxRecDepth 65536 in
set_option maxHeartbeats 40000000 in
theorem rm0_ffffff (l : Launch) (Z : State) (a0 : Array Value) (hw : ∀ d ∈ tables_1, d.before a0 Z = true) (ws : List Jvm.Cond) (p1 : Int32) (q2 : Int64) (p3 : Int32) (p4 : Int32) (p5 : Int32) (q6 : Int64) (h0 : Heap) (n0 : Nat) (Z0 : n0 ≤ h0.size) (hN : OwnN Z h0) (hc60 : (lcmpW (own_s0_12_10 q2 p3 (p1 &&& (7 : Int32))) ((p1 &&& (7 : Int32)).toInt64)) = (0 : Int32)) (hc137 : ¬ ((0 : Int32) < (lcmpW (own_s0_91_16 p5 q6) ((p4 &&& (7 : Int32)).toInt64)))) :
    MetFree l x (head1 (Jvm.Cond.code x code maxLocals ret :: ws) room_1) (fun a U => a = #[(.int p1), (.long q2), (.int p3), (.int p4), (.int p5), (.long q6)] ∧ Z.Warmed39 U.vm ∧ U.heap = h0) (fun _ _ _ _ _ => True) (fun _ U o U' => ∃ v L, o = .returned v ∧ Q0 Z p1 q2 p3 p4 p5 q6 h0 n0 v U'.heap L ∧ FrameEnd U o U' L room_1.cells room_1.slots) := by
  refine MetFree.of_bodySF (plainFor_of_name pn_0) hisR ?_
  intro p e s m args below meth c s₁ Bd hml0 hP hK
  obtain ⟨rfl, hZ, hh⟩ := hP
  have hx := Bd.exec
  have hby := Bd.bytes
  have hml : c.maxLocals = 20 := hml0
  have hown : s.vm.findClass "com/example/crewroster/crewroster/http/BodyIsWholePinLaw" = some m.cls := findClass_of_methodNamed Bd.named
  have hnm := (name_of_methodNamed Bd.named Bd.method).1
  have X0 : Stand p l e room_1 s m #[(.int p1), (.long q2), (.int p3), (.int p4), (.int p5), (.long q6)] below meth c s₁ [] 0 0 := Stand.of_body Bd
  have e0 : s₁.heap = h0 := by rw [← hh, Bd.state]; rfl
  have N0 := Fr.nil n0
  obtain ⟨wN, wK, clK, S_N, E_N, F_k, ArK, SK, F_l⟩ := hN
  have pre0 : ∀ t, Steps p.tables e below (s₁.setTop (mkF m 0 #[.val (.int p1), .val (.long q2), .second, .val (.int p3), .val (.int p4), .val (.int p5), .val (.long q6), .second, .unset, .unset, .unset, .unset, .unset, .unset, .unset, .unset, .unset, .unset, .unset, .unset] [])) t → Steps p.tables e below (s₁.setTop (entryFrame m #[(.int p1), (.long q2), (.int p3), (.int p4), (.int p5), (.long q6)] maxLocals)) t := fun t k => castTop (ef_0 m p1 q2 p3 p4 p5 q6) k
  obtain ⟨T7, h7, k7, X7, e7, E7, A7, Ex7, st7⟩ := newPE X0 hx hZ (hw _ (List.mem_of_getElem? (i := 0) rfl)) e0 (g := (mkF m 8 #[.val (.int p1), .val (.long q2), .second, .val (.int p3), .val (.int p4), .val (.int p5), .val (.long q6), .second, .val (.int (p1 &&& (7 : Int32))), .unset, .unset, .unset, .unset, .unset, .unset, .unset, .unset, .unset, .unset, .unset] [(.int (p1 &&& (7 : Int32)))])) rfl (hb hby at_8) rfl (own_nn (own_and7 p1).1) (cap := 7) (own_cap (own_and7 p1).2) (by decide) (by decide) (by decide) (ad := "[B") rfl
  obtain ⟨b7, g7⟩ : ∃ z, z = h0.size := ⟨_, rfl⟩
  rw [← g7] at A7 Ex7 st7
  have V_b7 := Arv.new A7 (own_nn (own_and7 p1).1)
  have g_b7 : n0 ≤ b7 := Nat.le_trans Z0 (Nat.le_of_eq g7.symm)
  have sz_b7 : h0.size ≤ b7 := (Nat.le_trans (Keep.refl h0 []).1 (Nat.le_of_eq g7.symm))
  have K7 : Keep h0 h7 [] := (Keep.refl h0 []).ext E7
  obtain ⟨T8, X8, e8, st8⟩ := seg0_12_36 (.val (.int p1)) q2 p3 (.val (.int p4)) (.val (.int p5)) (.val (.long q6)) (.second) (p1 &&& (7 : Int32)) (.val (.ref b7)) (.unset) (.unset) (.unset) (.unset) (.unset) (.unset) (.unset) (.unset) X7 hx hZ hw hby hml hown e7
  obtain ⟨T9, h9, X9, e9, E9, A9, D9, -, st9⟩ := newO X8 hx hZ hown (hw _ (List.mem_of_getElem? (i := 1) rfl)) (hw _ (List.mem_of_getElem? (i := 2) rfl)) (hw _ (List.mem_of_getElem? (i := 3) rfl)) e8 (g := (mkF m 36 #[.val (.int p1), .val (.long q2), .second, .val (.int p3), .val (.int p4), .val (.int p5), .val (.long q6), .second, .val (.int (p1 &&& (7 : Int32))), .val (.ref b7), .val (.long (own_s0_12_10 q2 p3 (p1 &&& (7 : Int32)))), .second, .unset, .unset, .unset, .unset, .unset, .unset, .unset, .unset] [])) rfl (hb hby at_36) (by decide) (by decide)
  obtain ⟨b9, g9⟩ : ∃ z, z = h7.size := ⟨_, rfl⟩
  rw [← g9] at A9 D9 st9
  have F_kept_b9 : Fld Z h9 b9 "com/example/crewroster/crewroster/http/Body" "kept" "[B" .null := D9 (Or.inr (hw _ (List.mem_of_getElem? (i := 16) rfl))) (ty := (.array .byte)) (by decide)
  have F_length_b9 : Fld Z h9 b9 "com/example/crewroster/crewroster/http/Body" "length" "J" (.long (0 : Int64)) := D9 (Or.inr (hw _ (List.mem_of_getElem? (i := 18) rfl))) (ty := .long) (by decide)
  have E_b9 := A9
  have g_b9 : n0 ≤ b9 := Nat.le_trans (Nat.le_trans Z0 E7.1) (Nat.le_of_eq g9.symm)
  have sz_b9 : h0.size ≤ b9 := (Nat.le_trans K7.1 (Nat.le_of_eq g9.symm))
  have K9 : Keep h0 h9 [] := K7.ext E9
  obtain ⟨_, _, ⟨T10, L10, k10, n10⟩, -, X10, ⟨Lc10, hQ10, l10, y10, z10⟩, st10⟩ := X9.specialBack hx (y := (⟨"com/example/crewroster/crewroster/http/Body", "<init>", "([BJ)V"⟩ : MethodName)) rfl hown (mvT hZ (hw _ (List.mem_of_getElem? (i := 4) rfl))) (mvT hZ (hw _ (List.mem_of_getElem? (i := 5) rfl))) (mvT hZ (hw _ (List.mem_of_getElem? (i := 6) rfl))) (by decide) (backOf (W := 1) (rm1 l Z a0 hw [] b9 b7 (own_s0_12_10 q2 p3 (p1 &&& (7 : Int32))) .null (.long (0 : Int64)) h9 n0 (Nat.le_trans (Nat.le_trans Z0 E7.1) E9.1) E_b9 F_kept_b9 g_b9 F_length_b9) hZ (hw _ (List.mem_of_getElem? (i := 6) rfl)) (hw _ (List.mem_of_getElem? (i := 3) rfl)) (by decide) (by decide)) (g := (mkF m 44 #[.val (.int p1), .val (.long q2), .second, .val (.int p3), .val (.int p4), .val (.int p5), .val (.long q6), .second, .val (.int (p1 &&& (7 : Int32))), .val (.ref b7), .val (.long (own_s0_12_10 q2 p3 (p1 &&& (7 : Int32)))), .second, .unset, .unset, .unset, .unset, .unset, .unset, .unset, .unset] [(.long (own_s0_12_10 q2 p3 (p1 &&& (7 : Int32)))), (.ref b7), (.ref b9), (.ref b9)])) rfl (by rw [hml]; rfl) (Steps.refl _) (a := b9) (argsL := [(.ref b7), (.long (own_s0_12_10 q2 p3 (p1 &&& (7 : Int32))))]) (rest := [(.ref b9)]) (lenOf pd_0_0 rfl) rfl (by show 2 * 0 + _ ≤ _; exact Nat.le_of_eq rfl) (hb hby at_44) (fun _ _ => ⟨rfl, e9, (by decide : 2 + 0 ≤ _), (by decide : 9 + 0 ≤ _)⟩)
  dsimp only [Pt.U, Pt.locs, Pt.cells, Pt.slots] at X10 l10 y10 z10 st10 hQ10
  have y10' : k10 = 2 := y10
  have z10' : n10 = 9 := z10
  clear y10 z10
  subst y10' z10'
  obtain ⟨rfl, N10q, Kq10, Eq10, Fk10, Fl10⟩ := hQ10
  have N10 : Fr n0 L10 := by rw [l10]; exact Fr.app N0 N10q
  have Kc10 : Keep h0 T10.heap [] := K9.trans Kq10 (fun x hx => by simp only [List.mem_cons, List.not_mem_nil, or_false] at hx; rcases hx with rfl <;> first | exact Or.inr sz_b9)
  obtain ⟨cq11, kq11, q11a, q11b, q11c⟩ := isOf hZ rfl Eq10
  obtain ⟨clx12, Arx12, -, Sx12, Nx12, -, -⟩ := id ((V_b7.ext E9).keep Kq10 (by simp only [List.mem_cons, List.not_mem_nil, or_false, not_or]; exact (Nat.ne_of_lt (Nat.lt_of_lt_of_le V_b7.lt (Nat.le_of_eq g9.symm)))))
  obtain ⟨_, _, ⟨T11, L11, k11, n11⟩, -, X11, ⟨Lc11, hQ11, l11, y11, z11⟩, st11⟩ := X10.virtualBack hx (y := (⟨"com/example/crewroster/crewroster/http/Body", "isWhole", "()Z"⟩ : MethodName)) (z := (⟨"com/example/crewroster/crewroster/http/Body", "isWhole", "()Z"⟩ : MethodName)) hown (mvT hZ (hw _ (List.mem_of_getElem? (i := 19) rfl))) (mvT hZ (hw _ (List.mem_of_getElem? (i := 20) rfl))) (notFace_of_selects (args := #[]) (mvT hZ (hw _ (List.mem_of_getElem? (i := 22) rfl)))) (mvT hZ (hw _ (List.mem_of_getElem? (i := 22) rfl))) (mvT hZ (hw _ (List.mem_of_getElem? (i := 21) rfl))) (by decide) (backOf (W := 0) (rm4 l Z a0 hw [] b9 b7 clx12 (p1 &&& (7 : Int32)) (own_s0_12_10 q2 p3 (p1 &&& (7 : Int32))) T10.heap n0 (Nat.le_trans (Nat.le_trans (Nat.le_trans Z0 E7.1) E9.1) Kq10.1) Fk10 Arx12 Sx12 Nx12 Fl10) hZ (hw _ (List.mem_of_getElem? (i := 23) rfl)) (hw _ (List.mem_of_getElem? (i := 3) rfl)) (by decide) (by decide)) q11a q11c (g := (mkF m 51 #[.val (.int p1), .val (.long q2), .second, .val (.int p3), .val (.int p4), .val (.int p5), .val (.long q6), .second, .val (.int (p1 &&& (7 : Int32))), .val (.ref b7), .val (.long (own_s0_12_10 q2 p3 (p1 &&& (7 : Int32)))), .second, .val (.ref b9), .unset, .unset, .unset, .unset, .unset, .unset, .unset] [(.ref b9)])) rfl (by rw [hml]; rfl) (Steps.refl _) (argsL := []) (rest := []) (lenOf pd_0_2 rfl) rfl (by show 2 * 0 + _ ≤ _; exact Nat.le_of_eq rfl) (hb hby at_51) (fun _ _ => ⟨rfl, rfl, (by decide : 2 + 0 ≤ _), (by decide : 9 + 0 ≤ _)⟩)
  dsimp only [Pt.U, Pt.locs, Pt.cells, Pt.slots] at X11 l11 y11 z11 st11 hQ11
  have y11' : k11 = 2 := y11
  have z11' : n11 = 9 := z11
  clear y11 z11
  subst y11' z11'
  obtain ⟨rfl, N11q, e11q0⟩ := hQ11
  have e11q : T11.heap = T10.heap := e11q0
  have N11 : Fr n0 L11 := by rw [l11]; exact Fr.app N10 N11q
  obtain ⟨T13, h13, k13, X13, e13, E13, A13, Ex13, st13⟩ := newPE X11 hx hZ (hw _ (List.mem_of_getElem? (i := 0) rfl)) e11q (g := (mkF m 87 #[.val (.int p1), .val (.long q2), .second, .val (.int p3), .val (.int p4), .val (.int p5), .val (.long q6), .second, .val (.int (p1 &&& (7 : Int32))), .val (.ref b7), .val (.long (own_s0_12_10 q2 p3 (p1 &&& (7 : Int32)))), .second, .val (.ref b9), .val (.int (1 : Int32)), .val (.int (p4 &&& (7 : Int32))), .unset, .unset, .unset, .unset, .unset] [(.int (p4 &&& (7 : Int32)))])) rfl (hb hby at_87) rfl (own_nn (own_and7 p4).1) (cap := 7) (own_cap (own_and7 p4).2) (by decide) (by decide) (by decide) (ad := "[B") rfl
  obtain ⟨b13, g13⟩ : ∃ z, z = T10.heap.size := ⟨_, rfl⟩
  rw [← g13] at A13 Ex13 st13
  have V_b13 := Arv.new A13 (own_nn (own_and7 p4).1)
  have g_b13 : n0 ≤ b13 := Nat.le_trans (Nat.le_trans (Nat.le_trans (Nat.le_trans Z0 E7.1) E9.1) Kq10.1) (Nat.le_of_eq g13.symm)
  have sz_b13 : h0.size ≤ b13 := (Nat.le_trans Kc10.1 (Nat.le_of_eq g13.symm))
  have K13 : Keep h0 h13 [] := Kc10.ext E13
  obtain ⟨T14, X14, e14, st14⟩ := seg0_91_117 (.val (.int p1)) (.val (.long q2)) (.second) (.val (.int p3)) (.val (.int p4)) p5 q6 (.val (.int (p1 &&& (7 : Int32)))) (.val (.ref b7)) (.val (.long (own_s0_12_10 q2 p3 (p1 &&& (7 : Int32))))) (.second) (.val (.ref b9)) (.val (.int (1 : Int32))) (.val (.int (p4 &&& (7 : Int32)))) (.val (.ref b13)) (.unset) (.unset) X13 hx hZ hw hby hml hown e13
  obtain ⟨clx16, Arx16, -, Sx16, Nx16, -, -⟩ := id V_b13
  obtain ⟨_, _, ⟨T15, L15, k15, n15⟩, -, X15, ⟨Lc15, hQ15, l15, y15, z15⟩, st15⟩ := Jvm.LawKit.callS X14 hx (y := (⟨"com/example/crewroster/crewroster/http/Body", "of", "([BJ)Lcom/example/crewroster/crewroster/http/Body;"⟩ : MethodName)) hown (mvT hZ (hw _ (List.mem_of_getElem? (i := 24) rfl))) (mvT hZ (hw _ (List.mem_of_getElem? (i := 25) rfl))) (mvT hZ (hw _ (List.mem_of_getElem? (i := 3) rfl))) (mvT hZ (hw _ (List.mem_of_getElem? (i := 26) rfl))) (by decide) (backOf (W := 0) (rm5 l Z a0 hw [] b13 (own_s0_91_16 p5 q6) clx16 (p4 &&& (7 : Int32)) k13 [] (.int (0 : Int32)) wN wK clK h13 n0 (Nat.le_trans (Nat.le_trans (Nat.le_trans (Nat.le_trans Z0 E7.1) E9.1) Kq10.1) E13.1) V_b13 Ex13 (own_q _ _) (own_and7 _).2 Arx16 Sx16 Nx16 (S_N.ext (own_ext K13)) (E_N.ext (own_ext K13)) (F_k.ext (own_ext K13)) (ArK.ext (own_ext K13)) SK (F_l.ext (own_ext K13))) hZ (hw _ (List.mem_of_getElem? (i := 26) rfl)) (hw _ (List.mem_of_getElem? (i := 3) rfl)) (by decide) (by decide)) (g := (mkF m 121 #[.val (.int p1), .val (.long q2), .second, .val (.int p3), .val (.int p4), .val (.int p5), .val (.long q6), .second, .val (.int (p1 &&& (7 : Int32))), .val (.ref b7), .val (.long (own_s0_12_10 q2 p3 (p1 &&& (7 : Int32)))), .second, .val (.ref b9), .val (.int (1 : Int32)), .val (.int (p4 &&& (7 : Int32))), .val (.ref b13), .val (.long (own_s0_91_16 p5 q6)), .second, .unset, .unset] [(.long (own_s0_91_16 p5 q6)), (.ref b13)])) rfl (by rw [hml]; rfl) (argsL := [(.ref b13), (.long (own_s0_91_16 p5 q6))]) (rest := []) (lenOf pd_0_3 rfl) rfl (by show 2 * 0 + _ ≤ _; exact Nat.le_of_eq rfl) (hb hby at_121) (fun _ _ => ⟨rfl, e14, (by decide : 3 + 3 ≤ _), (by decide : 16 + 16 ≤ _)⟩)
  dsimp only [Pt.U, Pt.locs, Pt.cells, Pt.slots] at X15 l15 y15 z15 st15 hQ15
  have y15' : k15 = 6 := y15
  have z15' : n15 = 32 := z15
  clear y15 z15
  subst y15' z15'
  obtain ⟨r15, wr15, cr15, yr15, rfl, N15q, Kq15, Er15, Fkr15, Arr15, Sr15, Nr15, Flr15, Ir15⟩ := hQ15
  have N15 : Fr n0 L15 := by rw [l15]; exact Fr.app N11 N15q
  have Kc15 : Keep h0 T15.heap [] := K13.trans Kq15 (fun x hx => absurd hx List.not_mem_nil)
  obtain ⟨cq17, kq17, q17a, q17b, q17c⟩ := isOf hZ rfl Er15
  obtain ⟨_, _, ⟨T17, L17, k17, n17⟩, -, X17, ⟨Lc17, hQ17, l17, y17, z17⟩, st17⟩ := X15.virtualBack hx (y := (⟨"com/example/crewroster/crewroster/http/Body", "isWhole", "()Z"⟩ : MethodName)) (z := (⟨"com/example/crewroster/crewroster/http/Body", "isWhole", "()Z"⟩ : MethodName)) hown (mvT hZ (hw _ (List.mem_of_getElem? (i := 19) rfl))) (mvT hZ (hw _ (List.mem_of_getElem? (i := 20) rfl))) (notFace_of_selects (args := #[]) (mvT hZ (hw _ (List.mem_of_getElem? (i := 22) rfl)))) (mvT hZ (hw _ (List.mem_of_getElem? (i := 22) rfl))) (mvT hZ (hw _ (List.mem_of_getElem? (i := 21) rfl))) (by decide) (backOf (W := 0) (rm4 l Z a0 hw [] r15 wr15 cr15 yr15 (own_s0_91_16 p5 q6) T15.heap n0 (Nat.le_trans (Nat.le_trans (Nat.le_trans (Nat.le_trans (Nat.le_trans Z0 E7.1) E9.1) Kq10.1) E13.1) Kq15.1) Fkr15 Arr15 Sr15 Nr15 Flr15) hZ (hw _ (List.mem_of_getElem? (i := 23) rfl)) (hw _ (List.mem_of_getElem? (i := 3) rfl)) (by decide) (by decide)) q17a q17c (g := (mkF m 128 #[.val (.int p1), .val (.long q2), .second, .val (.int p3), .val (.int p4), .val (.int p5), .val (.long q6), .second, .val (.int (p1 &&& (7 : Int32))), .val (.ref b7), .val (.long (own_s0_12_10 q2 p3 (p1 &&& (7 : Int32)))), .second, .val (.ref b9), .val (.int (1 : Int32)), .val (.int (p4 &&& (7 : Int32))), .val (.ref b13), .val (.long (own_s0_91_16 p5 q6)), .second, .val (.ref r15), .unset] [(.ref r15)])) rfl (by rw [hml]; rfl) (Steps.refl _) (argsL := []) (rest := []) (lenOf pd_0_2 rfl) rfl (by show 2 * 0 + _ ≤ _; exact Nat.le_of_eq rfl) (hb hby at_128) (fun _ _ => ⟨rfl, rfl, (by decide : 6 + 0 ≤ _), (by decide : 32 + 0 ≤ _)⟩)
  dsimp only [Pt.U, Pt.locs, Pt.cells, Pt.slots] at X17 l17 y17 z17 st17 hQ17
  have y17' : k17 = 6 := y17
  have z17' : n17 = 32 := z17
  clear y17 z17
  subst y17' z17'
  obtain ⟨rfl, N17q, e17q0⟩ := hQ17
  have e17q : T17.heap = T15.heap := e17q0
  have N17 : Fr n0 L17 := by rw [l17]; exact Fr.app N15 N17q
  obtain ⟨fs, hr, hrun, hended, hW, hsame⟩ := X17.leave (v := some (.int (1 : Int32))) (fun h => by rw [Bd.returns] at h; cases h)
  refine ⟨_, _, pre0 _ ?_, hrun, hended, _, _, rfl, ?_, ⟨_, rfl⟩, hW, hsame.mono (by decide) (by decide)⟩
  · show Steps p.tables e below (s₁.setTop (mkF m 0 #[.val (.int p1), .val (.long q2), .second, .val (.int p3), .val (.int p4), .val (.int p5), .val (.long q6), .second, .unset, .unset, .unset, .unset, .unset, .unset, .unset, .unset, .unset, .unset, .unset, .unset] [])) _
    refine XS.iloadN X0.here hx rfl (hb hby at_0) rfl ?_
    show Steps p.tables e below (s₁.setTop (mkF m 1 #[.val (.int p1), .val (.long q2), .second, .val (.int p3), .val (.int p4), .val (.int p5), .val (.long q6), .second, .unset, .unset, .unset, .unset, .unset, .unset, .unset, .unset, .unset, .unset, .unset, .unset] [(.int p1)])) _
    refine XS.bipush X0.here hx rfl (hb hby at_1) ?_
    show Steps p.tables e below (s₁.setTop (mkF m 3 #[.val (.int p1), .val (.long q2), .second, .val (.int p3), .val (.int p4), .val (.int p5), .val (.long q6), .second, .unset, .unset, .unset, .unset, .unset, .unset, .unset, .unset, .unset, .unset, .unset, .unset] [(.int (7 : Int32)), (.int p1)])) _
    refine XS.iand X0.here hx rfl (hb hby at_3) rfl ?_
    show Steps p.tables e below (s₁.setTop (mkF m 4 #[.val (.int p1), .val (.long q2), .second, .val (.int p3), .val (.int p4), .val (.int p5), .val (.long q6), .second, .unset, .unset, .unset, .unset, .unset, .unset, .unset, .unset, .unset, .unset, .unset, .unset] [(.int (p1 &&& (7 : Int32)))])) _
    refine XS.istore X0.here hx rfl (hb hby at_4) rfl (l' := #[.val (.int p1), .val (.long q2), .second, .val (.int p3), .val (.int p4), .val (.int p5), .val (.long q6), .second, .val (.int (p1 &&& (7 : Int32))), .unset, .unset, .unset, .unset, .unset, .unset, .unset, .unset, .unset, .unset, .unset]) rfl ?_
    show Steps p.tables e below (s₁.setTop (mkF m 6 #[.val (.int p1), .val (.long q2), .second, .val (.int p3), .val (.int p4), .val (.int p5), .val (.long q6), .second, .val (.int (p1 &&& (7 : Int32))), .unset, .unset, .unset, .unset, .unset, .unset, .unset, .unset, .unset, .unset, .unset] [])) _
    refine XS.iload X0.here hx rfl (hb hby at_6) rfl ?_
    show Steps p.tables e below (s₁.setTop (mkF m 8 #[.val (.int p1), .val (.long q2), .second, .val (.int p3), .val (.int p4), .val (.int p5), .val (.long q6), .second, .val (.int (p1 &&& (7 : Int32))), .unset, .unset, .unset, .unset, .unset, .unset, .unset, .unset, .unset, .unset, .unset] [(.int (p1 &&& (7 : Int32)))])) _
    refine st7 _ ?_
    show Steps p.tables e below (T7.setTop (mkF m 10 #[.val (.int p1), .val (.long q2), .second, .val (.int p3), .val (.int p4), .val (.int p5), .val (.long q6), .second, .val (.int (p1 &&& (7 : Int32))), .unset, .unset, .unset, .unset, .unset, .unset, .unset, .unset, .unset, .unset, .unset] [(.ref b7)])) _
    refine XS.astore X7.here hx rfl (hb hby at_10) rfl rfl (l' := #[.val (.int p1), .val (.long q2), .second, .val (.int p3), .val (.int p4), .val (.int p5), .val (.long q6), .second, .val (.int (p1 &&& (7 : Int32))), .val (.ref b7), .unset, .unset, .unset, .unset, .unset, .unset, .unset, .unset, .unset, .unset]) rfl ?_
    show Steps p.tables e below (T7.setTop (mkF m 12 #[.val (.int p1), .val (.long q2), .second, .val (.int p3), .val (.int p4), .val (.int p5), .val (.long q6), .second, .val (.int (p1 &&& (7 : Int32))), .val (.ref b7), .unset, .unset, .unset, .unset, .unset, .unset, .unset, .unset, .unset, .unset] [])) _
    refine st8 _ ?_
    show Steps p.tables e below (T8.setTop (mkF m 36 #[.val (.int p1), .val (.long q2), .second, .val (.int p3), .val (.int p4), .val (.int p5), .val (.long q6), .second, .val (.int (p1 &&& (7 : Int32))), .val (.ref b7), .val (.long (own_s0_12_10 q2 p3 (p1 &&& (7 : Int32)))), .second, .unset, .unset, .unset, .unset, .unset, .unset, .unset, .unset] [])) _
    refine st9 _ ?_
    show Steps p.tables e below (T9.setTop (mkF m 39 #[.val (.int p1), .val (.long q2), .second, .val (.int p3), .val (.int p4), .val (.int p5), .val (.long q6), .second, .val (.int (p1 &&& (7 : Int32))), .val (.ref b7), .val (.long (own_s0_12_10 q2 p3 (p1 &&& (7 : Int32)))), .second, .unset, .unset, .unset, .unset, .unset, .unset, .unset, .unset] [(.ref b9)])) _
    refine XS.dup X9.here hx rfl (hb hby at_39) rfl rfl ?_
    show Steps p.tables e below (T9.setTop (mkF m 40 #[.val (.int p1), .val (.long q2), .second, .val (.int p3), .val (.int p4), .val (.int p5), .val (.long q6), .second, .val (.int (p1 &&& (7 : Int32))), .val (.ref b7), .val (.long (own_s0_12_10 q2 p3 (p1 &&& (7 : Int32)))), .second, .unset, .unset, .unset, .unset, .unset, .unset, .unset, .unset] [(.ref b9), (.ref b9)])) _
    refine XS.aload X9.here hx rfl (hb hby at_40) rfl rfl ?_
    show Steps p.tables e below (T9.setTop (mkF m 42 #[.val (.int p1), .val (.long q2), .second, .val (.int p3), .val (.int p4), .val (.int p5), .val (.long q6), .second, .val (.int (p1 &&& (7 : Int32))), .val (.ref b7), .val (.long (own_s0_12_10 q2 p3 (p1 &&& (7 : Int32)))), .second, .unset, .unset, .unset, .unset, .unset, .unset, .unset, .unset] [(.ref b7), (.ref b9), (.ref b9)])) _
    refine XS.lload X9.here hx rfl (hb hby at_42) rfl ?_
    show Steps p.tables e below (T9.setTop (mkF m 44 #[.val (.int p1), .val (.long q2), .second, .val (.int p3), .val (.int p4), .val (.int p5), .val (.long q6), .second, .val (.int (p1 &&& (7 : Int32))), .val (.ref b7), .val (.long (own_s0_12_10 q2 p3 (p1 &&& (7 : Int32)))), .second, .unset, .unset, .unset, .unset, .unset, .unset, .unset, .unset] [(.long (own_s0_12_10 q2 p3 (p1 &&& (7 : Int32)))), (.ref b7), (.ref b9), (.ref b9)])) _
    refine st10.trans ?_
    show Steps p.tables e below (T10.setTop (mkF m 47 #[.val (.int p1), .val (.long q2), .second, .val (.int p3), .val (.int p4), .val (.int p5), .val (.long q6), .second, .val (.int (p1 &&& (7 : Int32))), .val (.ref b7), .val (.long (own_s0_12_10 q2 p3 (p1 &&& (7 : Int32)))), .second, .unset, .unset, .unset, .unset, .unset, .unset, .unset, .unset] [(.ref b9)])) _
    refine XS.astore X10.here hx rfl (hb hby at_47) rfl rfl (l' := #[.val (.int p1), .val (.long q2), .second, .val (.int p3), .val (.int p4), .val (.int p5), .val (.long q6), .second, .val (.int (p1 &&& (7 : Int32))), .val (.ref b7), .val (.long (own_s0_12_10 q2 p3 (p1 &&& (7 : Int32)))), .second, .val (.ref b9), .unset, .unset, .unset, .unset, .unset, .unset, .unset]) rfl ?_
    show Steps p.tables e below (T10.setTop (mkF m 49 #[.val (.int p1), .val (.long q2), .second, .val (.int p3), .val (.int p4), .val (.int p5), .val (.long q6), .second, .val (.int (p1 &&& (7 : Int32))), .val (.ref b7), .val (.long (own_s0_12_10 q2 p3 (p1 &&& (7 : Int32)))), .second, .val (.ref b9), .unset, .unset, .unset, .unset, .unset, .unset, .unset] [])) _
    refine XS.aload X10.here hx rfl (hb hby at_49) rfl rfl ?_
    show Steps p.tables e below (T10.setTop (mkF m 51 #[.val (.int p1), .val (.long q2), .second, .val (.int p3), .val (.int p4), .val (.int p5), .val (.long q6), .second, .val (.int (p1 &&& (7 : Int32))), .val (.ref b7), .val (.long (own_s0_12_10 q2 p3 (p1 &&& (7 : Int32)))), .second, .val (.ref b9), .unset, .unset, .unset, .unset, .unset, .unset, .unset] [(.ref b9)])) _
    refine st11.trans ?_
    show Steps p.tables e below (T11.setTop (mkF m 54 #[.val (.int p1), .val (.long q2), .second, .val (.int p3), .val (.int p4), .val (.int p5), .val (.long q6), .second, .val (.int (p1 &&& (7 : Int32))), .val (.ref b7), .val (.long (own_s0_12_10 q2 p3 (p1 &&& (7 : Int32)))), .second, .val (.ref b9), .unset, .unset, .unset, .unset, .unset, .unset, .unset] [(.int (own_f4 b9 b7 clx12 (p1 &&& (7 : Int32)) (own_s0_12_10 q2 p3 (p1 &&& (7 : Int32)))))])) _
    refine XS.lload X11.here hx rfl (hb hby at_54) rfl ?_
    show Steps p.tables e below (T11.setTop (mkF m 56 #[.val (.int p1), .val (.long q2), .second, .val (.int p3), .val (.int p4), .val (.int p5), .val (.long q6), .second, .val (.int (p1 &&& (7 : Int32))), .val (.ref b7), .val (.long (own_s0_12_10 q2 p3 (p1 &&& (7 : Int32)))), .second, .val (.ref b9), .unset, .unset, .unset, .unset, .unset, .unset, .unset] [(.long (own_s0_12_10 q2 p3 (p1 &&& (7 : Int32)))), (.int (own_f4 b9 b7 clx12 (p1 &&& (7 : Int32)) (own_s0_12_10 q2 p3 (p1 &&& (7 : Int32)))))])) _
    refine XS.iload X11.here hx rfl (hb hby at_56) rfl ?_
    show Steps p.tables e below (T11.setTop (mkF m 58 #[.val (.int p1), .val (.long q2), .second, .val (.int p3), .val (.int p4), .val (.int p5), .val (.long q6), .second, .val (.int (p1 &&& (7 : Int32))), .val (.ref b7), .val (.long (own_s0_12_10 q2 p3 (p1 &&& (7 : Int32)))), .second, .val (.ref b9), .unset, .unset, .unset, .unset, .unset, .unset, .unset] [(.int (p1 &&& (7 : Int32))), (.long (own_s0_12_10 q2 p3 (p1 &&& (7 : Int32)))), (.int (own_f4 b9 b7 clx12 (p1 &&& (7 : Int32)) (own_s0_12_10 q2 p3 (p1 &&& (7 : Int32)))))])) _
    refine XS.i2l X11.here hx rfl (hb hby at_58) rfl ?_
    show Steps p.tables e below (T11.setTop (mkF m 59 #[.val (.int p1), .val (.long q2), .second, .val (.int p3), .val (.int p4), .val (.int p5), .val (.long q6), .second, .val (.int (p1 &&& (7 : Int32))), .val (.ref b7), .val (.long (own_s0_12_10 q2 p3 (p1 &&& (7 : Int32)))), .second, .val (.ref b9), .unset, .unset, .unset, .unset, .unset, .unset, .unset] [(.long ((p1 &&& (7 : Int32)).toInt64)), (.long (own_s0_12_10 q2 p3 (p1 &&& (7 : Int32)))), (.int (own_f4 b9 b7 clx12 (p1 &&& (7 : Int32)) (own_s0_12_10 q2 p3 (p1 &&& (7 : Int32)))))])) _
    refine XS.lcmp X11.here hx rfl (hb hby at_59) rfl ?_
    show Steps p.tables e below (T11.setTop (mkF m 60 #[.val (.int p1), .val (.long q2), .second, .val (.int p3), .val (.int p4), .val (.int p5), .val (.long q6), .second, .val (.int (p1 &&& (7 : Int32))), .val (.ref b7), .val (.long (own_s0_12_10 q2 p3 (p1 &&& (7 : Int32)))), .second, .val (.ref b9), .unset, .unset, .unset, .unset, .unset, .unset, .unset] [(.int (lcmpW (own_s0_12_10 q2 p3 (p1 &&& (7 : Int32))) ((p1 &&& (7 : Int32)).toInt64))), (.int (own_f4 b9 b7 clx12 (p1 &&& (7 : Int32)) (own_s0_12_10 q2 p3 (p1 &&& (7 : Int32)))))])) _
    refine XS.ifNo X11.here hx rfl (hb hby at_60) rfl ((if0 _ _).trans (teq hc60).2) ?_
    show Steps p.tables e below (T11.setTop (mkF m 63 #[.val (.int p1), .val (.long q2), .second, .val (.int p3), .val (.int p4), .val (.int p5), .val (.long q6), .second, .val (.int (p1 &&& (7 : Int32))), .val (.ref b7), .val (.long (own_s0_12_10 q2 p3 (p1 &&& (7 : Int32)))), .second, .val (.ref b9), .unset, .unset, .unset, .unset, .unset, .unset, .unset] [(.int (own_f4 b9 b7 clx12 (p1 &&& (7 : Int32)) (own_s0_12_10 q2 p3 (p1 &&& (7 : Int32)))))])) _
    refine XS.iconst X11.here hx rfl (hb hby at_63) ?_
    show Steps p.tables e below (T11.setTop (mkF m 64 #[.val (.int p1), .val (.long q2), .second, .val (.int p3), .val (.int p4), .val (.int p5), .val (.long q6), .second, .val (.int (p1 &&& (7 : Int32))), .val (.ref b7), .val (.long (own_s0_12_10 q2 p3 (p1 &&& (7 : Int32)))), .second, .val (.ref b9), .unset, .unset, .unset, .unset, .unset, .unset, .unset] [(.int (1 : Int32)), (.int (own_f4 b9 b7 clx12 (p1 &&& (7 : Int32)) (own_s0_12_10 q2 p3 (p1 &&& (7 : Int32)))))])) _
    refine XS.goto X11.here hx rfl (pc0 := 64) (pc' := 68) rfl (hb hby at_64) (by decide) (by decide) ?_
    show Steps p.tables e below (T11.setTop (mkF m 68 #[.val (.int p1), .val (.long q2), .second, .val (.int p3), .val (.int p4), .val (.int p5), .val (.long q6), .second, .val (.int (p1 &&& (7 : Int32))), .val (.ref b7), .val (.long (own_s0_12_10 q2 p3 (p1 &&& (7 : Int32)))), .second, .val (.ref b9), .unset, .unset, .unset, .unset, .unset, .unset, .unset] [(.int (1 : Int32)), (.int (own_f4 b9 b7 clx12 (p1 &&& (7 : Int32)) (own_s0_12_10 q2 p3 (p1 &&& (7 : Int32)))))])) _
    refine XS.icmpNo X11.here hx rfl (hb hby at_68) rfl (teq (own_w1 hc60 : (own_f4 b9 b7 clx12 (p1 &&& (7 : Int32)) (own_s0_12_10 q2 p3 (p1 &&& (7 : Int32)))) = (1 : Int32))).2 ?_
    show Steps p.tables e below (T11.setTop (mkF m 71 #[.val (.int p1), .val (.long q2), .second, .val (.int p3), .val (.int p4), .val (.int p5), .val (.long q6), .second, .val (.int (p1 &&& (7 : Int32))), .val (.ref b7), .val (.long (own_s0_12_10 q2 p3 (p1 &&& (7 : Int32)))), .second, .val (.ref b9), .unset, .unset, .unset, .unset, .unset, .unset, .unset] [])) _
    refine XS.iconst X11.here hx rfl (hb hby at_71) ?_
    show Steps p.tables e below (T11.setTop (mkF m 72 #[.val (.int p1), .val (.long q2), .second, .val (.int p3), .val (.int p4), .val (.int p5), .val (.long q6), .second, .val (.int (p1 &&& (7 : Int32))), .val (.ref b7), .val (.long (own_s0_12_10 q2 p3 (p1 &&& (7 : Int32)))), .second, .val (.ref b9), .unset, .unset, .unset, .unset, .unset, .unset, .unset] [(.int (1 : Int32))])) _
    refine XS.goto X11.here hx rfl (pc0 := 72) (pc' := 76) rfl (hb hby at_72) (by decide) (by decide) ?_
    show Steps p.tables e below (T11.setTop (mkF m 76 #[.val (.int p1), .val (.long q2), .second, .val (.int p3), .val (.int p4), .val (.int p5), .val (.long q6), .second, .val (.int (p1 &&& (7 : Int32))), .val (.ref b7), .val (.long (own_s0_12_10 q2 p3 (p1 &&& (7 : Int32)))), .second, .val (.ref b9), .unset, .unset, .unset, .unset, .unset, .unset, .unset] [(.int (1 : Int32))])) _
    refine XS.istore X11.here hx rfl (hb hby at_76) rfl (l' := #[.val (.int p1), .val (.long q2), .second, .val (.int p3), .val (.int p4), .val (.int p5), .val (.long q6), .second, .val (.int (p1 &&& (7 : Int32))), .val (.ref b7), .val (.long (own_s0_12_10 q2 p3 (p1 &&& (7 : Int32)))), .second, .val (.ref b9), .val (.int (1 : Int32)), .unset, .unset, .unset, .unset, .unset, .unset]) rfl ?_
    show Steps p.tables e below (T11.setTop (mkF m 78 #[.val (.int p1), .val (.long q2), .second, .val (.int p3), .val (.int p4), .val (.int p5), .val (.long q6), .second, .val (.int (p1 &&& (7 : Int32))), .val (.ref b7), .val (.long (own_s0_12_10 q2 p3 (p1 &&& (7 : Int32)))), .second, .val (.ref b9), .val (.int (1 : Int32)), .unset, .unset, .unset, .unset, .unset, .unset] [])) _
    refine XS.iload X11.here hx rfl (hb hby at_78) rfl ?_
    show Steps p.tables e below (T11.setTop (mkF m 80 #[.val (.int p1), .val (.long q2), .second, .val (.int p3), .val (.int p4), .val (.int p5), .val (.long q6), .second, .val (.int (p1 &&& (7 : Int32))), .val (.ref b7), .val (.long (own_s0_12_10 q2 p3 (p1 &&& (7 : Int32)))), .second, .val (.ref b9), .val (.int (1 : Int32)), .unset, .unset, .unset, .unset, .unset, .unset] [(.int p4)])) _
    refine XS.bipush X11.here hx rfl (hb hby at_80) ?_
    show Steps p.tables e below (T11.setTop (mkF m 82 #[.val (.int p1), .val (.long q2), .second, .val (.int p3), .val (.int p4), .val (.int p5), .val (.long q6), .second, .val (.int (p1 &&& (7 : Int32))), .val (.ref b7), .val (.long (own_s0_12_10 q2 p3 (p1 &&& (7 : Int32)))), .second, .val (.ref b9), .val (.int (1 : Int32)), .unset, .unset, .unset, .unset, .unset, .unset] [(.int (7 : Int32)), (.int p4)])) _
    refine XS.iand X11.here hx rfl (hb hby at_82) rfl ?_
    show Steps p.tables e below (T11.setTop (mkF m 83 #[.val (.int p1), .val (.long q2), .second, .val (.int p3), .val (.int p4), .val (.int p5), .val (.long q6), .second, .val (.int (p1 &&& (7 : Int32))), .val (.ref b7), .val (.long (own_s0_12_10 q2 p3 (p1 &&& (7 : Int32)))), .second, .val (.ref b9), .val (.int (1 : Int32)), .unset, .unset, .unset, .unset, .unset, .unset] [(.int (p4 &&& (7 : Int32)))])) _
    refine XS.istore X11.here hx rfl (hb hby at_83) rfl (l' := #[.val (.int p1), .val (.long q2), .second, .val (.int p3), .val (.int p4), .val (.int p5), .val (.long q6), .second, .val (.int (p1 &&& (7 : Int32))), .val (.ref b7), .val (.long (own_s0_12_10 q2 p3 (p1 &&& (7 : Int32)))), .second, .val (.ref b9), .val (.int (1 : Int32)), .val (.int (p4 &&& (7 : Int32))), .unset, .unset, .unset, .unset, .unset]) rfl ?_
    show Steps p.tables e below (T11.setTop (mkF m 85 #[.val (.int p1), .val (.long q2), .second, .val (.int p3), .val (.int p4), .val (.int p5), .val (.long q6), .second, .val (.int (p1 &&& (7 : Int32))), .val (.ref b7), .val (.long (own_s0_12_10 q2 p3 (p1 &&& (7 : Int32)))), .second, .val (.ref b9), .val (.int (1 : Int32)), .val (.int (p4 &&& (7 : Int32))), .unset, .unset, .unset, .unset, .unset] [])) _
    refine XS.iload X11.here hx rfl (hb hby at_85) rfl ?_
    show Steps p.tables e below (T11.setTop (mkF m 87 #[.val (.int p1), .val (.long q2), .second, .val (.int p3), .val (.int p4), .val (.int p5), .val (.long q6), .second, .val (.int (p1 &&& (7 : Int32))), .val (.ref b7), .val (.long (own_s0_12_10 q2 p3 (p1 &&& (7 : Int32)))), .second, .val (.ref b9), .val (.int (1 : Int32)), .val (.int (p4 &&& (7 : Int32))), .unset, .unset, .unset, .unset, .unset] [(.int (p4 &&& (7 : Int32)))])) _
    refine st13 _ ?_
    show Steps p.tables e below (T13.setTop (mkF m 89 #[.val (.int p1), .val (.long q2), .second, .val (.int p3), .val (.int p4), .val (.int p5), .val (.long q6), .second, .val (.int (p1 &&& (7 : Int32))), .val (.ref b7), .val (.long (own_s0_12_10 q2 p3 (p1 &&& (7 : Int32)))), .second, .val (.ref b9), .val (.int (1 : Int32)), .val (.int (p4 &&& (7 : Int32))), .unset, .unset, .unset, .unset, .unset] [(.ref b13)])) _
    refine XS.astore X13.here hx rfl (hb hby at_89) rfl rfl (l' := #[.val (.int p1), .val (.long q2), .second, .val (.int p3), .val (.int p4), .val (.int p5), .val (.long q6), .second, .val (.int (p1 &&& (7 : Int32))), .val (.ref b7), .val (.long (own_s0_12_10 q2 p3 (p1 &&& (7 : Int32)))), .second, .val (.ref b9), .val (.int (1 : Int32)), .val (.int (p4 &&& (7 : Int32))), .val (.ref b13), .unset, .unset, .unset, .unset]) rfl ?_
    show Steps p.tables e below (T13.setTop (mkF m 91 #[.val (.int p1), .val (.long q2), .second, .val (.int p3), .val (.int p4), .val (.int p5), .val (.long q6), .second, .val (.int (p1 &&& (7 : Int32))), .val (.ref b7), .val (.long (own_s0_12_10 q2 p3 (p1 &&& (7 : Int32)))), .second, .val (.ref b9), .val (.int (1 : Int32)), .val (.int (p4 &&& (7 : Int32))), .val (.ref b13), .unset, .unset, .unset, .unset] [])) _
    refine st14 _ ?_
    show Steps p.tables e below (T14.setTop (mkF m 117 #[.val (.int p1), .val (.long q2), .second, .val (.int p3), .val (.int p4), .val (.int p5), .val (.long q6), .second, .val (.int (p1 &&& (7 : Int32))), .val (.ref b7), .val (.long (own_s0_12_10 q2 p3 (p1 &&& (7 : Int32)))), .second, .val (.ref b9), .val (.int (1 : Int32)), .val (.int (p4 &&& (7 : Int32))), .val (.ref b13), .val (.long (own_s0_91_16 p5 q6)), .second, .unset, .unset] [])) _
    refine XS.aload X14.here hx rfl (hb hby at_117) rfl rfl ?_
    show Steps p.tables e below (T14.setTop (mkF m 119 #[.val (.int p1), .val (.long q2), .second, .val (.int p3), .val (.int p4), .val (.int p5), .val (.long q6), .second, .val (.int (p1 &&& (7 : Int32))), .val (.ref b7), .val (.long (own_s0_12_10 q2 p3 (p1 &&& (7 : Int32)))), .second, .val (.ref b9), .val (.int (1 : Int32)), .val (.int (p4 &&& (7 : Int32))), .val (.ref b13), .val (.long (own_s0_91_16 p5 q6)), .second, .unset, .unset] [(.ref b13)])) _
    refine XS.lload X14.here hx rfl (hb hby at_119) rfl ?_
    show Steps p.tables e below (T14.setTop (mkF m 121 #[.val (.int p1), .val (.long q2), .second, .val (.int p3), .val (.int p4), .val (.int p5), .val (.long q6), .second, .val (.int (p1 &&& (7 : Int32))), .val (.ref b7), .val (.long (own_s0_12_10 q2 p3 (p1 &&& (7 : Int32)))), .second, .val (.ref b9), .val (.int (1 : Int32)), .val (.int (p4 &&& (7 : Int32))), .val (.ref b13), .val (.long (own_s0_91_16 p5 q6)), .second, .unset, .unset] [(.long (own_s0_91_16 p5 q6)), (.ref b13)])) _
    refine st15 _ ?_
    show Steps p.tables e below (T15.setTop (mkF m 124 #[.val (.int p1), .val (.long q2), .second, .val (.int p3), .val (.int p4), .val (.int p5), .val (.long q6), .second, .val (.int (p1 &&& (7 : Int32))), .val (.ref b7), .val (.long (own_s0_12_10 q2 p3 (p1 &&& (7 : Int32)))), .second, .val (.ref b9), .val (.int (1 : Int32)), .val (.int (p4 &&& (7 : Int32))), .val (.ref b13), .val (.long (own_s0_91_16 p5 q6)), .second, .unset, .unset] [(.ref r15)])) _
    refine XS.astore X15.here hx rfl (hb hby at_124) rfl rfl (l' := #[.val (.int p1), .val (.long q2), .second, .val (.int p3), .val (.int p4), .val (.int p5), .val (.long q6), .second, .val (.int (p1 &&& (7 : Int32))), .val (.ref b7), .val (.long (own_s0_12_10 q2 p3 (p1 &&& (7 : Int32)))), .second, .val (.ref b9), .val (.int (1 : Int32)), .val (.int (p4 &&& (7 : Int32))), .val (.ref b13), .val (.long (own_s0_91_16 p5 q6)), .second, .val (.ref r15), .unset]) rfl ?_
    show Steps p.tables e below (T15.setTop (mkF m 126 #[.val (.int p1), .val (.long q2), .second, .val (.int p3), .val (.int p4), .val (.int p5), .val (.long q6), .second, .val (.int (p1 &&& (7 : Int32))), .val (.ref b7), .val (.long (own_s0_12_10 q2 p3 (p1 &&& (7 : Int32)))), .second, .val (.ref b9), .val (.int (1 : Int32)), .val (.int (p4 &&& (7 : Int32))), .val (.ref b13), .val (.long (own_s0_91_16 p5 q6)), .second, .val (.ref r15), .unset] [])) _
    refine XS.aload X15.here hx rfl (hb hby at_126) rfl rfl ?_
    show Steps p.tables e below (T15.setTop (mkF m 128 #[.val (.int p1), .val (.long q2), .second, .val (.int p3), .val (.int p4), .val (.int p5), .val (.long q6), .second, .val (.int (p1 &&& (7 : Int32))), .val (.ref b7), .val (.long (own_s0_12_10 q2 p3 (p1 &&& (7 : Int32)))), .second, .val (.ref b9), .val (.int (1 : Int32)), .val (.int (p4 &&& (7 : Int32))), .val (.ref b13), .val (.long (own_s0_91_16 p5 q6)), .second, .val (.ref r15), .unset] [(.ref r15)])) _
    refine st17.trans ?_
    show Steps p.tables e below (T17.setTop (mkF m 131 #[.val (.int p1), .val (.long q2), .second, .val (.int p3), .val (.int p4), .val (.int p5), .val (.long q6), .second, .val (.int (p1 &&& (7 : Int32))), .val (.ref b7), .val (.long (own_s0_12_10 q2 p3 (p1 &&& (7 : Int32)))), .second, .val (.ref b9), .val (.int (1 : Int32)), .val (.int (p4 &&& (7 : Int32))), .val (.ref b13), .val (.long (own_s0_91_16 p5 q6)), .second, .val (.ref r15), .unset] [(.int (own_f4 r15 wr15 cr15 yr15 (own_s0_91_16 p5 q6)))])) _
    refine XS.lload X17.here hx rfl (hb hby at_131) rfl ?_
    show Steps p.tables e below (T17.setTop (mkF m 133 #[.val (.int p1), .val (.long q2), .second, .val (.int p3), .val (.int p4), .val (.int p5), .val (.long q6), .second, .val (.int (p1 &&& (7 : Int32))), .val (.ref b7), .val (.long (own_s0_12_10 q2 p3 (p1 &&& (7 : Int32)))), .second, .val (.ref b9), .val (.int (1 : Int32)), .val (.int (p4 &&& (7 : Int32))), .val (.ref b13), .val (.long (own_s0_91_16 p5 q6)), .second, .val (.ref r15), .unset] [(.long (own_s0_91_16 p5 q6)), (.int (own_f4 r15 wr15 cr15 yr15 (own_s0_91_16 p5 q6)))])) _
    refine XS.iload X17.here hx rfl (hb hby at_133) rfl ?_
    show Steps p.tables e below (T17.setTop (mkF m 135 #[.val (.int p1), .val (.long q2), .second, .val (.int p3), .val (.int p4), .val (.int p5), .val (.long q6), .second, .val (.int (p1 &&& (7 : Int32))), .val (.ref b7), .val (.long (own_s0_12_10 q2 p3 (p1 &&& (7 : Int32)))), .second, .val (.ref b9), .val (.int (1 : Int32)), .val (.int (p4 &&& (7 : Int32))), .val (.ref b13), .val (.long (own_s0_91_16 p5 q6)), .second, .val (.ref r15), .unset] [(.int (p4 &&& (7 : Int32))), (.long (own_s0_91_16 p5 q6)), (.int (own_f4 r15 wr15 cr15 yr15 (own_s0_91_16 p5 q6)))])) _
    refine XS.i2l X17.here hx rfl (hb hby at_135) rfl ?_
    show Steps p.tables e below (T17.setTop (mkF m 136 #[.val (.int p1), .val (.long q2), .second, .val (.int p3), .val (.int p4), .val (.int p5), .val (.long q6), .second, .val (.int (p1 &&& (7 : Int32))), .val (.ref b7), .val (.long (own_s0_12_10 q2 p3 (p1 &&& (7 : Int32)))), .second, .val (.ref b9), .val (.int (1 : Int32)), .val (.int (p4 &&& (7 : Int32))), .val (.ref b13), .val (.long (own_s0_91_16 p5 q6)), .second, .val (.ref r15), .unset] [(.long ((p4 &&& (7 : Int32)).toInt64)), (.long (own_s0_91_16 p5 q6)), (.int (own_f4 r15 wr15 cr15 yr15 (own_s0_91_16 p5 q6)))])) _
    refine XS.lcmp X17.here hx rfl (hb hby at_136) rfl ?_
    show Steps p.tables e below (T17.setTop (mkF m 137 #[.val (.int p1), .val (.long q2), .second, .val (.int p3), .val (.int p4), .val (.int p5), .val (.long q6), .second, .val (.int (p1 &&& (7 : Int32))), .val (.ref b7), .val (.long (own_s0_12_10 q2 p3 (p1 &&& (7 : Int32)))), .second, .val (.ref b9), .val (.int (1 : Int32)), .val (.int (p4 &&& (7 : Int32))), .val (.ref b13), .val (.long (own_s0_91_16 p5 q6)), .second, .val (.ref r15), .unset] [(.int (lcmpW (own_s0_91_16 p5 q6) ((p4 &&& (7 : Int32)).toInt64))), (.int (own_f4 r15 wr15 cr15 yr15 (own_s0_91_16 p5 q6)))])) _
    refine XS.ifNo X17.here hx rfl (hb hby at_137) rfl ((if0 _ _).trans (flt hc137).2.2.1) ?_
    show Steps p.tables e below (T17.setTop (mkF m 140 #[.val (.int p1), .val (.long q2), .second, .val (.int p3), .val (.int p4), .val (.int p5), .val (.long q6), .second, .val (.int (p1 &&& (7 : Int32))), .val (.ref b7), .val (.long (own_s0_12_10 q2 p3 (p1 &&& (7 : Int32)))), .second, .val (.ref b9), .val (.int (1 : Int32)), .val (.int (p4 &&& (7 : Int32))), .val (.ref b13), .val (.long (own_s0_91_16 p5 q6)), .second, .val (.ref r15), .unset] [(.int (own_f4 r15 wr15 cr15 yr15 (own_s0_91_16 p5 q6)))])) _
    refine XS.iconst X17.here hx rfl (hb hby at_140) ?_
    show Steps p.tables e below (T17.setTop (mkF m 141 #[.val (.int p1), .val (.long q2), .second, .val (.int p3), .val (.int p4), .val (.int p5), .val (.long q6), .second, .val (.int (p1 &&& (7 : Int32))), .val (.ref b7), .val (.long (own_s0_12_10 q2 p3 (p1 &&& (7 : Int32)))), .second, .val (.ref b9), .val (.int (1 : Int32)), .val (.int (p4 &&& (7 : Int32))), .val (.ref b13), .val (.long (own_s0_91_16 p5 q6)), .second, .val (.ref r15), .unset] [(.int (1 : Int32)), (.int (own_f4 r15 wr15 cr15 yr15 (own_s0_91_16 p5 q6)))])) _
    refine XS.goto X17.here hx rfl (pc0 := 141) (pc' := 145) rfl (hb hby at_141) (by decide) (by decide) ?_
    show Steps p.tables e below (T17.setTop (mkF m 145 #[.val (.int p1), .val (.long q2), .second, .val (.int p3), .val (.int p4), .val (.int p5), .val (.long q6), .second, .val (.int (p1 &&& (7 : Int32))), .val (.ref b7), .val (.long (own_s0_12_10 q2 p3 (p1 &&& (7 : Int32)))), .second, .val (.ref b9), .val (.int (1 : Int32)), .val (.int (p4 &&& (7 : Int32))), .val (.ref b13), .val (.long (own_s0_91_16 p5 q6)), .second, .val (.ref r15), .unset] [(.int (1 : Int32)), (.int (own_f4 r15 wr15 cr15 yr15 (own_s0_91_16 p5 q6)))])) _
    refine XS.icmpNo X17.here hx rfl (hb hby at_145) rfl (teq (own_v1 Ir15 hc137 : (own_f4 r15 wr15 cr15 yr15 (own_s0_91_16 p5 q6)) = (1 : Int32))).2 ?_
    show Steps p.tables e below (T17.setTop (mkF m 148 #[.val (.int p1), .val (.long q2), .second, .val (.int p3), .val (.int p4), .val (.int p5), .val (.long q6), .second, .val (.int (p1 &&& (7 : Int32))), .val (.ref b7), .val (.long (own_s0_12_10 q2 p3 (p1 &&& (7 : Int32)))), .second, .val (.ref b9), .val (.int (1 : Int32)), .val (.int (p4 &&& (7 : Int32))), .val (.ref b13), .val (.long (own_s0_91_16 p5 q6)), .second, .val (.ref r15), .unset] [])) _
    refine XS.iconst X17.here hx rfl (hb hby at_148) ?_
    show Steps p.tables e below (T17.setTop (mkF m 149 #[.val (.int p1), .val (.long q2), .second, .val (.int p3), .val (.int p4), .val (.int p5), .val (.long q6), .second, .val (.int (p1 &&& (7 : Int32))), .val (.ref b7), .val (.long (own_s0_12_10 q2 p3 (p1 &&& (7 : Int32)))), .second, .val (.ref b9), .val (.int (1 : Int32)), .val (.int (p4 &&& (7 : Int32))), .val (.ref b13), .val (.long (own_s0_91_16 p5 q6)), .second, .val (.ref r15), .unset] [(.int (1 : Int32))])) _
    refine XS.goto X17.here hx rfl (pc0 := 149) (pc' := 153) rfl (hb hby at_149) (by decide) (by decide) ?_
    show Steps p.tables e below (T17.setTop (mkF m 153 #[.val (.int p1), .val (.long q2), .second, .val (.int p3), .val (.int p4), .val (.int p5), .val (.long q6), .second, .val (.int (p1 &&& (7 : Int32))), .val (.ref b7), .val (.long (own_s0_12_10 q2 p3 (p1 &&& (7 : Int32)))), .second, .val (.ref b9), .val (.int (1 : Int32)), .val (.int (p4 &&& (7 : Int32))), .val (.ref b13), .val (.long (own_s0_91_16 p5 q6)), .second, .val (.ref r15), .unset] [(.int (1 : Int32))])) _
    refine XS.istore X17.here hx rfl (hb hby at_153) rfl (l' := #[.val (.int p1), .val (.long q2), .second, .val (.int p3), .val (.int p4), .val (.int p5), .val (.long q6), .second, .val (.int (p1 &&& (7 : Int32))), .val (.ref b7), .val (.long (own_s0_12_10 q2 p3 (p1 &&& (7 : Int32)))), .second, .val (.ref b9), .val (.int (1 : Int32)), .val (.int (p4 &&& (7 : Int32))), .val (.ref b13), .val (.long (own_s0_91_16 p5 q6)), .second, .val (.ref r15), .val (.int (1 : Int32))]) rfl ?_
    show Steps p.tables e below (T17.setTop (mkF m 155 #[.val (.int p1), .val (.long q2), .second, .val (.int p3), .val (.int p4), .val (.int p5), .val (.long q6), .second, .val (.int (p1 &&& (7 : Int32))), .val (.ref b7), .val (.long (own_s0_12_10 q2 p3 (p1 &&& (7 : Int32)))), .second, .val (.ref b9), .val (.int (1 : Int32)), .val (.int (p4 &&& (7 : Int32))), .val (.ref b13), .val (.long (own_s0_91_16 p5 q6)), .second, .val (.ref r15), .val (.int (1 : Int32))] [])) _
    refine XS.iload X17.here hx rfl (hb hby at_155) rfl ?_
    show Steps p.tables e below (T17.setTop (mkF m 157 #[.val (.int p1), .val (.long q2), .second, .val (.int p3), .val (.int p4), .val (.int p5), .val (.long q6), .second, .val (.int (p1 &&& (7 : Int32))), .val (.ref b7), .val (.long (own_s0_12_10 q2 p3 (p1 &&& (7 : Int32)))), .second, .val (.ref b9), .val (.int (1 : Int32)), .val (.int (p4 &&& (7 : Int32))), .val (.ref b13), .val (.long (own_s0_91_16 p5 q6)), .second, .val (.ref r15), .val (.int (1 : Int32))] [(.int (1 : Int32))])) _
    refine XS.ifNo X17.here hx rfl (hb hby at_157) rfl ((if0 _ _).trans (feq (by decide : ¬ ((1 : Int32) = (0 : Int32)))).1) ?_
    show Steps p.tables e below (T17.setTop (mkF m 160 #[.val (.int p1), .val (.long q2), .second, .val (.int p3), .val (.int p4), .val (.int p5), .val (.long q6), .second, .val (.int (p1 &&& (7 : Int32))), .val (.ref b7), .val (.long (own_s0_12_10 q2 p3 (p1 &&& (7 : Int32)))), .second, .val (.ref b9), .val (.int (1 : Int32)), .val (.int (p4 &&& (7 : Int32))), .val (.ref b13), .val (.long (own_s0_91_16 p5 q6)), .second, .val (.ref r15), .val (.int (1 : Int32))] [])) _
    refine XS.iload X17.here hx rfl (hb hby at_160) rfl ?_
    show Steps p.tables e below (T17.setTop (mkF m 162 #[.val (.int p1), .val (.long q2), .second, .val (.int p3), .val (.int p4), .val (.int p5), .val (.long q6), .second, .val (.int (p1 &&& (7 : Int32))), .val (.ref b7), .val (.long (own_s0_12_10 q2 p3 (p1 &&& (7 : Int32)))), .second, .val (.ref b9), .val (.int (1 : Int32)), .val (.int (p4 &&& (7 : Int32))), .val (.ref b13), .val (.long (own_s0_91_16 p5 q6)), .second, .val (.ref r15), .val (.int (1 : Int32))] [(.int (1 : Int32))])) _
    refine XS.ifNo X17.here hx rfl (hb hby at_162) rfl ((if0 _ _).trans (feq (by decide : ¬ ((1 : Int32) = (0 : Int32)))).1) ?_
    show Steps p.tables e below (T17.setTop (mkF m 165 #[.val (.int p1), .val (.long q2), .second, .val (.int p3), .val (.int p4), .val (.int p5), .val (.long q6), .second, .val (.int (p1 &&& (7 : Int32))), .val (.ref b7), .val (.long (own_s0_12_10 q2 p3 (p1 &&& (7 : Int32)))), .second, .val (.ref b9), .val (.int (1 : Int32)), .val (.int (p4 &&& (7 : Int32))), .val (.ref b13), .val (.long (own_s0_91_16 p5 q6)), .second, .val (.ref r15), .val (.int (1 : Int32))] [])) _
    refine XS.iconst X17.here hx rfl (hb hby at_165) ?_
    show Steps p.tables e below (T17.setTop (mkF m 166 #[.val (.int p1), .val (.long q2), .second, .val (.int p3), .val (.int p4), .val (.int p5), .val (.long q6), .second, .val (.int (p1 &&& (7 : Int32))), .val (.ref b7), .val (.long (own_s0_12_10 q2 p3 (p1 &&& (7 : Int32)))), .second, .val (.ref b9), .val (.int (1 : Int32)), .val (.int (p4 &&& (7 : Int32))), .val (.ref b13), .val (.long (own_s0_91_16 p5 q6)), .second, .val (.ref r15), .val (.int (1 : Int32))] [(.int (1 : Int32))])) _
    refine XS.goto X17.here hx rfl (pc0 := 166) (pc' := 170) rfl (hb hby at_166) (by decide) (by decide) ?_
    show Steps p.tables e below (T17.setTop (mkF m 170 #[.val (.int p1), .val (.long q2), .second, .val (.int p3), .val (.int p4), .val (.int p5), .val (.long q6), .second, .val (.int (p1 &&& (7 : Int32))), .val (.ref b7), .val (.long (own_s0_12_10 q2 p3 (p1 &&& (7 : Int32)))), .second, .val (.ref b9), .val (.int (1 : Int32)), .val (.int (p4 &&& (7 : Int32))), .val (.ref b13), .val (.long (own_s0_91_16 p5 q6)), .second, .val (.ref r15), .val (.int (1 : Int32))] [(.int (1 : Int32))])) _
    exact retN X17 hx (t := .boolean) Bd.returns (by simp) (hb hby at_170) hr
  · show Q0 Z p1 q2 p3 p4 p5 q6 h0 n0 _ T17.heap _
    rw [e17q]
    exact ⟨rfl, N17⟩
set_option maxRecDepth 65536 in
set_option maxHeartbeats 40000000 in
theorem rm0_fftfff (l : Launch) (Z : State) (a0 : Array Value) (hw : ∀ d ∈ tables_1, d.before a0 Z = true) (ws : List Jvm.Cond) (p1 : Int32) (q2 : Int64) (p3 : Int32) (p4 : Int32) (p5 : Int32) (q6 : Int64) (h0 : Heap) (n0 : Nat) (Z0 : n0 ≤ h0.size) (hN : OwnN Z h0) (hc60 : (lcmpW (own_s0_12_10 q2 p3 (p1 &&& (7 : Int32))) ((p1 &&& (7 : Int32)).toInt64)) = (0 : Int32)) (hc137 : (0 : Int32) < (lcmpW (own_s0_91_16 p5 q6) ((p4 &&& (7 : Int32)).toInt64))) :
    MetFree l x (head1 (Jvm.Cond.code x code maxLocals ret :: ws) room_1) (fun a U => a = #[(.int p1), (.long q2), (.int p3), (.int p4), (.int p5), (.long q6)] ∧ Z.Warmed39 U.vm ∧ U.heap = h0) (fun _ _ _ _ _ => True) (fun _ U o U' => ∃ v L, o = .returned v ∧ Q0 Z p1 q2 p3 p4 p5 q6 h0 n0 v U'.heap L ∧ FrameEnd U o U' L room_1.cells room_1.slots) := by
  refine MetFree.of_bodySF (plainFor_of_name pn_0) hisR ?_
  intro p e s m args below meth c s₁ Bd hml0 hP hK
  obtain ⟨rfl, hZ, hh⟩ := hP
  have hx := Bd.exec
  have hby := Bd.bytes
  have hml : c.maxLocals = 20 := hml0
  have hown : s.vm.findClass "com/example/crewroster/crewroster/http/BodyIsWholePinLaw" = some m.cls := findClass_of_methodNamed Bd.named
  have hnm := (name_of_methodNamed Bd.named Bd.method).1
  have X0 : Stand p l e room_1 s m #[(.int p1), (.long q2), (.int p3), (.int p4), (.int p5), (.long q6)] below meth c s₁ [] 0 0 := Stand.of_body Bd
  have e0 : s₁.heap = h0 := by rw [← hh, Bd.state]; rfl
  have N0 := Fr.nil n0
  obtain ⟨wN, wK, clK, S_N, E_N, F_k, ArK, SK, F_l⟩ := hN
  have pre0 : ∀ t, Steps p.tables e below (s₁.setTop (mkF m 0 #[.val (.int p1), .val (.long q2), .second, .val (.int p3), .val (.int p4), .val (.int p5), .val (.long q6), .second, .unset, .unset, .unset, .unset, .unset, .unset, .unset, .unset, .unset, .unset, .unset, .unset] [])) t → Steps p.tables e below (s₁.setTop (entryFrame m #[(.int p1), (.long q2), (.int p3), (.int p4), (.int p5), (.long q6)] maxLocals)) t := fun t k => castTop (ef_0 m p1 q2 p3 p4 p5 q6) k
  obtain ⟨T7, h7, k7, X7, e7, E7, A7, Ex7, st7⟩ := newPE X0 hx hZ (hw _ (List.mem_of_getElem? (i := 0) rfl)) e0 (g := (mkF m 8 #[.val (.int p1), .val (.long q2), .second, .val (.int p3), .val (.int p4), .val (.int p5), .val (.long q6), .second, .val (.int (p1 &&& (7 : Int32))), .unset, .unset, .unset, .unset, .unset, .unset, .unset, .unset, .unset, .unset, .unset] [(.int (p1 &&& (7 : Int32)))])) rfl (hb hby at_8) rfl (own_nn (own_and7 p1).1) (cap := 7) (own_cap (own_and7 p1).2) (by decide) (by decide) (by decide) (ad := "[B") rfl
  obtain ⟨b7, g7⟩ : ∃ z, z = h0.size := ⟨_, rfl⟩
  rw [← g7] at A7 Ex7 st7
  have V_b7 := Arv.new A7 (own_nn (own_and7 p1).1)
  have g_b7 : n0 ≤ b7 := Nat.le_trans Z0 (Nat.le_of_eq g7.symm)
  have sz_b7 : h0.size ≤ b7 := (Nat.le_trans (Keep.refl h0 []).1 (Nat.le_of_eq g7.symm))
  have K7 : Keep h0 h7 [] := (Keep.refl h0 []).ext E7
  obtain ⟨T8, X8, e8, st8⟩ := seg0_12_36 (.val (.int p1)) q2 p3 (.val (.int p4)) (.val (.int p5)) (.val (.long q6)) (.second) (p1 &&& (7 : Int32)) (.val (.ref b7)) (.unset) (.unset) (.unset) (.unset) (.unset) (.unset) (.unset) (.unset) X7 hx hZ hw hby hml hown e7
  obtain ⟨T9, h9, X9, e9, E9, A9, D9, -, st9⟩ := newO X8 hx hZ hown (hw _ (List.mem_of_getElem? (i := 1) rfl)) (hw _ (List.mem_of_getElem? (i := 2) rfl)) (hw _ (List.mem_of_getElem? (i := 3) rfl)) e8 (g := (mkF m 36 #[.val (.int p1), .val (.long q2), .second, .val (.int p3), .val (.int p4), .val (.int p5), .val (.long q6), .second, .val (.int (p1 &&& (7 : Int32))), .val (.ref b7), .val (.long (own_s0_12_10 q2 p3 (p1 &&& (7 : Int32)))), .second, .unset, .unset, .unset, .unset, .unset, .unset, .unset, .unset] [])) rfl (hb hby at_36) (by decide) (by decide)
  obtain ⟨b9, g9⟩ : ∃ z, z = h7.size := ⟨_, rfl⟩
  rw [← g9] at A9 D9 st9
  have F_kept_b9 : Fld Z h9 b9 "com/example/crewroster/crewroster/http/Body" "kept" "[B" .null := D9 (Or.inr (hw _ (List.mem_of_getElem? (i := 16) rfl))) (ty := (.array .byte)) (by decide)
  have F_length_b9 : Fld Z h9 b9 "com/example/crewroster/crewroster/http/Body" "length" "J" (.long (0 : Int64)) := D9 (Or.inr (hw _ (List.mem_of_getElem? (i := 18) rfl))) (ty := .long) (by decide)
  have E_b9 := A9
  have g_b9 : n0 ≤ b9 := Nat.le_trans (Nat.le_trans Z0 E7.1) (Nat.le_of_eq g9.symm)
  have sz_b9 : h0.size ≤ b9 := (Nat.le_trans K7.1 (Nat.le_of_eq g9.symm))
  have K9 : Keep h0 h9 [] := K7.ext E9
  obtain ⟨_, _, ⟨T10, L10, k10, n10⟩, -, X10, ⟨Lc10, hQ10, l10, y10, z10⟩, st10⟩ := X9.specialBack hx (y := (⟨"com/example/crewroster/crewroster/http/Body", "<init>", "([BJ)V"⟩ : MethodName)) rfl hown (mvT hZ (hw _ (List.mem_of_getElem? (i := 4) rfl))) (mvT hZ (hw _ (List.mem_of_getElem? (i := 5) rfl))) (mvT hZ (hw _ (List.mem_of_getElem? (i := 6) rfl))) (by decide) (backOf (W := 1) (rm1 l Z a0 hw [] b9 b7 (own_s0_12_10 q2 p3 (p1 &&& (7 : Int32))) .null (.long (0 : Int64)) h9 n0 (Nat.le_trans (Nat.le_trans Z0 E7.1) E9.1) E_b9 F_kept_b9 g_b9 F_length_b9) hZ (hw _ (List.mem_of_getElem? (i := 6) rfl)) (hw _ (List.mem_of_getElem? (i := 3) rfl)) (by decide) (by decide)) (g := (mkF m 44 #[.val (.int p1), .val (.long q2), .second, .val (.int p3), .val (.int p4), .val (.int p5), .val (.long q6), .second, .val (.int (p1 &&& (7 : Int32))), .val (.ref b7), .val (.long (own_s0_12_10 q2 p3 (p1 &&& (7 : Int32)))), .second, .unset, .unset, .unset, .unset, .unset, .unset, .unset, .unset] [(.long (own_s0_12_10 q2 p3 (p1 &&& (7 : Int32)))), (.ref b7), (.ref b9), (.ref b9)])) rfl (by rw [hml]; rfl) (Steps.refl _) (a := b9) (argsL := [(.ref b7), (.long (own_s0_12_10 q2 p3 (p1 &&& (7 : Int32))))]) (rest := [(.ref b9)]) (lenOf pd_0_0 rfl) rfl (by show 2 * 0 + _ ≤ _; exact Nat.le_of_eq rfl) (hb hby at_44) (fun _ _ => ⟨rfl, e9, (by decide : 2 + 0 ≤ _), (by decide : 9 + 0 ≤ _)⟩)
  dsimp only [Pt.U, Pt.locs, Pt.cells, Pt.slots] at X10 l10 y10 z10 st10 hQ10
  have y10' : k10 = 2 := y10
  have z10' : n10 = 9 := z10
  clear y10 z10
  subst y10' z10'
  obtain ⟨rfl, N10q, Kq10, Eq10, Fk10, Fl10⟩ := hQ10
  have N10 : Fr n0 L10 := by rw [l10]; exact Fr.app N0 N10q
  have Kc10 : Keep h0 T10.heap [] := K9.trans Kq10 (fun x hx => by simp only [List.mem_cons, List.not_mem_nil, or_false] at hx; rcases hx with rfl <;> first | exact Or.inr sz_b9)
  obtain ⟨cq11, kq11, q11a, q11b, q11c⟩ := isOf hZ rfl Eq10
  obtain ⟨clx12, Arx12, -, Sx12, Nx12, -, -⟩ := id ((V_b7.ext E9).keep Kq10 (by simp only [List.mem_cons, List.not_mem_nil, or_false, not_or]; exact (Nat.ne_of_lt (Nat.lt_of_lt_of_le V_b7.lt (Nat.le_of_eq g9.symm)))))
  obtain ⟨_, _, ⟨T11, L11, k11, n11⟩, -, X11, ⟨Lc11, hQ11, l11, y11, z11⟩, st11⟩ := X10.virtualBack hx (y := (⟨"com/example/crewroster/crewroster/http/Body", "isWhole", "()Z"⟩ : MethodName)) (z := (⟨"com/example/crewroster/crewroster/http/Body", "isWhole", "()Z"⟩ : MethodName)) hown (mvT hZ (hw _ (List.mem_of_getElem? (i := 19) rfl))) (mvT hZ (hw _ (List.mem_of_getElem? (i := 20) rfl))) (notFace_of_selects (args := #[]) (mvT hZ (hw _ (List.mem_of_getElem? (i := 22) rfl)))) (mvT hZ (hw _ (List.mem_of_getElem? (i := 22) rfl))) (mvT hZ (hw _ (List.mem_of_getElem? (i := 21) rfl))) (by decide) (backOf (W := 0) (rm4 l Z a0 hw [] b9 b7 clx12 (p1 &&& (7 : Int32)) (own_s0_12_10 q2 p3 (p1 &&& (7 : Int32))) T10.heap n0 (Nat.le_trans (Nat.le_trans (Nat.le_trans Z0 E7.1) E9.1) Kq10.1) Fk10 Arx12 Sx12 Nx12 Fl10) hZ (hw _ (List.mem_of_getElem? (i := 23) rfl)) (hw _ (List.mem_of_getElem? (i := 3) rfl)) (by decide) (by decide)) q11a q11c (g := (mkF m 51 #[.val (.int p1), .val (.long q2), .second, .val (.int p3), .val (.int p4), .val (.int p5), .val (.long q6), .second, .val (.int (p1 &&& (7 : Int32))), .val (.ref b7), .val (.long (own_s0_12_10 q2 p3 (p1 &&& (7 : Int32)))), .second, .val (.ref b9), .unset, .unset, .unset, .unset, .unset, .unset, .unset] [(.ref b9)])) rfl (by rw [hml]; rfl) (Steps.refl _) (argsL := []) (rest := []) (lenOf pd_0_2 rfl) rfl (by show 2 * 0 + _ ≤ _; exact Nat.le_of_eq rfl) (hb hby at_51) (fun _ _ => ⟨rfl, rfl, (by decide : 2 + 0 ≤ _), (by decide : 9 + 0 ≤ _)⟩)
  dsimp only [Pt.U, Pt.locs, Pt.cells, Pt.slots] at X11 l11 y11 z11 st11 hQ11
  have y11' : k11 = 2 := y11
  have z11' : n11 = 9 := z11
  clear y11 z11
  subst y11' z11'
  obtain ⟨rfl, N11q, e11q0⟩ := hQ11
  have e11q : T11.heap = T10.heap := e11q0
  have N11 : Fr n0 L11 := by rw [l11]; exact Fr.app N10 N11q
  obtain ⟨T13, h13, k13, X13, e13, E13, A13, Ex13, st13⟩ := newPE X11 hx hZ (hw _ (List.mem_of_getElem? (i := 0) rfl)) e11q (g := (mkF m 87 #[.val (.int p1), .val (.long q2), .second, .val (.int p3), .val (.int p4), .val (.int p5), .val (.long q6), .second, .val (.int (p1 &&& (7 : Int32))), .val (.ref b7), .val (.long (own_s0_12_10 q2 p3 (p1 &&& (7 : Int32)))), .second, .val (.ref b9), .val (.int (1 : Int32)), .val (.int (p4 &&& (7 : Int32))), .unset, .unset, .unset, .unset, .unset] [(.int (p4 &&& (7 : Int32)))])) rfl (hb hby at_87) rfl (own_nn (own_and7 p4).1) (cap := 7) (own_cap (own_and7 p4).2) (by decide) (by decide) (by decide) (ad := "[B") rfl
  obtain ⟨b13, g13⟩ : ∃ z, z = T10.heap.size := ⟨_, rfl⟩
  rw [← g13] at A13 Ex13 st13
  have V_b13 := Arv.new A13 (own_nn (own_and7 p4).1)
  have g_b13 : n0 ≤ b13 := Nat.le_trans (Nat.le_trans (Nat.le_trans (Nat.le_trans Z0 E7.1) E9.1) Kq10.1) (Nat.le_of_eq g13.symm)
  have sz_b13 : h0.size ≤ b13 := (Nat.le_trans Kc10.1 (Nat.le_of_eq g13.symm))
  have K13 : Keep h0 h13 [] := Kc10.ext E13
  obtain ⟨T14, X14, e14, st14⟩ := seg0_91_117 (.val (.int p1)) (.val (.long q2)) (.second) (.val (.int p3)) (.val (.int p4)) p5 q6 (.val (.int (p1 &&& (7 : Int32)))) (.val (.ref b7)) (.val (.long (own_s0_12_10 q2 p3 (p1 &&& (7 : Int32))))) (.second) (.val (.ref b9)) (.val (.int (1 : Int32))) (.val (.int (p4 &&& (7 : Int32)))) (.val (.ref b13)) (.unset) (.unset) X13 hx hZ hw hby hml hown e13
  obtain ⟨clx16, Arx16, -, Sx16, Nx16, -, -⟩ := id V_b13
  obtain ⟨_, _, ⟨T15, L15, k15, n15⟩, -, X15, ⟨Lc15, hQ15, l15, y15, z15⟩, st15⟩ := Jvm.LawKit.callS X14 hx (y := (⟨"com/example/crewroster/crewroster/http/Body", "of", "([BJ)Lcom/example/crewroster/crewroster/http/Body;"⟩ : MethodName)) hown (mvT hZ (hw _ (List.mem_of_getElem? (i := 24) rfl))) (mvT hZ (hw _ (List.mem_of_getElem? (i := 25) rfl))) (mvT hZ (hw _ (List.mem_of_getElem? (i := 3) rfl))) (mvT hZ (hw _ (List.mem_of_getElem? (i := 26) rfl))) (by decide) (backOf (W := 0) (rm5 l Z a0 hw [] b13 (own_s0_91_16 p5 q6) clx16 (p4 &&& (7 : Int32)) k13 [] (.int (0 : Int32)) wN wK clK h13 n0 (Nat.le_trans (Nat.le_trans (Nat.le_trans (Nat.le_trans Z0 E7.1) E9.1) Kq10.1) E13.1) V_b13 Ex13 (own_q _ _) (own_and7 _).2 Arx16 Sx16 Nx16 (S_N.ext (own_ext K13)) (E_N.ext (own_ext K13)) (F_k.ext (own_ext K13)) (ArK.ext (own_ext K13)) SK (F_l.ext (own_ext K13))) hZ (hw _ (List.mem_of_getElem? (i := 26) rfl)) (hw _ (List.mem_of_getElem? (i := 3) rfl)) (by decide) (by decide)) (g := (mkF m 121 #[.val (.int p1), .val (.long q2), .second, .val (.int p3), .val (.int p4), .val (.int p5), .val (.long q6), .second, .val (.int (p1 &&& (7 : Int32))), .val (.ref b7), .val (.long (own_s0_12_10 q2 p3 (p1 &&& (7 : Int32)))), .second, .val (.ref b9), .val (.int (1 : Int32)), .val (.int (p4 &&& (7 : Int32))), .val (.ref b13), .val (.long (own_s0_91_16 p5 q6)), .second, .unset, .unset] [(.long (own_s0_91_16 p5 q6)), (.ref b13)])) rfl (by rw [hml]; rfl) (argsL := [(.ref b13), (.long (own_s0_91_16 p5 q6))]) (rest := []) (lenOf pd_0_3 rfl) rfl (by show 2 * 0 + _ ≤ _; exact Nat.le_of_eq rfl) (hb hby at_121) (fun _ _ => ⟨rfl, e14, (by decide : 3 + 3 ≤ _), (by decide : 16 + 16 ≤ _)⟩)
  dsimp only [Pt.U, Pt.locs, Pt.cells, Pt.slots] at X15 l15 y15 z15 st15 hQ15
  have y15' : k15 = 6 := y15
  have z15' : n15 = 32 := z15
  clear y15 z15
  subst y15' z15'
  obtain ⟨r15, wr15, cr15, yr15, rfl, N15q, Kq15, Er15, Fkr15, Arr15, Sr15, Nr15, Flr15, Ir15⟩ := hQ15
  have N15 : Fr n0 L15 := by rw [l15]; exact Fr.app N11 N15q
  have Kc15 : Keep h0 T15.heap [] := K13.trans Kq15 (fun x hx => absurd hx List.not_mem_nil)
  obtain ⟨cq17, kq17, q17a, q17b, q17c⟩ := isOf hZ rfl Er15
  obtain ⟨_, _, ⟨T17, L17, k17, n17⟩, -, X17, ⟨Lc17, hQ17, l17, y17, z17⟩, st17⟩ := X15.virtualBack hx (y := (⟨"com/example/crewroster/crewroster/http/Body", "isWhole", "()Z"⟩ : MethodName)) (z := (⟨"com/example/crewroster/crewroster/http/Body", "isWhole", "()Z"⟩ : MethodName)) hown (mvT hZ (hw _ (List.mem_of_getElem? (i := 19) rfl))) (mvT hZ (hw _ (List.mem_of_getElem? (i := 20) rfl))) (notFace_of_selects (args := #[]) (mvT hZ (hw _ (List.mem_of_getElem? (i := 22) rfl)))) (mvT hZ (hw _ (List.mem_of_getElem? (i := 22) rfl))) (mvT hZ (hw _ (List.mem_of_getElem? (i := 21) rfl))) (by decide) (backOf (W := 0) (rm4 l Z a0 hw [] r15 wr15 cr15 yr15 (own_s0_91_16 p5 q6) T15.heap n0 (Nat.le_trans (Nat.le_trans (Nat.le_trans (Nat.le_trans (Nat.le_trans Z0 E7.1) E9.1) Kq10.1) E13.1) Kq15.1) Fkr15 Arr15 Sr15 Nr15 Flr15) hZ (hw _ (List.mem_of_getElem? (i := 23) rfl)) (hw _ (List.mem_of_getElem? (i := 3) rfl)) (by decide) (by decide)) q17a q17c (g := (mkF m 128 #[.val (.int p1), .val (.long q2), .second, .val (.int p3), .val (.int p4), .val (.int p5), .val (.long q6), .second, .val (.int (p1 &&& (7 : Int32))), .val (.ref b7), .val (.long (own_s0_12_10 q2 p3 (p1 &&& (7 : Int32)))), .second, .val (.ref b9), .val (.int (1 : Int32)), .val (.int (p4 &&& (7 : Int32))), .val (.ref b13), .val (.long (own_s0_91_16 p5 q6)), .second, .val (.ref r15), .unset] [(.ref r15)])) rfl (by rw [hml]; rfl) (Steps.refl _) (argsL := []) (rest := []) (lenOf pd_0_2 rfl) rfl (by show 2 * 0 + _ ≤ _; exact Nat.le_of_eq rfl) (hb hby at_128) (fun _ _ => ⟨rfl, rfl, (by decide : 6 + 0 ≤ _), (by decide : 32 + 0 ≤ _)⟩)
  dsimp only [Pt.U, Pt.locs, Pt.cells, Pt.slots] at X17 l17 y17 z17 st17 hQ17
  have y17' : k17 = 6 := y17
  have z17' : n17 = 32 := z17
  clear y17 z17
  subst y17' z17'
  obtain ⟨rfl, N17q, e17q0⟩ := hQ17
  have e17q : T17.heap = T15.heap := e17q0
  have N17 : Fr n0 L17 := by rw [l17]; exact Fr.app N15 N17q
  obtain ⟨fs, hr, hrun, hended, hW, hsame⟩ := X17.leave (v := some (.int (1 : Int32))) (fun h => by rw [Bd.returns] at h; cases h)
  refine ⟨_, _, pre0 _ ?_, hrun, hended, _, _, rfl, ?_, ⟨_, rfl⟩, hW, hsame.mono (by decide) (by decide)⟩
  · show Steps p.tables e below (s₁.setTop (mkF m 0 #[.val (.int p1), .val (.long q2), .second, .val (.int p3), .val (.int p4), .val (.int p5), .val (.long q6), .second, .unset, .unset, .unset, .unset, .unset, .unset, .unset, .unset, .unset, .unset, .unset, .unset] [])) _
    refine XS.iloadN X0.here hx rfl (hb hby at_0) rfl ?_
    show Steps p.tables e below (s₁.setTop (mkF m 1 #[.val (.int p1), .val (.long q2), .second, .val (.int p3), .val (.int p4), .val (.int p5), .val (.long q6), .second, .unset, .unset, .unset, .unset, .unset, .unset, .unset, .unset, .unset, .unset, .unset, .unset] [(.int p1)])) _
    refine XS.bipush X0.here hx rfl (hb hby at_1) ?_
    show Steps p.tables e below (s₁.setTop (mkF m 3 #[.val (.int p1), .val (.long q2), .second, .val (.int p3), .val (.int p4), .val (.int p5), .val (.long q6), .second, .unset, .unset, .unset, .unset, .unset, .unset, .unset, .unset, .unset, .unset, .unset, .unset] [(.int (7 : Int32)), (.int p1)])) _
    refine XS.iand X0.here hx rfl (hb hby at_3) rfl ?_
    show Steps p.tables e below (s₁.setTop (mkF m 4 #[.val (.int p1), .val (.long q2), .second, .val (.int p3), .val (.int p4), .val (.int p5), .val (.long q6), .second, .unset, .unset, .unset, .unset, .unset, .unset, .unset, .unset, .unset, .unset, .unset, .unset] [(.int (p1 &&& (7 : Int32)))])) _
    refine XS.istore X0.here hx rfl (hb hby at_4) rfl (l' := #[.val (.int p1), .val (.long q2), .second, .val (.int p3), .val (.int p4), .val (.int p5), .val (.long q6), .second, .val (.int (p1 &&& (7 : Int32))), .unset, .unset, .unset, .unset, .unset, .unset, .unset, .unset, .unset, .unset, .unset]) rfl ?_
    show Steps p.tables e below (s₁.setTop (mkF m 6 #[.val (.int p1), .val (.long q2), .second, .val (.int p3), .val (.int p4), .val (.int p5), .val (.long q6), .second, .val (.int (p1 &&& (7 : Int32))), .unset, .unset, .unset, .unset, .unset, .unset, .unset, .unset, .unset, .unset, .unset] [])) _
    refine XS.iload X0.here hx rfl (hb hby at_6) rfl ?_
    show Steps p.tables e below (s₁.setTop (mkF m 8 #[.val (.int p1), .val (.long q2), .second, .val (.int p3), .val (.int p4), .val (.int p5), .val (.long q6), .second, .val (.int (p1 &&& (7 : Int32))), .unset, .unset, .unset, .unset, .unset, .unset, .unset, .unset, .unset, .unset, .unset] [(.int (p1 &&& (7 : Int32)))])) _
    refine st7 _ ?_
    show Steps p.tables e below (T7.setTop (mkF m 10 #[.val (.int p1), .val (.long q2), .second, .val (.int p3), .val (.int p4), .val (.int p5), .val (.long q6), .second, .val (.int (p1 &&& (7 : Int32))), .unset, .unset, .unset, .unset, .unset, .unset, .unset, .unset, .unset, .unset, .unset] [(.ref b7)])) _
    refine XS.astore X7.here hx rfl (hb hby at_10) rfl rfl (l' := #[.val (.int p1), .val (.long q2), .second, .val (.int p3), .val (.int p4), .val (.int p5), .val (.long q6), .second, .val (.int (p1 &&& (7 : Int32))), .val (.ref b7), .unset, .unset, .unset, .unset, .unset, .unset, .unset, .unset, .unset, .unset]) rfl ?_
    show Steps p.tables e below (T7.setTop (mkF m 12 #[.val (.int p1), .val (.long q2), .second, .val (.int p3), .val (.int p4), .val (.int p5), .val (.long q6), .second, .val (.int (p1 &&& (7 : Int32))), .val (.ref b7), .unset, .unset, .unset, .unset, .unset, .unset, .unset, .unset, .unset, .unset] [])) _
    refine st8 _ ?_
    show Steps p.tables e below (T8.setTop (mkF m 36 #[.val (.int p1), .val (.long q2), .second, .val (.int p3), .val (.int p4), .val (.int p5), .val (.long q6), .second, .val (.int (p1 &&& (7 : Int32))), .val (.ref b7), .val (.long (own_s0_12_10 q2 p3 (p1 &&& (7 : Int32)))), .second, .unset, .unset, .unset, .unset, .unset, .unset, .unset, .unset] [])) _
    refine st9 _ ?_
    show Steps p.tables e below (T9.setTop (mkF m 39 #[.val (.int p1), .val (.long q2), .second, .val (.int p3), .val (.int p4), .val (.int p5), .val (.long q6), .second, .val (.int (p1 &&& (7 : Int32))), .val (.ref b7), .val (.long (own_s0_12_10 q2 p3 (p1 &&& (7 : Int32)))), .second, .unset, .unset, .unset, .unset, .unset, .unset, .unset, .unset] [(.ref b9)])) _
    refine XS.dup X9.here hx rfl (hb hby at_39) rfl rfl ?_
    show Steps p.tables e below (T9.setTop (mkF m 40 #[.val (.int p1), .val (.long q2), .second, .val (.int p3), .val (.int p4), .val (.int p5), .val (.long q6), .second, .val (.int (p1 &&& (7 : Int32))), .val (.ref b7), .val (.long (own_s0_12_10 q2 p3 (p1 &&& (7 : Int32)))), .second, .unset, .unset, .unset, .unset, .unset, .unset, .unset, .unset] [(.ref b9), (.ref b9)])) _
    refine XS.aload X9.here hx rfl (hb hby at_40) rfl rfl ?_
    show Steps p.tables e below (T9.setTop (mkF m 42 #[.val (.int p1), .val (.long q2), .second, .val (.int p3), .val (.int p4), .val (.int p5), .val (.long q6), .second, .val (.int (p1 &&& (7 : Int32))), .val (.ref b7), .val (.long (own_s0_12_10 q2 p3 (p1 &&& (7 : Int32)))), .second, .unset, .unset, .unset, .unset, .unset, .unset, .unset, .unset] [(.ref b7), (.ref b9), (.ref b9)])) _
    refine XS.lload X9.here hx rfl (hb hby at_42) rfl ?_
    show Steps p.tables e below (T9.setTop (mkF m 44 #[.val (.int p1), .val (.long q2), .second, .val (.int p3), .val (.int p4), .val (.int p5), .val (.long q6), .second, .val (.int (p1 &&& (7 : Int32))), .val (.ref b7), .val (.long (own_s0_12_10 q2 p3 (p1 &&& (7 : Int32)))), .second, .unset, .unset, .unset, .unset, .unset, .unset, .unset, .unset] [(.long (own_s0_12_10 q2 p3 (p1 &&& (7 : Int32)))), (.ref b7), (.ref b9), (.ref b9)])) _
    refine st10.trans ?_
    show Steps p.tables e below (T10.setTop (mkF m 47 #[.val (.int p1), .val (.long q2), .second, .val (.int p3), .val (.int p4), .val (.int p5), .val (.long q6), .second, .val (.int (p1 &&& (7 : Int32))), .val (.ref b7), .val (.long (own_s0_12_10 q2 p3 (p1 &&& (7 : Int32)))), .second, .unset, .unset, .unset, .unset, .unset, .unset, .unset, .unset] [(.ref b9)])) _
    refine XS.astore X10.here hx rfl (hb hby at_47) rfl rfl (l' := #[.val (.int p1), .val (.long q2), .second, .val (.int p3), .val (.int p4), .val (.int p5), .val (.long q6), .second, .val (.int (p1 &&& (7 : Int32))), .val (.ref b7), .val (.long (own_s0_12_10 q2 p3 (p1 &&& (7 : Int32)))), .second, .val (.ref b9), .unset, .unset, .unset, .unset, .unset, .unset, .unset]) rfl ?_
    show Steps p.tables e below (T10.setTop (mkF m 49 #[.val (.int p1), .val (.long q2), .second, .val (.int p3), .val (.int p4), .val (.int p5), .val (.long q6), .second, .val (.int (p1 &&& (7 : Int32))), .val (.ref b7), .val (.long (own_s0_12_10 q2 p3 (p1 &&& (7 : Int32)))), .second, .val (.ref b9), .unset, .unset, .unset, .unset, .unset, .unset, .unset] [])) _
    refine XS.aload X10.here hx rfl (hb hby at_49) rfl rfl ?_
    show Steps p.tables e below (T10.setTop (mkF m 51 #[.val (.int p1), .val (.long q2), .second, .val (.int p3), .val (.int p4), .val (.int p5), .val (.long q6), .second, .val (.int (p1 &&& (7 : Int32))), .val (.ref b7), .val (.long (own_s0_12_10 q2 p3 (p1 &&& (7 : Int32)))), .second, .val (.ref b9), .unset, .unset, .unset, .unset, .unset, .unset, .unset] [(.ref b9)])) _
    refine st11.trans ?_
    show Steps p.tables e below (T11.setTop (mkF m 54 #[.val (.int p1), .val (.long q2), .second, .val (.int p3), .val (.int p4), .val (.int p5), .val (.long q6), .second, .val (.int (p1 &&& (7 : Int32))), .val (.ref b7), .val (.long (own_s0_12_10 q2 p3 (p1 &&& (7 : Int32)))), .second, .val (.ref b9), .unset, .unset, .unset, .unset, .unset, .unset, .unset] [(.int (own_f4 b9 b7 clx12 (p1 &&& (7 : Int32)) (own_s0_12_10 q2 p3 (p1 &&& (7 : Int32)))))])) _
    refine XS.lload X11.here hx rfl (hb hby at_54) rfl ?_
    show Steps p.tables e below (T11.setTop (mkF m 56 #[.val (.int p1), .val (.long q2), .second, .val (.int p3), .val (.int p4), .val (.int p5), .val (.long q6), .second, .val (.int (p1 &&& (7 : Int32))), .val (.ref b7), .val (.long (own_s0_12_10 q2 p3 (p1 &&& (7 : Int32)))), .second, .val (.ref b9), .unset, .unset, .unset, .unset, .unset, .unset, .unset] [(.long (own_s0_12_10 q2 p3 (p1 &&& (7 : Int32)))), (.int (own_f4 b9 b7 clx12 (p1 &&& (7 : Int32)) (own_s0_12_10 q2 p3 (p1 &&& (7 : Int32)))))])) _
    refine XS.iload X11.here hx rfl (hb hby at_56) rfl ?_
    show Steps p.tables e below (T11.setTop (mkF m 58 #[.val (.int p1), .val (.long q2), .second, .val (.int p3), .val (.int p4), .val (.int p5), .val (.long q6), .second, .val (.int (p1 &&& (7 : Int32))), .val (.ref b7), .val (.long (own_s0_12_10 q2 p3 (p1 &&& (7 : Int32)))), .second, .val (.ref b9), .unset, .unset, .unset, .unset, .unset, .unset, .unset] [(.int (p1 &&& (7 : Int32))), (.long (own_s0_12_10 q2 p3 (p1 &&& (7 : Int32)))), (.int (own_f4 b9 b7 clx12 (p1 &&& (7 : Int32)) (own_s0_12_10 q2 p3 (p1 &&& (7 : Int32)))))])) _
    refine XS.i2l X11.here hx rfl (hb hby at_58) rfl ?_
    show Steps p.tables e below (T11.setTop (mkF m 59 #[.val (.int p1), .val (.long q2), .second, .val (.int p3), .val (.int p4), .val (.int p5), .val (.long q6), .second, .val (.int (p1 &&& (7 : Int32))), .val (.ref b7), .val (.long (own_s0_12_10 q2 p3 (p1 &&& (7 : Int32)))), .second, .val (.ref b9), .unset, .unset, .unset, .unset, .unset, .unset, .unset] [(.long ((p1 &&& (7 : Int32)).toInt64)), (.long (own_s0_12_10 q2 p3 (p1 &&& (7 : Int32)))), (.int (own_f4 b9 b7 clx12 (p1 &&& (7 : Int32)) (own_s0_12_10 q2 p3 (p1 &&& (7 : Int32)))))])) _
    refine XS.lcmp X11.here hx rfl (hb hby at_59) rfl ?_
    show Steps p.tables e below (T11.setTop (mkF m 60 #[.val (.int p1), .val (.long q2), .second, .val (.int p3), .val (.int p4), .val (.int p5), .val (.long q6), .second, .val (.int (p1 &&& (7 : Int32))), .val (.ref b7), .val (.long (own_s0_12_10 q2 p3 (p1 &&& (7 : Int32)))), .second, .val (.ref b9), .unset, .unset, .unset, .unset, .unset, .unset, .unset] [(.int (lcmpW (own_s0_12_10 q2 p3 (p1 &&& (7 : Int32))) ((p1 &&& (7 : Int32)).toInt64))), (.int (own_f4 b9 b7 clx12 (p1 &&& (7 : Int32)) (own_s0_12_10 q2 p3 (p1 &&& (7 : Int32)))))])) _
    refine XS.ifNo X11.here hx rfl (hb hby at_60) rfl ((if0 _ _).trans (teq hc60).2) ?_
    show Steps p.tables e below (T11.setTop (mkF m 63 #[.val (.int p1), .val (.long q2), .second, .val (.int p3), .val (.int p4), .val (.int p5), .val (.long q6), .second, .val (.int (p1 &&& (7 : Int32))), .val (.ref b7), .val (.long (own_s0_12_10 q2 p3 (p1 &&& (7 : Int32)))), .second, .val (.ref b9), .unset, .unset, .unset, .unset, .unset, .unset, .unset] [(.int (own_f4 b9 b7 clx12 (p1 &&& (7 : Int32)) (own_s0_12_10 q2 p3 (p1 &&& (7 : Int32)))))])) _
    refine XS.iconst X11.here hx rfl (hb hby at_63) ?_
    show Steps p.tables e below (T11.setTop (mkF m 64 #[.val (.int p1), .val (.long q2), .second, .val (.int p3), .val (.int p4), .val (.int p5), .val (.long q6), .second, .val (.int (p1 &&& (7 : Int32))), .val (.ref b7), .val (.long (own_s0_12_10 q2 p3 (p1 &&& (7 : Int32)))), .second, .val (.ref b9), .unset, .unset, .unset, .unset, .unset, .unset, .unset] [(.int (1 : Int32)), (.int (own_f4 b9 b7 clx12 (p1 &&& (7 : Int32)) (own_s0_12_10 q2 p3 (p1 &&& (7 : Int32)))))])) _
    refine XS.goto X11.here hx rfl (pc0 := 64) (pc' := 68) rfl (hb hby at_64) (by decide) (by decide) ?_
    show Steps p.tables e below (T11.setTop (mkF m 68 #[.val (.int p1), .val (.long q2), .second, .val (.int p3), .val (.int p4), .val (.int p5), .val (.long q6), .second, .val (.int (p1 &&& (7 : Int32))), .val (.ref b7), .val (.long (own_s0_12_10 q2 p3 (p1 &&& (7 : Int32)))), .second, .val (.ref b9), .unset, .unset, .unset, .unset, .unset, .unset, .unset] [(.int (1 : Int32)), (.int (own_f4 b9 b7 clx12 (p1 &&& (7 : Int32)) (own_s0_12_10 q2 p3 (p1 &&& (7 : Int32)))))])) _
    refine XS.icmpNo X11.here hx rfl (hb hby at_68) rfl (teq (own_w1 hc60 : (own_f4 b9 b7 clx12 (p1 &&& (7 : Int32)) (own_s0_12_10 q2 p3 (p1 &&& (7 : Int32)))) = (1 : Int32))).2 ?_
    show Steps p.tables e below (T11.setTop (mkF m 71 #[.val (.int p1), .val (.long q2), .second, .val (.int p3), .val (.int p4), .val (.int p5), .val (.long q6), .second, .val (.int (p1 &&& (7 : Int32))), .val (.ref b7), .val (.long (own_s0_12_10 q2 p3 (p1 &&& (7 : Int32)))), .second, .val (.ref b9), .unset, .unset, .unset, .unset, .unset, .unset, .unset] [])) _
    refine XS.iconst X11.here hx rfl (hb hby at_71) ?_
    show Steps p.tables e below (T11.setTop (mkF m 72 #[.val (.int p1), .val (.long q2), .second, .val (.int p3), .val (.int p4), .val (.int p5), .val (.long q6), .second, .val (.int (p1 &&& (7 : Int32))), .val (.ref b7), .val (.long (own_s0_12_10 q2 p3 (p1 &&& (7 : Int32)))), .second, .val (.ref b9), .unset, .unset, .unset, .unset, .unset, .unset, .unset] [(.int (1 : Int32))])) _
    refine XS.goto X11.here hx rfl (pc0 := 72) (pc' := 76) rfl (hb hby at_72) (by decide) (by decide) ?_
    show Steps p.tables e below (T11.setTop (mkF m 76 #[.val (.int p1), .val (.long q2), .second, .val (.int p3), .val (.int p4), .val (.int p5), .val (.long q6), .second, .val (.int (p1 &&& (7 : Int32))), .val (.ref b7), .val (.long (own_s0_12_10 q2 p3 (p1 &&& (7 : Int32)))), .second, .val (.ref b9), .unset, .unset, .unset, .unset, .unset, .unset, .unset] [(.int (1 : Int32))])) _
    refine XS.istore X11.here hx rfl (hb hby at_76) rfl (l' := #[.val (.int p1), .val (.long q2), .second, .val (.int p3), .val (.int p4), .val (.int p5), .val (.long q6), .second, .val (.int (p1 &&& (7 : Int32))), .val (.ref b7), .val (.long (own_s0_12_10 q2 p3 (p1 &&& (7 : Int32)))), .second, .val (.ref b9), .val (.int (1 : Int32)), .unset, .unset, .unset, .unset, .unset, .unset]) rfl ?_
    show Steps p.tables e below (T11.setTop (mkF m 78 #[.val (.int p1), .val (.long q2), .second, .val (.int p3), .val (.int p4), .val (.int p5), .val (.long q6), .second, .val (.int (p1 &&& (7 : Int32))), .val (.ref b7), .val (.long (own_s0_12_10 q2 p3 (p1 &&& (7 : Int32)))), .second, .val (.ref b9), .val (.int (1 : Int32)), .unset, .unset, .unset, .unset, .unset, .unset] [])) _
    refine XS.iload X11.here hx rfl (hb hby at_78) rfl ?_
    show Steps p.tables e below (T11.setTop (mkF m 80 #[.val (.int p1), .val (.long q2), .second, .val (.int p3), .val (.int p4), .val (.int p5), .val (.long q6), .second, .val (.int (p1 &&& (7 : Int32))), .val (.ref b7), .val (.long (own_s0_12_10 q2 p3 (p1 &&& (7 : Int32)))), .second, .val (.ref b9), .val (.int (1 : Int32)), .unset, .unset, .unset, .unset, .unset, .unset] [(.int p4)])) _
    refine XS.bipush X11.here hx rfl (hb hby at_80) ?_
    show Steps p.tables e below (T11.setTop (mkF m 82 #[.val (.int p1), .val (.long q2), .second, .val (.int p3), .val (.int p4), .val (.int p5), .val (.long q6), .second, .val (.int (p1 &&& (7 : Int32))), .val (.ref b7), .val (.long (own_s0_12_10 q2 p3 (p1 &&& (7 : Int32)))), .second, .val (.ref b9), .val (.int (1 : Int32)), .unset, .unset, .unset, .unset, .unset, .unset] [(.int (7 : Int32)), (.int p4)])) _
    refine XS.iand X11.here hx rfl (hb hby at_82) rfl ?_
    show Steps p.tables e below (T11.setTop (mkF m 83 #[.val (.int p1), .val (.long q2), .second, .val (.int p3), .val (.int p4), .val (.int p5), .val (.long q6), .second, .val (.int (p1 &&& (7 : Int32))), .val (.ref b7), .val (.long (own_s0_12_10 q2 p3 (p1 &&& (7 : Int32)))), .second, .val (.ref b9), .val (.int (1 : Int32)), .unset, .unset, .unset, .unset, .unset, .unset] [(.int (p4 &&& (7 : Int32)))])) _
    refine XS.istore X11.here hx rfl (hb hby at_83) rfl (l' := #[.val (.int p1), .val (.long q2), .second, .val (.int p3), .val (.int p4), .val (.int p5), .val (.long q6), .second, .val (.int (p1 &&& (7 : Int32))), .val (.ref b7), .val (.long (own_s0_12_10 q2 p3 (p1 &&& (7 : Int32)))), .second, .val (.ref b9), .val (.int (1 : Int32)), .val (.int (p4 &&& (7 : Int32))), .unset, .unset, .unset, .unset, .unset]) rfl ?_
    show Steps p.tables e below (T11.setTop (mkF m 85 #[.val (.int p1), .val (.long q2), .second, .val (.int p3), .val (.int p4), .val (.int p5), .val (.long q6), .second, .val (.int (p1 &&& (7 : Int32))), .val (.ref b7), .val (.long (own_s0_12_10 q2 p3 (p1 &&& (7 : Int32)))), .second, .val (.ref b9), .val (.int (1 : Int32)), .val (.int (p4 &&& (7 : Int32))), .unset, .unset, .unset, .unset, .unset] [])) _
    refine XS.iload X11.here hx rfl (hb hby at_85) rfl ?_
    show Steps p.tables e below (T11.setTop (mkF m 87 #[.val (.int p1), .val (.long q2), .second, .val (.int p3), .val (.int p4), .val (.int p5), .val (.long q6), .second, .val (.int (p1 &&& (7 : Int32))), .val (.ref b7), .val (.long (own_s0_12_10 q2 p3 (p1 &&& (7 : Int32)))), .second, .val (.ref b9), .val (.int (1 : Int32)), .val (.int (p4 &&& (7 : Int32))), .unset, .unset, .unset, .unset, .unset] [(.int (p4 &&& (7 : Int32)))])) _
    refine st13 _ ?_
    show Steps p.tables e below (T13.setTop (mkF m 89 #[.val (.int p1), .val (.long q2), .second, .val (.int p3), .val (.int p4), .val (.int p5), .val (.long q6), .second, .val (.int (p1 &&& (7 : Int32))), .val (.ref b7), .val (.long (own_s0_12_10 q2 p3 (p1 &&& (7 : Int32)))), .second, .val (.ref b9), .val (.int (1 : Int32)), .val (.int (p4 &&& (7 : Int32))), .unset, .unset, .unset, .unset, .unset] [(.ref b13)])) _
    refine XS.astore X13.here hx rfl (hb hby at_89) rfl rfl (l' := #[.val (.int p1), .val (.long q2), .second, .val (.int p3), .val (.int p4), .val (.int p5), .val (.long q6), .second, .val (.int (p1 &&& (7 : Int32))), .val (.ref b7), .val (.long (own_s0_12_10 q2 p3 (p1 &&& (7 : Int32)))), .second, .val (.ref b9), .val (.int (1 : Int32)), .val (.int (p4 &&& (7 : Int32))), .val (.ref b13), .unset, .unset, .unset, .unset]) rfl ?_
    show Steps p.tables e below (T13.setTop (mkF m 91 #[.val (.int p1), .val (.long q2), .second, .val (.int p3), .val (.int p4), .val (.int p5), .val (.long q6), .second, .val (.int (p1 &&& (7 : Int32))), .val (.ref b7), .val (.long (own_s0_12_10 q2 p3 (p1 &&& (7 : Int32)))), .second, .val (.ref b9), .val (.int (1 : Int32)), .val (.int (p4 &&& (7 : Int32))), .val (.ref b13), .unset, .unset, .unset, .unset] [])) _
    refine st14 _ ?_
    show Steps p.tables e below (T14.setTop (mkF m 117 #[.val (.int p1), .val (.long q2), .second, .val (.int p3), .val (.int p4), .val (.int p5), .val (.long q6), .second, .val (.int (p1 &&& (7 : Int32))), .val (.ref b7), .val (.long (own_s0_12_10 q2 p3 (p1 &&& (7 : Int32)))), .second, .val (.ref b9), .val (.int (1 : Int32)), .val (.int (p4 &&& (7 : Int32))), .val (.ref b13), .val (.long (own_s0_91_16 p5 q6)), .second, .unset, .unset] [])) _
    refine XS.aload X14.here hx rfl (hb hby at_117) rfl rfl ?_
    show Steps p.tables e below (T14.setTop (mkF m 119 #[.val (.int p1), .val (.long q2), .second, .val (.int p3), .val (.int p4), .val (.int p5), .val (.long q6), .second, .val (.int (p1 &&& (7 : Int32))), .val (.ref b7), .val (.long (own_s0_12_10 q2 p3 (p1 &&& (7 : Int32)))), .second, .val (.ref b9), .val (.int (1 : Int32)), .val (.int (p4 &&& (7 : Int32))), .val (.ref b13), .val (.long (own_s0_91_16 p5 q6)), .second, .unset, .unset] [(.ref b13)])) _
    refine XS.lload X14.here hx rfl (hb hby at_119) rfl ?_
    show Steps p.tables e below (T14.setTop (mkF m 121 #[.val (.int p1), .val (.long q2), .second, .val (.int p3), .val (.int p4), .val (.int p5), .val (.long q6), .second, .val (.int (p1 &&& (7 : Int32))), .val (.ref b7), .val (.long (own_s0_12_10 q2 p3 (p1 &&& (7 : Int32)))), .second, .val (.ref b9), .val (.int (1 : Int32)), .val (.int (p4 &&& (7 : Int32))), .val (.ref b13), .val (.long (own_s0_91_16 p5 q6)), .second, .unset, .unset] [(.long (own_s0_91_16 p5 q6)), (.ref b13)])) _
    refine st15 _ ?_
    show Steps p.tables e below (T15.setTop (mkF m 124 #[.val (.int p1), .val (.long q2), .second, .val (.int p3), .val (.int p4), .val (.int p5), .val (.long q6), .second, .val (.int (p1 &&& (7 : Int32))), .val (.ref b7), .val (.long (own_s0_12_10 q2 p3 (p1 &&& (7 : Int32)))), .second, .val (.ref b9), .val (.int (1 : Int32)), .val (.int (p4 &&& (7 : Int32))), .val (.ref b13), .val (.long (own_s0_91_16 p5 q6)), .second, .unset, .unset] [(.ref r15)])) _
    refine XS.astore X15.here hx rfl (hb hby at_124) rfl rfl (l' := #[.val (.int p1), .val (.long q2), .second, .val (.int p3), .val (.int p4), .val (.int p5), .val (.long q6), .second, .val (.int (p1 &&& (7 : Int32))), .val (.ref b7), .val (.long (own_s0_12_10 q2 p3 (p1 &&& (7 : Int32)))), .second, .val (.ref b9), .val (.int (1 : Int32)), .val (.int (p4 &&& (7 : Int32))), .val (.ref b13), .val (.long (own_s0_91_16 p5 q6)), .second, .val (.ref r15), .unset]) rfl ?_
    show Steps p.tables e below (T15.setTop (mkF m 126 #[.val (.int p1), .val (.long q2), .second, .val (.int p3), .val (.int p4), .val (.int p5), .val (.long q6), .second, .val (.int (p1 &&& (7 : Int32))), .val (.ref b7), .val (.long (own_s0_12_10 q2 p3 (p1 &&& (7 : Int32)))), .second, .val (.ref b9), .val (.int (1 : Int32)), .val (.int (p4 &&& (7 : Int32))), .val (.ref b13), .val (.long (own_s0_91_16 p5 q6)), .second, .val (.ref r15), .unset] [])) _
    refine XS.aload X15.here hx rfl (hb hby at_126) rfl rfl ?_
    show Steps p.tables e below (T15.setTop (mkF m 128 #[.val (.int p1), .val (.long q2), .second, .val (.int p3), .val (.int p4), .val (.int p5), .val (.long q6), .second, .val (.int (p1 &&& (7 : Int32))), .val (.ref b7), .val (.long (own_s0_12_10 q2 p3 (p1 &&& (7 : Int32)))), .second, .val (.ref b9), .val (.int (1 : Int32)), .val (.int (p4 &&& (7 : Int32))), .val (.ref b13), .val (.long (own_s0_91_16 p5 q6)), .second, .val (.ref r15), .unset] [(.ref r15)])) _
    refine st17.trans ?_
    show Steps p.tables e below (T17.setTop (mkF m 131 #[.val (.int p1), .val (.long q2), .second, .val (.int p3), .val (.int p4), .val (.int p5), .val (.long q6), .second, .val (.int (p1 &&& (7 : Int32))), .val (.ref b7), .val (.long (own_s0_12_10 q2 p3 (p1 &&& (7 : Int32)))), .second, .val (.ref b9), .val (.int (1 : Int32)), .val (.int (p4 &&& (7 : Int32))), .val (.ref b13), .val (.long (own_s0_91_16 p5 q6)), .second, .val (.ref r15), .unset] [(.int (own_f4 r15 wr15 cr15 yr15 (own_s0_91_16 p5 q6)))])) _
    refine XS.lload X17.here hx rfl (hb hby at_131) rfl ?_
    show Steps p.tables e below (T17.setTop (mkF m 133 #[.val (.int p1), .val (.long q2), .second, .val (.int p3), .val (.int p4), .val (.int p5), .val (.long q6), .second, .val (.int (p1 &&& (7 : Int32))), .val (.ref b7), .val (.long (own_s0_12_10 q2 p3 (p1 &&& (7 : Int32)))), .second, .val (.ref b9), .val (.int (1 : Int32)), .val (.int (p4 &&& (7 : Int32))), .val (.ref b13), .val (.long (own_s0_91_16 p5 q6)), .second, .val (.ref r15), .unset] [(.long (own_s0_91_16 p5 q6)), (.int (own_f4 r15 wr15 cr15 yr15 (own_s0_91_16 p5 q6)))])) _
    refine XS.iload X17.here hx rfl (hb hby at_133) rfl ?_
    show Steps p.tables e below (T17.setTop (mkF m 135 #[.val (.int p1), .val (.long q2), .second, .val (.int p3), .val (.int p4), .val (.int p5), .val (.long q6), .second, .val (.int (p1 &&& (7 : Int32))), .val (.ref b7), .val (.long (own_s0_12_10 q2 p3 (p1 &&& (7 : Int32)))), .second, .val (.ref b9), .val (.int (1 : Int32)), .val (.int (p4 &&& (7 : Int32))), .val (.ref b13), .val (.long (own_s0_91_16 p5 q6)), .second, .val (.ref r15), .unset] [(.int (p4 &&& (7 : Int32))), (.long (own_s0_91_16 p5 q6)), (.int (own_f4 r15 wr15 cr15 yr15 (own_s0_91_16 p5 q6)))])) _
    refine XS.i2l X17.here hx rfl (hb hby at_135) rfl ?_
    show Steps p.tables e below (T17.setTop (mkF m 136 #[.val (.int p1), .val (.long q2), .second, .val (.int p3), .val (.int p4), .val (.int p5), .val (.long q6), .second, .val (.int (p1 &&& (7 : Int32))), .val (.ref b7), .val (.long (own_s0_12_10 q2 p3 (p1 &&& (7 : Int32)))), .second, .val (.ref b9), .val (.int (1 : Int32)), .val (.int (p4 &&& (7 : Int32))), .val (.ref b13), .val (.long (own_s0_91_16 p5 q6)), .second, .val (.ref r15), .unset] [(.long ((p4 &&& (7 : Int32)).toInt64)), (.long (own_s0_91_16 p5 q6)), (.int (own_f4 r15 wr15 cr15 yr15 (own_s0_91_16 p5 q6)))])) _
    refine XS.lcmp X17.here hx rfl (hb hby at_136) rfl ?_
    show Steps p.tables e below (T17.setTop (mkF m 137 #[.val (.int p1), .val (.long q2), .second, .val (.int p3), .val (.int p4), .val (.int p5), .val (.long q6), .second, .val (.int (p1 &&& (7 : Int32))), .val (.ref b7), .val (.long (own_s0_12_10 q2 p3 (p1 &&& (7 : Int32)))), .second, .val (.ref b9), .val (.int (1 : Int32)), .val (.int (p4 &&& (7 : Int32))), .val (.ref b13), .val (.long (own_s0_91_16 p5 q6)), .second, .val (.ref r15), .unset] [(.int (lcmpW (own_s0_91_16 p5 q6) ((p4 &&& (7 : Int32)).toInt64))), (.int (own_f4 r15 wr15 cr15 yr15 (own_s0_91_16 p5 q6)))])) _
    refine XS.ifYes X17.here hx rfl (pc0 := 137) (pc' := 144) rfl (hb hby at_137) rfl ((if0 _ _).trans (tlt hc137).2.2.1) (by decide) (by decide) ?_
    show Steps p.tables e below (T17.setTop (mkF m 144 #[.val (.int p1), .val (.long q2), .second, .val (.int p3), .val (.int p4), .val (.int p5), .val (.long q6), .second, .val (.int (p1 &&& (7 : Int32))), .val (.ref b7), .val (.long (own_s0_12_10 q2 p3 (p1 &&& (7 : Int32)))), .second, .val (.ref b9), .val (.int (1 : Int32)), .val (.int (p4 &&& (7 : Int32))), .val (.ref b13), .val (.long (own_s0_91_16 p5 q6)), .second, .val (.ref r15), .unset] [(.int (own_f4 r15 wr15 cr15 yr15 (own_s0_91_16 p5 q6)))])) _
    refine XS.iconst X17.here hx rfl (hb hby at_144) ?_
    show Steps p.tables e below (T17.setTop (mkF m 145 #[.val (.int p1), .val (.long q2), .second, .val (.int p3), .val (.int p4), .val (.int p5), .val (.long q6), .second, .val (.int (p1 &&& (7 : Int32))), .val (.ref b7), .val (.long (own_s0_12_10 q2 p3 (p1 &&& (7 : Int32)))), .second, .val (.ref b9), .val (.int (1 : Int32)), .val (.int (p4 &&& (7 : Int32))), .val (.ref b13), .val (.long (own_s0_91_16 p5 q6)), .second, .val (.ref r15), .unset] [(.int (0 : Int32)), (.int (own_f4 r15 wr15 cr15 yr15 (own_s0_91_16 p5 q6)))])) _
    refine XS.icmpNo X17.here hx rfl (hb hby at_145) rfl (teq (own_v0 Ir15 hc137 : (own_f4 r15 wr15 cr15 yr15 (own_s0_91_16 p5 q6)) = (0 : Int32))).2 ?_
    show Steps p.tables e below (T17.setTop (mkF m 148 #[.val (.int p1), .val (.long q2), .second, .val (.int p3), .val (.int p4), .val (.int p5), .val (.long q6), .second, .val (.int (p1 &&& (7 : Int32))), .val (.ref b7), .val (.long (own_s0_12_10 q2 p3 (p1 &&& (7 : Int32)))), .second, .val (.ref b9), .val (.int (1 : Int32)), .val (.int (p4 &&& (7 : Int32))), .val (.ref b13), .val (.long (own_s0_91_16 p5 q6)), .second, .val (.ref r15), .unset] [])) _
    refine XS.iconst X17.here hx rfl (hb hby at_148) ?_
    show Steps p.tables e below (T17.setTop (mkF m 149 #[.val (.int p1), .val (.long q2), .second, .val (.int p3), .val (.int p4), .val (.int p5), .val (.long q6), .second, .val (.int (p1 &&& (7 : Int32))), .val (.ref b7), .val (.long (own_s0_12_10 q2 p3 (p1 &&& (7 : Int32)))), .second, .val (.ref b9), .val (.int (1 : Int32)), .val (.int (p4 &&& (7 : Int32))), .val (.ref b13), .val (.long (own_s0_91_16 p5 q6)), .second, .val (.ref r15), .unset] [(.int (1 : Int32))])) _
    refine XS.goto X17.here hx rfl (pc0 := 149) (pc' := 153) rfl (hb hby at_149) (by decide) (by decide) ?_
    show Steps p.tables e below (T17.setTop (mkF m 153 #[.val (.int p1), .val (.long q2), .second, .val (.int p3), .val (.int p4), .val (.int p5), .val (.long q6), .second, .val (.int (p1 &&& (7 : Int32))), .val (.ref b7), .val (.long (own_s0_12_10 q2 p3 (p1 &&& (7 : Int32)))), .second, .val (.ref b9), .val (.int (1 : Int32)), .val (.int (p4 &&& (7 : Int32))), .val (.ref b13), .val (.long (own_s0_91_16 p5 q6)), .second, .val (.ref r15), .unset] [(.int (1 : Int32))])) _
    refine XS.istore X17.here hx rfl (hb hby at_153) rfl (l' := #[.val (.int p1), .val (.long q2), .second, .val (.int p3), .val (.int p4), .val (.int p5), .val (.long q6), .second, .val (.int (p1 &&& (7 : Int32))), .val (.ref b7), .val (.long (own_s0_12_10 q2 p3 (p1 &&& (7 : Int32)))), .second, .val (.ref b9), .val (.int (1 : Int32)), .val (.int (p4 &&& (7 : Int32))), .val (.ref b13), .val (.long (own_s0_91_16 p5 q6)), .second, .val (.ref r15), .val (.int (1 : Int32))]) rfl ?_
    show Steps p.tables e below (T17.setTop (mkF m 155 #[.val (.int p1), .val (.long q2), .second, .val (.int p3), .val (.int p4), .val (.int p5), .val (.long q6), .second, .val (.int (p1 &&& (7 : Int32))), .val (.ref b7), .val (.long (own_s0_12_10 q2 p3 (p1 &&& (7 : Int32)))), .second, .val (.ref b9), .val (.int (1 : Int32)), .val (.int (p4 &&& (7 : Int32))), .val (.ref b13), .val (.long (own_s0_91_16 p5 q6)), .second, .val (.ref r15), .val (.int (1 : Int32))] [])) _
    refine XS.iload X17.here hx rfl (hb hby at_155) rfl ?_
    show Steps p.tables e below (T17.setTop (mkF m 157 #[.val (.int p1), .val (.long q2), .second, .val (.int p3), .val (.int p4), .val (.int p5), .val (.long q6), .second, .val (.int (p1 &&& (7 : Int32))), .val (.ref b7), .val (.long (own_s0_12_10 q2 p3 (p1 &&& (7 : Int32)))), .second, .val (.ref b9), .val (.int (1 : Int32)), .val (.int (p4 &&& (7 : Int32))), .val (.ref b13), .val (.long (own_s0_91_16 p5 q6)), .second, .val (.ref r15), .val (.int (1 : Int32))] [(.int (1 : Int32))])) _
    refine XS.ifNo X17.here hx rfl (hb hby at_157) rfl ((if0 _ _).trans (feq (by decide : ¬ ((1 : Int32) = (0 : Int32)))).1) ?_
    show Steps p.tables e below (T17.setTop (mkF m 160 #[.val (.int p1), .val (.long q2), .second, .val (.int p3), .val (.int p4), .val (.int p5), .val (.long q6), .second, .val (.int (p1 &&& (7 : Int32))), .val (.ref b7), .val (.long (own_s0_12_10 q2 p3 (p1 &&& (7 : Int32)))), .second, .val (.ref b9), .val (.int (1 : Int32)), .val (.int (p4 &&& (7 : Int32))), .val (.ref b13), .val (.long (own_s0_91_16 p5 q6)), .second, .val (.ref r15), .val (.int (1 : Int32))] [])) _
    refine XS.iload X17.here hx rfl (hb hby at_160) rfl ?_
    show Steps p.tables e below (T17.setTop (mkF m 162 #[.val (.int p1), .val (.long q2), .second, .val (.int p3), .val (.int p4), .val (.int p5), .val (.long q6), .second, .val (.int (p1 &&& (7 : Int32))), .val (.ref b7), .val (.long (own_s0_12_10 q2 p3 (p1 &&& (7 : Int32)))), .second, .val (.ref b9), .val (.int (1 : Int32)), .val (.int (p4 &&& (7 : Int32))), .val (.ref b13), .val (.long (own_s0_91_16 p5 q6)), .second, .val (.ref r15), .val (.int (1 : Int32))] [(.int (1 : Int32))])) _
    refine XS.ifNo X17.here hx rfl (hb hby at_162) rfl ((if0 _ _).trans (feq (by decide : ¬ ((1 : Int32) = (0 : Int32)))).1) ?_
    show Steps p.tables e below (T17.setTop (mkF m 165 #[.val (.int p1), .val (.long q2), .second, .val (.int p3), .val (.int p4), .val (.int p5), .val (.long q6), .second, .val (.int (p1 &&& (7 : Int32))), .val (.ref b7), .val (.long (own_s0_12_10 q2 p3 (p1 &&& (7 : Int32)))), .second, .val (.ref b9), .val (.int (1 : Int32)), .val (.int (p4 &&& (7 : Int32))), .val (.ref b13), .val (.long (own_s0_91_16 p5 q6)), .second, .val (.ref r15), .val (.int (1 : Int32))] [])) _
    refine XS.iconst X17.here hx rfl (hb hby at_165) ?_
    show Steps p.tables e below (T17.setTop (mkF m 166 #[.val (.int p1), .val (.long q2), .second, .val (.int p3), .val (.int p4), .val (.int p5), .val (.long q6), .second, .val (.int (p1 &&& (7 : Int32))), .val (.ref b7), .val (.long (own_s0_12_10 q2 p3 (p1 &&& (7 : Int32)))), .second, .val (.ref b9), .val (.int (1 : Int32)), .val (.int (p4 &&& (7 : Int32))), .val (.ref b13), .val (.long (own_s0_91_16 p5 q6)), .second, .val (.ref r15), .val (.int (1 : Int32))] [(.int (1 : Int32))])) _
    refine XS.goto X17.here hx rfl (pc0 := 166) (pc' := 170) rfl (hb hby at_166) (by decide) (by decide) ?_
    show Steps p.tables e below (T17.setTop (mkF m 170 #[.val (.int p1), .val (.long q2), .second, .val (.int p3), .val (.int p4), .val (.int p5), .val (.long q6), .second, .val (.int (p1 &&& (7 : Int32))), .val (.ref b7), .val (.long (own_s0_12_10 q2 p3 (p1 &&& (7 : Int32)))), .second, .val (.ref b9), .val (.int (1 : Int32)), .val (.int (p4 &&& (7 : Int32))), .val (.ref b13), .val (.long (own_s0_91_16 p5 q6)), .second, .val (.ref r15), .val (.int (1 : Int32))] [(.int (1 : Int32))])) _
    exact retN X17 hx (t := .boolean) Bd.returns (by simp) (hb hby at_170) hr
  · show Q0 Z p1 q2 p3 p4 p5 q6 h0 n0 _ T17.heap _
    rw [e17q]
    exact ⟨rfl, N17⟩
set_option maxRecDepth 65536 in
set_option maxHeartbeats 40000000 in
theorem rm0_tfffff (l : Launch) (Z : State) (a0 : Array Value) (hw : ∀ d ∈ tables_1, d.before a0 Z = true) (ws : List Jvm.Cond) (p1 : Int32) (q2 : Int64) (p3 : Int32) (p4 : Int32) (p5 : Int32) (q6 : Int64) (h0 : Heap) (n0 : Nat) (Z0 : n0 ≤ h0.size) (hN : OwnN Z h0) (hc60 : ¬ ((lcmpW (own_s0_12_10 q2 p3 (p1 &&& (7 : Int32))) ((p1 &&& (7 : Int32)).toInt64)) = (0 : Int32))) (hc137 : ¬ ((0 : Int32) < (lcmpW (own_s0_91_16 p5 q6) ((p4 &&& (7 : Int32)).toInt64)))) :
    MetFree l x (head1 (Jvm.Cond.code x code maxLocals ret :: ws) room_1) (fun a U => a = #[(.int p1), (.long q2), (.int p3), (.int p4), (.int p5), (.long q6)] ∧ Z.Warmed39 U.vm ∧ U.heap = h0) (fun _ _ _ _ _ => True) (fun _ U o U' => ∃ v L, o = .returned v ∧ Q0 Z p1 q2 p3 p4 p5 q6 h0 n0 v U'.heap L ∧ FrameEnd U o U' L room_1.cells room_1.slots) := by
  refine MetFree.of_bodySF (plainFor_of_name pn_0) hisR ?_
  intro p e s m args below meth c s₁ Bd hml0 hP hK
  obtain ⟨rfl, hZ, hh⟩ := hP
  have hx := Bd.exec
  have hby := Bd.bytes
  have hml : c.maxLocals = 20 := hml0
  have hown : s.vm.findClass "com/example/crewroster/crewroster/http/BodyIsWholePinLaw" = some m.cls := findClass_of_methodNamed Bd.named
  have hnm := (name_of_methodNamed Bd.named Bd.method).1
  have X0 : Stand p l e room_1 s m #[(.int p1), (.long q2), (.int p3), (.int p4), (.int p5), (.long q6)] below meth c s₁ [] 0 0 := Stand.of_body Bd
  have e0 : s₁.heap = h0 := by rw [← hh, Bd.state]; rfl
  have N0 := Fr.nil n0
  obtain ⟨wN, wK, clK, S_N, E_N, F_k, ArK, SK, F_l⟩ := hN
  have pre0 : ∀ t, Steps p.tables e below (s₁.setTop (mkF m 0 #[.val (.int p1), .val (.long q2), .second, .val (.int p3), .val (.int p4), .val (.int p5), .val (.long q6), .second, .unset, .unset, .unset, .unset, .unset, .unset, .unset, .unset, .unset, .unset, .unset, .unset] [])) t → Steps p.tables e below (s₁.setTop (entryFrame m #[(.int p1), (.long q2), (.int p3), (.int p4), (.int p5), (.long q6)] maxLocals)) t := fun t k => castTop (ef_0 m p1 q2 p3 p4 p5 q6) k
  obtain ⟨T7, h7, k7, X7, e7, E7, A7, Ex7, st7⟩ := newPE X0 hx hZ (hw _ (List.mem_of_getElem? (i := 0) rfl)) e0 (g := (mkF m 8 #[.val (.int p1), .val (.long q2), .second, .val (.int p3), .val (.int p4), .val (.int p5), .val (.long q6), .second, .val (.int (p1 &&& (7 : Int32))), .unset, .unset, .unset, .unset, .unset, .unset, .unset, .unset, .unset, .unset, .unset] [(.int (p1 &&& (7 : Int32)))])) rfl (hb hby at_8) rfl (own_nn (own_and7 p1).1) (cap := 7) (own_cap (own_and7 p1).2) (by decide) (by decide) (by decide) (ad := "[B") rfl
  obtain ⟨b7, g7⟩ : ∃ z, z = h0.size := ⟨_, rfl⟩
  rw [← g7] at A7 Ex7 st7
  have V_b7 := Arv.new A7 (own_nn (own_and7 p1).1)
  have g_b7 : n0 ≤ b7 := Nat.le_trans Z0 (Nat.le_of_eq g7.symm)
  have sz_b7 : h0.size ≤ b7 := (Nat.le_trans (Keep.refl h0 []).1 (Nat.le_of_eq g7.symm))
  have K7 : Keep h0 h7 [] := (Keep.refl h0 []).ext E7
  obtain ⟨T8, X8, e8, st8⟩ := seg0_12_36 (.val (.int p1)) q2 p3 (.val (.int p4)) (.val (.int p5)) (.val (.long q6)) (.second) (p1 &&& (7 : Int32)) (.val (.ref b7)) (.unset) (.unset) (.unset) (.unset) (.unset) (.unset) (.unset) (.unset) X7 hx hZ hw hby hml hown e7
  obtain ⟨T9, h9, X9, e9, E9, A9, D9, -, st9⟩ := newO X8 hx hZ hown (hw _ (List.mem_of_getElem? (i := 1) rfl)) (hw _ (List.mem_of_getElem? (i := 2) rfl)) (hw _ (List.mem_of_getElem? (i := 3) rfl)) e8 (g := (mkF m 36 #[.val (.int p1), .val (.long q2), .second, .val (.int p3), .val (.int p4), .val (.int p5), .val (.long q6), .second, .val (.int (p1 &&& (7 : Int32))), .val (.ref b7), .val (.long (own_s0_12_10 q2 p3 (p1 &&& (7 : Int32)))), .second, .unset, .unset, .unset, .unset, .unset, .unset, .unset, .unset] [])) rfl (hb hby at_36) (by decide) (by decide)
  obtain ⟨b9, g9⟩ : ∃ z, z = h7.size := ⟨_, rfl⟩
  rw [← g9] at A9 D9 st9
  have F_kept_b9 : Fld Z h9 b9 "com/example/crewroster/crewroster/http/Body" "kept" "[B" .null := D9 (Or.inr (hw _ (List.mem_of_getElem? (i := 16) rfl))) (ty := (.array .byte)) (by decide)
  have F_length_b9 : Fld Z h9 b9 "com/example/crewroster/crewroster/http/Body" "length" "J" (.long (0 : Int64)) := D9 (Or.inr (hw _ (List.mem_of_getElem? (i := 18) rfl))) (ty := .long) (by decide)
  have E_b9 := A9
  have g_b9 : n0 ≤ b9 := Nat.le_trans (Nat.le_trans Z0 E7.1) (Nat.le_of_eq g9.symm)
  have sz_b9 : h0.size ≤ b9 := (Nat.le_trans K7.1 (Nat.le_of_eq g9.symm))
  have K9 : Keep h0 h9 [] := K7.ext E9
  obtain ⟨_, _, ⟨T10, L10, k10, n10⟩, -, X10, ⟨Lc10, hQ10, l10, y10, z10⟩, st10⟩ := X9.specialBack hx (y := (⟨"com/example/crewroster/crewroster/http/Body", "<init>", "([BJ)V"⟩ : MethodName)) rfl hown (mvT hZ (hw _ (List.mem_of_getElem? (i := 4) rfl))) (mvT hZ (hw _ (List.mem_of_getElem? (i := 5) rfl))) (mvT hZ (hw _ (List.mem_of_getElem? (i := 6) rfl))) (by decide) (backOf (W := 1) (rm1 l Z a0 hw [] b9 b7 (own_s0_12_10 q2 p3 (p1 &&& (7 : Int32))) .null (.long (0 : Int64)) h9 n0 (Nat.le_trans (Nat.le_trans Z0 E7.1) E9.1) E_b9 F_kept_b9 g_b9 F_length_b9) hZ (hw _ (List.mem_of_getElem? (i := 6) rfl)) (hw _ (List.mem_of_getElem? (i := 3) rfl)) (by decide) (by decide)) (g := (mkF m 44 #[.val (.int p1), .val (.long q2), .second, .val (.int p3), .val (.int p4), .val (.int p5), .val (.long q6), .second, .val (.int (p1 &&& (7 : Int32))), .val (.ref b7), .val (.long (own_s0_12_10 q2 p3 (p1 &&& (7 : Int32)))), .second, .unset, .unset, .unset, .unset, .unset, .unset, .unset, .unset] [(.long (own_s0_12_10 q2 p3 (p1 &&& (7 : Int32)))), (.ref b7), (.ref b9), (.ref b9)])) rfl (by rw [hml]; rfl) (Steps.refl _) (a := b9) (argsL := [(.ref b7), (.long (own_s0_12_10 q2 p3 (p1 &&& (7 : Int32))))]) (rest := [(.ref b9)]) (lenOf pd_0_0 rfl) rfl (by show 2 * 0 + _ ≤ _; exact Nat.le_of_eq rfl) (hb hby at_44) (fun _ _ => ⟨rfl, e9, (by decide : 2 + 0 ≤ _), (by decide : 9 + 0 ≤ _)⟩)
  dsimp only [Pt.U, Pt.locs, Pt.cells, Pt.slots] at X10 l10 y10 z10 st10 hQ10
  have y10' : k10 = 2 := y10
  have z10' : n10 = 9 := z10
  clear y10 z10
  subst y10' z10'
  obtain ⟨rfl, N10q, Kq10, Eq10, Fk10, Fl10⟩ := hQ10
  have N10 : Fr n0 L10 := by rw [l10]; exact Fr.app N0 N10q
  have Kc10 : Keep h0 T10.heap [] := K9.trans Kq10 (fun x hx => by simp only [List.mem_cons, List.not_mem_nil, or_false] at hx; rcases hx with rfl <;> first | exact Or.inr sz_b9)
  obtain ⟨cq11, kq11, q11a, q11b, q11c⟩ := isOf hZ rfl Eq10
  obtain ⟨clx12, Arx12, -, Sx12, Nx12, -, -⟩ := id ((V_b7.ext E9).keep Kq10 (by simp only [List.mem_cons, List.not_mem_nil, or_false, not_or]; exact (Nat.ne_of_lt (Nat.lt_of_lt_of_le V_b7.lt (Nat.le_of_eq g9.symm)))))
  obtain ⟨_, _, ⟨T11, L11, k11, n11⟩, -, X11, ⟨Lc11, hQ11, l11, y11, z11⟩, st11⟩ := X10.virtualBack hx (y := (⟨"com/example/crewroster/crewroster/http/Body", "isWhole", "()Z"⟩ : MethodName)) (z := (⟨"com/example/crewroster/crewroster/http/Body", "isWhole", "()Z"⟩ : MethodName)) hown (mvT hZ (hw _ (List.mem_of_getElem? (i := 19) rfl))) (mvT hZ (hw _ (List.mem_of_getElem? (i := 20) rfl))) (notFace_of_selects (args := #[]) (mvT hZ (hw _ (List.mem_of_getElem? (i := 22) rfl)))) (mvT hZ (hw _ (List.mem_of_getElem? (i := 22) rfl))) (mvT hZ (hw _ (List.mem_of_getElem? (i := 21) rfl))) (by decide) (backOf (W := 0) (rm4 l Z a0 hw [] b9 b7 clx12 (p1 &&& (7 : Int32)) (own_s0_12_10 q2 p3 (p1 &&& (7 : Int32))) T10.heap n0 (Nat.le_trans (Nat.le_trans (Nat.le_trans Z0 E7.1) E9.1) Kq10.1) Fk10 Arx12 Sx12 Nx12 Fl10) hZ (hw _ (List.mem_of_getElem? (i := 23) rfl)) (hw _ (List.mem_of_getElem? (i := 3) rfl)) (by decide) (by decide)) q11a q11c (g := (mkF m 51 #[.val (.int p1), .val (.long q2), .second, .val (.int p3), .val (.int p4), .val (.int p5), .val (.long q6), .second, .val (.int (p1 &&& (7 : Int32))), .val (.ref b7), .val (.long (own_s0_12_10 q2 p3 (p1 &&& (7 : Int32)))), .second, .val (.ref b9), .unset, .unset, .unset, .unset, .unset, .unset, .unset] [(.ref b9)])) rfl (by rw [hml]; rfl) (Steps.refl _) (argsL := []) (rest := []) (lenOf pd_0_2 rfl) rfl (by show 2 * 0 + _ ≤ _; exact Nat.le_of_eq rfl) (hb hby at_51) (fun _ _ => ⟨rfl, rfl, (by decide : 2 + 0 ≤ _), (by decide : 9 + 0 ≤ _)⟩)
  dsimp only [Pt.U, Pt.locs, Pt.cells, Pt.slots] at X11 l11 y11 z11 st11 hQ11
  have y11' : k11 = 2 := y11
  have z11' : n11 = 9 := z11
  clear y11 z11
  subst y11' z11'
  obtain ⟨rfl, N11q, e11q0⟩ := hQ11
  have e11q : T11.heap = T10.heap := e11q0
  have N11 : Fr n0 L11 := by rw [l11]; exact Fr.app N10 N11q
  obtain ⟨T13, h13, k13, X13, e13, E13, A13, Ex13, st13⟩ := newPE X11 hx hZ (hw _ (List.mem_of_getElem? (i := 0) rfl)) e11q (g := (mkF m 87 #[.val (.int p1), .val (.long q2), .second, .val (.int p3), .val (.int p4), .val (.int p5), .val (.long q6), .second, .val (.int (p1 &&& (7 : Int32))), .val (.ref b7), .val (.long (own_s0_12_10 q2 p3 (p1 &&& (7 : Int32)))), .second, .val (.ref b9), .val (.int (1 : Int32)), .val (.int (p4 &&& (7 : Int32))), .unset, .unset, .unset, .unset, .unset] [(.int (p4 &&& (7 : Int32)))])) rfl (hb hby at_87) rfl (own_nn (own_and7 p4).1) (cap := 7) (own_cap (own_and7 p4).2) (by decide) (by decide) (by decide) (ad := "[B") rfl
  obtain ⟨b13, g13⟩ : ∃ z, z = T10.heap.size := ⟨_, rfl⟩
  rw [← g13] at A13 Ex13 st13
  have V_b13 := Arv.new A13 (own_nn (own_and7 p4).1)
  have g_b13 : n0 ≤ b13 := Nat.le_trans (Nat.le_trans (Nat.le_trans (Nat.le_trans Z0 E7.1) E9.1) Kq10.1) (Nat.le_of_eq g13.symm)
  have sz_b13 : h0.size ≤ b13 := (Nat.le_trans Kc10.1 (Nat.le_of_eq g13.symm))
  have K13 : Keep h0 h13 [] := Kc10.ext E13
  obtain ⟨T14, X14, e14, st14⟩ := seg0_91_117 (.val (.int p1)) (.val (.long q2)) (.second) (.val (.int p3)) (.val (.int p4)) p5 q6 (.val (.int (p1 &&& (7 : Int32)))) (.val (.ref b7)) (.val (.long (own_s0_12_10 q2 p3 (p1 &&& (7 : Int32))))) (.second) (.val (.ref b9)) (.val (.int (1 : Int32))) (.val (.int (p4 &&& (7 : Int32)))) (.val (.ref b13)) (.unset) (.unset) X13 hx hZ hw hby hml hown e13
  obtain ⟨clx16, Arx16, -, Sx16, Nx16, -, -⟩ := id V_b13
  obtain ⟨_, _, ⟨T15, L15, k15, n15⟩, -, X15, ⟨Lc15, hQ15, l15, y15, z15⟩, st15⟩ := Jvm.LawKit.callS X14 hx (y := (⟨"com/example/crewroster/crewroster/http/Body", "of", "([BJ)Lcom/example/crewroster/crewroster/http/Body;"⟩ : MethodName)) hown (mvT hZ (hw _ (List.mem_of_getElem? (i := 24) rfl))) (mvT hZ (hw _ (List.mem_of_getElem? (i := 25) rfl))) (mvT hZ (hw _ (List.mem_of_getElem? (i := 3) rfl))) (mvT hZ (hw _ (List.mem_of_getElem? (i := 26) rfl))) (by decide) (backOf (W := 0) (rm5 l Z a0 hw [] b13 (own_s0_91_16 p5 q6) clx16 (p4 &&& (7 : Int32)) k13 [] (.int (0 : Int32)) wN wK clK h13 n0 (Nat.le_trans (Nat.le_trans (Nat.le_trans (Nat.le_trans Z0 E7.1) E9.1) Kq10.1) E13.1) V_b13 Ex13 (own_q _ _) (own_and7 _).2 Arx16 Sx16 Nx16 (S_N.ext (own_ext K13)) (E_N.ext (own_ext K13)) (F_k.ext (own_ext K13)) (ArK.ext (own_ext K13)) SK (F_l.ext (own_ext K13))) hZ (hw _ (List.mem_of_getElem? (i := 26) rfl)) (hw _ (List.mem_of_getElem? (i := 3) rfl)) (by decide) (by decide)) (g := (mkF m 121 #[.val (.int p1), .val (.long q2), .second, .val (.int p3), .val (.int p4), .val (.int p5), .val (.long q6), .second, .val (.int (p1 &&& (7 : Int32))), .val (.ref b7), .val (.long (own_s0_12_10 q2 p3 (p1 &&& (7 : Int32)))), .second, .val (.ref b9), .val (.int (1 : Int32)), .val (.int (p4 &&& (7 : Int32))), .val (.ref b13), .val (.long (own_s0_91_16 p5 q6)), .second, .unset, .unset] [(.long (own_s0_91_16 p5 q6)), (.ref b13)])) rfl (by rw [hml]; rfl) (argsL := [(.ref b13), (.long (own_s0_91_16 p5 q6))]) (rest := []) (lenOf pd_0_3 rfl) rfl (by show 2 * 0 + _ ≤ _; exact Nat.le_of_eq rfl) (hb hby at_121) (fun _ _ => ⟨rfl, e14, (by decide : 3 + 3 ≤ _), (by decide : 16 + 16 ≤ _)⟩)
  dsimp only [Pt.U, Pt.locs, Pt.cells, Pt.slots] at X15 l15 y15 z15 st15 hQ15
  have y15' : k15 = 6 := y15
  have z15' : n15 = 32 := z15
  clear y15 z15
  subst y15' z15'
  obtain ⟨r15, wr15, cr15, yr15, rfl, N15q, Kq15, Er15, Fkr15, Arr15, Sr15, Nr15, Flr15, Ir15⟩ := hQ15
  have N15 : Fr n0 L15 := by rw [l15]; exact Fr.app N11 N15q
  have Kc15 : Keep h0 T15.heap [] := K13.trans Kq15 (fun x hx => absurd hx List.not_mem_nil)
  obtain ⟨cq17, kq17, q17a, q17b, q17c⟩ := isOf hZ rfl Er15
  obtain ⟨_, _, ⟨T17, L17, k17, n17⟩, -, X17, ⟨Lc17, hQ17, l17, y17, z17⟩, st17⟩ := X15.virtualBack hx (y := (⟨"com/example/crewroster/crewroster/http/Body", "isWhole", "()Z"⟩ : MethodName)) (z := (⟨"com/example/crewroster/crewroster/http/Body", "isWhole", "()Z"⟩ : MethodName)) hown (mvT hZ (hw _ (List.mem_of_getElem? (i := 19) rfl))) (mvT hZ (hw _ (List.mem_of_getElem? (i := 20) rfl))) (notFace_of_selects (args := #[]) (mvT hZ (hw _ (List.mem_of_getElem? (i := 22) rfl)))) (mvT hZ (hw _ (List.mem_of_getElem? (i := 22) rfl))) (mvT hZ (hw _ (List.mem_of_getElem? (i := 21) rfl))) (by decide) (backOf (W := 0) (rm4 l Z a0 hw [] r15 wr15 cr15 yr15 (own_s0_91_16 p5 q6) T15.heap n0 (Nat.le_trans (Nat.le_trans (Nat.le_trans (Nat.le_trans (Nat.le_trans Z0 E7.1) E9.1) Kq10.1) E13.1) Kq15.1) Fkr15 Arr15 Sr15 Nr15 Flr15) hZ (hw _ (List.mem_of_getElem? (i := 23) rfl)) (hw _ (List.mem_of_getElem? (i := 3) rfl)) (by decide) (by decide)) q17a q17c (g := (mkF m 128 #[.val (.int p1), .val (.long q2), .second, .val (.int p3), .val (.int p4), .val (.int p5), .val (.long q6), .second, .val (.int (p1 &&& (7 : Int32))), .val (.ref b7), .val (.long (own_s0_12_10 q2 p3 (p1 &&& (7 : Int32)))), .second, .val (.ref b9), .val (.int (1 : Int32)), .val (.int (p4 &&& (7 : Int32))), .val (.ref b13), .val (.long (own_s0_91_16 p5 q6)), .second, .val (.ref r15), .unset] [(.ref r15)])) rfl (by rw [hml]; rfl) (Steps.refl _) (argsL := []) (rest := []) (lenOf pd_0_2 rfl) rfl (by show 2 * 0 + _ ≤ _; exact Nat.le_of_eq rfl) (hb hby at_128) (fun _ _ => ⟨rfl, rfl, (by decide : 6 + 0 ≤ _), (by decide : 32 + 0 ≤ _)⟩)
  dsimp only [Pt.U, Pt.locs, Pt.cells, Pt.slots] at X17 l17 y17 z17 st17 hQ17
  have y17' : k17 = 6 := y17
  have z17' : n17 = 32 := z17
  clear y17 z17
  subst y17' z17'
  obtain ⟨rfl, N17q, e17q0⟩ := hQ17
  have e17q : T17.heap = T15.heap := e17q0
  have N17 : Fr n0 L17 := by rw [l17]; exact Fr.app N15 N17q
  obtain ⟨fs, hr, hrun, hended, hW, hsame⟩ := X17.leave (v := some (.int (1 : Int32))) (fun h => by rw [Bd.returns] at h; cases h)
  refine ⟨_, _, pre0 _ ?_, hrun, hended, _, _, rfl, ?_, ⟨_, rfl⟩, hW, hsame.mono (by decide) (by decide)⟩
  · show Steps p.tables e below (s₁.setTop (mkF m 0 #[.val (.int p1), .val (.long q2), .second, .val (.int p3), .val (.int p4), .val (.int p5), .val (.long q6), .second, .unset, .unset, .unset, .unset, .unset, .unset, .unset, .unset, .unset, .unset, .unset, .unset] [])) _
    refine XS.iloadN X0.here hx rfl (hb hby at_0) rfl ?_
    show Steps p.tables e below (s₁.setTop (mkF m 1 #[.val (.int p1), .val (.long q2), .second, .val (.int p3), .val (.int p4), .val (.int p5), .val (.long q6), .second, .unset, .unset, .unset, .unset, .unset, .unset, .unset, .unset, .unset, .unset, .unset, .unset] [(.int p1)])) _
    refine XS.bipush X0.here hx rfl (hb hby at_1) ?_
    show Steps p.tables e below (s₁.setTop (mkF m 3 #[.val (.int p1), .val (.long q2), .second, .val (.int p3), .val (.int p4), .val (.int p5), .val (.long q6), .second, .unset, .unset, .unset, .unset, .unset, .unset, .unset, .unset, .unset, .unset, .unset, .unset] [(.int (7 : Int32)), (.int p1)])) _
    refine XS.iand X0.here hx rfl (hb hby at_3) rfl ?_
    show Steps p.tables e below (s₁.setTop (mkF m 4 #[.val (.int p1), .val (.long q2), .second, .val (.int p3), .val (.int p4), .val (.int p5), .val (.long q6), .second, .unset, .unset, .unset, .unset, .unset, .unset, .unset, .unset, .unset, .unset, .unset, .unset] [(.int (p1 &&& (7 : Int32)))])) _
    refine XS.istore X0.here hx rfl (hb hby at_4) rfl (l' := #[.val (.int p1), .val (.long q2), .second, .val (.int p3), .val (.int p4), .val (.int p5), .val (.long q6), .second, .val (.int (p1 &&& (7 : Int32))), .unset, .unset, .unset, .unset, .unset, .unset, .unset, .unset, .unset, .unset, .unset]) rfl ?_
    show Steps p.tables e below (s₁.setTop (mkF m 6 #[.val (.int p1), .val (.long q2), .second, .val (.int p3), .val (.int p4), .val (.int p5), .val (.long q6), .second, .val (.int (p1 &&& (7 : Int32))), .unset, .unset, .unset, .unset, .unset, .unset, .unset, .unset, .unset, .unset, .unset] [])) _
    refine XS.iload X0.here hx rfl (hb hby at_6) rfl ?_
    show Steps p.tables e below (s₁.setTop (mkF m 8 #[.val (.int p1), .val (.long q2), .second, .val (.int p3), .val (.int p4), .val (.int p5), .val (.long q6), .second, .val (.int (p1 &&& (7 : Int32))), .unset, .unset, .unset, .unset, .unset, .unset, .unset, .unset, .unset, .unset, .unset] [(.int (p1 &&& (7 : Int32)))])) _
    refine st7 _ ?_
    show Steps p.tables e below (T7.setTop (mkF m 10 #[.val (.int p1), .val (.long q2), .second, .val (.int p3), .val (.int p4), .val (.int p5), .val (.long q6), .second, .val (.int (p1 &&& (7 : Int32))), .unset, .unset, .unset, .unset, .unset, .unset, .unset, .unset, .unset, .unset, .unset] [(.ref b7)])) _
    refine XS.astore X7.here hx rfl (hb hby at_10) rfl rfl (l' := #[.val (.int p1), .val (.long q2), .second, .val (.int p3), .val (.int p4), .val (.int p5), .val (.long q6), .second, .val (.int (p1 &&& (7 : Int32))), .val (.ref b7), .unset, .unset, .unset, .unset, .unset, .unset, .unset, .unset, .unset, .unset]) rfl ?_
    show Steps p.tables e below (T7.setTop (mkF m 12 #[.val (.int p1), .val (.long q2), .second, .val (.int p3), .val (.int p4), .val (.int p5), .val (.long q6), .second, .val (.int (p1 &&& (7 : Int32))), .val (.ref b7), .unset, .unset, .unset, .unset, .unset, .unset, .unset, .unset, .unset, .unset] [])) _
    refine st8 _ ?_
    show Steps p.tables e below (T8.setTop (mkF m 36 #[.val (.int p1), .val (.long q2), .second, .val (.int p3), .val (.int p4), .val (.int p5), .val (.long q6), .second, .val (.int (p1 &&& (7 : Int32))), .val (.ref b7), .val (.long (own_s0_12_10 q2 p3 (p1 &&& (7 : Int32)))), .second, .unset, .unset, .unset, .unset, .unset, .unset, .unset, .unset] [])) _
    refine st9 _ ?_
    show Steps p.tables e below (T9.setTop (mkF m 39 #[.val (.int p1), .val (.long q2), .second, .val (.int p3), .val (.int p4), .val (.int p5), .val (.long q6), .second, .val (.int (p1 &&& (7 : Int32))), .val (.ref b7), .val (.long (own_s0_12_10 q2 p3 (p1 &&& (7 : Int32)))), .second, .unset, .unset, .unset, .unset, .unset, .unset, .unset, .unset] [(.ref b9)])) _
    refine XS.dup X9.here hx rfl (hb hby at_39) rfl rfl ?_
    show Steps p.tables e below (T9.setTop (mkF m 40 #[.val (.int p1), .val (.long q2), .second, .val (.int p3), .val (.int p4), .val (.int p5), .val (.long q6), .second, .val (.int (p1 &&& (7 : Int32))), .val (.ref b7), .val (.long (own_s0_12_10 q2 p3 (p1 &&& (7 : Int32)))), .second, .unset, .unset, .unset, .unset, .unset, .unset, .unset, .unset] [(.ref b9), (.ref b9)])) _
    refine XS.aload X9.here hx rfl (hb hby at_40) rfl rfl ?_
    show Steps p.tables e below (T9.setTop (mkF m 42 #[.val (.int p1), .val (.long q2), .second, .val (.int p3), .val (.int p4), .val (.int p5), .val (.long q6), .second, .val (.int (p1 &&& (7 : Int32))), .val (.ref b7), .val (.long (own_s0_12_10 q2 p3 (p1 &&& (7 : Int32)))), .second, .unset, .unset, .unset, .unset, .unset, .unset, .unset, .unset] [(.ref b7), (.ref b9), (.ref b9)])) _
    refine XS.lload X9.here hx rfl (hb hby at_42) rfl ?_
    show Steps p.tables e below (T9.setTop (mkF m 44 #[.val (.int p1), .val (.long q2), .second, .val (.int p3), .val (.int p4), .val (.int p5), .val (.long q6), .second, .val (.int (p1 &&& (7 : Int32))), .val (.ref b7), .val (.long (own_s0_12_10 q2 p3 (p1 &&& (7 : Int32)))), .second, .unset, .unset, .unset, .unset, .unset, .unset, .unset, .unset] [(.long (own_s0_12_10 q2 p3 (p1 &&& (7 : Int32)))), (.ref b7), (.ref b9), (.ref b9)])) _
    refine st10.trans ?_
    show Steps p.tables e below (T10.setTop (mkF m 47 #[.val (.int p1), .val (.long q2), .second, .val (.int p3), .val (.int p4), .val (.int p5), .val (.long q6), .second, .val (.int (p1 &&& (7 : Int32))), .val (.ref b7), .val (.long (own_s0_12_10 q2 p3 (p1 &&& (7 : Int32)))), .second, .unset, .unset, .unset, .unset, .unset, .unset, .unset, .unset] [(.ref b9)])) _
    refine XS.astore X10.here hx rfl (hb hby at_47) rfl rfl (l' := #[.val (.int p1), .val (.long q2), .second, .val (.int p3), .val (.int p4), .val (.int p5), .val (.long q6), .second, .val (.int (p1 &&& (7 : Int32))), .val (.ref b7), .val (.long (own_s0_12_10 q2 p3 (p1 &&& (7 : Int32)))), .second, .val (.ref b9), .unset, .unset, .unset, .unset, .unset, .unset, .unset]) rfl ?_
    show Steps p.tables e below (T10.setTop (mkF m 49 #[.val (.int p1), .val (.long q2), .second, .val (.int p3), .val (.int p4), .val (.int p5), .val (.long q6), .second, .val (.int (p1 &&& (7 : Int32))), .val (.ref b7), .val (.long (own_s0_12_10 q2 p3 (p1 &&& (7 : Int32)))), .second, .val (.ref b9), .unset, .unset, .unset, .unset, .unset, .unset, .unset] [])) _
    refine XS.aload X10.here hx rfl (hb hby at_49) rfl rfl ?_
    show Steps p.tables e below (T10.setTop (mkF m 51 #[.val (.int p1), .val (.long q2), .second, .val (.int p3), .val (.int p4), .val (.int p5), .val (.long q6), .second, .val (.int (p1 &&& (7 : Int32))), .val (.ref b7), .val (.long (own_s0_12_10 q2 p3 (p1 &&& (7 : Int32)))), .second, .val (.ref b9), .unset, .unset, .unset, .unset, .unset, .unset, .unset] [(.ref b9)])) _
    refine st11.trans ?_
    show Steps p.tables e below (T11.setTop (mkF m 54 #[.val (.int p1), .val (.long q2), .second, .val (.int p3), .val (.int p4), .val (.int p5), .val (.long q6), .second, .val (.int (p1 &&& (7 : Int32))), .val (.ref b7), .val (.long (own_s0_12_10 q2 p3 (p1 &&& (7 : Int32)))), .second, .val (.ref b9), .unset, .unset, .unset, .unset, .unset, .unset, .unset] [(.int (own_f4 b9 b7 clx12 (p1 &&& (7 : Int32)) (own_s0_12_10 q2 p3 (p1 &&& (7 : Int32)))))])) _
    refine XS.lload X11.here hx rfl (hb hby at_54) rfl ?_
    show Steps p.tables e below (T11.setTop (mkF m 56 #[.val (.int p1), .val (.long q2), .second, .val (.int p3), .val (.int p4), .val (.int p5), .val (.long q6), .second, .val (.int (p1 &&& (7 : Int32))), .val (.ref b7), .val (.long (own_s0_12_10 q2 p3 (p1 &&& (7 : Int32)))), .second, .val (.ref b9), .unset, .unset, .unset, .unset, .unset, .unset, .unset] [(.long (own_s0_12_10 q2 p3 (p1 &&& (7 : Int32)))), (.int (own_f4 b9 b7 clx12 (p1 &&& (7 : Int32)) (own_s0_12_10 q2 p3 (p1 &&& (7 : Int32)))))])) _
    refine XS.iload X11.here hx rfl (hb hby at_56) rfl ?_
    show Steps p.tables e below (T11.setTop (mkF m 58 #[.val (.int p1), .val (.long q2), .second, .val (.int p3), .val (.int p4), .val (.int p5), .val (.long q6), .second, .val (.int (p1 &&& (7 : Int32))), .val (.ref b7), .val (.long (own_s0_12_10 q2 p3 (p1 &&& (7 : Int32)))), .second, .val (.ref b9), .unset, .unset, .unset, .unset, .unset, .unset, .unset] [(.int (p1 &&& (7 : Int32))), (.long (own_s0_12_10 q2 p3 (p1 &&& (7 : Int32)))), (.int (own_f4 b9 b7 clx12 (p1 &&& (7 : Int32)) (own_s0_12_10 q2 p3 (p1 &&& (7 : Int32)))))])) _
    refine XS.i2l X11.here hx rfl (hb hby at_58) rfl ?_
    show Steps p.tables e below (T11.setTop (mkF m 59 #[.val (.int p1), .val (.long q2), .second, .val (.int p3), .val (.int p4), .val (.int p5), .val (.long q6), .second, .val (.int (p1 &&& (7 : Int32))), .val (.ref b7), .val (.long (own_s0_12_10 q2 p3 (p1 &&& (7 : Int32)))), .second, .val (.ref b9), .unset, .unset, .unset, .unset, .unset, .unset, .unset] [(.long ((p1 &&& (7 : Int32)).toInt64)), (.long (own_s0_12_10 q2 p3 (p1 &&& (7 : Int32)))), (.int (own_f4 b9 b7 clx12 (p1 &&& (7 : Int32)) (own_s0_12_10 q2 p3 (p1 &&& (7 : Int32)))))])) _
    refine XS.lcmp X11.here hx rfl (hb hby at_59) rfl ?_
    show Steps p.tables e below (T11.setTop (mkF m 60 #[.val (.int p1), .val (.long q2), .second, .val (.int p3), .val (.int p4), .val (.int p5), .val (.long q6), .second, .val (.int (p1 &&& (7 : Int32))), .val (.ref b7), .val (.long (own_s0_12_10 q2 p3 (p1 &&& (7 : Int32)))), .second, .val (.ref b9), .unset, .unset, .unset, .unset, .unset, .unset, .unset] [(.int (lcmpW (own_s0_12_10 q2 p3 (p1 &&& (7 : Int32))) ((p1 &&& (7 : Int32)).toInt64))), (.int (own_f4 b9 b7 clx12 (p1 &&& (7 : Int32)) (own_s0_12_10 q2 p3 (p1 &&& (7 : Int32)))))])) _
    refine XS.ifYes X11.here hx rfl (pc0 := 60) (pc' := 67) rfl (hb hby at_60) rfl ((if0 _ _).trans (feq hc60).2) (by decide) (by decide) ?_
    show Steps p.tables e below (T11.setTop (mkF m 67 #[.val (.int p1), .val (.long q2), .second, .val (.int p3), .val (.int p4), .val (.int p5), .val (.long q6), .second, .val (.int (p1 &&& (7 : Int32))), .val (.ref b7), .val (.long (own_s0_12_10 q2 p3 (p1 &&& (7 : Int32)))), .second, .val (.ref b9), .unset, .unset, .unset, .unset, .unset, .unset, .unset] [(.int (own_f4 b9 b7 clx12 (p1 &&& (7 : Int32)) (own_s0_12_10 q2 p3 (p1 &&& (7 : Int32)))))])) _
    refine XS.iconst X11.here hx rfl (hb hby at_67) ?_
    show Steps p.tables e below (T11.setTop (mkF m 68 #[.val (.int p1), .val (.long q2), .second, .val (.int p3), .val (.int p4), .val (.int p5), .val (.long q6), .second, .val (.int (p1 &&& (7 : Int32))), .val (.ref b7), .val (.long (own_s0_12_10 q2 p3 (p1 &&& (7 : Int32)))), .second, .val (.ref b9), .unset, .unset, .unset, .unset, .unset, .unset, .unset] [(.int (0 : Int32)), (.int (own_f4 b9 b7 clx12 (p1 &&& (7 : Int32)) (own_s0_12_10 q2 p3 (p1 &&& (7 : Int32)))))])) _
    refine XS.icmpNo X11.here hx rfl (hb hby at_68) rfl (teq (own_w0 hc60 : (own_f4 b9 b7 clx12 (p1 &&& (7 : Int32)) (own_s0_12_10 q2 p3 (p1 &&& (7 : Int32)))) = (0 : Int32))).2 ?_
    show Steps p.tables e below (T11.setTop (mkF m 71 #[.val (.int p1), .val (.long q2), .second, .val (.int p3), .val (.int p4), .val (.int p5), .val (.long q6), .second, .val (.int (p1 &&& (7 : Int32))), .val (.ref b7), .val (.long (own_s0_12_10 q2 p3 (p1 &&& (7 : Int32)))), .second, .val (.ref b9), .unset, .unset, .unset, .unset, .unset, .unset, .unset] [])) _
    refine XS.iconst X11.here hx rfl (hb hby at_71) ?_
    show Steps p.tables e below (T11.setTop (mkF m 72 #[.val (.int p1), .val (.long q2), .second, .val (.int p3), .val (.int p4), .val (.int p5), .val (.long q6), .second, .val (.int (p1 &&& (7 : Int32))), .val (.ref b7), .val (.long (own_s0_12_10 q2 p3 (p1 &&& (7 : Int32)))), .second, .val (.ref b9), .unset, .unset, .unset, .unset, .unset, .unset, .unset] [(.int (1 : Int32))])) _
    refine XS.goto X11.here hx rfl (pc0 := 72) (pc' := 76) rfl (hb hby at_72) (by decide) (by decide) ?_
    show Steps p.tables e below (T11.setTop (mkF m 76 #[.val (.int p1), .val (.long q2), .second, .val (.int p3), .val (.int p4), .val (.int p5), .val (.long q6), .second, .val (.int (p1 &&& (7 : Int32))), .val (.ref b7), .val (.long (own_s0_12_10 q2 p3 (p1 &&& (7 : Int32)))), .second, .val (.ref b9), .unset, .unset, .unset, .unset, .unset, .unset, .unset] [(.int (1 : Int32))])) _
    refine XS.istore X11.here hx rfl (hb hby at_76) rfl (l' := #[.val (.int p1), .val (.long q2), .second, .val (.int p3), .val (.int p4), .val (.int p5), .val (.long q6), .second, .val (.int (p1 &&& (7 : Int32))), .val (.ref b7), .val (.long (own_s0_12_10 q2 p3 (p1 &&& (7 : Int32)))), .second, .val (.ref b9), .val (.int (1 : Int32)), .unset, .unset, .unset, .unset, .unset, .unset]) rfl ?_
    show Steps p.tables e below (T11.setTop (mkF m 78 #[.val (.int p1), .val (.long q2), .second, .val (.int p3), .val (.int p4), .val (.int p5), .val (.long q6), .second, .val (.int (p1 &&& (7 : Int32))), .val (.ref b7), .val (.long (own_s0_12_10 q2 p3 (p1 &&& (7 : Int32)))), .second, .val (.ref b9), .val (.int (1 : Int32)), .unset, .unset, .unset, .unset, .unset, .unset] [])) _
    refine XS.iload X11.here hx rfl (hb hby at_78) rfl ?_
    show Steps p.tables e below (T11.setTop (mkF m 80 #[.val (.int p1), .val (.long q2), .second, .val (.int p3), .val (.int p4), .val (.int p5), .val (.long q6), .second, .val (.int (p1 &&& (7 : Int32))), .val (.ref b7), .val (.long (own_s0_12_10 q2 p3 (p1 &&& (7 : Int32)))), .second, .val (.ref b9), .val (.int (1 : Int32)), .unset, .unset, .unset, .unset, .unset, .unset] [(.int p4)])) _
    refine XS.bipush X11.here hx rfl (hb hby at_80) ?_
    show Steps p.tables e below (T11.setTop (mkF m 82 #[.val (.int p1), .val (.long q2), .second, .val (.int p3), .val (.int p4), .val (.int p5), .val (.long q6), .second, .val (.int (p1 &&& (7 : Int32))), .val (.ref b7), .val (.long (own_s0_12_10 q2 p3 (p1 &&& (7 : Int32)))), .second, .val (.ref b9), .val (.int (1 : Int32)), .unset, .unset, .unset, .unset, .unset, .unset] [(.int (7 : Int32)), (.int p4)])) _
    refine XS.iand X11.here hx rfl (hb hby at_82) rfl ?_
    show Steps p.tables e below (T11.setTop (mkF m 83 #[.val (.int p1), .val (.long q2), .second, .val (.int p3), .val (.int p4), .val (.int p5), .val (.long q6), .second, .val (.int (p1 &&& (7 : Int32))), .val (.ref b7), .val (.long (own_s0_12_10 q2 p3 (p1 &&& (7 : Int32)))), .second, .val (.ref b9), .val (.int (1 : Int32)), .unset, .unset, .unset, .unset, .unset, .unset] [(.int (p4 &&& (7 : Int32)))])) _
    refine XS.istore X11.here hx rfl (hb hby at_83) rfl (l' := #[.val (.int p1), .val (.long q2), .second, .val (.int p3), .val (.int p4), .val (.int p5), .val (.long q6), .second, .val (.int (p1 &&& (7 : Int32))), .val (.ref b7), .val (.long (own_s0_12_10 q2 p3 (p1 &&& (7 : Int32)))), .second, .val (.ref b9), .val (.int (1 : Int32)), .val (.int (p4 &&& (7 : Int32))), .unset, .unset, .unset, .unset, .unset]) rfl ?_
    show Steps p.tables e below (T11.setTop (mkF m 85 #[.val (.int p1), .val (.long q2), .second, .val (.int p3), .val (.int p4), .val (.int p5), .val (.long q6), .second, .val (.int (p1 &&& (7 : Int32))), .val (.ref b7), .val (.long (own_s0_12_10 q2 p3 (p1 &&& (7 : Int32)))), .second, .val (.ref b9), .val (.int (1 : Int32)), .val (.int (p4 &&& (7 : Int32))), .unset, .unset, .unset, .unset, .unset] [])) _
    refine XS.iload X11.here hx rfl (hb hby at_85) rfl ?_
    show Steps p.tables e below (T11.setTop (mkF m 87 #[.val (.int p1), .val (.long q2), .second, .val (.int p3), .val (.int p4), .val (.int p5), .val (.long q6), .second, .val (.int (p1 &&& (7 : Int32))), .val (.ref b7), .val (.long (own_s0_12_10 q2 p3 (p1 &&& (7 : Int32)))), .second, .val (.ref b9), .val (.int (1 : Int32)), .val (.int (p4 &&& (7 : Int32))), .unset, .unset, .unset, .unset, .unset] [(.int (p4 &&& (7 : Int32)))])) _
    refine st13 _ ?_
    show Steps p.tables e below (T13.setTop (mkF m 89 #[.val (.int p1), .val (.long q2), .second, .val (.int p3), .val (.int p4), .val (.int p5), .val (.long q6), .second, .val (.int (p1 &&& (7 : Int32))), .val (.ref b7), .val (.long (own_s0_12_10 q2 p3 (p1 &&& (7 : Int32)))), .second, .val (.ref b9), .val (.int (1 : Int32)), .val (.int (p4 &&& (7 : Int32))), .unset, .unset, .unset, .unset, .unset] [(.ref b13)])) _
    refine XS.astore X13.here hx rfl (hb hby at_89) rfl rfl (l' := #[.val (.int p1), .val (.long q2), .second, .val (.int p3), .val (.int p4), .val (.int p5), .val (.long q6), .second, .val (.int (p1 &&& (7 : Int32))), .val (.ref b7), .val (.long (own_s0_12_10 q2 p3 (p1 &&& (7 : Int32)))), .second, .val (.ref b9), .val (.int (1 : Int32)), .val (.int (p4 &&& (7 : Int32))), .val (.ref b13), .unset, .unset, .unset, .unset]) rfl ?_
    show Steps p.tables e below (T13.setTop (mkF m 91 #[.val (.int p1), .val (.long q2), .second, .val (.int p3), .val (.int p4), .val (.int p5), .val (.long q6), .second, .val (.int (p1 &&& (7 : Int32))), .val (.ref b7), .val (.long (own_s0_12_10 q2 p3 (p1 &&& (7 : Int32)))), .second, .val (.ref b9), .val (.int (1 : Int32)), .val (.int (p4 &&& (7 : Int32))), .val (.ref b13), .unset, .unset, .unset, .unset] [])) _
    refine st14 _ ?_
    show Steps p.tables e below (T14.setTop (mkF m 117 #[.val (.int p1), .val (.long q2), .second, .val (.int p3), .val (.int p4), .val (.int p5), .val (.long q6), .second, .val (.int (p1 &&& (7 : Int32))), .val (.ref b7), .val (.long (own_s0_12_10 q2 p3 (p1 &&& (7 : Int32)))), .second, .val (.ref b9), .val (.int (1 : Int32)), .val (.int (p4 &&& (7 : Int32))), .val (.ref b13), .val (.long (own_s0_91_16 p5 q6)), .second, .unset, .unset] [])) _
    refine XS.aload X14.here hx rfl (hb hby at_117) rfl rfl ?_
    show Steps p.tables e below (T14.setTop (mkF m 119 #[.val (.int p1), .val (.long q2), .second, .val (.int p3), .val (.int p4), .val (.int p5), .val (.long q6), .second, .val (.int (p1 &&& (7 : Int32))), .val (.ref b7), .val (.long (own_s0_12_10 q2 p3 (p1 &&& (7 : Int32)))), .second, .val (.ref b9), .val (.int (1 : Int32)), .val (.int (p4 &&& (7 : Int32))), .val (.ref b13), .val (.long (own_s0_91_16 p5 q6)), .second, .unset, .unset] [(.ref b13)])) _
    refine XS.lload X14.here hx rfl (hb hby at_119) rfl ?_
    show Steps p.tables e below (T14.setTop (mkF m 121 #[.val (.int p1), .val (.long q2), .second, .val (.int p3), .val (.int p4), .val (.int p5), .val (.long q6), .second, .val (.int (p1 &&& (7 : Int32))), .val (.ref b7), .val (.long (own_s0_12_10 q2 p3 (p1 &&& (7 : Int32)))), .second, .val (.ref b9), .val (.int (1 : Int32)), .val (.int (p4 &&& (7 : Int32))), .val (.ref b13), .val (.long (own_s0_91_16 p5 q6)), .second, .unset, .unset] [(.long (own_s0_91_16 p5 q6)), (.ref b13)])) _
    refine st15 _ ?_
    show Steps p.tables e below (T15.setTop (mkF m 124 #[.val (.int p1), .val (.long q2), .second, .val (.int p3), .val (.int p4), .val (.int p5), .val (.long q6), .second, .val (.int (p1 &&& (7 : Int32))), .val (.ref b7), .val (.long (own_s0_12_10 q2 p3 (p1 &&& (7 : Int32)))), .second, .val (.ref b9), .val (.int (1 : Int32)), .val (.int (p4 &&& (7 : Int32))), .val (.ref b13), .val (.long (own_s0_91_16 p5 q6)), .second, .unset, .unset] [(.ref r15)])) _
    refine XS.astore X15.here hx rfl (hb hby at_124) rfl rfl (l' := #[.val (.int p1), .val (.long q2), .second, .val (.int p3), .val (.int p4), .val (.int p5), .val (.long q6), .second, .val (.int (p1 &&& (7 : Int32))), .val (.ref b7), .val (.long (own_s0_12_10 q2 p3 (p1 &&& (7 : Int32)))), .second, .val (.ref b9), .val (.int (1 : Int32)), .val (.int (p4 &&& (7 : Int32))), .val (.ref b13), .val (.long (own_s0_91_16 p5 q6)), .second, .val (.ref r15), .unset]) rfl ?_
    show Steps p.tables e below (T15.setTop (mkF m 126 #[.val (.int p1), .val (.long q2), .second, .val (.int p3), .val (.int p4), .val (.int p5), .val (.long q6), .second, .val (.int (p1 &&& (7 : Int32))), .val (.ref b7), .val (.long (own_s0_12_10 q2 p3 (p1 &&& (7 : Int32)))), .second, .val (.ref b9), .val (.int (1 : Int32)), .val (.int (p4 &&& (7 : Int32))), .val (.ref b13), .val (.long (own_s0_91_16 p5 q6)), .second, .val (.ref r15), .unset] [])) _
    refine XS.aload X15.here hx rfl (hb hby at_126) rfl rfl ?_
    show Steps p.tables e below (T15.setTop (mkF m 128 #[.val (.int p1), .val (.long q2), .second, .val (.int p3), .val (.int p4), .val (.int p5), .val (.long q6), .second, .val (.int (p1 &&& (7 : Int32))), .val (.ref b7), .val (.long (own_s0_12_10 q2 p3 (p1 &&& (7 : Int32)))), .second, .val (.ref b9), .val (.int (1 : Int32)), .val (.int (p4 &&& (7 : Int32))), .val (.ref b13), .val (.long (own_s0_91_16 p5 q6)), .second, .val (.ref r15), .unset] [(.ref r15)])) _
    refine st17.trans ?_
    show Steps p.tables e below (T17.setTop (mkF m 131 #[.val (.int p1), .val (.long q2), .second, .val (.int p3), .val (.int p4), .val (.int p5), .val (.long q6), .second, .val (.int (p1 &&& (7 : Int32))), .val (.ref b7), .val (.long (own_s0_12_10 q2 p3 (p1 &&& (7 : Int32)))), .second, .val (.ref b9), .val (.int (1 : Int32)), .val (.int (p4 &&& (7 : Int32))), .val (.ref b13), .val (.long (own_s0_91_16 p5 q6)), .second, .val (.ref r15), .unset] [(.int (own_f4 r15 wr15 cr15 yr15 (own_s0_91_16 p5 q6)))])) _
    refine XS.lload X17.here hx rfl (hb hby at_131) rfl ?_
    show Steps p.tables e below (T17.setTop (mkF m 133 #[.val (.int p1), .val (.long q2), .second, .val (.int p3), .val (.int p4), .val (.int p5), .val (.long q6), .second, .val (.int (p1 &&& (7 : Int32))), .val (.ref b7), .val (.long (own_s0_12_10 q2 p3 (p1 &&& (7 : Int32)))), .second, .val (.ref b9), .val (.int (1 : Int32)), .val (.int (p4 &&& (7 : Int32))), .val (.ref b13), .val (.long (own_s0_91_16 p5 q6)), .second, .val (.ref r15), .unset] [(.long (own_s0_91_16 p5 q6)), (.int (own_f4 r15 wr15 cr15 yr15 (own_s0_91_16 p5 q6)))])) _
    refine XS.iload X17.here hx rfl (hb hby at_133) rfl ?_
    show Steps p.tables e below (T17.setTop (mkF m 135 #[.val (.int p1), .val (.long q2), .second, .val (.int p3), .val (.int p4), .val (.int p5), .val (.long q6), .second, .val (.int (p1 &&& (7 : Int32))), .val (.ref b7), .val (.long (own_s0_12_10 q2 p3 (p1 &&& (7 : Int32)))), .second, .val (.ref b9), .val (.int (1 : Int32)), .val (.int (p4 &&& (7 : Int32))), .val (.ref b13), .val (.long (own_s0_91_16 p5 q6)), .second, .val (.ref r15), .unset] [(.int (p4 &&& (7 : Int32))), (.long (own_s0_91_16 p5 q6)), (.int (own_f4 r15 wr15 cr15 yr15 (own_s0_91_16 p5 q6)))])) _
    refine XS.i2l X17.here hx rfl (hb hby at_135) rfl ?_
    show Steps p.tables e below (T17.setTop (mkF m 136 #[.val (.int p1), .val (.long q2), .second, .val (.int p3), .val (.int p4), .val (.int p5), .val (.long q6), .second, .val (.int (p1 &&& (7 : Int32))), .val (.ref b7), .val (.long (own_s0_12_10 q2 p3 (p1 &&& (7 : Int32)))), .second, .val (.ref b9), .val (.int (1 : Int32)), .val (.int (p4 &&& (7 : Int32))), .val (.ref b13), .val (.long (own_s0_91_16 p5 q6)), .second, .val (.ref r15), .unset] [(.long ((p4 &&& (7 : Int32)).toInt64)), (.long (own_s0_91_16 p5 q6)), (.int (own_f4 r15 wr15 cr15 yr15 (own_s0_91_16 p5 q6)))])) _
    refine XS.lcmp X17.here hx rfl (hb hby at_136) rfl ?_
    show Steps p.tables e below (T17.setTop (mkF m 137 #[.val (.int p1), .val (.long q2), .second, .val (.int p3), .val (.int p4), .val (.int p5), .val (.long q6), .second, .val (.int (p1 &&& (7 : Int32))), .val (.ref b7), .val (.long (own_s0_12_10 q2 p3 (p1 &&& (7 : Int32)))), .second, .val (.ref b9), .val (.int (1 : Int32)), .val (.int (p4 &&& (7 : Int32))), .val (.ref b13), .val (.long (own_s0_91_16 p5 q6)), .second, .val (.ref r15), .unset] [(.int (lcmpW (own_s0_91_16 p5 q6) ((p4 &&& (7 : Int32)).toInt64))), (.int (own_f4 r15 wr15 cr15 yr15 (own_s0_91_16 p5 q6)))])) _
    refine XS.ifNo X17.here hx rfl (hb hby at_137) rfl ((if0 _ _).trans (flt hc137).2.2.1) ?_
    show Steps p.tables e below (T17.setTop (mkF m 140 #[.val (.int p1), .val (.long q2), .second, .val (.int p3), .val (.int p4), .val (.int p5), .val (.long q6), .second, .val (.int (p1 &&& (7 : Int32))), .val (.ref b7), .val (.long (own_s0_12_10 q2 p3 (p1 &&& (7 : Int32)))), .second, .val (.ref b9), .val (.int (1 : Int32)), .val (.int (p4 &&& (7 : Int32))), .val (.ref b13), .val (.long (own_s0_91_16 p5 q6)), .second, .val (.ref r15), .unset] [(.int (own_f4 r15 wr15 cr15 yr15 (own_s0_91_16 p5 q6)))])) _
    refine XS.iconst X17.here hx rfl (hb hby at_140) ?_
    show Steps p.tables e below (T17.setTop (mkF m 141 #[.val (.int p1), .val (.long q2), .second, .val (.int p3), .val (.int p4), .val (.int p5), .val (.long q6), .second, .val (.int (p1 &&& (7 : Int32))), .val (.ref b7), .val (.long (own_s0_12_10 q2 p3 (p1 &&& (7 : Int32)))), .second, .val (.ref b9), .val (.int (1 : Int32)), .val (.int (p4 &&& (7 : Int32))), .val (.ref b13), .val (.long (own_s0_91_16 p5 q6)), .second, .val (.ref r15), .unset] [(.int (1 : Int32)), (.int (own_f4 r15 wr15 cr15 yr15 (own_s0_91_16 p5 q6)))])) _
    refine XS.goto X17.here hx rfl (pc0 := 141) (pc' := 145) rfl (hb hby at_141) (by decide) (by decide) ?_
    show Steps p.tables e below (T17.setTop (mkF m 145 #[.val (.int p1), .val (.long q2), .second, .val (.int p3), .val (.int p4), .val (.int p5), .val (.long q6), .second, .val (.int (p1 &&& (7 : Int32))), .val (.ref b7), .val (.long (own_s0_12_10 q2 p3 (p1 &&& (7 : Int32)))), .second, .val (.ref b9), .val (.int (1 : Int32)), .val (.int (p4 &&& (7 : Int32))), .val (.ref b13), .val (.long (own_s0_91_16 p5 q6)), .second, .val (.ref r15), .unset] [(.int (1 : Int32)), (.int (own_f4 r15 wr15 cr15 yr15 (own_s0_91_16 p5 q6)))])) _
    refine XS.icmpNo X17.here hx rfl (hb hby at_145) rfl (teq (own_v1 Ir15 hc137 : (own_f4 r15 wr15 cr15 yr15 (own_s0_91_16 p5 q6)) = (1 : Int32))).2 ?_
    show Steps p.tables e below (T17.setTop (mkF m 148 #[.val (.int p1), .val (.long q2), .second, .val (.int p3), .val (.int p4), .val (.int p5), .val (.long q6), .second, .val (.int (p1 &&& (7 : Int32))), .val (.ref b7), .val (.long (own_s0_12_10 q2 p3 (p1 &&& (7 : Int32)))), .second, .val (.ref b9), .val (.int (1 : Int32)), .val (.int (p4 &&& (7 : Int32))), .val (.ref b13), .val (.long (own_s0_91_16 p5 q6)), .second, .val (.ref r15), .unset] [])) _
    refine XS.iconst X17.here hx rfl (hb hby at_148) ?_
    show Steps p.tables e below (T17.setTop (mkF m 149 #[.val (.int p1), .val (.long q2), .second, .val (.int p3), .val (.int p4), .val (.int p5), .val (.long q6), .second, .val (.int (p1 &&& (7 : Int32))), .val (.ref b7), .val (.long (own_s0_12_10 q2 p3 (p1 &&& (7 : Int32)))), .second, .val (.ref b9), .val (.int (1 : Int32)), .val (.int (p4 &&& (7 : Int32))), .val (.ref b13), .val (.long (own_s0_91_16 p5 q6)), .second, .val (.ref r15), .unset] [(.int (1 : Int32))])) _
    refine XS.goto X17.here hx rfl (pc0 := 149) (pc' := 153) rfl (hb hby at_149) (by decide) (by decide) ?_
    show Steps p.tables e below (T17.setTop (mkF m 153 #[.val (.int p1), .val (.long q2), .second, .val (.int p3), .val (.int p4), .val (.int p5), .val (.long q6), .second, .val (.int (p1 &&& (7 : Int32))), .val (.ref b7), .val (.long (own_s0_12_10 q2 p3 (p1 &&& (7 : Int32)))), .second, .val (.ref b9), .val (.int (1 : Int32)), .val (.int (p4 &&& (7 : Int32))), .val (.ref b13), .val (.long (own_s0_91_16 p5 q6)), .second, .val (.ref r15), .unset] [(.int (1 : Int32))])) _
    refine XS.istore X17.here hx rfl (hb hby at_153) rfl (l' := #[.val (.int p1), .val (.long q2), .second, .val (.int p3), .val (.int p4), .val (.int p5), .val (.long q6), .second, .val (.int (p1 &&& (7 : Int32))), .val (.ref b7), .val (.long (own_s0_12_10 q2 p3 (p1 &&& (7 : Int32)))), .second, .val (.ref b9), .val (.int (1 : Int32)), .val (.int (p4 &&& (7 : Int32))), .val (.ref b13), .val (.long (own_s0_91_16 p5 q6)), .second, .val (.ref r15), .val (.int (1 : Int32))]) rfl ?_
    show Steps p.tables e below (T17.setTop (mkF m 155 #[.val (.int p1), .val (.long q2), .second, .val (.int p3), .val (.int p4), .val (.int p5), .val (.long q6), .second, .val (.int (p1 &&& (7 : Int32))), .val (.ref b7), .val (.long (own_s0_12_10 q2 p3 (p1 &&& (7 : Int32)))), .second, .val (.ref b9), .val (.int (1 : Int32)), .val (.int (p4 &&& (7 : Int32))), .val (.ref b13), .val (.long (own_s0_91_16 p5 q6)), .second, .val (.ref r15), .val (.int (1 : Int32))] [])) _
    refine XS.iload X17.here hx rfl (hb hby at_155) rfl ?_
    show Steps p.tables e below (T17.setTop (mkF m 157 #[.val (.int p1), .val (.long q2), .second, .val (.int p3), .val (.int p4), .val (.int p5), .val (.long q6), .second, .val (.int (p1 &&& (7 : Int32))), .val (.ref b7), .val (.long (own_s0_12_10 q2 p3 (p1 &&& (7 : Int32)))), .second, .val (.ref b9), .val (.int (1 : Int32)), .val (.int (p4 &&& (7 : Int32))), .val (.ref b13), .val (.long (own_s0_91_16 p5 q6)), .second, .val (.ref r15), .val (.int (1 : Int32))] [(.int (1 : Int32))])) _
    refine XS.ifNo X17.here hx rfl (hb hby at_157) rfl ((if0 _ _).trans (feq (by decide : ¬ ((1 : Int32) = (0 : Int32)))).1) ?_
    show Steps p.tables e below (T17.setTop (mkF m 160 #[.val (.int p1), .val (.long q2), .second, .val (.int p3), .val (.int p4), .val (.int p5), .val (.long q6), .second, .val (.int (p1 &&& (7 : Int32))), .val (.ref b7), .val (.long (own_s0_12_10 q2 p3 (p1 &&& (7 : Int32)))), .second, .val (.ref b9), .val (.int (1 : Int32)), .val (.int (p4 &&& (7 : Int32))), .val (.ref b13), .val (.long (own_s0_91_16 p5 q6)), .second, .val (.ref r15), .val (.int (1 : Int32))] [])) _
    refine XS.iload X17.here hx rfl (hb hby at_160) rfl ?_
    show Steps p.tables e below (T17.setTop (mkF m 162 #[.val (.int p1), .val (.long q2), .second, .val (.int p3), .val (.int p4), .val (.int p5), .val (.long q6), .second, .val (.int (p1 &&& (7 : Int32))), .val (.ref b7), .val (.long (own_s0_12_10 q2 p3 (p1 &&& (7 : Int32)))), .second, .val (.ref b9), .val (.int (1 : Int32)), .val (.int (p4 &&& (7 : Int32))), .val (.ref b13), .val (.long (own_s0_91_16 p5 q6)), .second, .val (.ref r15), .val (.int (1 : Int32))] [(.int (1 : Int32))])) _
    refine XS.ifNo X17.here hx rfl (hb hby at_162) rfl ((if0 _ _).trans (feq (by decide : ¬ ((1 : Int32) = (0 : Int32)))).1) ?_
    show Steps p.tables e below (T17.setTop (mkF m 165 #[.val (.int p1), .val (.long q2), .second, .val (.int p3), .val (.int p4), .val (.int p5), .val (.long q6), .second, .val (.int (p1 &&& (7 : Int32))), .val (.ref b7), .val (.long (own_s0_12_10 q2 p3 (p1 &&& (7 : Int32)))), .second, .val (.ref b9), .val (.int (1 : Int32)), .val (.int (p4 &&& (7 : Int32))), .val (.ref b13), .val (.long (own_s0_91_16 p5 q6)), .second, .val (.ref r15), .val (.int (1 : Int32))] [])) _
    refine XS.iconst X17.here hx rfl (hb hby at_165) ?_
    show Steps p.tables e below (T17.setTop (mkF m 166 #[.val (.int p1), .val (.long q2), .second, .val (.int p3), .val (.int p4), .val (.int p5), .val (.long q6), .second, .val (.int (p1 &&& (7 : Int32))), .val (.ref b7), .val (.long (own_s0_12_10 q2 p3 (p1 &&& (7 : Int32)))), .second, .val (.ref b9), .val (.int (1 : Int32)), .val (.int (p4 &&& (7 : Int32))), .val (.ref b13), .val (.long (own_s0_91_16 p5 q6)), .second, .val (.ref r15), .val (.int (1 : Int32))] [(.int (1 : Int32))])) _
    refine XS.goto X17.here hx rfl (pc0 := 166) (pc' := 170) rfl (hb hby at_166) (by decide) (by decide) ?_
    show Steps p.tables e below (T17.setTop (mkF m 170 #[.val (.int p1), .val (.long q2), .second, .val (.int p3), .val (.int p4), .val (.int p5), .val (.long q6), .second, .val (.int (p1 &&& (7 : Int32))), .val (.ref b7), .val (.long (own_s0_12_10 q2 p3 (p1 &&& (7 : Int32)))), .second, .val (.ref b9), .val (.int (1 : Int32)), .val (.int (p4 &&& (7 : Int32))), .val (.ref b13), .val (.long (own_s0_91_16 p5 q6)), .second, .val (.ref r15), .val (.int (1 : Int32))] [(.int (1 : Int32))])) _
    exact retN X17 hx (t := .boolean) Bd.returns (by simp) (hb hby at_170) hr
  · show Q0 Z p1 q2 p3 p4 p5 q6 h0 n0 _ T17.heap _
    rw [e17q]
    exact ⟨rfl, N17⟩
set_option maxRecDepth 65536 in
set_option maxHeartbeats 40000000 in
theorem rm0_tftfff (l : Launch) (Z : State) (a0 : Array Value) (hw : ∀ d ∈ tables_1, d.before a0 Z = true) (ws : List Jvm.Cond) (p1 : Int32) (q2 : Int64) (p3 : Int32) (p4 : Int32) (p5 : Int32) (q6 : Int64) (h0 : Heap) (n0 : Nat) (Z0 : n0 ≤ h0.size) (hN : OwnN Z h0) (hc60 : ¬ ((lcmpW (own_s0_12_10 q2 p3 (p1 &&& (7 : Int32))) ((p1 &&& (7 : Int32)).toInt64)) = (0 : Int32))) (hc137 : (0 : Int32) < (lcmpW (own_s0_91_16 p5 q6) ((p4 &&& (7 : Int32)).toInt64))) :
    MetFree l x (head1 (Jvm.Cond.code x code maxLocals ret :: ws) room_1) (fun a U => a = #[(.int p1), (.long q2), (.int p3), (.int p4), (.int p5), (.long q6)] ∧ Z.Warmed39 U.vm ∧ U.heap = h0) (fun _ _ _ _ _ => True) (fun _ U o U' => ∃ v L, o = .returned v ∧ Q0 Z p1 q2 p3 p4 p5 q6 h0 n0 v U'.heap L ∧ FrameEnd U o U' L room_1.cells room_1.slots) := by
  refine MetFree.of_bodySF (plainFor_of_name pn_0) hisR ?_
  intro p e s m args below meth c s₁ Bd hml0 hP hK
  obtain ⟨rfl, hZ, hh⟩ := hP
  have hx := Bd.exec
  have hby := Bd.bytes
  have hml : c.maxLocals = 20 := hml0
  have hown : s.vm.findClass "com/example/crewroster/crewroster/http/BodyIsWholePinLaw" = some m.cls := findClass_of_methodNamed Bd.named
  have hnm := (name_of_methodNamed Bd.named Bd.method).1
  have X0 : Stand p l e room_1 s m #[(.int p1), (.long q2), (.int p3), (.int p4), (.int p5), (.long q6)] below meth c s₁ [] 0 0 := Stand.of_body Bd
  have e0 : s₁.heap = h0 := by rw [← hh, Bd.state]; rfl
  have N0 := Fr.nil n0
  obtain ⟨wN, wK, clK, S_N, E_N, F_k, ArK, SK, F_l⟩ := hN
  have pre0 : ∀ t, Steps p.tables e below (s₁.setTop (mkF m 0 #[.val (.int p1), .val (.long q2), .second, .val (.int p3), .val (.int p4), .val (.int p5), .val (.long q6), .second, .unset, .unset, .unset, .unset, .unset, .unset, .unset, .unset, .unset, .unset, .unset, .unset] [])) t → Steps p.tables e below (s₁.setTop (entryFrame m #[(.int p1), (.long q2), (.int p3), (.int p4), (.int p5), (.long q6)] maxLocals)) t := fun t k => castTop (ef_0 m p1 q2 p3 p4 p5 q6) k
  obtain ⟨T7, h7, k7, X7, e7, E7, A7, Ex7, st7⟩ := newPE X0 hx hZ (hw _ (List.mem_of_getElem? (i := 0) rfl)) e0 (g := (mkF m 8 #[.val (.int p1), .val (.long q2), .second, .val (.int p3), .val (.int p4), .val (.int p5), .val (.long q6), .second, .val (.int (p1 &&& (7 : Int32))), .unset, .unset, .unset, .unset, .unset, .unset, .unset, .unset, .unset, .unset, .unset] [(.int (p1 &&& (7 : Int32)))])) rfl (hb hby at_8) rfl (own_nn (own_and7 p1).1) (cap := 7) (own_cap (own_and7 p1).2) (by decide) (by decide) (by decide) (ad := "[B") rfl
  obtain ⟨b7, g7⟩ : ∃ z, z = h0.size := ⟨_, rfl⟩
  rw [← g7] at A7 Ex7 st7
  have V_b7 := Arv.new A7 (own_nn (own_and7 p1).1)
  have g_b7 : n0 ≤ b7 := Nat.le_trans Z0 (Nat.le_of_eq g7.symm)
  have sz_b7 : h0.size ≤ b7 := (Nat.le_trans (Keep.refl h0 []).1 (Nat.le_of_eq g7.symm))
  have K7 : Keep h0 h7 [] := (Keep.refl h0 []).ext E7
  obtain ⟨T8, X8, e8, st8⟩ := seg0_12_36 (.val (.int p1)) q2 p3 (.val (.int p4)) (.val (.int p5)) (.val (.long q6)) (.second) (p1 &&& (7 : Int32)) (.val (.ref b7)) (.unset) (.unset) (.unset) (.unset) (.unset) (.unset) (.unset) (.unset) X7 hx hZ hw hby hml hown e7
  obtain ⟨T9, h9, X9, e9, E9, A9, D9, -, st9⟩ := newO X8 hx hZ hown (hw _ (List.mem_of_getElem? (i := 1) rfl)) (hw _ (List.mem_of_getElem? (i := 2) rfl)) (hw _ (List.mem_of_getElem? (i := 3) rfl)) e8 (g := (mkF m 36 #[.val (.int p1), .val (.long q2), .second, .val (.int p3), .val (.int p4), .val (.int p5), .val (.long q6), .second, .val (.int (p1 &&& (7 : Int32))), .val (.ref b7), .val (.long (own_s0_12_10 q2 p3 (p1 &&& (7 : Int32)))), .second, .unset, .unset, .unset, .unset, .unset, .unset, .unset, .unset] [])) rfl (hb hby at_36) (by decide) (by decide)
  obtain ⟨b9, g9⟩ : ∃ z, z = h7.size := ⟨_, rfl⟩
  rw [← g9] at A9 D9 st9
  have F_kept_b9 : Fld Z h9 b9 "com/example/crewroster/crewroster/http/Body" "kept" "[B" .null := D9 (Or.inr (hw _ (List.mem_of_getElem? (i := 16) rfl))) (ty := (.array .byte)) (by decide)
  have F_length_b9 : Fld Z h9 b9 "com/example/crewroster/crewroster/http/Body" "length" "J" (.long (0 : Int64)) := D9 (Or.inr (hw _ (List.mem_of_getElem? (i := 18) rfl))) (ty := .long) (by decide)
  have E_b9 := A9
  have g_b9 : n0 ≤ b9 := Nat.le_trans (Nat.le_trans Z0 E7.1) (Nat.le_of_eq g9.symm)
  have sz_b9 : h0.size ≤ b9 := (Nat.le_trans K7.1 (Nat.le_of_eq g9.symm))
  have K9 : Keep h0 h9 [] := K7.ext E9
  obtain ⟨_, _, ⟨T10, L10, k10, n10⟩, -, X10, ⟨Lc10, hQ10, l10, y10, z10⟩, st10⟩ := X9.specialBack hx (y := (⟨"com/example/crewroster/crewroster/http/Body", "<init>", "([BJ)V"⟩ : MethodName)) rfl hown (mvT hZ (hw _ (List.mem_of_getElem? (i := 4) rfl))) (mvT hZ (hw _ (List.mem_of_getElem? (i := 5) rfl))) (mvT hZ (hw _ (List.mem_of_getElem? (i := 6) rfl))) (by decide) (backOf (W := 1) (rm1 l Z a0 hw [] b9 b7 (own_s0_12_10 q2 p3 (p1 &&& (7 : Int32))) .null (.long (0 : Int64)) h9 n0 (Nat.le_trans (Nat.le_trans Z0 E7.1) E9.1) E_b9 F_kept_b9 g_b9 F_length_b9) hZ (hw _ (List.mem_of_getElem? (i := 6) rfl)) (hw _ (List.mem_of_getElem? (i := 3) rfl)) (by decide) (by decide)) (g := (mkF m 44 #[.val (.int p1), .val (.long q2), .second, .val (.int p3), .val (.int p4), .val (.int p5), .val (.long q6), .second, .val (.int (p1 &&& (7 : Int32))), .val (.ref b7), .val (.long (own_s0_12_10 q2 p3 (p1 &&& (7 : Int32)))), .second, .unset, .unset, .unset, .unset, .unset, .unset, .unset, .unset] [(.long (own_s0_12_10 q2 p3 (p1 &&& (7 : Int32)))), (.ref b7), (.ref b9), (.ref b9)])) rfl (by rw [hml]; rfl) (Steps.refl _) (a := b9) (argsL := [(.ref b7), (.long (own_s0_12_10 q2 p3 (p1 &&& (7 : Int32))))]) (rest := [(.ref b9)]) (lenOf pd_0_0 rfl) rfl (by show 2 * 0 + _ ≤ _; exact Nat.le_of_eq rfl) (hb hby at_44) (fun _ _ => ⟨rfl, e9, (by decide : 2 + 0 ≤ _), (by decide : 9 + 0 ≤ _)⟩)
  dsimp only [Pt.U, Pt.locs, Pt.cells, Pt.slots] at X10 l10 y10 z10 st10 hQ10
  have y10' : k10 = 2 := y10
  have z10' : n10 = 9 := z10
  clear y10 z10
  subst y10' z10'
  obtain ⟨rfl, N10q, Kq10, Eq10, Fk10, Fl10⟩ := hQ10
  have N10 : Fr n0 L10 := by rw [l10]; exact Fr.app N0 N10q
  have Kc10 : Keep h0 T10.heap [] := K9.trans Kq10 (fun x hx => by simp only [List.mem_cons, List.not_mem_nil, or_false] at hx; rcases hx with rfl <;> first | exact Or.inr sz_b9)
  obtain ⟨cq11, kq11, q11a, q11b, q11c⟩ := isOf hZ rfl Eq10
  obtain ⟨clx12, Arx12, -, Sx12, Nx12, -, -⟩ := id ((V_b7.ext E9).keep Kq10 (by simp only [List.mem_cons, List.not_mem_nil, or_false, not_or]; exact (Nat.ne_of_lt (Nat.lt_of_lt_of_le V_b7.lt (Nat.le_of_eq g9.symm)))))
  obtain ⟨_, _, ⟨T11, L11, k11, n11⟩, -, X11, ⟨Lc11, hQ11, l11, y11, z11⟩, st11⟩ := X10.virtualBack hx (y := (⟨"com/example/crewroster/crewroster/http/Body", "isWhole", "()Z"⟩ : MethodName)) (z := (⟨"com/example/crewroster/crewroster/http/Body", "isWhole", "()Z"⟩ : MethodName)) hown (mvT hZ (hw _ (List.mem_of_getElem? (i := 19) rfl))) (mvT hZ (hw _ (List.mem_of_getElem? (i := 20) rfl))) (notFace_of_selects (args := #[]) (mvT hZ (hw _ (List.mem_of_getElem? (i := 22) rfl)))) (mvT hZ (hw _ (List.mem_of_getElem? (i := 22) rfl))) (mvT hZ (hw _ (List.mem_of_getElem? (i := 21) rfl))) (by decide) (backOf (W := 0) (rm4 l Z a0 hw [] b9 b7 clx12 (p1 &&& (7 : Int32)) (own_s0_12_10 q2 p3 (p1 &&& (7 : Int32))) T10.heap n0 (Nat.le_trans (Nat.le_trans (Nat.le_trans Z0 E7.1) E9.1) Kq10.1) Fk10 Arx12 Sx12 Nx12 Fl10) hZ (hw _ (List.mem_of_getElem? (i := 23) rfl)) (hw _ (List.mem_of_getElem? (i := 3) rfl)) (by decide) (by decide)) q11a q11c (g := (mkF m 51 #[.val (.int p1), .val (.long q2), .second, .val (.int p3), .val (.int p4), .val (.int p5), .val (.long q6), .second, .val (.int (p1 &&& (7 : Int32))), .val (.ref b7), .val (.long (own_s0_12_10 q2 p3 (p1 &&& (7 : Int32)))), .second, .val (.ref b9), .unset, .unset, .unset, .unset, .unset, .unset, .unset] [(.ref b9)])) rfl (by rw [hml]; rfl) (Steps.refl _) (argsL := []) (rest := []) (lenOf pd_0_2 rfl) rfl (by show 2 * 0 + _ ≤ _; exact Nat.le_of_eq rfl) (hb hby at_51) (fun _ _ => ⟨rfl, rfl, (by decide : 2 + 0 ≤ _), (by decide : 9 + 0 ≤ _)⟩)
  dsimp only [Pt.U, Pt.locs, Pt.cells, Pt.slots] at X11 l11 y11 z11 st11 hQ11
  have y11' : k11 = 2 := y11
  have z11' : n11 = 9 := z11
  clear y11 z11
  subst y11' z11'
  obtain ⟨rfl, N11q, e11q0⟩ := hQ11
  have e11q : T11.heap = T10.heap := e11q0
  have N11 : Fr n0 L11 := by rw [l11]; exact Fr.app N10 N11q
  obtain ⟨T13, h13, k13, X13, e13, E13, A13, Ex13, st13⟩ := newPE X11 hx hZ (hw _ (List.mem_of_getElem? (i := 0) rfl)) e11q (g := (mkF m 87 #[.val (.int p1), .val (.long q2), .second, .val (.int p3), .val (.int p4), .val (.int p5), .val (.long q6), .second, .val (.int (p1 &&& (7 : Int32))), .val (.ref b7), .val (.long (own_s0_12_10 q2 p3 (p1 &&& (7 : Int32)))), .second, .val (.ref b9), .val (.int (1 : Int32)), .val (.int (p4 &&& (7 : Int32))), .unset, .unset, .unset, .unset, .unset] [(.int (p4 &&& (7 : Int32)))])) rfl (hb hby at_87) rfl (own_nn (own_and7 p4).1) (cap := 7) (own_cap (own_and7 p4).2) (by decide) (by decide) (by decide) (ad := "[B") rfl
  obtain ⟨b13, g13⟩ : ∃ z, z = T10.heap.size := ⟨_, rfl⟩
  rw [← g13] at A13 Ex13 st13
  have V_b13 := Arv.new A13 (own_nn (own_and7 p4).1)
  have g_b13 : n0 ≤ b13 := Nat.le_trans (Nat.le_trans (Nat.le_trans (Nat.le_trans Z0 E7.1) E9.1) Kq10.1) (Nat.le_of_eq g13.symm)
  have sz_b13 : h0.size ≤ b13 := (Nat.le_trans Kc10.1 (Nat.le_of_eq g13.symm))
  have K13 : Keep h0 h13 [] := Kc10.ext E13
  obtain ⟨T14, X14, e14, st14⟩ := seg0_91_117 (.val (.int p1)) (.val (.long q2)) (.second) (.val (.int p3)) (.val (.int p4)) p5 q6 (.val (.int (p1 &&& (7 : Int32)))) (.val (.ref b7)) (.val (.long (own_s0_12_10 q2 p3 (p1 &&& (7 : Int32))))) (.second) (.val (.ref b9)) (.val (.int (1 : Int32))) (.val (.int (p4 &&& (7 : Int32)))) (.val (.ref b13)) (.unset) (.unset) X13 hx hZ hw hby hml hown e13
  obtain ⟨clx16, Arx16, -, Sx16, Nx16, -, -⟩ := id V_b13
  obtain ⟨_, _, ⟨T15, L15, k15, n15⟩, -, X15, ⟨Lc15, hQ15, l15, y15, z15⟩, st15⟩ := Jvm.LawKit.callS X14 hx (y := (⟨"com/example/crewroster/crewroster/http/Body", "of", "([BJ)Lcom/example/crewroster/crewroster/http/Body;"⟩ : MethodName)) hown (mvT hZ (hw _ (List.mem_of_getElem? (i := 24) rfl))) (mvT hZ (hw _ (List.mem_of_getElem? (i := 25) rfl))) (mvT hZ (hw _ (List.mem_of_getElem? (i := 3) rfl))) (mvT hZ (hw _ (List.mem_of_getElem? (i := 26) rfl))) (by decide) (backOf (W := 0) (rm5 l Z a0 hw [] b13 (own_s0_91_16 p5 q6) clx16 (p4 &&& (7 : Int32)) k13 [] (.int (0 : Int32)) wN wK clK h13 n0 (Nat.le_trans (Nat.le_trans (Nat.le_trans (Nat.le_trans Z0 E7.1) E9.1) Kq10.1) E13.1) V_b13 Ex13 (own_q _ _) (own_and7 _).2 Arx16 Sx16 Nx16 (S_N.ext (own_ext K13)) (E_N.ext (own_ext K13)) (F_k.ext (own_ext K13)) (ArK.ext (own_ext K13)) SK (F_l.ext (own_ext K13))) hZ (hw _ (List.mem_of_getElem? (i := 26) rfl)) (hw _ (List.mem_of_getElem? (i := 3) rfl)) (by decide) (by decide)) (g := (mkF m 121 #[.val (.int p1), .val (.long q2), .second, .val (.int p3), .val (.int p4), .val (.int p5), .val (.long q6), .second, .val (.int (p1 &&& (7 : Int32))), .val (.ref b7), .val (.long (own_s0_12_10 q2 p3 (p1 &&& (7 : Int32)))), .second, .val (.ref b9), .val (.int (1 : Int32)), .val (.int (p4 &&& (7 : Int32))), .val (.ref b13), .val (.long (own_s0_91_16 p5 q6)), .second, .unset, .unset] [(.long (own_s0_91_16 p5 q6)), (.ref b13)])) rfl (by rw [hml]; rfl) (argsL := [(.ref b13), (.long (own_s0_91_16 p5 q6))]) (rest := []) (lenOf pd_0_3 rfl) rfl (by show 2 * 0 + _ ≤ _; exact Nat.le_of_eq rfl) (hb hby at_121) (fun _ _ => ⟨rfl, e14, (by decide : 3 + 3 ≤ _), (by decide : 16 + 16 ≤ _)⟩)
  dsimp only [Pt.U, Pt.locs, Pt.cells, Pt.slots] at X15 l15 y15 z15 st15 hQ15
  have y15' : k15 = 6 := y15
  have z15' : n15 = 32 := z15
  clear y15 z15
  subst y15' z15'
  obtain ⟨r15, wr15, cr15, yr15, rfl, N15q, Kq15, Er15, Fkr15, Arr15, Sr15, Nr15, Flr15, Ir15⟩ := hQ15
  have N15 : Fr n0 L15 := by rw [l15]; exact Fr.app N11 N15q
  have Kc15 : Keep h0 T15.heap [] := K13.trans Kq15 (fun x hx => absurd hx List.not_mem_nil)
  obtain ⟨cq17, kq17, q17a, q17b, q17c⟩ := isOf hZ rfl Er15
  obtain ⟨_, _, ⟨T17, L17, k17, n17⟩, -, X17, ⟨Lc17, hQ17, l17, y17, z17⟩, st17⟩ := X15.virtualBack hx (y := (⟨"com/example/crewroster/crewroster/http/Body", "isWhole", "()Z"⟩ : MethodName)) (z := (⟨"com/example/crewroster/crewroster/http/Body", "isWhole", "()Z"⟩ : MethodName)) hown (mvT hZ (hw _ (List.mem_of_getElem? (i := 19) rfl))) (mvT hZ (hw _ (List.mem_of_getElem? (i := 20) rfl))) (notFace_of_selects (args := #[]) (mvT hZ (hw _ (List.mem_of_getElem? (i := 22) rfl)))) (mvT hZ (hw _ (List.mem_of_getElem? (i := 22) rfl))) (mvT hZ (hw _ (List.mem_of_getElem? (i := 21) rfl))) (by decide) (backOf (W := 0) (rm4 l Z a0 hw [] r15 wr15 cr15 yr15 (own_s0_91_16 p5 q6) T15.heap n0 (Nat.le_trans (Nat.le_trans (Nat.le_trans (Nat.le_trans (Nat.le_trans Z0 E7.1) E9.1) Kq10.1) E13.1) Kq15.1) Fkr15 Arr15 Sr15 Nr15 Flr15) hZ (hw _ (List.mem_of_getElem? (i := 23) rfl)) (hw _ (List.mem_of_getElem? (i := 3) rfl)) (by decide) (by decide)) q17a q17c (g := (mkF m 128 #[.val (.int p1), .val (.long q2), .second, .val (.int p3), .val (.int p4), .val (.int p5), .val (.long q6), .second, .val (.int (p1 &&& (7 : Int32))), .val (.ref b7), .val (.long (own_s0_12_10 q2 p3 (p1 &&& (7 : Int32)))), .second, .val (.ref b9), .val (.int (1 : Int32)), .val (.int (p4 &&& (7 : Int32))), .val (.ref b13), .val (.long (own_s0_91_16 p5 q6)), .second, .val (.ref r15), .unset] [(.ref r15)])) rfl (by rw [hml]; rfl) (Steps.refl _) (argsL := []) (rest := []) (lenOf pd_0_2 rfl) rfl (by show 2 * 0 + _ ≤ _; exact Nat.le_of_eq rfl) (hb hby at_128) (fun _ _ => ⟨rfl, rfl, (by decide : 6 + 0 ≤ _), (by decide : 32 + 0 ≤ _)⟩)
  dsimp only [Pt.U, Pt.locs, Pt.cells, Pt.slots] at X17 l17 y17 z17 st17 hQ17
  have y17' : k17 = 6 := y17
  have z17' : n17 = 32 := z17
  clear y17 z17
  subst y17' z17'
  obtain ⟨rfl, N17q, e17q0⟩ := hQ17
  have e17q : T17.heap = T15.heap := e17q0
  have N17 : Fr n0 L17 := by rw [l17]; exact Fr.app N15 N17q
  obtain ⟨fs, hr, hrun, hended, hW, hsame⟩ := X17.leave (v := some (.int (1 : Int32))) (fun h => by rw [Bd.returns] at h; cases h)
  refine ⟨_, _, pre0 _ ?_, hrun, hended, _, _, rfl, ?_, ⟨_, rfl⟩, hW, hsame.mono (by decide) (by decide)⟩
  · show Steps p.tables e below (s₁.setTop (mkF m 0 #[.val (.int p1), .val (.long q2), .second, .val (.int p3), .val (.int p4), .val (.int p5), .val (.long q6), .second, .unset, .unset, .unset, .unset, .unset, .unset, .unset, .unset, .unset, .unset, .unset, .unset] [])) _
    refine XS.iloadN X0.here hx rfl (hb hby at_0) rfl ?_
    show Steps p.tables e below (s₁.setTop (mkF m 1 #[.val (.int p1), .val (.long q2), .second, .val (.int p3), .val (.int p4), .val (.int p5), .val (.long q6), .second, .unset, .unset, .unset, .unset, .unset, .unset, .unset, .unset, .unset, .unset, .unset, .unset] [(.int p1)])) _
    refine XS.bipush X0.here hx rfl (hb hby at_1) ?_
    show Steps p.tables e below (s₁.setTop (mkF m 3 #[.val (.int p1), .val (.long q2), .second, .val (.int p3), .val (.int p4), .val (.int p5), .val (.long q6), .second, .unset, .unset, .unset, .unset, .unset, .unset, .unset, .unset, .unset, .unset, .unset, .unset] [(.int (7 : Int32)), (.int p1)])) _
    refine XS.iand X0.here hx rfl (hb hby at_3) rfl ?_
    show Steps p.tables e below (s₁.setTop (mkF m 4 #[.val (.int p1), .val (.long q2), .second, .val (.int p3), .val (.int p4), .val (.int p5), .val (.long q6), .second, .unset, .unset, .unset, .unset, .unset, .unset, .unset, .unset, .unset, .unset, .unset, .unset] [(.int (p1 &&& (7 : Int32)))])) _
    refine XS.istore X0.here hx rfl (hb hby at_4) rfl (l' := #[.val (.int p1), .val (.long q2), .second, .val (.int p3), .val (.int p4), .val (.int p5), .val (.long q6), .second, .val (.int (p1 &&& (7 : Int32))), .unset, .unset, .unset, .unset, .unset, .unset, .unset, .unset, .unset, .unset, .unset]) rfl ?_
    show Steps p.tables e below (s₁.setTop (mkF m 6 #[.val (.int p1), .val (.long q2), .second, .val (.int p3), .val (.int p4), .val (.int p5), .val (.long q6), .second, .val (.int (p1 &&& (7 : Int32))), .unset, .unset, .unset, .unset, .unset, .unset, .unset, .unset, .unset, .unset, .unset] [])) _
    refine XS.iload X0.here hx rfl (hb hby at_6) rfl ?_
    show Steps p.tables e below (s₁.setTop (mkF m 8 #[.val (.int p1), .val (.long q2), .second, .val (.int p3), .val (.int p4), .val (.int p5), .val (.long q6), .second, .val (.int (p1 &&& (7 : Int32))), .unset, .unset, .unset, .unset, .unset, .unset, .unset, .unset, .unset, .unset, .unset] [(.int (p1 &&& (7 : Int32)))])) _
    refine st7 _ ?_
    show Steps p.tables e below (T7.setTop (mkF m 10 #[.val (.int p1), .val (.long q2), .second, .val (.int p3), .val (.int p4), .val (.int p5), .val (.long q6), .second, .val (.int (p1 &&& (7 : Int32))), .unset, .unset, .unset, .unset, .unset, .unset, .unset, .unset, .unset, .unset, .unset] [(.ref b7)])) _
    refine XS.astore X7.here hx rfl (hb hby at_10) rfl rfl (l' := #[.val (.int p1), .val (.long q2), .second, .val (.int p3), .val (.int p4), .val (.int p5), .val (.long q6), .second, .val (.int (p1 &&& (7 : Int32))), .val (.ref b7), .unset, .unset, .unset, .unset, .unset, .unset, .unset, .unset, .unset, .unset]) rfl ?_
    show Steps p.tables e below (T7.setTop (mkF m 12 #[.val (.int p1), .val (.long q2), .second, .val (.int p3), .val (.int p4), .val (.int p5), .val (.long q6), .second, .val (.int (p1 &&& (7 : Int32))), .val (.ref b7), .unset, .unset, .unset, .unset, .unset, .unset, .unset, .unset, .unset, .unset] [])) _
    refine st8 _ ?_
    show Steps p.tables e below (T8.setTop (mkF m 36 #[.val (.int p1), .val (.long q2), .second, .val (.int p3), .val (.int p4), .val (.int p5), .val (.long q6), .second, .val (.int (p1 &&& (7 : Int32))), .val (.ref b7), .val (.long (own_s0_12_10 q2 p3 (p1 &&& (7 : Int32)))), .second, .unset, .unset, .unset, .unset, .unset, .unset, .unset, .unset] [])) _
    refine st9 _ ?_
    show Steps p.tables e below (T9.setTop (mkF m 39 #[.val (.int p1), .val (.long q2), .second, .val (.int p3), .val (.int p4), .val (.int p5), .val (.long q6), .second, .val (.int (p1 &&& (7 : Int32))), .val (.ref b7), .val (.long (own_s0_12_10 q2 p3 (p1 &&& (7 : Int32)))), .second, .unset, .unset, .unset, .unset, .unset, .unset, .unset, .unset] [(.ref b9)])) _
    refine XS.dup X9.here hx rfl (hb hby at_39) rfl rfl ?_
    show Steps p.tables e below (T9.setTop (mkF m 40 #[.val (.int p1), .val (.long q2), .second, .val (.int p3), .val (.int p4), .val (.int p5), .val (.long q6), .second, .val (.int (p1 &&& (7 : Int32))), .val (.ref b7), .val (.long (own_s0_12_10 q2 p3 (p1 &&& (7 : Int32)))), .second, .unset, .unset, .unset, .unset, .unset, .unset, .unset, .unset] [(.ref b9), (.ref b9)])) _
    refine XS.aload X9.here hx rfl (hb hby at_40) rfl rfl ?_
    show Steps p.tables e below (T9.setTop (mkF m 42 #[.val (.int p1), .val (.long q2), .second, .val (.int p3), .val (.int p4), .val (.int p5), .val (.long q6), .second, .val (.int (p1 &&& (7 : Int32))), .val (.ref b7), .val (.long (own_s0_12_10 q2 p3 (p1 &&& (7 : Int32)))), .second, .unset, .unset, .unset, .unset, .unset, .unset, .unset, .unset] [(.ref b7), (.ref b9), (.ref b9)])) _
    refine XS.lload X9.here hx rfl (hb hby at_42) rfl ?_
    show Steps p.tables e below (T9.setTop (mkF m 44 #[.val (.int p1), .val (.long q2), .second, .val (.int p3), .val (.int p4), .val (.int p5), .val (.long q6), .second, .val (.int (p1 &&& (7 : Int32))), .val (.ref b7), .val (.long (own_s0_12_10 q2 p3 (p1 &&& (7 : Int32)))), .second, .unset, .unset, .unset, .unset, .unset, .unset, .unset, .unset] [(.long (own_s0_12_10 q2 p3 (p1 &&& (7 : Int32)))), (.ref b7), (.ref b9), (.ref b9)])) _
    refine st10.trans ?_
    show Steps p.tables e below (T10.setTop (mkF m 47 #[.val (.int p1), .val (.long q2), .second, .val (.int p3), .val (.int p4), .val (.int p5), .val (.long q6), .second, .val (.int (p1 &&& (7 : Int32))), .val (.ref b7), .val (.long (own_s0_12_10 q2 p3 (p1 &&& (7 : Int32)))), .second, .unset, .unset, .unset, .unset, .unset, .unset, .unset, .unset] [(.ref b9)])) _
    refine XS.astore X10.here hx rfl (hb hby at_47) rfl rfl (l' := #[.val (.int p1), .val (.long q2), .second, .val (.int p3), .val (.int p4), .val (.int p5), .val (.long q6), .second, .val (.int (p1 &&& (7 : Int32))), .val (.ref b7), .val (.long (own_s0_12_10 q2 p3 (p1 &&& (7 : Int32)))), .second, .val (.ref b9), .unset, .unset, .unset, .unset, .unset, .unset, .unset]) rfl ?_
    show Steps p.tables e below (T10.setTop (mkF m 49 #[.val (.int p1), .val (.long q2), .second, .val (.int p3), .val (.int p4), .val (.int p5), .val (.long q6), .second, .val (.int (p1 &&& (7 : Int32))), .val (.ref b7), .val (.long (own_s0_12_10 q2 p3 (p1 &&& (7 : Int32)))), .second, .val (.ref b9), .unset, .unset, .unset, .unset, .unset, .unset, .unset] [])) _
    refine XS.aload X10.here hx rfl (hb hby at_49) rfl rfl ?_
    show Steps p.tables e below (T10.setTop (mkF m 51 #[.val (.int p1), .val (.long q2), .second, .val (.int p3), .val (.int p4), .val (.int p5), .val (.long q6), .second, .val (.int (p1 &&& (7 : Int32))), .val (.ref b7), .val (.long (own_s0_12_10 q2 p3 (p1 &&& (7 : Int32)))), .second, .val (.ref b9), .unset, .unset, .unset, .unset, .unset, .unset, .unset] [(.ref b9)])) _
    refine st11.trans ?_
    show Steps p.tables e below (T11.setTop (mkF m 54 #[.val (.int p1), .val (.long q2), .second, .val (.int p3), .val (.int p4), .val (.int p5), .val (.long q6), .second, .val (.int (p1 &&& (7 : Int32))), .val (.ref b7), .val (.long (own_s0_12_10 q2 p3 (p1 &&& (7 : Int32)))), .second, .val (.ref b9), .unset, .unset, .unset, .unset, .unset, .unset, .unset] [(.int (own_f4 b9 b7 clx12 (p1 &&& (7 : Int32)) (own_s0_12_10 q2 p3 (p1 &&& (7 : Int32)))))])) _
    refine XS.lload X11.here hx rfl (hb hby at_54) rfl ?_
    show Steps p.tables e below (T11.setTop (mkF m 56 #[.val (.int p1), .val (.long q2), .second, .val (.int p3), .val (.int p4), .val (.int p5), .val (.long q6), .second, .val (.int (p1 &&& (7 : Int32))), .val (.ref b7), .val (.long (own_s0_12_10 q2 p3 (p1 &&& (7 : Int32)))), .second, .val (.ref b9), .unset, .unset, .unset, .unset, .unset, .unset, .unset] [(.long (own_s0_12_10 q2 p3 (p1 &&& (7 : Int32)))), (.int (own_f4 b9 b7 clx12 (p1 &&& (7 : Int32)) (own_s0_12_10 q2 p3 (p1 &&& (7 : Int32)))))])) _
    refine XS.iload X11.here hx rfl (hb hby at_56) rfl ?_
    show Steps p.tables e below (T11.setTop (mkF m 58 #[.val (.int p1), .val (.long q2), .second, .val (.int p3), .val (.int p4), .val (.int p5), .val (.long q6), .second, .val (.int (p1 &&& (7 : Int32))), .val (.ref b7), .val (.long (own_s0_12_10 q2 p3 (p1 &&& (7 : Int32)))), .second, .val (.ref b9), .unset, .unset, .unset, .unset, .unset, .unset, .unset] [(.int (p1 &&& (7 : Int32))), (.long (own_s0_12_10 q2 p3 (p1 &&& (7 : Int32)))), (.int (own_f4 b9 b7 clx12 (p1 &&& (7 : Int32)) (own_s0_12_10 q2 p3 (p1 &&& (7 : Int32)))))])) _
    refine XS.i2l X11.here hx rfl (hb hby at_58) rfl ?_
    show Steps p.tables e below (T11.setTop (mkF m 59 #[.val (.int p1), .val (.long q2), .second, .val (.int p3), .val (.int p4), .val (.int p5), .val (.long q6), .second, .val (.int (p1 &&& (7 : Int32))), .val (.ref b7), .val (.long (own_s0_12_10 q2 p3 (p1 &&& (7 : Int32)))), .second, .val (.ref b9), .unset, .unset, .unset, .unset, .unset, .unset, .unset] [(.long ((p1 &&& (7 : Int32)).toInt64)), (.long (own_s0_12_10 q2 p3 (p1 &&& (7 : Int32)))), (.int (own_f4 b9 b7 clx12 (p1 &&& (7 : Int32)) (own_s0_12_10 q2 p3 (p1 &&& (7 : Int32)))))])) _
    refine XS.lcmp X11.here hx rfl (hb hby at_59) rfl ?_
    show Steps p.tables e below (T11.setTop (mkF m 60 #[.val (.int p1), .val (.long q2), .second, .val (.int p3), .val (.int p4), .val (.int p5), .val (.long q6), .second, .val (.int (p1 &&& (7 : Int32))), .val (.ref b7), .val (.long (own_s0_12_10 q2 p3 (p1 &&& (7 : Int32)))), .second, .val (.ref b9), .unset, .unset, .unset, .unset, .unset, .unset, .unset] [(.int (lcmpW (own_s0_12_10 q2 p3 (p1 &&& (7 : Int32))) ((p1 &&& (7 : Int32)).toInt64))), (.int (own_f4 b9 b7 clx12 (p1 &&& (7 : Int32)) (own_s0_12_10 q2 p3 (p1 &&& (7 : Int32)))))])) _
    refine XS.ifYes X11.here hx rfl (pc0 := 60) (pc' := 67) rfl (hb hby at_60) rfl ((if0 _ _).trans (feq hc60).2) (by decide) (by decide) ?_
    show Steps p.tables e below (T11.setTop (mkF m 67 #[.val (.int p1), .val (.long q2), .second, .val (.int p3), .val (.int p4), .val (.int p5), .val (.long q6), .second, .val (.int (p1 &&& (7 : Int32))), .val (.ref b7), .val (.long (own_s0_12_10 q2 p3 (p1 &&& (7 : Int32)))), .second, .val (.ref b9), .unset, .unset, .unset, .unset, .unset, .unset, .unset] [(.int (own_f4 b9 b7 clx12 (p1 &&& (7 : Int32)) (own_s0_12_10 q2 p3 (p1 &&& (7 : Int32)))))])) _
    refine XS.iconst X11.here hx rfl (hb hby at_67) ?_
    show Steps p.tables e below (T11.setTop (mkF m 68 #[.val (.int p1), .val (.long q2), .second, .val (.int p3), .val (.int p4), .val (.int p5), .val (.long q6), .second, .val (.int (p1 &&& (7 : Int32))), .val (.ref b7), .val (.long (own_s0_12_10 q2 p3 (p1 &&& (7 : Int32)))), .second, .val (.ref b9), .unset, .unset, .unset, .unset, .unset, .unset, .unset] [(.int (0 : Int32)), (.int (own_f4 b9 b7 clx12 (p1 &&& (7 : Int32)) (own_s0_12_10 q2 p3 (p1 &&& (7 : Int32)))))])) _
    refine XS.icmpNo X11.here hx rfl (hb hby at_68) rfl (teq (own_w0 hc60 : (own_f4 b9 b7 clx12 (p1 &&& (7 : Int32)) (own_s0_12_10 q2 p3 (p1 &&& (7 : Int32)))) = (0 : Int32))).2 ?_
    show Steps p.tables e below (T11.setTop (mkF m 71 #[.val (.int p1), .val (.long q2), .second, .val (.int p3), .val (.int p4), .val (.int p5), .val (.long q6), .second, .val (.int (p1 &&& (7 : Int32))), .val (.ref b7), .val (.long (own_s0_12_10 q2 p3 (p1 &&& (7 : Int32)))), .second, .val (.ref b9), .unset, .unset, .unset, .unset, .unset, .unset, .unset] [])) _
    refine XS.iconst X11.here hx rfl (hb hby at_71) ?_
    show Steps p.tables e below (T11.setTop (mkF m 72 #[.val (.int p1), .val (.long q2), .second, .val (.int p3), .val (.int p4), .val (.int p5), .val (.long q6), .second, .val (.int (p1 &&& (7 : Int32))), .val (.ref b7), .val (.long (own_s0_12_10 q2 p3 (p1 &&& (7 : Int32)))), .second, .val (.ref b9), .unset, .unset, .unset, .unset, .unset, .unset, .unset] [(.int (1 : Int32))])) _
    refine XS.goto X11.here hx rfl (pc0 := 72) (pc' := 76) rfl (hb hby at_72) (by decide) (by decide) ?_
    show Steps p.tables e below (T11.setTop (mkF m 76 #[.val (.int p1), .val (.long q2), .second, .val (.int p3), .val (.int p4), .val (.int p5), .val (.long q6), .second, .val (.int (p1 &&& (7 : Int32))), .val (.ref b7), .val (.long (own_s0_12_10 q2 p3 (p1 &&& (7 : Int32)))), .second, .val (.ref b9), .unset, .unset, .unset, .unset, .unset, .unset, .unset] [(.int (1 : Int32))])) _
    refine XS.istore X11.here hx rfl (hb hby at_76) rfl (l' := #[.val (.int p1), .val (.long q2), .second, .val (.int p3), .val (.int p4), .val (.int p5), .val (.long q6), .second, .val (.int (p1 &&& (7 : Int32))), .val (.ref b7), .val (.long (own_s0_12_10 q2 p3 (p1 &&& (7 : Int32)))), .second, .val (.ref b9), .val (.int (1 : Int32)), .unset, .unset, .unset, .unset, .unset, .unset]) rfl ?_
    show Steps p.tables e below (T11.setTop (mkF m 78 #[.val (.int p1), .val (.long q2), .second, .val (.int p3), .val (.int p4), .val (.int p5), .val (.long q6), .second, .val (.int (p1 &&& (7 : Int32))), .val (.ref b7), .val (.long (own_s0_12_10 q2 p3 (p1 &&& (7 : Int32)))), .second, .val (.ref b9), .val (.int (1 : Int32)), .unset, .unset, .unset, .unset, .unset, .unset] [])) _
    refine XS.iload X11.here hx rfl (hb hby at_78) rfl ?_
    show Steps p.tables e below (T11.setTop (mkF m 80 #[.val (.int p1), .val (.long q2), .second, .val (.int p3), .val (.int p4), .val (.int p5), .val (.long q6), .second, .val (.int (p1 &&& (7 : Int32))), .val (.ref b7), .val (.long (own_s0_12_10 q2 p3 (p1 &&& (7 : Int32)))), .second, .val (.ref b9), .val (.int (1 : Int32)), .unset, .unset, .unset, .unset, .unset, .unset] [(.int p4)])) _
    refine XS.bipush X11.here hx rfl (hb hby at_80) ?_
    show Steps p.tables e below (T11.setTop (mkF m 82 #[.val (.int p1), .val (.long q2), .second, .val (.int p3), .val (.int p4), .val (.int p5), .val (.long q6), .second, .val (.int (p1 &&& (7 : Int32))), .val (.ref b7), .val (.long (own_s0_12_10 q2 p3 (p1 &&& (7 : Int32)))), .second, .val (.ref b9), .val (.int (1 : Int32)), .unset, .unset, .unset, .unset, .unset, .unset] [(.int (7 : Int32)), (.int p4)])) _
    refine XS.iand X11.here hx rfl (hb hby at_82) rfl ?_
    show Steps p.tables e below (T11.setTop (mkF m 83 #[.val (.int p1), .val (.long q2), .second, .val (.int p3), .val (.int p4), .val (.int p5), .val (.long q6), .second, .val (.int (p1 &&& (7 : Int32))), .val (.ref b7), .val (.long (own_s0_12_10 q2 p3 (p1 &&& (7 : Int32)))), .second, .val (.ref b9), .val (.int (1 : Int32)), .unset, .unset, .unset, .unset, .unset, .unset] [(.int (p4 &&& (7 : Int32)))])) _
    refine XS.istore X11.here hx rfl (hb hby at_83) rfl (l' := #[.val (.int p1), .val (.long q2), .second, .val (.int p3), .val (.int p4), .val (.int p5), .val (.long q6), .second, .val (.int (p1 &&& (7 : Int32))), .val (.ref b7), .val (.long (own_s0_12_10 q2 p3 (p1 &&& (7 : Int32)))), .second, .val (.ref b9), .val (.int (1 : Int32)), .val (.int (p4 &&& (7 : Int32))), .unset, .unset, .unset, .unset, .unset]) rfl ?_
    show Steps p.tables e below (T11.setTop (mkF m 85 #[.val (.int p1), .val (.long q2), .second, .val (.int p3), .val (.int p4), .val (.int p5), .val (.long q6), .second, .val (.int (p1 &&& (7 : Int32))), .val (.ref b7), .val (.long (own_s0_12_10 q2 p3 (p1 &&& (7 : Int32)))), .second, .val (.ref b9), .val (.int (1 : Int32)), .val (.int (p4 &&& (7 : Int32))), .unset, .unset, .unset, .unset, .unset] [])) _
    refine XS.iload X11.here hx rfl (hb hby at_85) rfl ?_
    show Steps p.tables e below (T11.setTop (mkF m 87 #[.val (.int p1), .val (.long q2), .second, .val (.int p3), .val (.int p4), .val (.int p5), .val (.long q6), .second, .val (.int (p1 &&& (7 : Int32))), .val (.ref b7), .val (.long (own_s0_12_10 q2 p3 (p1 &&& (7 : Int32)))), .second, .val (.ref b9), .val (.int (1 : Int32)), .val (.int (p4 &&& (7 : Int32))), .unset, .unset, .unset, .unset, .unset] [(.int (p4 &&& (7 : Int32)))])) _
    refine st13 _ ?_
    show Steps p.tables e below (T13.setTop (mkF m 89 #[.val (.int p1), .val (.long q2), .second, .val (.int p3), .val (.int p4), .val (.int p5), .val (.long q6), .second, .val (.int (p1 &&& (7 : Int32))), .val (.ref b7), .val (.long (own_s0_12_10 q2 p3 (p1 &&& (7 : Int32)))), .second, .val (.ref b9), .val (.int (1 : Int32)), .val (.int (p4 &&& (7 : Int32))), .unset, .unset, .unset, .unset, .unset] [(.ref b13)])) _
    refine XS.astore X13.here hx rfl (hb hby at_89) rfl rfl (l' := #[.val (.int p1), .val (.long q2), .second, .val (.int p3), .val (.int p4), .val (.int p5), .val (.long q6), .second, .val (.int (p1 &&& (7 : Int32))), .val (.ref b7), .val (.long (own_s0_12_10 q2 p3 (p1 &&& (7 : Int32)))), .second, .val (.ref b9), .val (.int (1 : Int32)), .val (.int (p4 &&& (7 : Int32))), .val (.ref b13), .unset, .unset, .unset, .unset]) rfl ?_
    show Steps p.tables e below (T13.setTop (mkF m 91 #[.val (.int p1), .val (.long q2), .second, .val (.int p3), .val (.int p4), .val (.int p5), .val (.long q6), .second, .val (.int (p1 &&& (7 : Int32))), .val (.ref b7), .val (.long (own_s0_12_10 q2 p3 (p1 &&& (7 : Int32)))), .second, .val (.ref b9), .val (.int (1 : Int32)), .val (.int (p4 &&& (7 : Int32))), .val (.ref b13), .unset, .unset, .unset, .unset] [])) _
    refine st14 _ ?_
    show Steps p.tables e below (T14.setTop (mkF m 117 #[.val (.int p1), .val (.long q2), .second, .val (.int p3), .val (.int p4), .val (.int p5), .val (.long q6), .second, .val (.int (p1 &&& (7 : Int32))), .val (.ref b7), .val (.long (own_s0_12_10 q2 p3 (p1 &&& (7 : Int32)))), .second, .val (.ref b9), .val (.int (1 : Int32)), .val (.int (p4 &&& (7 : Int32))), .val (.ref b13), .val (.long (own_s0_91_16 p5 q6)), .second, .unset, .unset] [])) _
    refine XS.aload X14.here hx rfl (hb hby at_117) rfl rfl ?_
    show Steps p.tables e below (T14.setTop (mkF m 119 #[.val (.int p1), .val (.long q2), .second, .val (.int p3), .val (.int p4), .val (.int p5), .val (.long q6), .second, .val (.int (p1 &&& (7 : Int32))), .val (.ref b7), .val (.long (own_s0_12_10 q2 p3 (p1 &&& (7 : Int32)))), .second, .val (.ref b9), .val (.int (1 : Int32)), .val (.int (p4 &&& (7 : Int32))), .val (.ref b13), .val (.long (own_s0_91_16 p5 q6)), .second, .unset, .unset] [(.ref b13)])) _
    refine XS.lload X14.here hx rfl (hb hby at_119) rfl ?_
    show Steps p.tables e below (T14.setTop (mkF m 121 #[.val (.int p1), .val (.long q2), .second, .val (.int p3), .val (.int p4), .val (.int p5), .val (.long q6), .second, .val (.int (p1 &&& (7 : Int32))), .val (.ref b7), .val (.long (own_s0_12_10 q2 p3 (p1 &&& (7 : Int32)))), .second, .val (.ref b9), .val (.int (1 : Int32)), .val (.int (p4 &&& (7 : Int32))), .val (.ref b13), .val (.long (own_s0_91_16 p5 q6)), .second, .unset, .unset] [(.long (own_s0_91_16 p5 q6)), (.ref b13)])) _
    refine st15 _ ?_
    show Steps p.tables e below (T15.setTop (mkF m 124 #[.val (.int p1), .val (.long q2), .second, .val (.int p3), .val (.int p4), .val (.int p5), .val (.long q6), .second, .val (.int (p1 &&& (7 : Int32))), .val (.ref b7), .val (.long (own_s0_12_10 q2 p3 (p1 &&& (7 : Int32)))), .second, .val (.ref b9), .val (.int (1 : Int32)), .val (.int (p4 &&& (7 : Int32))), .val (.ref b13), .val (.long (own_s0_91_16 p5 q6)), .second, .unset, .unset] [(.ref r15)])) _
    refine XS.astore X15.here hx rfl (hb hby at_124) rfl rfl (l' := #[.val (.int p1), .val (.long q2), .second, .val (.int p3), .val (.int p4), .val (.int p5), .val (.long q6), .second, .val (.int (p1 &&& (7 : Int32))), .val (.ref b7), .val (.long (own_s0_12_10 q2 p3 (p1 &&& (7 : Int32)))), .second, .val (.ref b9), .val (.int (1 : Int32)), .val (.int (p4 &&& (7 : Int32))), .val (.ref b13), .val (.long (own_s0_91_16 p5 q6)), .second, .val (.ref r15), .unset]) rfl ?_
    show Steps p.tables e below (T15.setTop (mkF m 126 #[.val (.int p1), .val (.long q2), .second, .val (.int p3), .val (.int p4), .val (.int p5), .val (.long q6), .second, .val (.int (p1 &&& (7 : Int32))), .val (.ref b7), .val (.long (own_s0_12_10 q2 p3 (p1 &&& (7 : Int32)))), .second, .val (.ref b9), .val (.int (1 : Int32)), .val (.int (p4 &&& (7 : Int32))), .val (.ref b13), .val (.long (own_s0_91_16 p5 q6)), .second, .val (.ref r15), .unset] [])) _
    refine XS.aload X15.here hx rfl (hb hby at_126) rfl rfl ?_
    show Steps p.tables e below (T15.setTop (mkF m 128 #[.val (.int p1), .val (.long q2), .second, .val (.int p3), .val (.int p4), .val (.int p5), .val (.long q6), .second, .val (.int (p1 &&& (7 : Int32))), .val (.ref b7), .val (.long (own_s0_12_10 q2 p3 (p1 &&& (7 : Int32)))), .second, .val (.ref b9), .val (.int (1 : Int32)), .val (.int (p4 &&& (7 : Int32))), .val (.ref b13), .val (.long (own_s0_91_16 p5 q6)), .second, .val (.ref r15), .unset] [(.ref r15)])) _
    refine st17.trans ?_
    show Steps p.tables e below (T17.setTop (mkF m 131 #[.val (.int p1), .val (.long q2), .second, .val (.int p3), .val (.int p4), .val (.int p5), .val (.long q6), .second, .val (.int (p1 &&& (7 : Int32))), .val (.ref b7), .val (.long (own_s0_12_10 q2 p3 (p1 &&& (7 : Int32)))), .second, .val (.ref b9), .val (.int (1 : Int32)), .val (.int (p4 &&& (7 : Int32))), .val (.ref b13), .val (.long (own_s0_91_16 p5 q6)), .second, .val (.ref r15), .unset] [(.int (own_f4 r15 wr15 cr15 yr15 (own_s0_91_16 p5 q6)))])) _
    refine XS.lload X17.here hx rfl (hb hby at_131) rfl ?_
    show Steps p.tables e below (T17.setTop (mkF m 133 #[.val (.int p1), .val (.long q2), .second, .val (.int p3), .val (.int p4), .val (.int p5), .val (.long q6), .second, .val (.int (p1 &&& (7 : Int32))), .val (.ref b7), .val (.long (own_s0_12_10 q2 p3 (p1 &&& (7 : Int32)))), .second, .val (.ref b9), .val (.int (1 : Int32)), .val (.int (p4 &&& (7 : Int32))), .val (.ref b13), .val (.long (own_s0_91_16 p5 q6)), .second, .val (.ref r15), .unset] [(.long (own_s0_91_16 p5 q6)), (.int (own_f4 r15 wr15 cr15 yr15 (own_s0_91_16 p5 q6)))])) _
    refine XS.iload X17.here hx rfl (hb hby at_133) rfl ?_
    show Steps p.tables e below (T17.setTop (mkF m 135 #[.val (.int p1), .val (.long q2), .second, .val (.int p3), .val (.int p4), .val (.int p5), .val (.long q6), .second, .val (.int (p1 &&& (7 : Int32))), .val (.ref b7), .val (.long (own_s0_12_10 q2 p3 (p1 &&& (7 : Int32)))), .second, .val (.ref b9), .val (.int (1 : Int32)), .val (.int (p4 &&& (7 : Int32))), .val (.ref b13), .val (.long (own_s0_91_16 p5 q6)), .second, .val (.ref r15), .unset] [(.int (p4 &&& (7 : Int32))), (.long (own_s0_91_16 p5 q6)), (.int (own_f4 r15 wr15 cr15 yr15 (own_s0_91_16 p5 q6)))])) _
    refine XS.i2l X17.here hx rfl (hb hby at_135) rfl ?_
    show Steps p.tables e below (T17.setTop (mkF m 136 #[.val (.int p1), .val (.long q2), .second, .val (.int p3), .val (.int p4), .val (.int p5), .val (.long q6), .second, .val (.int (p1 &&& (7 : Int32))), .val (.ref b7), .val (.long (own_s0_12_10 q2 p3 (p1 &&& (7 : Int32)))), .second, .val (.ref b9), .val (.int (1 : Int32)), .val (.int (p4 &&& (7 : Int32))), .val (.ref b13), .val (.long (own_s0_91_16 p5 q6)), .second, .val (.ref r15), .unset] [(.long ((p4 &&& (7 : Int32)).toInt64)), (.long (own_s0_91_16 p5 q6)), (.int (own_f4 r15 wr15 cr15 yr15 (own_s0_91_16 p5 q6)))])) _
    refine XS.lcmp X17.here hx rfl (hb hby at_136) rfl ?_
    show Steps p.tables e below (T17.setTop (mkF m 137 #[.val (.int p1), .val (.long q2), .second, .val (.int p3), .val (.int p4), .val (.int p5), .val (.long q6), .second, .val (.int (p1 &&& (7 : Int32))), .val (.ref b7), .val (.long (own_s0_12_10 q2 p3 (p1 &&& (7 : Int32)))), .second, .val (.ref b9), .val (.int (1 : Int32)), .val (.int (p4 &&& (7 : Int32))), .val (.ref b13), .val (.long (own_s0_91_16 p5 q6)), .second, .val (.ref r15), .unset] [(.int (lcmpW (own_s0_91_16 p5 q6) ((p4 &&& (7 : Int32)).toInt64))), (.int (own_f4 r15 wr15 cr15 yr15 (own_s0_91_16 p5 q6)))])) _
    refine XS.ifYes X17.here hx rfl (pc0 := 137) (pc' := 144) rfl (hb hby at_137) rfl ((if0 _ _).trans (tlt hc137).2.2.1) (by decide) (by decide) ?_
    show Steps p.tables e below (T17.setTop (mkF m 144 #[.val (.int p1), .val (.long q2), .second, .val (.int p3), .val (.int p4), .val (.int p5), .val (.long q6), .second, .val (.int (p1 &&& (7 : Int32))), .val (.ref b7), .val (.long (own_s0_12_10 q2 p3 (p1 &&& (7 : Int32)))), .second, .val (.ref b9), .val (.int (1 : Int32)), .val (.int (p4 &&& (7 : Int32))), .val (.ref b13), .val (.long (own_s0_91_16 p5 q6)), .second, .val (.ref r15), .unset] [(.int (own_f4 r15 wr15 cr15 yr15 (own_s0_91_16 p5 q6)))])) _
    refine XS.iconst X17.here hx rfl (hb hby at_144) ?_
    show Steps p.tables e below (T17.setTop (mkF m 145 #[.val (.int p1), .val (.long q2), .second, .val (.int p3), .val (.int p4), .val (.int p5), .val (.long q6), .second, .val (.int (p1 &&& (7 : Int32))), .val (.ref b7), .val (.long (own_s0_12_10 q2 p3 (p1 &&& (7 : Int32)))), .second, .val (.ref b9), .val (.int (1 : Int32)), .val (.int (p4 &&& (7 : Int32))), .val (.ref b13), .val (.long (own_s0_91_16 p5 q6)), .second, .val (.ref r15), .unset] [(.int (0 : Int32)), (.int (own_f4 r15 wr15 cr15 yr15 (own_s0_91_16 p5 q6)))])) _
    refine XS.icmpNo X17.here hx rfl (hb hby at_145) rfl (teq (own_v0 Ir15 hc137 : (own_f4 r15 wr15 cr15 yr15 (own_s0_91_16 p5 q6)) = (0 : Int32))).2 ?_
    show Steps p.tables e below (T17.setTop (mkF m 148 #[.val (.int p1), .val (.long q2), .second, .val (.int p3), .val (.int p4), .val (.int p5), .val (.long q6), .second, .val (.int (p1 &&& (7 : Int32))), .val (.ref b7), .val (.long (own_s0_12_10 q2 p3 (p1 &&& (7 : Int32)))), .second, .val (.ref b9), .val (.int (1 : Int32)), .val (.int (p4 &&& (7 : Int32))), .val (.ref b13), .val (.long (own_s0_91_16 p5 q6)), .second, .val (.ref r15), .unset] [])) _
    refine XS.iconst X17.here hx rfl (hb hby at_148) ?_
    show Steps p.tables e below (T17.setTop (mkF m 149 #[.val (.int p1), .val (.long q2), .second, .val (.int p3), .val (.int p4), .val (.int p5), .val (.long q6), .second, .val (.int (p1 &&& (7 : Int32))), .val (.ref b7), .val (.long (own_s0_12_10 q2 p3 (p1 &&& (7 : Int32)))), .second, .val (.ref b9), .val (.int (1 : Int32)), .val (.int (p4 &&& (7 : Int32))), .val (.ref b13), .val (.long (own_s0_91_16 p5 q6)), .second, .val (.ref r15), .unset] [(.int (1 : Int32))])) _
    refine XS.goto X17.here hx rfl (pc0 := 149) (pc' := 153) rfl (hb hby at_149) (by decide) (by decide) ?_
    show Steps p.tables e below (T17.setTop (mkF m 153 #[.val (.int p1), .val (.long q2), .second, .val (.int p3), .val (.int p4), .val (.int p5), .val (.long q6), .second, .val (.int (p1 &&& (7 : Int32))), .val (.ref b7), .val (.long (own_s0_12_10 q2 p3 (p1 &&& (7 : Int32)))), .second, .val (.ref b9), .val (.int (1 : Int32)), .val (.int (p4 &&& (7 : Int32))), .val (.ref b13), .val (.long (own_s0_91_16 p5 q6)), .second, .val (.ref r15), .unset] [(.int (1 : Int32))])) _
    refine XS.istore X17.here hx rfl (hb hby at_153) rfl (l' := #[.val (.int p1), .val (.long q2), .second, .val (.int p3), .val (.int p4), .val (.int p5), .val (.long q6), .second, .val (.int (p1 &&& (7 : Int32))), .val (.ref b7), .val (.long (own_s0_12_10 q2 p3 (p1 &&& (7 : Int32)))), .second, .val (.ref b9), .val (.int (1 : Int32)), .val (.int (p4 &&& (7 : Int32))), .val (.ref b13), .val (.long (own_s0_91_16 p5 q6)), .second, .val (.ref r15), .val (.int (1 : Int32))]) rfl ?_
    show Steps p.tables e below (T17.setTop (mkF m 155 #[.val (.int p1), .val (.long q2), .second, .val (.int p3), .val (.int p4), .val (.int p5), .val (.long q6), .second, .val (.int (p1 &&& (7 : Int32))), .val (.ref b7), .val (.long (own_s0_12_10 q2 p3 (p1 &&& (7 : Int32)))), .second, .val (.ref b9), .val (.int (1 : Int32)), .val (.int (p4 &&& (7 : Int32))), .val (.ref b13), .val (.long (own_s0_91_16 p5 q6)), .second, .val (.ref r15), .val (.int (1 : Int32))] [])) _
    refine XS.iload X17.here hx rfl (hb hby at_155) rfl ?_
    show Steps p.tables e below (T17.setTop (mkF m 157 #[.val (.int p1), .val (.long q2), .second, .val (.int p3), .val (.int p4), .val (.int p5), .val (.long q6), .second, .val (.int (p1 &&& (7 : Int32))), .val (.ref b7), .val (.long (own_s0_12_10 q2 p3 (p1 &&& (7 : Int32)))), .second, .val (.ref b9), .val (.int (1 : Int32)), .val (.int (p4 &&& (7 : Int32))), .val (.ref b13), .val (.long (own_s0_91_16 p5 q6)), .second, .val (.ref r15), .val (.int (1 : Int32))] [(.int (1 : Int32))])) _
    refine XS.ifNo X17.here hx rfl (hb hby at_157) rfl ((if0 _ _).trans (feq (by decide : ¬ ((1 : Int32) = (0 : Int32)))).1) ?_
    show Steps p.tables e below (T17.setTop (mkF m 160 #[.val (.int p1), .val (.long q2), .second, .val (.int p3), .val (.int p4), .val (.int p5), .val (.long q6), .second, .val (.int (p1 &&& (7 : Int32))), .val (.ref b7), .val (.long (own_s0_12_10 q2 p3 (p1 &&& (7 : Int32)))), .second, .val (.ref b9), .val (.int (1 : Int32)), .val (.int (p4 &&& (7 : Int32))), .val (.ref b13), .val (.long (own_s0_91_16 p5 q6)), .second, .val (.ref r15), .val (.int (1 : Int32))] [])) _
    refine XS.iload X17.here hx rfl (hb hby at_160) rfl ?_
    show Steps p.tables e below (T17.setTop (mkF m 162 #[.val (.int p1), .val (.long q2), .second, .val (.int p3), .val (.int p4), .val (.int p5), .val (.long q6), .second, .val (.int (p1 &&& (7 : Int32))), .val (.ref b7), .val (.long (own_s0_12_10 q2 p3 (p1 &&& (7 : Int32)))), .second, .val (.ref b9), .val (.int (1 : Int32)), .val (.int (p4 &&& (7 : Int32))), .val (.ref b13), .val (.long (own_s0_91_16 p5 q6)), .second, .val (.ref r15), .val (.int (1 : Int32))] [(.int (1 : Int32))])) _
    refine XS.ifNo X17.here hx rfl (hb hby at_162) rfl ((if0 _ _).trans (feq (by decide : ¬ ((1 : Int32) = (0 : Int32)))).1) ?_
    show Steps p.tables e below (T17.setTop (mkF m 165 #[.val (.int p1), .val (.long q2), .second, .val (.int p3), .val (.int p4), .val (.int p5), .val (.long q6), .second, .val (.int (p1 &&& (7 : Int32))), .val (.ref b7), .val (.long (own_s0_12_10 q2 p3 (p1 &&& (7 : Int32)))), .second, .val (.ref b9), .val (.int (1 : Int32)), .val (.int (p4 &&& (7 : Int32))), .val (.ref b13), .val (.long (own_s0_91_16 p5 q6)), .second, .val (.ref r15), .val (.int (1 : Int32))] [])) _
    refine XS.iconst X17.here hx rfl (hb hby at_165) ?_
    show Steps p.tables e below (T17.setTop (mkF m 166 #[.val (.int p1), .val (.long q2), .second, .val (.int p3), .val (.int p4), .val (.int p5), .val (.long q6), .second, .val (.int (p1 &&& (7 : Int32))), .val (.ref b7), .val (.long (own_s0_12_10 q2 p3 (p1 &&& (7 : Int32)))), .second, .val (.ref b9), .val (.int (1 : Int32)), .val (.int (p4 &&& (7 : Int32))), .val (.ref b13), .val (.long (own_s0_91_16 p5 q6)), .second, .val (.ref r15), .val (.int (1 : Int32))] [(.int (1 : Int32))])) _
    refine XS.goto X17.here hx rfl (pc0 := 166) (pc' := 170) rfl (hb hby at_166) (by decide) (by decide) ?_
    show Steps p.tables e below (T17.setTop (mkF m 170 #[.val (.int p1), .val (.long q2), .second, .val (.int p3), .val (.int p4), .val (.int p5), .val (.long q6), .second, .val (.int (p1 &&& (7 : Int32))), .val (.ref b7), .val (.long (own_s0_12_10 q2 p3 (p1 &&& (7 : Int32)))), .second, .val (.ref b9), .val (.int (1 : Int32)), .val (.int (p4 &&& (7 : Int32))), .val (.ref b13), .val (.long (own_s0_91_16 p5 q6)), .second, .val (.ref r15), .val (.int (1 : Int32))] [(.int (1 : Int32))])) _
    exact retN X17 hx (t := .boolean) Bd.returns (by simp) (hb hby at_170) hr
  · show Q0 Z p1 q2 p3 p4 p5 q6 h0 n0 _ T17.heap _
    rw [e17q]
    exact ⟨rfl, N17⟩
set_option maxRecDepth 65536 in
theorem rm0 (l : Launch) (Z : State) (a0 : Array Value) (hw : ∀ d ∈ tables_1, d.before a0 Z = true) (ws : List Jvm.Cond) (p1 : Int32) (q2 : Int64) (p3 : Int32) (p4 : Int32) (p5 : Int32) (q6 : Int64) (h0 : Heap) (n0 : Nat) (Z0 : n0 ≤ h0.size) (hN : OwnN Z h0) :
    MetFree l x (head1 (Jvm.Cond.code x code maxLocals ret :: ws) room_1) (fun a U => a = #[(.int p1), (.long q2), (.int p3), (.int p4), (.int p5), (.long q6)] ∧ Z.Warmed39 U.vm ∧ U.heap = h0) (fun _ _ _ _ _ => True) (fun _ U o U' => ∃ v L, o = .returned v ∧ Q0 Z p1 q2 p3 p4 p5 q6 h0 n0 v U'.heap L ∧ FrameEnd U o U' L room_1.cells room_1.slots) := by
  by_cases hc60 : (lcmpW (own_s0_12_10 q2 p3 (p1 &&& (7 : Int32))) ((p1 &&& (7 : Int32)).toInt64)) = (0 : Int32)
  · by_cases hc137 : (0 : Int32) < (lcmpW (own_s0_91_16 p5 q6) ((p4 &&& (7 : Int32)).toInt64))
    · exact rm0_fftfff l Z a0 hw ws p1 q2 p3 p4 p5 q6 h0 n0 Z0 hN hc60 hc137
    · exact rm0_ffffff l Z a0 hw ws p1 q2 p3 p4 p5 q6 h0 n0 Z0 hN hc60 hc137
  · by_cases hc137 : (0 : Int32) < (lcmpW (own_s0_91_16 p5 q6) ((p4 &&& (7 : Int32)).toInt64))
    · exact rm0_tftfff l Z a0 hw ws p1 q2 p3 p4 p5 q6 h0 n0 Z0 hN hc60 hc137
    · exact rm0_tfffff l Z a0 hw ws p1 q2 p3 p4 p5 q6 h0 n0 Z0 hN hc60 hc137
set_option maxRecDepth 65536 in
set_option maxHeartbeats 40000000 in
theorem comes_1 {Post : Tables → Env → Array Value → State → Outcome → State → Prop} (hpost : ∀ tb e args s v u, (limb_1_1.after args s (.returned v) u = true ∧ limb_1_2.after args s (.returned v) u = true ∧ True) → FrameEnd s (.returned v) u (Jvm.fieldLocs frame_1_writes args s ++ Jvm.arrayLocs frame_1_arrays args s ++ Jvm.staticLocs frame_1_statics s) 24 128 → Post tb e args s (.returned v) u) :
    ArmFor flags0 classFile x code maxLocals ret World_1 tables_1 room_1 Calls_1 rest_1 Pre_1 Post := by
  intro l hfl _ _ p e ha hc hk s m args below hf hA hF happ hP
  obtain ⟨hcalls, hrest, hpre⟩ := hP
  obtain ⟨-, -, -, hnamed, -, -, -, hat⟩ := (Spec.applies_iff hf).mp happ
  obtain ⟨hg, hn⟩ := and_e (Cond.before_iff.mp (show (Jvm.Cond.and given_1 narrow_1).before args s = true from hpre))
  obtain ⟨g18, g19⟩ := and_e hg
  obtain ⟨g20, g21⟩ := and_e g19
  obtain ⟨g22, g23⟩ := and_e g21
  obtain ⟨g24, g25⟩ := and_e g23
  obtain ⟨g26, g27⟩ := and_e g25
  obtain ⟨g28, g29⟩ := and_e g27
  obtain ⟨w0, w1, w2, w3, w4, w5, rfl⟩ : ∃ w0 w1 w2 w3 w4 w5 : Value, args = #[w0, w1, w2, w3, w4, w5] := by
    have hs : args.size = 6 := by simpa [Cond.value, given_1] using g18
    obtain ⟨L⟩ := args
    match L, hs with
    | [w0, w1, w2, w3, w4, w5], _ => exact ⟨w0, w1, w2, w3, w4, w5, rfl⟩
  have hw := fun d (hd : d ∈ tables_1) => atoms_spec (ws := Jvm.Cond.code x code maxLocals ret :: tables_1) hat d (List.mem_cons_of_mem _ hd)
  have hfit : Fit s := fun {y c} hc i hi => by
    obtain ⟨ha, rfl⟩ := Array.getElem?_eq_some_iff.mp hc
    have q := List.all_eq_true.mp ((Array.all_eq_true_iff_forall_mem.mp hF) _ (Array.getElem_mem ha)) i (List.mem_range.mpr hi)
    simpa [Array.getElem?_eq_getElem hi] using q
  obtain ⟨i0, ei0⟩ := is_v g20
  obtain rfl : w0 = (.int i0) := Option.some.inj ei0
  obtain ⟨i1, ei1⟩ := isL_v g22
  obtain rfl : w1 = (.long i1) := Option.some.inj ei1
  obtain ⟨i2, ei2⟩ := is_v g24
  obtain rfl : w2 = (.int i2) := Option.some.inj ei2
  obtain ⟨i3, ei3⟩ := is_v g26
  obtain rfl : w3 = (.int i3) := Option.some.inj ei3
  obtain ⟨i4, ei4⟩ := is_v g28
  obtain rfl : w4 = (.int i4) := Option.some.inj ei4
  obtain ⟨i5, ei5⟩ := isL_v g29
  obtain rfl : w5 = (.long i5) := Option.some.inj ei5
  obtain ⟨n1, hn1⟩ := and_e hn
  obtain ⟨n2, hn2⟩ := and_e hn1
  obtain ⟨n3, n4⟩ := and_e hn2
  obtain ⟨aN, eN⟩ := exa_v n1
  obtain ⟨aK, eK⟩ := arr_v n2
  obtain ⟨clK, ArK⟩ := Arr.start eK n2
  have eK' := eK
  rw [fld_at eN] at eK'
  have eL := own_eql n4
  rw [fld_at eN] at eL
  have hN : OwnN s s.heap := ⟨aN, aK, clK, Sta.start eN (Or.inr ⟨hw _ (List.mem_of_getElem? (i := 3) rfl), hw _ (List.mem_of_getElem? (i := 48) rfl)⟩), Exa.start eN n1, Fld.start eK', ArK, own_len0 eK (Arr.fin (State.Warmed39.refl s).alike ArK) (own_eqi n3), Fld.start eL⟩
  obtain ⟨n, o, h1, h2, h3, _, L, rfl, ⟨rfl, N⟩, hq⟩ := rm0 l s _ hw tables_1 i0 i1 i2 i3 i4 i5 s.heap s.heap.size (Nat.le_refl _) hN p e ha hc hk s m _ below hf ((Spec.applies_iff_loose hf).mp happ).1 ⟨rfl, State.Warmed39.refl s, rfl⟩ trivial
  refine ⟨n, _, h1, h2, h3, hpost _ _ _ _ _ _ ⟨Cond.after_iff.mpr rfl, Cond.after_iff.mpr (eq_i res_at (Term.int_eval (1)) rfl), trivial⟩ ⟨hq.1, hq.2.1, (hq.2.2.sift fun y hy => Or.inr (N y hy)).mono (by decide) (by decide)⟩⟩
theorem main_1_1 : Claimed_1_1 := comes_1 fun _ _ _ _ _ _ h hF => ⟨h.1, hF⟩
theorem main_1_2 : Claimed_1_2 := comes_1 fun _ _ _ _ _ _ h hF => ⟨h.2.1, hF⟩
end Jvm.Pilot.@@N@@
namespace Jvm.Pilot.@@N@@
open Jvm Jvm.ClassFile Sem Op Lib Jvm.Free Jvm.Stand Jvm.Pilot.@@N@@.Jvm.D
/-! MADE BY PROGRAM (witnessworld.py) out of the Statement's table words and the real class files: 13 classes; the members and pool entries that the words name. The judged class is class 1, her method 1. -/
namespace start1
open Jvm.ClassFile
def u (s : String) : CpInfo := .utf8 (stringToUtf16 s)
/-- a pool by its gaps: so many unusable entries, then the entry; so many at the end -/
def gap : Nat → List CpInfo → List CpInfo
  | 0, r => r
  | n + 1, r => .unusable :: gap n r
def poolList (es : List (Nat × CpInfo)) (last : Nat) : List CpInfo := es.foldr (fun e r => gap e.1 (e.2 :: r)) (gap last [])
def pool (es : List (Nat × CpInfo)) (last : Nat) : Array CpInfo := ⟨poolList es last⟩
def fileOf (pool : Array CpInfo) (this : Nat) (attrs : Array Attribute := #[]) (ms : Array MethodInfo := #[]) (fl : Nat := 33) (sup : Nat := 0) (ifs : Array Nat := #[]) (fds : Array FieldInfo := #[]) : ClassFile where
  minorVersion := 0
  majorVersion := 65
  constantPool := pool
  accessFlags := fl
  thisClass := this
  superClass := sup
  interfaces := ifs
  fields := fds
  methods := ms
  attributes := attrs
def plain (name : String) (sup : Option ClassId) : Class where
  name := name
  kind := .ordinary
  loader := none
  accessFlags := 33
  super := sup
  interfaces := #[]
  cf := none
  fields := #[]
  methods := #[]
  instanceTypes := #[]
  staticTypes := #[]
  resolved := #[]
  callSites := []
  init := .initialized
  statics := none
  mirror := none

def pool0 : Array CpInfo := pool [(5, u "<init>"), (0, u "()V"), (1, .class_ 10), (1, u "java/lang/Object"), (85, u "clone"), (0, u "()Ljava/lang/Object;")] 26

def k0c0 : Code := { maxStack := 0, maxLocals := 1, code := object_method_1_code, exceptionTable := #[], attributes := #[] }
def k0m0 : Method := { name := "<init>", desc := "()V", sig := { parameters := [], returnType := none }, accessFlags := 1, code := some k0c0 }
def k0m1 : Method := { name := "clone", desc := "()Ljava/lang/Object;", sig := { parameters := [], returnType := some (.object "java/lang/Object") }, accessFlags := 260, code := none }
/-- java/lang/Object -/
def k0 : Class := { plain "java/lang/Object" none with
  accessFlags := 33
  interfaces := #[]
  cf := some (fileOf pool0 8 #[] #[{ accessFlags := 1, nameIndex := 5, descriptorIndex := 6, attributes := #[] }, { accessFlags := 260, nameIndex := 96, descriptorIndex := 97, attributes := #[] }] 33 0 #[] #[])
  fields := #[]
  methods := #[k0m0, k0m1]
  instanceTypes := #[]
  staticTypes := #[]
  resolved := Array.replicate 124 none
  statics := none }

def pool1 : Array CpInfo := pool [(2, .class_ 4), (1, u "java/lang/Object"), (0, u "<init>"), (0, u "()V"), (0, .class_ 8), (0, u "com/example/crewroster/crewroster/http/Body"), (0, .methodref 7 10), (0, .nameAndType 5 11), (0, u "([BJ)V"), (0, .methodref 7 13), (0, .nameAndType 14 15), (0, u "isWhole"), (0, u "()Z"), (2, .long 9223372036854775807), (1, .methodref 7 21), (0, .nameAndType 22 23), (0, u "of"), (0, u "([BJ)Lcom/example/crewroster/crewroster/http/Body;"), (0, .class_ 25), (0, u "com/example/crewroster/crewroster/http/BodyIsWholePinLaw"), (2, u "law"), (0, u "(IJIIIJ)Z")] 5

def k1m0 : Method := { name := "<init>", desc := "()V", sig := { parameters := [], returnType := none }, accessFlags := 1, code := none }
def k1c1 : Code := { maxStack := 5, maxLocals := 20, code := code, exceptionTable := #[], attributes := #[] }
def k1m1 : Method := { name := "law", desc := "(IJIIIJ)Z", sig := { parameters := [.int, .long, .int, .int, .int, .long], returnType := some .boolean }, accessFlags := 9, code := some k1c1 }
/-- com/example/crewroster/crewroster/http/BodyIsWholePinLaw -/
def k1 : Class := { plain "com/example/crewroster/crewroster/http/BodyIsWholePinLaw" (some 0) with
  accessFlags := 49
  interfaces := #[]
  cf := some (fileOf pool1 24 #[] #[{ accessFlags := 1, nameIndex := 5, descriptorIndex := 6, attributes := #[] }, { accessFlags := 9, nameIndex := 28, descriptorIndex := 29, attributes := #[] }] 49 2 #[] #[])
  fields := #[]
  methods := #[k1m0, k1m1]
  instanceTypes := #[]
  staticTypes := #[]
  resolved := Array.replicate 35 none
  statics := none }

def pool2 : Array CpInfo := pool [(1, .methodref 2 3), (0, .class_ 4), (0, .nameAndType 5 6), (0, u "java/lang/Object"), (0, u "<init>"), (0, u "()V"), (0, .class_ 8), (0, u "java/lang/Record")] 13

def k2c0 : Code := { maxStack := 1, maxLocals := 1, code := jdk_30_method_1_code, exceptionTable := #[], attributes := #[] }
def k2m0 : Method := { name := "<init>", desc := "()V", sig := { parameters := [], returnType := none }, accessFlags := 4, code := some k2c0 }
/-- java/lang/Record -/
def k2 : Class := { plain "java/lang/Record" (some 0) with
  accessFlags := 1057
  interfaces := #[]
  cf := some (fileOf pool2 7 #[] #[{ accessFlags := 4, nameIndex := 5, descriptorIndex := 6, attributes := #[] }] 1057 2 #[] #[])
  fields := #[]
  methods := #[k2m0]
  instanceTypes := #[]
  staticTypes := #[]
  resolved := Array.replicate 22 none
  statics := none }

def pool3 : Array CpInfo := pool [(1, .methodref 2 3), (0, .class_ 4), (0, .nameAndType 5 6), (0, u "java/lang/Record"), (0, u "<init>"), (0, u "()V"), (0, .fieldref 8 9), (0, .class_ 10), (0, .nameAndType 11 12), (0, u "com/example/crewroster/crewroster/http/Body"), (0, u "kept"), (0, u "[B"), (0, .fieldref 8 14), (0, .nameAndType 15 16), (0, u "length"), (0, u "J"), (0, .fieldref 8 18), (0, .nameAndType 19 20), (0, u "NONE"), (0, u "Lcom/example/crewroster/crewroster/http/Body;"), (0, .methodref 22 23), (0, .class_ 24), (0, .nameAndType 25 26), (0, u "java/lang/Math"), (0, u "min"), (0, u "(JJ)J"), (0, .methodref 28 29), (0, .class_ 30), (0, .nameAndType 31 32), (0, u "java/util/Arrays"), (0, u "copyOf"), (0, u "([BI)[B"), (0, .methodref 8 34), (0, .nameAndType 5 35), (0, u "([BJ)V"), (15, u "of"), (0, u "([BJ)Lcom/example/crewroster/crewroster/http/Body;"), (1, u "isWhole"), (0, u "()Z")] 27

def k3c0 : Code := { maxStack := 3, maxLocals := 4, code := prog_14_method_1_code, exceptionTable := #[], attributes := #[] }
def k3m0 : Method := { name := "<init>", desc := "([BJ)V", sig := { parameters := [(.array .byte), .long], returnType := none }, accessFlags := 1, code := some k3c0 }
def k3c1 : Code := { maxStack := 7, maxLocals := 3, code := prog_14_method_2_code, exceptionTable := #[], attributes := #[] }
def k3m1 : Method := { name := "of", desc := "([BJ)Lcom/example/crewroster/crewroster/http/Body;", sig := { parameters := [(.array .byte), .long], returnType := some (.object "com/example/crewroster/crewroster/http/Body") }, accessFlags := 8, code := some k3c1 }
def k3c2 : Code := { maxStack := 4, maxLocals := 1, code := prog_14_method_3_code, exceptionTable := #[], attributes := #[] }
def k3m2 : Method := { name := "isWhole", desc := "()Z", sig := { parameters := [], returnType := some .boolean }, accessFlags := 1, code := some k3c2 }
/-- com/example/crewroster/crewroster/http/Body -/
def k3 : Class := { plain "com/example/crewroster/crewroster/http/Body" (some 2) with
  accessFlags := 49
  interfaces := #[]
  cf := some (fileOf pool3 8 #[] #[{ accessFlags := 1, nameIndex := 5, descriptorIndex := 35, attributes := #[] }, { accessFlags := 8, nameIndex := 51, descriptorIndex := 52, attributes := #[] }, { accessFlags := 1, nameIndex := 54, descriptorIndex := 55, attributes := #[] }] 49 2 #[] #[{ accessFlags := 18, nameIndex := 11, descriptorIndex := 12, attributes := #[] }, { accessFlags := 18, nameIndex := 15, descriptorIndex := 16, attributes := #[] }, { accessFlags := 24, nameIndex := 19, descriptorIndex := 20, attributes := #[] }])
  fields := #[{ name := "kept", type := (.array .byte), accessFlags := 18, slot := 0, constantValue := 0 }, { name := "length", type := .long, accessFlags := 18, slot := 1, constantValue := 0 }, { name := "NONE", type := (.object "com/example/crewroster/crewroster/http/Body"), accessFlags := 24, slot := 0, constantValue := 0 }]
  methods := #[k3m0, k3m1, k3m2]
  instanceTypes := #[(.array .byte), .long]
  staticTypes := #[(.object "com/example/crewroster/crewroster/http/Body")]
  resolved := Array.replicate 83 none
  statics := some 0 }

def pool4 : Array CpInfo := pool [(1, .class_ 2), (0, u "java/lang/Math"), (1, .class_ 6), (1, u "java/lang/Object"), (0, u "<init>"), (0, u "()V"), (89, .class_ 100), (1, u "java/lang/Math$RandomNumberGeneratorHolder"), (20, u "(JJ)J"), (50, u "negativeZeroFloatBits"), (0, u "J"), (2, u "negativeZeroDoubleBits"), (24, u "min"), (43, u "$assertionsDisabled"), (0, u "Z"), (88, u "(II)I"), (2, u "twoToTheDoubleScaleDown"), (0, u "D"), (4, u "twoToTheDoubleScaleUp"), (9, u "E"), (3, u "PI"), (2, u "TAU"), (2, u "DEGREES_TO_RADIANS"), (0, u "RADIANS_TO_DEGREES")] 94

def k4m0 : Method := { name := "<init>", desc := "()V", sig := { parameters := [], returnType := none }, accessFlags := 2, code := none }
def k4c1 : Code := { maxStack := 2, maxLocals := 2, code := jdk_29_method_69_code, exceptionTable := #[], attributes := #[] }
def k4m1 : Method := { name := "min", desc := "(II)I", sig := { parameters := [.int, .int], returnType := some .int }, accessFlags := 9, code := some k4c1 }
def k4c2 : Code := { maxStack := 4, maxLocals := 4, code := jdk_29_method_70_code, exceptionTable := #[], attributes := #[] }
def k4m2 : Method := { name := "min", desc := "(JJ)J", sig := { parameters := [.long, .long], returnType := some .long }, accessFlags := 9, code := some k4c2 }
/-- java/lang/Math -/
def k4 : Class := { plain "java/lang/Math" (some 0) with
  accessFlags := 49
  interfaces := #[]
  cf := some (fileOf pool4 1 #[.nestMembers #[98]] #[{ accessFlags := 2, nameIndex := 7, descriptorIndex := 8, attributes := #[] }, { accessFlags := 9, nameIndex := 201, descriptorIndex := 335, attributes := #[] }, { accessFlags := 9, nameIndex := 201, descriptorIndex := 121, attributes := #[] }] 49 4 #[] #[{ accessFlags := 25, nameIndex := 354, descriptorIndex := 339, attributes := #[] }, { accessFlags := 25, nameIndex := 358, descriptorIndex := 339, attributes := #[] }, { accessFlags := 25, nameIndex := 361, descriptorIndex := 339, attributes := #[] }, { accessFlags := 26, nameIndex := 364, descriptorIndex := 339, attributes := #[] }, { accessFlags := 26, nameIndex := 365, descriptorIndex := 339, attributes := #[] }, { accessFlags := 26, nameIndex := 172, descriptorIndex := 173, attributes := #[] }, { accessFlags := 26, nameIndex := 176, descriptorIndex := 173, attributes := #[] }, { accessFlags := 8, nameIndex := 344, descriptorIndex := 339, attributes := #[] }, { accessFlags := 8, nameIndex := 338, descriptorIndex := 339, attributes := #[] }, { accessFlags := 4120, nameIndex := 245, descriptorIndex := 246, attributes := #[] }])
  fields := #[{ name := "E", type := .double, accessFlags := 25, slot := 0, constantValue := 0 }, { name := "PI", type := .double, accessFlags := 25, slot := 1, constantValue := 0 }, { name := "TAU", type := .double, accessFlags := 25, slot := 2, constantValue := 0 }, { name := "DEGREES_TO_RADIANS", type := .double, accessFlags := 26, slot := 3, constantValue := 0 }, { name := "RADIANS_TO_DEGREES", type := .double, accessFlags := 26, slot := 4, constantValue := 0 }, { name := "negativeZeroFloatBits", type := .long, accessFlags := 26, slot := 5, constantValue := 0 }, { name := "negativeZeroDoubleBits", type := .long, accessFlags := 26, slot := 6, constantValue := 0 }, { name := "twoToTheDoubleScaleUp", type := .double, accessFlags := 8, slot := 7, constantValue := 0 }, { name := "twoToTheDoubleScaleDown", type := .double, accessFlags := 8, slot := 8, constantValue := 0 }, { name := "$assertionsDisabled", type := .boolean, accessFlags := 4120, slot := 9, constantValue := 0 }]
  methods := #[k4m0, k4m1, k4m2]
  instanceTypes := #[]
  staticTypes := #[.double, .double, .double, .double, .double, .long, .long, .double, .double, .boolean]
  resolved := Array.replicate 460 none
  statics := none }

def pool5 : Array CpInfo := pool [(2, .class_ 4), (1, u "java/lang/Object"), (0, u "<init>"), (0, u "()V"), (7, .class_ 16), (1, u "java/util/Arrays"), (57, .class_ 76), (1, u "java/util/Arrays$NaturalOrder"), (32, u "()Ljava/lang/Object;"), (3, .class_ 115), (1, u "java/util/Arrays$LegacyMergeSort"), (1, u "Z"), (10, .nameAndType 129 109), (0, u "clone"), (20, .methodref 151 152), (0, .class_ 153), (0, .nameAndType 154 155), (0, u "java/lang/System"), (0, u "arraycopy"), (0, u "(Ljava/lang/Object;ILjava/lang/Object;II)V"), (146, u "copyOf"), (1, .methodref 305 306), (0, .class_ 307), (0, .nameAndType 308 309), (0, u "java/lang/Math"), (0, u "min"), (0, u "(II)I"), (0, .methodref 311 128), (0, .class_ 312), (0, u "[B"), (62, .class_ 376), (0, u "java/util/Arrays$ArrayList"), (68, u "$assertionsDisabled"), (269, u "MIN_ARRAY_SORT_GRAN"), (0, u "I"), (2, u "INSERTIONSORT_THRESHOLD"), (149, u "([BI)[B"), (105, .class_ 976), (0, u "java/util/Arrays$ArrayItr")] 52

def k5m0 : Method := { name := "<init>", desc := "()V", sig := { parameters := [], returnType := none }, accessFlags := 2, code := none }
def k5c1 : Code := { maxStack := 6, maxLocals := 3, code := jdk_65_method_121_code, exceptionTable := #[], attributes := #[] }
def k5m1 : Method := { name := "copyOf", desc := "([BI)[B", sig := { parameters := [(.array .byte), .int], returnType := some (.array .byte) }, accessFlags := 9, code := some k5c1 }
/-- java/util/Arrays -/
def k5 : Class := { plain "java/util/Arrays" (some 0) with
  accessFlags := 49
  interfaces := #[]
  cf := some (fileOf pool5 14 #[.nestMembers #[975, 375, 113, 74]] #[{ accessFlags := 2, nameIndex := 5, descriptorIndex := 6, attributes := #[] }, { accessFlags := 9, nameIndex := 302, descriptorIndex := 869, attributes := #[] }] 49 2 #[] #[{ accessFlags := 26, nameIndex := 715, descriptorIndex := 716, attributes := #[] }, { accessFlags := 26, nameIndex := 719, descriptorIndex := 716, attributes := #[] }, { accessFlags := 4120, nameIndex := 445, descriptorIndex := 117, attributes := #[] }])
  fields := #[{ name := "MIN_ARRAY_SORT_GRAN", type := .int, accessFlags := 26, slot := 0, constantValue := 0 }, { name := "INSERTIONSORT_THRESHOLD", type := .int, accessFlags := 26, slot := 1, constantValue := 0 }, { name := "$assertionsDisabled", type := .boolean, accessFlags := 4120, slot := 2, constantValue := 0 }]
  methods := #[k5m0, k5m1]
  instanceTypes := #[]
  staticTypes := #[.int, .int, .boolean]
  resolved := Array.replicate 1029 none
  statics := none }

def pool6 : Array CpInfo := pool [(1, .class_ 2), (0, u "java/lang/Cloneable"), (0, .class_ 4), (0, u "java/lang/Object")] 2

/-- java/lang/Cloneable -/
def k6 : Class := { plain "java/lang/Cloneable" (some 0) with
  accessFlags := 1537
  interfaces := #[]
  cf := some (fileOf pool6 1 #[] #[] 1537 3 #[] #[])
  fields := #[]
  methods := #[]
  instanceTypes := #[]
  staticTypes := #[]
  resolved := Array.replicate 7 none
  statics := none }

def pool7 : Array CpInfo := pool [(2, .class_ 4), (1, u "java/lang/Object"), (0, u "<init>"), (0, u "()V"), (1, .class_ 10), (1, u "java/lang/System"), (0, u "allowSecurityManager"), (0, u "I"), (16, u "cons"), (0, u "Ljava/io/Console;"), (77, .class_ 110), (1, u "java/lang/System$CallersHolder"), (43, u "initialErrStream"), (0, u "Ljava/io/PrintStream;"), (19, u "security"), (0, u "Ljava/lang/SecurityManager;"), (31, .class_ 209), (0, u "java/lang/System$1"), (7, u "props"), (0, u "Ljava/util/Properties;"), (2, u "lineSeparator"), (0, u "Ljava/lang/String;"), (96, .class_ 321), (1, u "java/lang/System$LoggerFinder"), (5, .class_ 328), (0, u "java/lang/System$Logger"), (67, u "err"), (2, u "out"), (91, u "notSupportedJnuEncoding"), (15, u "in"), (17, u "initialIn"), (0, u "Ljava/io/InputStream;"), (35, u "bootLayer"), (0, u "Ljava/lang/ModuleLayer;"), (99, .class_ 664), (0, u "java/lang/System$2"), (9, u "NEVER"), (2, u "MAYBE"), (49, u "arraycopy"), (0, u "(Ljava/lang/Object;ILjava/lang/Object;II)V"), (72, .class_ 802), (0, u "java/lang/System$Logger$Level")] 31

def k7m0 : Method := { name := "<init>", desc := "()V", sig := { parameters := [], returnType := none }, accessFlags := 2, code := none }
def k7m1 : Method := { name := "arraycopy", desc := "(Ljava/lang/Object;ILjava/lang/Object;II)V", sig := { parameters := [(.object "java/lang/Object"), .int, (.object "java/lang/Object"), .int, .int], returnType := none }, accessFlags := 265, code := none }
/-- java/lang/System -/
def k7 : Class := { plain "java/lang/System" (some 0) with
  accessFlags := 49
  interfaces := #[]
  cf := some (fileOf pool7 8 #[.nestMembers #[319, 327, 801, 108, 663, 208]] #[{ accessFlags := 2, nameIndex := 5, descriptorIndex := 6, attributes := #[] }, { accessFlags := 265, nameIndex := 727, descriptorIndex := 728, attributes := #[] }] 49 2 #[] #[{ accessFlags := 25, nameIndex := 507, descriptorIndex := 526, attributes := #[] }, { accessFlags := 25, nameIndex := 399, descriptorIndex := 155, attributes := #[] }, { accessFlags := 25, nameIndex := 396, descriptorIndex := 155, attributes := #[] }, { accessFlags := 10, nameIndex := 525, descriptorIndex := 526, attributes := #[] }, { accessFlags := 26, nameIndex := 674, descriptorIndex := 12, attributes := #[] }, { accessFlags := 26, nameIndex := 677, descriptorIndex := 12, attributes := #[] }, { accessFlags := 10, nameIndex := 11, descriptorIndex := 12, attributes := #[] }, { accessFlags := 74, nameIndex := 175, descriptorIndex := 176, attributes := #[] }, { accessFlags := 10, nameIndex := 491, descriptorIndex := 222, attributes := #[] }, { accessFlags := 74, nameIndex := 29, descriptorIndex := 30, attributes := #[] }, { accessFlags := 74, nameIndex := 154, descriptorIndex := 155, attributes := #[] }, { accessFlags := 10, nameIndex := 217, descriptorIndex := 218, attributes := #[] }, { accessFlags := 10, nameIndex := 221, descriptorIndex := 222, attributes := #[] }, { accessFlags := 8, nameIndex := 562, descriptorIndex := 563, attributes := #[] }])
  fields := #[{ name := "in", type := (.object "java/io/InputStream"), accessFlags := 25, slot := 0, constantValue := 0 }, { name := "out", type := (.object "java/io/PrintStream"), accessFlags := 25, slot := 1, constantValue := 0 }, { name := "err", type := (.object "java/io/PrintStream"), accessFlags := 25, slot := 2, constantValue := 0 }, { name := "initialIn", type := (.object "java/io/InputStream"), accessFlags := 10, slot := 3, constantValue := 0 }, { name := "NEVER", type := .int, accessFlags := 26, slot := 4, constantValue := 0 }, { name := "MAYBE", type := .int, accessFlags := 26, slot := 5, constantValue := 0 }, { name := "allowSecurityManager", type := .int, accessFlags := 10, slot := 6, constantValue := 0 }, { name := "security", type := (.object "java/lang/SecurityManager"), accessFlags := 74, slot := 7, constantValue := 0 }, { name := "notSupportedJnuEncoding", type := (.object "java/lang/String"), accessFlags := 10, slot := 8, constantValue := 0 }, { name := "cons", type := (.object "java/io/Console"), accessFlags := 74, slot := 9, constantValue := 0 }, { name := "initialErrStream", type := (.object "java/io/PrintStream"), accessFlags := 74, slot := 10, constantValue := 0 }, { name := "props", type := (.object "java/util/Properties"), accessFlags := 10, slot := 11, constantValue := 0 }, { name := "lineSeparator", type := (.object "java/lang/String"), accessFlags := 10, slot := 12, constantValue := 0 }, { name := "bootLayer", type := (.object "java/lang/ModuleLayer"), accessFlags := 8, slot := 13, constantValue := 0 }]
  methods := #[k7m0, k7m1]
  instanceTypes := #[]
  staticTypes := #[(.object "java/io/InputStream"), (.object "java/io/PrintStream"), (.object "java/io/PrintStream"), (.object "java/io/InputStream"), .int, .int, .int, (.object "java/lang/SecurityManager"), (.object "java/lang/String"), (.object "java/io/Console"), (.object "java/io/PrintStream"), (.object "java/util/Properties"), (.object "java/lang/String"), (.object "java/lang/ModuleLayer")]
  resolved := Array.replicate 834 none
  statics := none }

def pool8 : Array CpInfo := pool [(1, u "java/io/Serializable"), (0, .class_ 1), (0, u "java/lang/Object"), (0, .class_ 3)] 3

/-- java/io/Serializable -/
def k8 : Class := { plain "java/io/Serializable" (some 0) with
  accessFlags := 1537
  interfaces := #[]
  cf := some (fileOf pool8 2 #[] #[] 1537 4 #[] #[])
  fields := #[]
  methods := #[]
  instanceTypes := #[]
  staticTypes := #[]
  resolved := Array.replicate 8 none
  statics := none }

/-- the primitive byte -/
def k9 : Class := { plain "byte" none with kind := .primitive 'B', accessFlags := 0x411 }
/-- [B -/
def k10 : Class := { plain "[B" (some 0) with kind := .array 9 .byte, interfaces := #[6, 8], accessFlags := 1041 }

/-- the primitive int -/
def k11 : Class := { plain "int" none with kind := .primitive 'I', accessFlags := 0x411 }
/-- [I -/
def k12 : Class := { plain "[I" (some 0) with kind := .array 11 .int, interfaces := #[6, 8], accessFlags := 1041 }

def heap : Heap := #[{ cls := 3, slots := #[.ref 2], vm := .statics 3 },
  { cls := 10, slots := #[], vm := .none },
  { cls := 3, slots := #[.ref 1, .long 0], vm := .none }]
def classes : Array Class := #[k0, k1, k2, k3, k4, k5, k6, k7, k8, k9, k10, k11, k12]
def interned : List (Array UInt16 × Addr) := []
def slotsUsed : Nat := 3
def theMethod : MethodId := ⟨1, 1⟩
def args0 : Array Value := #[.int 5, .long 6, .int 0, .int 3, .int 9, .long 4]
def aboutOver (below : List Frame) : State where
  vm := { classes := classes, interned := interned.toArray }
  heap := heap
  slotsUsed := slotsUsed
  threads := #[{ frames := .invoking theMethod args0 :: below }]
def below0 : List Frame := [.native { method := ⟨0, 0⟩, args := #[] }]
def about1 : State := aboutOver below0
def p0 : Program := .bare "" "" ""
def e0 : Env := launch0.env 0 0 0
theorem w_frames : about1.frames = Frame.invoking theMethod args0 :: below0 := rfl
set_option maxRecDepth 65536 in
theorem w_args : argsFit about1.vm theMethod args0 = true := by decide +kernel
set_option maxRecDepth 65536 in
theorem w_heap : heapFits about1 = true := by decide +kernel
set_option maxRecDepth 65536 in
theorem w_runnable : about1.curStatus? = some .runnable := by decide +kernel
set_option maxRecDepth 65536 in
theorem w_alone : about1.alone = true := by decide +kernel
set_option maxRecDepth 65536 in
theorem w_named : about1.methodNamed? x = some theMethod := by decide +kernel
set_option maxRecDepth 65536 in
theorem w_hears : about1.hears theMethod below0 = true := by decide +kernel
set_option maxRecDepth 65536 in
theorem w_ripe : about1.ripe theMethod args0 below0 = true := by decide +kernel
theorem w_running : about1.status = .running := rfl
set_option maxRecDepth 65536 in
theorem w_room : about1.hasRoom e0.platform room_1 = true :=
  launch0.hasRoom_least _ room_1 (by decide +kernel) (by decide +kernel) (by decide +kernel) (by decide +kernel) (by decide +kernel) (by decide +kernel)
theorem allAtoms_all (ts : List Jvm.Cond) (a : Array Jvm.Value) (st : Jvm.State) : (allAtoms ts).before a st = ts.all (fun c => c.before a st) := by
  induction ts with
  | nil => rfl
  | cons c t ih =>
    show (Jvm.Cond.and c (allAtoms t)).before a st = _
    rw [Jvm.Cond.before_and, ih, List.all_cons]
def words1 : List Jvm.Cond := Jvm.Cond.code x code maxLocals ret :: tables_1
/-- a 'code' word, met by the world's own term for the bytes: nothing is compared byte by byte -/
theorem code_word {y : MethodName} {bytes : ByteArray} {mx : Nat} {rt : Option FieldType} {a : Array Value} {s : State} {m : MethodId} {meth : Method} {c : Code} (h1 : s.methodNamed? y = some m) (h2 : s.vm.method? m = some meth) (h3 : meth.code = some c) (h4 : c.code = bytes)
    (h5 : (c.maxLocals == mx && c.exceptionTable.isEmpty && decide (c.maxStack ≤ mostOperands) && decide (meth.sig.returnType = rt) && !meth.locks && decide (parseMethodDescriptor y.desc = some meth.sig)) = true) : (Jvm.Cond.code y bytes mx rt).before a s = true := by
  simp only [Bool.and_eq_true, beq_iff_eq, Bool.not_eq_true', decide_eq_true_eq] at h5
  obtain ⟨⟨⟨⟨⟨g1, g2⟩, g3⟩, g4⟩, g5⟩, g6⟩ := h5
  simp [Cond.before, Cond.holds, Cond.value, h1, h2, h3, h4, g1, g2, g3, g4, g5, g6]
def isCode : Jvm.Cond → Bool
  | .code _ _ _ _ => true
  | _ => false
theorem all_split {L : List Jvm.Cond} {P : Jvm.Cond → Bool} (h1 : L.all (fun c => isCode c || P c) = true) (h2 : ∀ c ∈ L.filter isCode, P c = true) : L.all P = true := by
  refine List.all_eq_true.mpr fun c hc => ?_
  have h := List.all_eq_true.mp h1 c hc
  rcases Bool.eq_false_or_eq_true (isCode c) with hi | hi
  · exact h2 c (List.mem_filter.mpr ⟨hc, hi⟩)
  · simpa [hi] using h
set_option maxRecDepth 65536 in
theorem w_c0 : (Jvm.Cond.code x code maxLocals ret).before args0 about1 = true := code_word (m := ⟨1, 1⟩) (meth := k1m1) (c := k1c1) (by decide +kernel) rfl rfl rfl (by decide +kernel)
set_option maxRecDepth 65536 in
theorem w_c1 : (Jvm.Cond.code ({ cls := "com/example/crewroster/crewroster/http/Body", name := "<init>", desc := "([BJ)V" } : Jvm.MethodName) prog_14_method_1_code (4 : Nat) (Option.none : Option Jvm.ClassFile.FieldType)).before args0 about1 = true := code_word (m := ⟨3, 0⟩) (meth := k3m0) (c := k3c0) (by decide +kernel) rfl rfl rfl (by decide +kernel)
set_option maxRecDepth 65536 in
theorem w_c2 : (Jvm.Cond.code ({ cls := "java/lang/Record", name := "<init>", desc := "()V" } : Jvm.MethodName) jdk_30_method_1_code (1 : Nat) (Option.none : Option Jvm.ClassFile.FieldType)).before args0 about1 = true := code_word (m := ⟨2, 0⟩) (meth := k2m0) (c := k2c0) (by decide +kernel) rfl rfl rfl (by decide +kernel)
set_option maxRecDepth 65536 in
theorem w_c3 : (Jvm.Cond.code ({ cls := "java/lang/Object", name := "<init>", desc := "()V" } : Jvm.MethodName) object_method_1_code (1 : Nat) (Option.none : Option Jvm.ClassFile.FieldType)).before args0 about1 = true := code_word (m := ⟨0, 0⟩) (meth := k0m0) (c := k0c0) (by decide +kernel) rfl rfl rfl (by decide +kernel)
set_option maxRecDepth 65536 in
theorem w_c4 : (Jvm.Cond.code ({ cls := "com/example/crewroster/crewroster/http/Body", name := "isWhole", desc := "()Z" } : Jvm.MethodName) prog_14_method_3_code (1 : Nat) (Option.some Jvm.ClassFile.FieldType.boolean)).before args0 about1 = true := code_word (m := ⟨3, 2⟩) (meth := k3m2) (c := k3c2) (by decide +kernel) rfl rfl rfl (by decide +kernel)
set_option maxRecDepth 65536 in
theorem w_c5 : (Jvm.Cond.code ({ cls := "com/example/crewroster/crewroster/http/Body", name := "of", desc := "([BJ)Lcom/example/crewroster/crewroster/http/Body;" } : Jvm.MethodName) prog_14_method_2_code (3 : Nat) (Option.some (Jvm.ClassFile.FieldType.object "com/example/crewroster/crewroster/http/Body"))).before args0 about1 = true := code_word (m := ⟨3, 1⟩) (meth := k3m1) (c := k3c1) (by decide +kernel) rfl rfl rfl (by decide +kernel)
set_option maxRecDepth 65536 in
theorem w_c6 : (Jvm.Cond.code ({ cls := "java/lang/Math", name := "min", desc := "(JJ)J" } : Jvm.MethodName) jdk_29_method_70_code (4 : Nat) (Option.some Jvm.ClassFile.FieldType.long)).before args0 about1 = true := code_word (m := ⟨4, 2⟩) (meth := k4m2) (c := k4c2) (by decide +kernel) rfl rfl rfl (by decide +kernel)
set_option maxRecDepth 65536 in
theorem w_c7 : (Jvm.Cond.code ({ cls := "java/util/Arrays", name := "copyOf", desc := "([BI)[B" } : Jvm.MethodName) jdk_65_method_121_code (3 : Nat) (Option.some (Jvm.ClassFile.FieldType.array Jvm.ClassFile.FieldType.byte))).before args0 about1 = true := code_word (m := ⟨5, 1⟩) (meth := k5m1) (c := k5c1) (by decide +kernel) rfl rfl rfl (by decide +kernel)
set_option maxRecDepth 65536 in
theorem w_c8 : (Jvm.Cond.code ({ cls := "java/lang/Math", name := "min", desc := "(II)I" } : Jvm.MethodName) jdk_29_method_69_code (2 : Nat) (Option.some Jvm.ClassFile.FieldType.int)).before args0 about1 = true := code_word (m := ⟨4, 1⟩) (meth := k4m1) (c := k4c1) (by decide +kernel) rfl rfl rfl (by decide +kernel)
def codes1 : List Jvm.Cond := [Jvm.Cond.code x code maxLocals ret, Jvm.Cond.code ({ cls := "com/example/crewroster/crewroster/http/Body", name := "<init>", desc := "([BJ)V" } : Jvm.MethodName) prog_14_method_1_code (4 : Nat) (Option.none : Option Jvm.ClassFile.FieldType), Jvm.Cond.code ({ cls := "java/lang/Record", name := "<init>", desc := "()V" } : Jvm.MethodName) jdk_30_method_1_code (1 : Nat) (Option.none : Option Jvm.ClassFile.FieldType), Jvm.Cond.code ({ cls := "java/lang/Object", name := "<init>", desc := "()V" } : Jvm.MethodName) object_method_1_code (1 : Nat) (Option.none : Option Jvm.ClassFile.FieldType), Jvm.Cond.code ({ cls := "com/example/crewroster/crewroster/http/Body", name := "isWhole", desc := "()Z" } : Jvm.MethodName) prog_14_method_3_code (1 : Nat) (Option.some Jvm.ClassFile.FieldType.boolean), Jvm.Cond.code ({ cls := "com/example/crewroster/crewroster/http/Body", name := "of", desc := "([BJ)Lcom/example/crewroster/crewroster/http/Body;" } : Jvm.MethodName) prog_14_method_2_code (3 : Nat) (Option.some (Jvm.ClassFile.FieldType.object "com/example/crewroster/crewroster/http/Body")), Jvm.Cond.code ({ cls := "java/lang/Math", name := "min", desc := "(JJ)J" } : Jvm.MethodName) jdk_29_method_70_code (4 : Nat) (Option.some Jvm.ClassFile.FieldType.long), Jvm.Cond.code ({ cls := "java/util/Arrays", name := "copyOf", desc := "([BI)[B" } : Jvm.MethodName) jdk_65_method_121_code (3 : Nat) (Option.some (Jvm.ClassFile.FieldType.array Jvm.ClassFile.FieldType.byte)), Jvm.Cond.code ({ cls := "java/lang/Math", name := "min", desc := "(II)I" } : Jvm.MethodName) jdk_29_method_69_code (2 : Nat) (Option.some Jvm.ClassFile.FieldType.int)]
set_option maxRecDepth 65536 in
theorem codes_eq : words1.filter isCode = codes1 := rfl
theorem w_codes : ∀ c ∈ words1.filter isCode, c.before args0 about1 = true := by
  rw [codes_eq]
  intro c hc
  simp only [codes1, List.mem_cons, List.not_mem_nil, or_false] at hc
  rcases hc with rfl | rfl | rfl | rfl | rfl | rfl | rfl | rfl | rfl
  · exact w_c0
  · exact w_c1
  · exact w_c2
  · exact w_c3
  · exact w_c4
  · exact w_c5
  · exact w_c6
  · exact w_c7
  · exact w_c8
set_option maxRecDepth 65536 in
theorem w_t1 : (words1.take 24).all (fun c => isCode c || c.before args0 about1) = true := by decide +kernel
set_option maxRecDepth 65536 in
theorem w_t2 : ((words1.drop 24).take 24).all (fun c => isCode c || c.before args0 about1) = true := by decide +kernel
set_option maxRecDepth 65536 in
theorem w_t3 : ((words1.drop 24).drop 24).all (fun c => isCode c || c.before args0 about1) = true := by decide +kernel
theorem w_tables : (allAtoms (Jvm.Cond.code x code maxLocals ret :: tables_1)).before args0 about1 = true := by
  rw [allAtoms_all]
  show words1.all (fun c => c.before args0 about1) = true
  refine all_split ?_ w_codes
  rw [← List.take_append_drop 24 words1, List.all_append, w_t1, ← List.take_append_drop 24 (words1.drop 24), List.all_append, w_t2, w_t3]
  rfl
set_option maxRecDepth 65536 in
theorem w_case : (Jvm.Cond.and given_1 narrow_1).before args0 about1 = true := by decide +kernel
theorem w_applies : (headSpec (Jvm.Cond.code x code maxLocals ret :: tables_1) room_1).applies x e0.platform about1 = true :=
  (Spec.applies_iff w_frames).mpr ⟨w_running, w_runnable, w_alone, w_named, w_hears, w_ripe, w_room, w_tables⟩
theorem atStart : AtStart classFile x code maxLocals ret World_1 tables_1 room_1 Calls_1 rest_1 Pre_1 launch0 p0 e0 about1 theMethod args0 below0 :=
  ⟨lists_1, trivial, launch0.admits_env _ _ _, launch0.least_env, fairChoices_fair.cas, fairChoices_fair.clock, w_frames, w_args, w_heap, w_applies, trivial, trivial, w_case⟩
end start1
theorem witness_1 : WitnessClaimed_1 := ⟨start1.p0, start1.e0, start1.about1, start1.theMethod, start1.args0, start1.below0, start1.atStart⟩
end Jvm.Pilot.@@N@@
