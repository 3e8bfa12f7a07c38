import JvmDerived
import JvmDerived.Pilot.@@N@@Statement
import JvmDerived.Pilot.@@N@@Code
set_option linter.unusedVariables false
set_option linter.unusedSimpArgs false
namespace Jvm.RoadKit
open Sem ClassFile Op Lib Jvm.Stand Jvm.Free Jvm.LawKit
section New
variable {p : Program} {l : Launch} {e : Env} {R : Room} {s : State} {m : MethodId} {args : Array Value} {below : List Frame} {meth : Method} {c : Code} {T : State} {locs : List Loc} {cells slots : Nat}
theorem retI (X : Stand p l e R s m args below meth c T locs cells slots) (hx : p.tables.exec = Jvm.exec) {pc : Nat} {Ls : Array Slot} {z : Int32} {rest : List Value} (hret : meth.sig.returnType = some .int) (hd : decode c.code pc = .ok (.ireturn, 1)) {fs : List Frame}
    (hl : ∀ (f : JFrame) (acts : List Action), f.method = m → f.locked = none → f.entered = [] → (doReturn e (T.setTop f) acts (some (.int z))).1 = T.setFrames fs) : Steps p.tables e below (T.setTop (mkF m pc Ls (.int z :: rest))) (T.setFrames fs) := by
  have hm' : T.vm.method? m = some meth := X.method'
  have hn : narrow .int (.int z) = .int z := rfl
  show Steps p.tables e below (T.setTop { method := m, pc := pc, locals := Ls, stack := _ :: rest, locked := none }) _
  jvm_step X.here [X.here.top, hx, hd, hm', hret, hn]
  first | (intro acts; rw [hl _ acts rfl rfl rfl]) | rw [hl _ _ rfl rfl rfl]
  exact Steps.refl _
end New
end Jvm.RoadKit
namespace Jvm.Pilot.@@N@@
open Jvm Jvm.ClassFile Sem Op Lib Jvm.Free Jvm.Stand Jvm.LawKit Jvm.RoadKit Bundle Jvm.Pilot.@@N@@.Jvm.D
theorem own_sh64 (x : Int64) (n : UInt64) (k : Nat) (hn : n.toNat = k) (hk : k < 64) : ((x.toUInt64 >>> n).toInt64).toBitVec = x.toBitVec >>> k := by
  have hm : n.toBitVec.toNat = k := hn
  have h3 : n.toBitVec % 64#64 = n.toBitVec := by
    apply BitVec.eq_of_toNat_eq; rw [BitVec.toNat_umod, hm]; exact Nat.mod_eq_of_lt hk
  simp only [UInt64.toBitVec_toInt64, UInt64.toBitVec_shiftRight, Int64.toBitVec_toUInt64]
  show x.toBitVec >>> (n.toBitVec % 64#64) = _
  rw [h3, BitVec.ushiftRight_eq', hm]
theorem own_shl64 (x n : Int64) (k : Nat) (hn : (n.toBitVec.smod 64).toNat = k) : (x <<< n).toBitVec = x.toBitVec <<< k := by
  have e : (x <<< n).toBitVec = (x.toBitVec <<< (n.toBitVec.smod 64)) := rfl
  rw [e, BitVec.shiftLeft_eq', hn]
theorem own_sshr64 (x n : Int64) (k : Nat) (hn : (n.toBitVec.smod 64).toNat = k) : (x >>> n).toBitVec = x.toBitVec.sshiftRight k := by
  have e : (x >>> n).toBitVec = (x.toBitVec.sshiftRight' (n.toBitVec.smod 64)) := rfl
  rw [e, BitVec.sshiftRight_eq', hn]
def own_pair (s d : Int32) : Int64 := (s.toInt64 <<< ((32 : Int32) &&& 0x3f).toInt64) ||| (d.toInt64 &&& 4294967295)
theorem own_pair_bv (s d : Int32) : (own_pair s d).toBitVec = (s.toBitVec.signExtend 64 <<< 32) ||| (d.toBitVec.signExtend 64 &&& 4294967295#64) := by
  unfold own_pair
  rw [Int64.toBitVec_or, Int64.toBitVec_and, own_shl64 _ _ 32 (by decide)]
  rfl
theorem own_mask (i : Nat) : (4294967295#64).getLsbD i = decide (i < 32) := by
  have e : (4294967295#64) = BitVec.ofNat 64 (2 ^ 32 - 1) := rfl
  rw [e, BitVec.getLsbD_ofNat, Nat.testBit_two_pow_sub_one]
  by_cases h : i < 32
  · have : i < 64 := by omega
    simp [h, this]
  · simp [h]
theorem own_bit (s d : Int32) (i : Nat) (hi : i < 64) : (own_pair s d).toBitVec.getLsbD i = if i < 32 then d.toBitVec.getLsbD i else s.toBitVec.getLsbD (i - 32) := by
  rw [own_pair_bv, BitVec.getLsbD_or, BitVec.getLsbD_and, own_mask, BitVec.getLsbD_shiftLeft, BitVec.getLsbD_signExtend, BitVec.getLsbD_signExtend]
  by_cases h : i < 32
  · simp [h, hi]
  · have h2 : i - 32 < 64 := by omega
    have h3 : i - 32 < 32 := by omega
    simp [h, hi, h2, h3]
theorem own_low (s d : Int32) : (own_pair s d).toInt32 = d := by
  apply Int32.toBitVec_inj.mp
  show (own_pair s d).toBitVec.signExtend 32 = _
  ext i hi
  rw [BitVec.getElem_eq_testBit_toNat, ← BitVec.getLsbD, BitVec.getLsbD_signExtend]
  have h1 : i < 64 := by omega
  simp only [hi, h1, decide_true, Bool.true_and, if_true, own_bit s d i h1]
  rw [BitVec.getLsbD_eq_getElem hi]
theorem own_high (s d : Int32) : (own_pair s d >>> ((32 : Int32) &&& 0x3f).toInt64).toInt32 = s := by
  apply Int32.toBitVec_inj.mp
  show (own_pair s d >>> ((32 : Int32) &&& 0x3f).toInt64).toBitVec.signExtend 32 = _
  rw [own_sshr64 _ _ 32 (by decide)]
  ext i hi
  rw [BitVec.getElem_eq_testBit_toNat, ← BitVec.getLsbD, BitVec.getLsbD_signExtend, BitVec.getLsbD_sshiftRight]
  have h1 : i < 64 := by omega
  have h2 : 32 + i < 64 := by omega
  have h3 : ¬ 32 + i < 32 := by omega
  have h4 : ¬ 64 ≤ i := by omega
  simp only [hi, h1, h2, h4, decide_true, decide_false, Bool.true_and, Bool.not_false, if_true, own_bit s d _ h2, h3, if_false]
  rw [show 32 + i - 32 = i by omega, BitVec.getLsbD_eq_getElem hi]
theorem own_up (s d : Int32) : ((own_pair s d).toUInt64 >>> ((32 : Int32) &&& 0x3f).toInt64.toUInt64).toInt64 = s.toInt64 &&& 4294967295 := by
  apply Int64.toBitVec_inj.mp
  rw [own_sh64 _ _ 32 (by decide) (by decide), Int64.toBitVec_and]
  show _ = s.toBitVec.signExtend 64 &&& 4294967295#64
  ext i hi
  rw [BitVec.getElem_eq_testBit_toNat, ← BitVec.getLsbD, BitVec.getElem_eq_testBit_toNat, ← BitVec.getLsbD, BitVec.getLsbD_ushiftRight, BitVec.getLsbD_and, own_mask, BitVec.getLsbD_signExtend]
  by_cases h : i < 32
  · have h2 : 32 + i < 64 := by omega
    have h3 : ¬ 32 + i < 32 := by omega
    rw [own_bit s d _ h2, if_neg h3, show 32 + i - 32 = i by omega]
    simp [h, hi]
  · have h2 : (own_pair s d).toBitVec.getLsbD (32 + i) = false := BitVec.getLsbD_of_ge _ _ (by omega)
    simp [h, h2]
theorem d1_0 : decode prog_65_method_2_code 0 = .ok (.iload_n 0, 1) := by decide +kernel
theorem d1_1 : decode prog_65_method_2_code 1 = .ok (.i2l, 1) := by decide +kernel
theorem d1_2 : decode prog_65_method_2_code 2 = .ok (.bipush 32, 2) := by decide +kernel
theorem d1_4 : decode prog_65_method_2_code 4 = .ok (.lshl, 1) := by decide +kernel
theorem d1_5 : decode prog_65_method_2_code 5 = .ok (.iload_n 1, 1) := by decide +kernel
theorem d1_6 : decode prog_65_method_2_code 6 = .ok (.i2l, 1) := by decide +kernel
theorem d1_7 : decode prog_65_method_2_code 7 = .ok (.ldc2_w 7, 3) := by decide +kernel
theorem d1_10 : decode prog_65_method_2_code 10 = .ok (.land, 1) := by decide +kernel
theorem d1_11 : decode prog_65_method_2_code 11 = .ok (.lor, 1) := by decide +kernel
theorem d1_12 : decode prog_65_method_2_code 12 = .ok (.lreturn, 1) := by decide +kernel
theorem pn_1 : plainName "com/example/lambdaloom/lambdaloom/validate/Demands" = true := by first | (simp [plainName, overriddenIn]; done) | decide +kernel
theorem ef_1 (m : MethodId) (x0 : Int32) (x1 : Int32) : entryFrame m #[(.int x0), (.int x1)] 2 = mkF m 0 #[.val (.int x0), .val (.int x1)] [] := by first | (simp [entryFrame, mkF, argsToLocals, Value.category]; done) | rfl
def Q1 (r : Int64) (n0 : Nat) (h0 : Heap) (v : Option Value) (h : Heap) (L : List Loc) : Prop := v = some (.long r) ∧ Fr n0 L ∧ h = h0
set_option maxRecDepth 65536 in
set_option maxHeartbeats 40000000 in
theorem rm1_x (l : Launch) (Z : State) (a0 : Array Value) (hw : ∀ d ∈ tables_1, d.before a0 Z = true) (ws : List Jvm.Cond) (p1 : Int32) (p2 : Int32) (h0 : Heap) (n0 : Nat) (Z0 : n0 ≤ h0.size) :
    MetFree l (⟨"com/example/lambdaloom/lambdaloom/validate/Demands", "pair", "(II)J"⟩ : MethodName) (head1 (Jvm.Cond.code (⟨"com/example/lambdaloom/lambdaloom/validate/Demands", "pair", "(II)J"⟩ : MethodName) prog_65_method_2_code 2 (some .long) :: ws) ({ frames := 0, cells := 0, slots := 0, locals := 0 } : Room)) (fun a U => a = #[(.int p1), (.int p2)] ∧ Z.Warmed39 U.vm ∧ U.heap = h0) (fun _ _ _ _ _ => True) (fun _ U o U' => ∃ v L, o = .returned v ∧ Q1 (((p1.toInt64) <<< ((32 : Int32) &&& 0x3f).toInt64) ||| ((p2.toInt64) &&& (4294967295 : Int64))) n0 h0 v U'.heap L ∧ FrameEnd U o U' L ({ frames := 0, cells := 0, slots := 0, locals := 0 } : Room).cells ({ frames := 0, cells := 0, slots := 0, locals := 0 } : Room).slots) := by
  refine MetFree.of_bodySF (plainFor_of_name pn_1) hisR ?_
  intro p e s m args below meth c s₁ Bd hml0 hP hK
  obtain ⟨rfl, hZ, hh⟩ := hP
  have hx := Bd.exec
  have hby := Bd.bytes
  have hml : c.maxLocals = 2 := hml0
  have hown : s.vm.findClass "com/example/lambdaloom/lambdaloom/validate/Demands" = some m.cls := findClass_of_methodNamed Bd.named
  have hnm := (name_of_methodNamed Bd.named Bd.method).1
  have X0 : Stand p l e ({ frames := 0, cells := 0, slots := 0, locals := 0 } : Room) s m #[(.int p1), (.int p2)] below meth c s₁ [] 0 0 := Stand.of_body Bd
  have e0 : s₁.heap = h0 := by rw [← hh, Bd.state]; rfl
  have N0 := Fr.nil n0
  have pre0 : ∀ t, Steps p.tables e below (s₁.setTop (mkF m 0 #[.val (.int p1), .val (.int p2)] [])) t → Steps p.tables e below (s₁.setTop (entryFrame m #[(.int p1), (.int p2)] 2)) t := fun t k => castTop (ef_1 m p1 p2) k

  obtain ⟨fs, hr, hrun, hended, hW, hsame⟩ := X0.leave (v := some (.long (((p1.toInt64) <<< ((32 : Int32) &&& 0x3f).toInt64) ||| ((p2.toInt64) &&& (4294967295 : Int64))))) (fun h => by rw [Bd.returns] at h; cases h)
  refine ⟨_, _, pre0 _ ?_, hrun, hended, _, _, rfl, ?_, ⟨_, rfl⟩, hW, hsame.mono (by decide) (by decide)⟩
  · show Steps p.tables e below (s₁.setTop (mkF m 0 #[.val (.int p1), .val (.int p2)] [])) _
    refine XS.iloadN X0.here hx rfl (hb hby d1_0) rfl ?_
    show Steps p.tables e below (s₁.setTop (mkF m 1 #[.val (.int p1), .val (.int p2)] [(.int p1)])) _
    refine XS.i2l X0.here hx rfl (hb hby d1_1) rfl ?_
    show Steps p.tables e below (s₁.setTop (mkF m 2 #[.val (.int p1), .val (.int p2)] [(.long (p1.toInt64))])) _
    refine XS.bipush X0.here hx rfl (hb hby d1_2) ?_
    show Steps p.tables e below (s₁.setTop (mkF m 4 #[.val (.int p1), .val (.int p2)] [(.int (32 : Int32)), (.long (p1.toInt64))])) _
    refine XS.lshl X0.here hx rfl (hb hby d1_4) rfl ?_
    show Steps p.tables e below (s₁.setTop (mkF m 5 #[.val (.int p1), .val (.int p2)] [(.long ((p1.toInt64) <<< ((32 : Int32) &&& 0x3f).toInt64))])) _
    refine XS.iloadN X0.here hx rfl (hb hby d1_5) rfl ?_
    show Steps p.tables e below (s₁.setTop (mkF m 6 #[.val (.int p1), .val (.int p2)] [(.int p2), (.long ((p1.toInt64) <<< ((32 : Int32) &&& 0x3f).toInt64))])) _
    refine XS.i2l X0.here hx rfl (hb hby d1_6) rfl ?_
    show Steps p.tables e below (s₁.setTop (mkF m 7 #[.val (.int p1), .val (.int p2)] [(.long (p2.toInt64)), (.long ((p1.toInt64) <<< ((32 : Int32) &&& 0x3f).toInt64))])) _
    refine X0.ldc2Long hx hown (mvT hZ (hw _ (List.mem_of_getElem? (i := 4) rfl))) (g := (mkF m 7 #[.val (.int p1), .val (.int p2)] [(.long (p2.toInt64)), (.long ((p1.toInt64) <<< ((32 : Int32) &&& 0x3f).toInt64))])) rfl (hb hby d1_7) _ ?_
    show Steps p.tables e below (s₁.setTop (mkF m 10 #[.val (.int p1), .val (.int p2)] [(.long (4294967295 : Int64)), (.long (p2.toInt64)), (.long ((p1.toInt64) <<< ((32 : Int32) &&& 0x3f).toInt64))])) _
    refine XS.land X0.here hx rfl (hb hby d1_10) rfl ?_
    show Steps p.tables e below (s₁.setTop (mkF m 11 #[.val (.int p1), .val (.int p2)] [(.long ((p2.toInt64) &&& (4294967295 : Int64))), (.long ((p1.toInt64) <<< ((32 : Int32) &&& 0x3f).toInt64))])) _
    refine XS.lor X0.here hx rfl (hb hby d1_11) rfl ?_
    show Steps p.tables e below (s₁.setTop (mkF m 12 #[.val (.int p1), .val (.int p2)] [(.long (((p1.toInt64) <<< ((32 : Int32) &&& 0x3f).toInt64) ||| ((p2.toInt64) &&& (4294967295 : Int64))))])) _
    exact X0.lreturnOut hx Bd.returns (hb hby d1_12) hr
  · show Q1 (((p1.toInt64) <<< ((32 : Int32) &&& 0x3f).toInt64) ||| ((p2.toInt64) &&& (4294967295 : Int64))) n0 h0 _ s₁.heap _
    rw [e0]
    exact ⟨rfl, N0, rfl⟩
def own_f1 (p1 : Int32) (p2 : Int32) : Int64 := (((p1.toInt64) <<< ((32 : Int32) &&& 0x3f).toInt64) ||| ((p2.toInt64) &&& (4294967295 : Int64)))
set_option maxRecDepth 65536 in
theorem rm1 (l : Launch) (Z : State) (a0 : Array Value) (hw : ∀ d ∈ tables_1, d.before a0 Z = true) (ws : List Jvm.Cond) (p1 : Int32) (p2 : Int32) (h0 : Heap) (n0 : Nat) (Z0 : n0 ≤ h0.size) :
    MetFree l (⟨"com/example/lambdaloom/lambdaloom/validate/Demands", "pair", "(II)J"⟩ : MethodName) (head1 (Jvm.Cond.code (⟨"com/example/lambdaloom/lambdaloom/validate/Demands", "pair", "(II)J"⟩ : MethodName) prog_65_method_2_code 2 (some .long) :: ws) ({ frames := 0, cells := 0, slots := 0, locals := 0 } : Room)) (fun a U => a = #[(.int p1), (.int p2)] ∧ Z.Warmed39 U.vm ∧ U.heap = h0) (fun _ _ _ _ _ => True) (fun _ U o U' => ∃ v L, o = .returned v ∧ Q1 (own_f1 p1 p2) n0 h0 v U'.heap L ∧ FrameEnd U o U' L ({ frames := 0, cells := 0, slots := 0, locals := 0 } : Room).cells ({ frames := 0, cells := 0, slots := 0, locals := 0 } : Room).slots) := by
  rw [show own_f1 p1 p2 = (((p1.toInt64) <<< ((32 : Int32) &&& 0x3f).toInt64) ||| ((p2.toInt64) &&& (4294967295 : Int64))) from by rw [own_f1]]
  exact rm1_x l Z a0 hw ws p1 p2 h0 n0 Z0
theorem own_hi (s d : Int32) : (own_f1 s d >>> ((32 : Int32) &&& 0x3f).toInt64).toInt32 = s := own_high s d
theorem own_lo (s d : Int32) : (own_f1 s d).toInt32 = d := own_low s d
theorem own_un (s d : Int32) : lcmpW ((own_f1 s d).toUInt64 >>> ((32 : Int32) &&& 0x3f).toInt64.toUInt64).toInt64 (s.toInt64 &&& (4294967295 : Int64)) = 0 := (lw_eq _ _).mpr (own_up s d)
theorem pn_0 : plainName "com/example/lambdaloom/lambdaloom/validate/DemandsPairPinLaw" = true := by first | (simp [plainName, overriddenIn]; done) | decide +kernel
theorem pd_0_0 : parseMethodDescriptor "(II)J" = some ⟨[.int, .int], some .long⟩ := by decide +kernel
theorem ef_0 (m : MethodId) (x0 : Int32) (x1 : Int32) : entryFrame m #[(.int x0), (.int x1)] maxLocals = mkF m 0 #[.val (.int x0), .val (.int x1), .unset, .unset, .unset, .unset, .unset, .unset] [] := by first | (simp [entryFrame, mkF, argsToLocals, Value.category, maxLocals]; done) | rfl
def Q0 (Z : State) (p1 : Int32) (p2 : Int32) (h0 : Heap) (n0 : Nat) (v : Option Value) (h : Heap) (L : List Loc) : Prop := v = some (.int (1 : Int32)) ∧ Fr n0 L
set_option maxRecDepth 65536 in
set_option maxHeartbeats 40000000 in
theorem rm0_fff (l : Launch) (Z : State) (a0 : Array Value) (hw : ∀ d ∈ tables_1, d.before a0 Z = true) (ws : List Jvm.Cond) (p1 : Int32) (p2 : Int32) (h0 : Heap) (n0 : Nat) (Z0 : n0 ≤ h0.size) :
    MetFree l x (head1 (Jvm.Cond.code x code maxLocals ret :: ws) room_1) (fun a U => a = #[(.int p1), (.int p2)] ∧ Z.Warmed39 U.vm ∧ U.heap = h0) (fun _ _ _ _ _ => True) (fun _ U o U' => ∃ v L, o = .returned v ∧ Q0 Z p1 p2 h0 n0 v U'.heap L ∧ FrameEnd U o U' L room_1.cells room_1.slots) := by
  refine MetFree.of_bodySF (plainFor_of_name pn_0) hisR ?_
  intro p e s m args below meth c s₁ Bd hml0 hP hK
  obtain ⟨rfl, hZ, hh⟩ := hP
  have hx := Bd.exec
  have hby := Bd.bytes
  have hml : c.maxLocals = 8 := hml0
  have hown : s.vm.findClass "com/example/lambdaloom/lambdaloom/validate/DemandsPairPinLaw" = some m.cls := findClass_of_methodNamed Bd.named
  have hnm := (name_of_methodNamed Bd.named Bd.method).1
  have X0 : Stand p l e room_1 s m #[(.int p1), (.int p2)] below meth c s₁ [] 0 0 := Stand.of_body Bd
  have e0 : s₁.heap = h0 := by rw [← hh, Bd.state]; rfl
  have N0 := Fr.nil n0
  have pre0 : ∀ t, Steps p.tables e below (s₁.setTop (mkF m 0 #[.val (.int p1), .val (.int p2), .unset, .unset, .unset, .unset, .unset, .unset] [])) t → Steps p.tables e below (s₁.setTop (entryFrame m #[(.int p1), (.int p2)] maxLocals)) t := fun t k => castTop (ef_0 m p1 p2) k
  obtain ⟨_, _, ⟨T3, L3, k3, n3⟩, -, X3, ⟨Lc3, hQ3, l3, y3, z3⟩, st3⟩ := Jvm.LawKit.callS X0 hx (y := (⟨"com/example/lambdaloom/lambdaloom/validate/Demands", "pair", "(II)J"⟩ : MethodName)) hown (mvT hZ (hw _ (List.mem_of_getElem? (i := 0) rfl))) (mvT hZ (hw _ (List.mem_of_getElem? (i := 1) rfl))) (mvT hZ (hw _ (List.mem_of_getElem? (i := 2) rfl))) (mvT hZ (hw _ (List.mem_of_getElem? (i := 3) rfl))) (by decide) (backOf (W := 0) (rm1 l Z a0 hw [] p1 p2 h0 n0 Z0) hZ (hw _ (List.mem_of_getElem? (i := 3) rfl)) (hw _ (List.mem_of_getElem? (i := 2) rfl)) (by decide) (by decide)) (g := (mkF m 2 #[.val (.int p1), .val (.int p2), .unset, .unset, .unset, .unset, .unset, .unset] [(.int p2), (.int p1)])) rfl (by rw [hml]; rfl) (argsL := [(.int p1), (.int p2)]) (rest := []) (lenOf pd_0_0 rfl) rfl (by show 2 * 0 + _ ≤ _; exact Nat.le_of_eq rfl) (hb hby at_2) (fun _ _ => ⟨rfl, e0, (by decide : 0 + 0 ≤ _), (by decide : 0 + 0 ≤ _)⟩)
  dsimp only [Pt.U, Pt.locs, Pt.cells, Pt.slots] at X3 l3 y3 z3 st3 hQ3
  subst l3 y3 z3
  obtain ⟨rfl, N3q, e3q⟩ := hQ3
  have Z3 : n0 ≤ T3.heap.size := by rw [e3q]; exact Z0
  have N3 := Fr.app N0 N3q
  obtain ⟨fs, hr, hrun, hended, hW, hsame⟩ := X3.leave (v := some (.int (1 : Int32))) (fun h => by rw [Bd.returns] at h; cases h)
  refine ⟨_, _, pre0 _ ?_, hrun, hended, _, _, rfl, ?_, ⟨_, rfl⟩, hW, hsame.mono (by decide) (by decide)⟩
  · show Steps p.tables e below (s₁.setTop (mkF m 0 #[.val (.int p1), .val (.int p2), .unset, .unset, .unset, .unset, .unset, .unset] [])) _
    refine XS.iloadN X0.here hx rfl (hb hby at_0) rfl ?_
    show Steps p.tables e below (s₁.setTop (mkF m 1 #[.val (.int p1), .val (.int p2), .unset, .unset, .unset, .unset, .unset, .unset] [(.int p1)])) _
    refine XS.iloadN X0.here hx rfl (hb hby at_1) rfl ?_
    show Steps p.tables e below (s₁.setTop (mkF m 2 #[.val (.int p1), .val (.int p2), .unset, .unset, .unset, .unset, .unset, .unset] [(.int p2), (.int p1)])) _
    refine st3 _ ?_
    show Steps p.tables e below (T3.setTop (mkF m 5 #[.val (.int p1), .val (.int p2), .unset, .unset, .unset, .unset, .unset, .unset] [(.long (own_f1 p1 p2))])) _
    refine XS.lstoreN X3.here hx rfl (hb hby at_5) rfl (l' := #[.val (.int p1), .val (.int p2), .val (.long (own_f1 p1 p2)), .second, .unset, .unset, .unset, .unset]) rfl ?_
    show Steps p.tables e below (T3.setTop (mkF m 6 #[.val (.int p1), .val (.int p2), .val (.long (own_f1 p1 p2)), .second, .unset, .unset, .unset, .unset] [])) _
    refine XS.lloadN X3.here hx rfl (hb hby at_6) rfl ?_
    show Steps p.tables e below (T3.setTop (mkF m 7 #[.val (.int p1), .val (.int p2), .val (.long (own_f1 p1 p2)), .second, .unset, .unset, .unset, .unset] [(.long (own_f1 p1 p2))])) _
    refine XS.bipush X3.here hx rfl (hb hby at_7) ?_
    show Steps p.tables e below (T3.setTop (mkF m 9 #[.val (.int p1), .val (.int p2), .val (.long (own_f1 p1 p2)), .second, .unset, .unset, .unset, .unset] [(.int (32 : Int32)), (.long (own_f1 p1 p2))])) _
    refine XS.lshr X3.here hx rfl (hb hby at_9) rfl ?_
    show Steps p.tables e below (T3.setTop (mkF m 10 #[.val (.int p1), .val (.int p2), .val (.long (own_f1 p1 p2)), .second, .unset, .unset, .unset, .unset] [(.long ((own_f1 p1 p2) >>> ((32 : Int32) &&& 0x3f).toInt64))])) _
    refine XS.l2i X3.here hx rfl (hb hby at_10) rfl ?_
    show Steps p.tables e below (T3.setTop (mkF m 11 #[.val (.int p1), .val (.int p2), .val (.long (own_f1 p1 p2)), .second, .unset, .unset, .unset, .unset] [(.int (((own_f1 p1 p2) >>> ((32 : Int32) &&& 0x3f).toInt64).toInt32))])) _
    refine XS.istore X3.here hx rfl (hb hby at_11) rfl (l' := #[.val (.int p1), .val (.int p2), .val (.long (own_f1 p1 p2)), .second, .val (.int (((own_f1 p1 p2) >>> ((32 : Int32) &&& 0x3f).toInt64).toInt32)), .unset, .unset, .unset]) rfl ?_
    show Steps p.tables e below (T3.setTop (mkF m 13 #[.val (.int p1), .val (.int p2), .val (.long (own_f1 p1 p2)), .second, .val (.int (((own_f1 p1 p2) >>> ((32 : Int32) &&& 0x3f).toInt64).toInt32)), .unset, .unset, .unset] [])) _
    refine XS.lloadN X3.here hx rfl (hb hby at_13) rfl ?_
    show Steps p.tables e below (T3.setTop (mkF m 14 #[.val (.int p1), .val (.int p2), .val (.long (own_f1 p1 p2)), .second, .val (.int (((own_f1 p1 p2) >>> ((32 : Int32) &&& 0x3f).toInt64).toInt32)), .unset, .unset, .unset] [(.long (own_f1 p1 p2))])) _
    refine XS.l2i X3.here hx rfl (hb hby at_14) rfl ?_
    show Steps p.tables e below (T3.setTop (mkF m 15 #[.val (.int p1), .val (.int p2), .val (.long (own_f1 p1 p2)), .second, .val (.int (((own_f1 p1 p2) >>> ((32 : Int32) &&& 0x3f).toInt64).toInt32)), .unset, .unset, .unset] [(.int ((own_f1 p1 p2).toInt32))])) _
    refine XS.istore X3.here hx rfl (hb hby at_15) rfl (l' := #[.val (.int p1), .val (.int p2), .val (.long (own_f1 p1 p2)), .second, .val (.int (((own_f1 p1 p2) >>> ((32 : Int32) &&& 0x3f).toInt64).toInt32)), .val (.int ((own_f1 p1 p2).toInt32)), .unset, .unset]) rfl ?_
    show Steps p.tables e below (T3.setTop (mkF m 17 #[.val (.int p1), .val (.int p2), .val (.long (own_f1 p1 p2)), .second, .val (.int (((own_f1 p1 p2) >>> ((32 : Int32) &&& 0x3f).toInt64).toInt32)), .val (.int ((own_f1 p1 p2).toInt32)), .unset, .unset] [])) _
    refine XS.lloadN X3.here hx rfl (hb hby at_17) rfl ?_
    show Steps p.tables e below (T3.setTop (mkF m 18 #[.val (.int p1), .val (.int p2), .val (.long (own_f1 p1 p2)), .second, .val (.int (((own_f1 p1 p2) >>> ((32 : Int32) &&& 0x3f).toInt64).toInt32)), .val (.int ((own_f1 p1 p2).toInt32)), .unset, .unset] [(.long (own_f1 p1 p2))])) _
    refine XS.bipush X3.here hx rfl (hb hby at_18) ?_
    show Steps p.tables e below (T3.setTop (mkF m 20 #[.val (.int p1), .val (.int p2), .val (.long (own_f1 p1 p2)), .second, .val (.int (((own_f1 p1 p2) >>> ((32 : Int32) &&& 0x3f).toInt64).toInt32)), .val (.int ((own_f1 p1 p2).toInt32)), .unset, .unset] [(.int (32 : Int32)), (.long (own_f1 p1 p2))])) _
    refine XS.lushr X3.here hx rfl (hb hby at_20) rfl ?_
    show Steps p.tables e below (T3.setTop (mkF m 21 #[.val (.int p1), .val (.int p2), .val (.long (own_f1 p1 p2)), .second, .val (.int (((own_f1 p1 p2) >>> ((32 : Int32) &&& 0x3f).toInt64).toInt32)), .val (.int ((own_f1 p1 p2).toInt32)), .unset, .unset] [(.long (((own_f1 p1 p2).toUInt64 >>> ((32 : Int32) &&& 0x3f).toInt64.toUInt64).toInt64))])) _
    refine XS.lstore X3.here hx rfl (hb hby at_21) rfl (l' := #[.val (.int p1), .val (.int p2), .val (.long (own_f1 p1 p2)), .second, .val (.int (((own_f1 p1 p2) >>> ((32 : Int32) &&& 0x3f).toInt64).toInt32)), .val (.int ((own_f1 p1 p2).toInt32)), .val (.long (((own_f1 p1 p2).toUInt64 >>> ((32 : Int32) &&& 0x3f).toInt64.toUInt64).toInt64)), .second]) rfl ?_
    show Steps p.tables e below (T3.setTop (mkF m 23 #[.val (.int p1), .val (.int p2), .val (.long (own_f1 p1 p2)), .second, .val (.int (((own_f1 p1 p2) >>> ((32 : Int32) &&& 0x3f).toInt64).toInt32)), .val (.int ((own_f1 p1 p2).toInt32)), .val (.long (((own_f1 p1 p2).toUInt64 >>> ((32 : Int32) &&& 0x3f).toInt64.toUInt64).toInt64)), .second] [])) _
    refine XS.iload X3.here hx rfl (hb hby at_23) rfl ?_
    show Steps p.tables e below (T3.setTop (mkF m 25 #[.val (.int p1), .val (.int p2), .val (.long (own_f1 p1 p2)), .second, .val (.int (((own_f1 p1 p2) >>> ((32 : Int32) &&& 0x3f).toInt64).toInt32)), .val (.int ((own_f1 p1 p2).toInt32)), .val (.long (((own_f1 p1 p2).toUInt64 >>> ((32 : Int32) &&& 0x3f).toInt64.toUInt64).toInt64)), .second] [(.int (((own_f1 p1 p2) >>> ((32 : Int32) &&& 0x3f).toInt64).toInt32))])) _
    refine XS.iloadN X3.here hx rfl (hb hby at_25) rfl ?_
    show Steps p.tables e below (T3.setTop (mkF m 26 #[.val (.int p1), .val (.int p2), .val (.long (own_f1 p1 p2)), .second, .val (.int (((own_f1 p1 p2) >>> ((32 : Int32) &&& 0x3f).toInt64).toInt32)), .val (.int ((own_f1 p1 p2).toInt32)), .val (.long (((own_f1 p1 p2).toUInt64 >>> ((32 : Int32) &&& 0x3f).toInt64.toUInt64).toInt64)), .second] [(.int p1), (.int (((own_f1 p1 p2) >>> ((32 : Int32) &&& 0x3f).toInt64).toInt32))])) _
    refine XS.icmpNo X3.here hx rfl (hb hby at_26) rfl (teq (own_hi _ _)).2 ?_
    show Steps p.tables e below (T3.setTop (mkF m 29 #[.val (.int p1), .val (.int p2), .val (.long (own_f1 p1 p2)), .second, .val (.int (((own_f1 p1 p2) >>> ((32 : Int32) &&& 0x3f).toInt64).toInt32)), .val (.int ((own_f1 p1 p2).toInt32)), .val (.long (((own_f1 p1 p2).toUInt64 >>> ((32 : Int32) &&& 0x3f).toInt64.toUInt64).toInt64)), .second] [])) _
    refine XS.iload X3.here hx rfl (hb hby at_29) rfl ?_
    show Steps p.tables e below (T3.setTop (mkF m 31 #[.val (.int p1), .val (.int p2), .val (.long (own_f1 p1 p2)), .second, .val (.int (((own_f1 p1 p2) >>> ((32 : Int32) &&& 0x3f).toInt64).toInt32)), .val (.int ((own_f1 p1 p2).toInt32)), .val (.long (((own_f1 p1 p2).toUInt64 >>> ((32 : Int32) &&& 0x3f).toInt64.toUInt64).toInt64)), .second] [(.int ((own_f1 p1 p2).toInt32))])) _
    refine XS.iloadN X3.here hx rfl (hb hby at_31) rfl ?_
    show Steps p.tables e below (T3.setTop (mkF m 32 #[.val (.int p1), .val (.int p2), .val (.long (own_f1 p1 p2)), .second, .val (.int (((own_f1 p1 p2) >>> ((32 : Int32) &&& 0x3f).toInt64).toInt32)), .val (.int ((own_f1 p1 p2).toInt32)), .val (.long (((own_f1 p1 p2).toUInt64 >>> ((32 : Int32) &&& 0x3f).toInt64.toUInt64).toInt64)), .second] [(.int p2), (.int ((own_f1 p1 p2).toInt32))])) _
    refine XS.icmpNo X3.here hx rfl (hb hby at_32) rfl (teq (own_lo _ _)).2 ?_
    show Steps p.tables e below (T3.setTop (mkF m 35 #[.val (.int p1), .val (.int p2), .val (.long (own_f1 p1 p2)), .second, .val (.int (((own_f1 p1 p2) >>> ((32 : Int32) &&& 0x3f).toInt64).toInt32)), .val (.int ((own_f1 p1 p2).toInt32)), .val (.long (((own_f1 p1 p2).toUInt64 >>> ((32 : Int32) &&& 0x3f).toInt64.toUInt64).toInt64)), .second] [])) _
    refine XS.lload X3.here hx rfl (hb hby at_35) rfl ?_
    show Steps p.tables e below (T3.setTop (mkF m 37 #[.val (.int p1), .val (.int p2), .val (.long (own_f1 p1 p2)), .second, .val (.int (((own_f1 p1 p2) >>> ((32 : Int32) &&& 0x3f).toInt64).toInt32)), .val (.int ((own_f1 p1 p2).toInt32)), .val (.long (((own_f1 p1 p2).toUInt64 >>> ((32 : Int32) &&& 0x3f).toInt64.toUInt64).toInt64)), .second] [(.long (((own_f1 p1 p2).toUInt64 >>> ((32 : Int32) &&& 0x3f).toInt64.toUInt64).toInt64))])) _
    refine XS.iloadN X3.here hx rfl (hb hby at_37) rfl ?_
    show Steps p.tables e below (T3.setTop (mkF m 38 #[.val (.int p1), .val (.int p2), .val (.long (own_f1 p1 p2)), .second, .val (.int (((own_f1 p1 p2) >>> ((32 : Int32) &&& 0x3f).toInt64).toInt32)), .val (.int ((own_f1 p1 p2).toInt32)), .val (.long (((own_f1 p1 p2).toUInt64 >>> ((32 : Int32) &&& 0x3f).toInt64.toUInt64).toInt64)), .second] [(.int p1), (.long (((own_f1 p1 p2).toUInt64 >>> ((32 : Int32) &&& 0x3f).toInt64.toUInt64).toInt64))])) _
    refine XS.i2l X3.here hx rfl (hb hby at_38) rfl ?_
    show Steps p.tables e below (T3.setTop (mkF m 39 #[.val (.int p1), .val (.int p2), .val (.long (own_f1 p1 p2)), .second, .val (.int (((own_f1 p1 p2) >>> ((32 : Int32) &&& 0x3f).toInt64).toInt32)), .val (.int ((own_f1 p1 p2).toInt32)), .val (.long (((own_f1 p1 p2).toUInt64 >>> ((32 : Int32) &&& 0x3f).toInt64.toUInt64).toInt64)), .second] [(.long (p1.toInt64)), (.long (((own_f1 p1 p2).toUInt64 >>> ((32 : Int32) &&& 0x3f).toInt64.toUInt64).toInt64))])) _
    refine X3.ldc2Long hx hown (mvT hZ (hw _ (List.mem_of_getElem? (i := 5) rfl))) (g := (mkF m 39 #[.val (.int p1), .val (.int p2), .val (.long (own_f1 p1 p2)), .second, .val (.int (((own_f1 p1 p2) >>> ((32 : Int32) &&& 0x3f).toInt64).toInt32)), .val (.int ((own_f1 p1 p2).toInt32)), .val (.long (((own_f1 p1 p2).toUInt64 >>> ((32 : Int32) &&& 0x3f).toInt64.toUInt64).toInt64)), .second] [(.long (p1.toInt64)), (.long (((own_f1 p1 p2).toUInt64 >>> ((32 : Int32) &&& 0x3f).toInt64.toUInt64).toInt64))])) rfl (hb hby at_39) _ ?_
    show Steps p.tables e below (T3.setTop (mkF m 42 #[.val (.int p1), .val (.int p2), .val (.long (own_f1 p1 p2)), .second, .val (.int (((own_f1 p1 p2) >>> ((32 : Int32) &&& 0x3f).toInt64).toInt32)), .val (.int ((own_f1 p1 p2).toInt32)), .val (.long (((own_f1 p1 p2).toUInt64 >>> ((32 : Int32) &&& 0x3f).toInt64.toUInt64).toInt64)), .second] [(.long (4294967295 : Int64)), (.long (p1.toInt64)), (.long (((own_f1 p1 p2).toUInt64 >>> ((32 : Int32) &&& 0x3f).toInt64.toUInt64).toInt64))])) _
    refine XS.land X3.here hx rfl (hb hby at_42) rfl ?_
    show Steps p.tables e below (T3.setTop (mkF m 43 #[.val (.int p1), .val (.int p2), .val (.long (own_f1 p1 p2)), .second, .val (.int (((own_f1 p1 p2) >>> ((32 : Int32) &&& 0x3f).toInt64).toInt32)), .val (.int ((own_f1 p1 p2).toInt32)), .val (.long (((own_f1 p1 p2).toUInt64 >>> ((32 : Int32) &&& 0x3f).toInt64.toUInt64).toInt64)), .second] [(.long ((p1.toInt64) &&& (4294967295 : Int64))), (.long (((own_f1 p1 p2).toUInt64 >>> ((32 : Int32) &&& 0x3f).toInt64.toUInt64).toInt64))])) _
    refine XS.lcmp X3.here hx rfl (hb hby at_43) rfl ?_
    show Steps p.tables e below (T3.setTop (mkF m 44 #[.val (.int p1), .val (.int p2), .val (.long (own_f1 p1 p2)), .second, .val (.int (((own_f1 p1 p2) >>> ((32 : Int32) &&& 0x3f).toInt64).toInt32)), .val (.int ((own_f1 p1 p2).toInt32)), .val (.long (((own_f1 p1 p2).toUInt64 >>> ((32 : Int32) &&& 0x3f).toInt64.toUInt64).toInt64)), .second] [(.int (lcmpW (((own_f1 p1 p2).toUInt64 >>> ((32 : Int32) &&& 0x3f).toInt64.toUInt64).toInt64) ((p1.toInt64) &&& (4294967295 : Int64))))])) _
    refine XS.ifNo X3.here hx rfl (hb hby at_44) rfl ((if0 _ _).trans (teq (own_un _ _)).2) ?_
    show Steps p.tables e below (T3.setTop (mkF m 47 #[.val (.int p1), .val (.int p2), .val (.long (own_f1 p1 p2)), .second, .val (.int (((own_f1 p1 p2) >>> ((32 : Int32) &&& 0x3f).toInt64).toInt32)), .val (.int ((own_f1 p1 p2).toInt32)), .val (.long (((own_f1 p1 p2).toUInt64 >>> ((32 : Int32) &&& 0x3f).toInt64.toUInt64).toInt64)), .second] [])) _
    refine XS.iconst X3.here hx rfl (hb hby at_47) ?_
    show Steps p.tables e below (T3.setTop (mkF m 48 #[.val (.int p1), .val (.int p2), .val (.long (own_f1 p1 p2)), .second, .val (.int (((own_f1 p1 p2) >>> ((32 : Int32) &&& 0x3f).toInt64).toInt32)), .val (.int ((own_f1 p1 p2).toInt32)), .val (.long (((own_f1 p1 p2).toUInt64 >>> ((32 : Int32) &&& 0x3f).toInt64.toUInt64).toInt64)), .second] [(.int (1 : Int32))])) _
    refine XS.goto X3.here hx rfl (pc0 := 48) (pc' := 52) rfl (hb hby at_48) (by decide) (by decide) ?_
    show Steps p.tables e below (T3.setTop (mkF m 52 #[.val (.int p1), .val (.int p2), .val (.long (own_f1 p1 p2)), .second, .val (.int (((own_f1 p1 p2) >>> ((32 : Int32) &&& 0x3f).toInt64).toInt32)), .val (.int ((own_f1 p1 p2).toInt32)), .val (.long (((own_f1 p1 p2).toUInt64 >>> ((32 : Int32) &&& 0x3f).toInt64.toUInt64).toInt64)), .second] [(.int (1 : Int32))])) _
    exact retN X3 hx (t := .boolean) Bd.returns (by simp) (hb hby at_52) hr
  · show Q0 Z p1 p2 h0 n0 _ T3.heap _
    exact ⟨rfl, N3⟩
set_option maxRecDepth 65536 in
theorem rm0 (l : Launch) (Z : State) (a0 : Array Value) (hw : ∀ d ∈ tables_1, d.before a0 Z = true) (ws : List Jvm.Cond) (p1 : Int32) (p2 : Int32) (h0 : Heap) (n0 : Nat) (Z0 : n0 ≤ h0.size) :
    MetFree l x (head1 (Jvm.Cond.code x code maxLocals ret :: ws) room_1) (fun a U => a = #[(.int p1), (.int p2)] ∧ Z.Warmed39 U.vm ∧ U.heap = h0) (fun _ _ _ _ _ => True) (fun _ U o U' => ∃ v L, o = .returned v ∧ Q0 Z p1 p2 h0 n0 v U'.heap L ∧ FrameEnd U o U' L room_1.cells room_1.slots) := by
  exact rm0_fff l Z a0 hw ws p1 p2 h0 n0 Z0
set_option maxRecDepth 65536 in
set_option maxHeartbeats 40000000 in
theorem comes_1 {Post : Tables → Env → Array Value → State → Outcome → State → Prop} (hpost : ∀ tb e args s v u, (limb_1_1.after args s (.returned v) u = true ∧ limb_1_2.after args s (.returned v) u = true ∧ True) → FrameEnd s (.returned v) u (Jvm.fieldLocs frame_1_writes args s ++ Jvm.arrayLocs frame_1_arrays args s ++ Jvm.staticLocs frame_1_statics s) 0 0 → Post tb e args s (.returned v) u) :
    ArmFor flags0 classFile x code maxLocals ret World_1 tables_1 room_1 Calls_1 rest_1 Pre_1 Post := by
  intro l hfl _ _ p e ha hc hk s m args below hf hA hF happ hP
  obtain ⟨hcalls, hrest, hpre⟩ := hP
  obtain ⟨-, -, -, hnamed, -, -, -, hat⟩ := (Spec.applies_iff hf).mp happ
  obtain ⟨hg, hn⟩ := and_e (Cond.before_iff.mp (show (Jvm.Cond.and given_1 narrow_1).before args s = true from hpre))
  obtain ⟨g4, g5⟩ := and_e hg
  obtain ⟨g6, g7⟩ := and_e g5
  obtain ⟨w0, w1, rfl⟩ : ∃ w0 w1 : Value, args = #[w0, w1] := by
    have hs : args.size = 2 := by simpa [Cond.value, given_1] using g4
    obtain ⟨L⟩ := args
    match L, hs with
    | [w0, w1], _ => exact ⟨w0, w1, rfl⟩
  have hw := fun d (hd : d ∈ tables_1) => atoms_spec (ws := Jvm.Cond.code x code maxLocals ret :: tables_1) hat d (List.mem_cons_of_mem _ hd)
  have hfit : Fit s := fun {y c} hc i hi => by
    obtain ⟨ha, rfl⟩ := Array.getElem?_eq_some_iff.mp hc
    have q := List.all_eq_true.mp ((Array.all_eq_true_iff_forall_mem.mp hF) _ (Array.getElem_mem ha)) i (List.mem_range.mpr hi)
    simpa [Array.getElem?_eq_getElem hi] using q
  obtain ⟨i0, ei0⟩ := is_v g6
  obtain rfl : w0 = (.int i0) := Option.some.inj ei0
  obtain ⟨i1, ei1⟩ := is_v g7
  obtain rfl : w1 = (.int i1) := Option.some.inj ei1
  obtain ⟨n, o, h1, h2, h3, _, L, rfl, ⟨rfl, N⟩, hq⟩ := rm0 l s _ hw tables_1 i0 i1 s.heap s.heap.size (Nat.le_refl _) p e ha hc hk s m _ below hf ((Spec.applies_iff_loose hf).mp happ).1 ⟨rfl, State.Warmed39.refl s, rfl⟩ trivial
  refine ⟨n, _, h1, h2, h3, hpost _ _ _ _ _ _ ⟨Cond.after_iff.mpr rfl, Cond.after_iff.mpr (eq_i res_at (Term.int_eval (1)) rfl), trivial⟩ ⟨hq.1, hq.2.1, (hq.2.2.sift fun y hy => Or.inr (N y hy)).mono (by decide) (by decide)⟩⟩
theorem main_1_1 : Claimed_1_1 := comes_1 fun _ _ _ _ _ _ h hF => ⟨h.1, hF⟩
theorem main_1_2 : Claimed_1_2 := comes_1 fun _ _ _ _ _ _ h hF => ⟨h.2.1, hF⟩
end Jvm.Pilot.@@N@@
namespace Jvm.Pilot.@@N@@
open Jvm Jvm.ClassFile Sem Op Lib Jvm.Free Jvm.Stand Jvm.Pilot.@@N@@.Jvm.D
/-! MADE BY PROGRAM (witnessworld.py) out of the Statement's table words and the real class files: 9 classes; the members and pool entries that the words name. The judged class is class 1, her method 1. -/
namespace start1
open Jvm.ClassFile
def u (s : String) : CpInfo := .utf8 (stringToUtf16 s)
/-- a pool by its gaps: so many unusable entries, then the entry; so many at the end -/
def gap : Nat → List CpInfo → List CpInfo
  | 0, r => r
  | n + 1, r => .unusable :: gap n r
def poolList (es : List (Nat × CpInfo)) (last : Nat) : List CpInfo := es.foldr (fun e r => gap e.1 (e.2 :: r)) (gap last [])
def pool (es : List (Nat × CpInfo)) (last : Nat) : Array CpInfo := ⟨poolList es last⟩
def fileOf (pool : Array CpInfo) (this : Nat) (attrs : Array Attribute := #[]) (ms : Array MethodInfo := #[]) (fl : Nat := 33) (sup : Nat := 0) (ifs : Array Nat := #[]) (fds : Array FieldInfo := #[]) : ClassFile where
  minorVersion := 0
  majorVersion := 65
  constantPool := pool
  accessFlags := fl
  thisClass := this
  superClass := sup
  interfaces := ifs
  fields := fds
  methods := ms
  attributes := attrs
def plain (name : String) (sup : Option ClassId) : Class where
  name := name
  kind := .ordinary
  loader := none
  accessFlags := 33
  super := sup
  interfaces := #[]
  cf := none
  fields := #[]
  methods := #[]
  instanceTypes := #[]
  staticTypes := #[]
  resolved := #[]
  callSites := []
  init := .initialized
  statics := none
  mirror := none

def pool0 : Array CpInfo := pool [(5, u "<init>"), (0, u "()V"), (1, .class_ 10), (1, u "java/lang/Object")] 113

def k0m0 : Method := { name := "<init>", desc := "()V", sig := { parameters := [], returnType := none }, accessFlags := 1, code := none }
/-- java/lang/Object -/
def k0 : Class := { plain "java/lang/Object" none with
  accessFlags := 33
  interfaces := #[]
  cf := some (fileOf pool0 8 #[] #[{ accessFlags := 1, nameIndex := 5, descriptorIndex := 6, attributes := #[] }] 33 0 #[] #[])
  fields := #[]
  methods := #[k0m0]
  instanceTypes := #[]
  staticTypes := #[]
  resolved := Array.replicate 124 none
  statics := none }

def pool1 : Array CpInfo := pool [(2, .class_ 4), (1, u "java/lang/Object"), (0, u "<init>"), (0, u "()V"), (0, .methodref 8 9), (0, .class_ 10), (0, .nameAndType 11 12), (0, u "com/example/lambdaloom/lambdaloom/validate/Demands"), (0, u "pair"), (0, u "(II)J"), (0, .long 4294967295), (1, .class_ 16), (0, u "com/example/lambdaloom/lambdaloom/validate/DemandsPairPinLaw"), (2, u "law"), (0, u "(II)Z")] 3

def k1m0 : Method := { name := "<init>", desc := "()V", sig := { parameters := [], returnType := none }, accessFlags := 2, code := none }
def k1c1 : Code := { maxStack := 6, maxLocals := 8, code := code, exceptionTable := #[], attributes := #[] }
def k1m1 : Method := { name := "law", desc := "(II)Z", sig := { parameters := [.int, .int], returnType := some .boolean }, accessFlags := 9, code := some k1c1 }
/-- com/example/lambdaloom/lambdaloom/validate/DemandsPairPinLaw -/
def k1 : Class := { plain "com/example/lambdaloom/lambdaloom/validate/DemandsPairPinLaw" (some 0) with
  accessFlags := 49
  interfaces := #[]
  cf := some (fileOf pool1 15 #[] #[{ accessFlags := 2, nameIndex := 5, descriptorIndex := 6, attributes := #[] }, { accessFlags := 9, nameIndex := 19, descriptorIndex := 20, attributes := #[] }] 49 2 #[] #[])
  fields := #[]
  methods := #[k1m0, k1m1]
  instanceTypes := #[]
  staticTypes := #[]
  resolved := Array.replicate 24 none
  statics := none }

def pool2 : Array CpInfo := pool [(2, .class_ 4), (1, u "java/lang/Object"), (0, u "<init>"), (0, u "()V"), (0, .long 4294967295), (14, .class_ 24), (1, u "com/example/lambdaloom/lambdaloom/validate/Demands"), (54, u "pair"), (0, u "(II)J")] 27

def k2m0 : Method := { name := "<init>", desc := "()V", sig := { parameters := [], returnType := none }, accessFlags := 2, code := none }
def k2c1 : Code := { maxStack := 6, maxLocals := 2, code := prog_65_method_2_code, exceptionTable := #[], attributes := #[] }
def k2m1 : Method := { name := "pair", desc := "(II)J", sig := { parameters := [.int, .int], returnType := some .long }, accessFlags := 8, code := some k2c1 }
/-- com/example/lambdaloom/lambdaloom/validate/Demands -/
def k2 : Class := { plain "com/example/lambdaloom/lambdaloom/validate/Demands" (some 0) with
  accessFlags := 48
  interfaces := #[]
  cf := some (fileOf pool2 22 #[] #[{ accessFlags := 2, nameIndex := 5, descriptorIndex := 6, attributes := #[] }, { accessFlags := 8, nameIndex := 79, descriptorIndex := 80, attributes := #[] }] 48 2 #[] #[])
  fields := #[]
  methods := #[k2m0, k2m1]
  instanceTypes := #[]
  staticTypes := #[]
  resolved := Array.replicate 108 none
  statics := none }

def pool3 : Array CpInfo := pool [(1, u "java/lang/Cloneable"), (0, .class_ 1), (0, u "java/lang/Object"), (0, .class_ 3)] 3

/-- java/lang/Cloneable -/
def k3 : Class := { plain "java/lang/Cloneable" (some 0) with
  accessFlags := 1537
  interfaces := #[]
  cf := some (fileOf pool3 2 #[] #[] 1537 4 #[] #[])
  fields := #[]
  methods := #[]
  instanceTypes := #[]
  staticTypes := #[]
  resolved := Array.replicate 8 none
  statics := none }

def pool4 : Array CpInfo := pool [(1, u "java/io/Serializable"), (0, .class_ 1), (0, u "java/lang/Object"), (0, .class_ 3)] 3

/-- java/io/Serializable -/
def k4 : Class := { plain "java/io/Serializable" (some 0) with
  accessFlags := 1537
  interfaces := #[]
  cf := some (fileOf pool4 2 #[] #[] 1537 4 #[] #[])
  fields := #[]
  methods := #[]
  instanceTypes := #[]
  staticTypes := #[]
  resolved := Array.replicate 8 none
  statics := none }

/-- the primitive byte -/
def k5 : Class := { plain "byte" none with kind := .primitive 'B', accessFlags := 0x411 }
/-- [B -/
def k6 : Class := { plain "[B" (some 0) with kind := .array 5 .byte, interfaces := #[3, 4], accessFlags := 1041 }

/-- the primitive int -/
def k7 : Class := { plain "int" none with kind := .primitive 'I', accessFlags := 0x411 }
/-- [I -/
def k8 : Class := { plain "[I" (some 0) with kind := .array 7 .int, interfaces := #[3, 4], accessFlags := 1041 }

def heap : Heap := #[]
def classes : Array Class := #[k0, k1, k2, k3, k4, k5, k6, k7, k8]
def interned : List (Array UInt16 × Addr) := []
def slotsUsed : Nat := 0
def theMethod : MethodId := ⟨1, 1⟩
def args0 : Array Value := #[.int 5, .int 3]
def aboutOver (below : List Frame) : State where
  vm := { classes := classes, interned := interned.toArray }
  heap := heap
  slotsUsed := slotsUsed
  threads := #[{ frames := .invoking theMethod args0 :: below }]
def below0 : List Frame := [.native { method := ⟨0, 0⟩, args := #[] }]
def about1 : State := aboutOver below0
def p0 : Program := .bare "" "" ""
def e0 : Env := launch0.env 0 0 0
theorem w_frames : about1.frames = Frame.invoking theMethod args0 :: below0 := rfl
set_option maxRecDepth 65536 in
theorem w_args : argsFit about1.vm theMethod args0 = true := by decide +kernel
set_option maxRecDepth 65536 in
theorem w_heap : heapFits about1 = true := by decide +kernel
set_option maxRecDepth 65536 in
theorem w_runnable : about1.curStatus? = some .runnable := by decide +kernel
set_option maxRecDepth 65536 in
theorem w_alone : about1.alone = true := by decide +kernel
set_option maxRecDepth 65536 in
theorem w_named : about1.methodNamed? x = some theMethod := by decide +kernel
set_option maxRecDepth 65536 in
theorem w_hears : about1.hears theMethod below0 = true := by decide +kernel
set_option maxRecDepth 65536 in
theorem w_ripe : about1.ripe theMethod args0 below0 = true := by decide +kernel
theorem w_running : about1.status = .running := rfl
set_option maxRecDepth 65536 in
theorem w_room : about1.hasRoom e0.platform room_1 = true :=
  launch0.hasRoom_least _ room_1 (by decide +kernel) (by decide +kernel) (by decide +kernel) (by decide +kernel) (by decide +kernel) (by decide +kernel)
theorem allAtoms_all (ts : List Jvm.Cond) (a : Array Jvm.Value) (st : Jvm.State) : (allAtoms ts).before a st = ts.all (fun c => c.before a st) := by
  induction ts with
  | nil => rfl
  | cons c t ih =>
    show (Jvm.Cond.and c (allAtoms t)).before a st = _
    rw [Jvm.Cond.before_and, ih, List.all_cons]
def words1 : List Jvm.Cond := Jvm.Cond.code x code maxLocals ret :: tables_1
/-- a 'code' word, met by the world's own term for the bytes: nothing is compared byte by byte -/
theorem code_word {y : MethodName} {bytes : ByteArray} {mx : Nat} {rt : Option FieldType} {a : Array Value} {s : State} {m : MethodId} {meth : Method} {c : Code} (h1 : s.methodNamed? y = some m) (h2 : s.vm.method? m = some meth) (h3 : meth.code = some c) (h4 : c.code = bytes)
    (h5 : (c.maxLocals == mx && c.exceptionTable.isEmpty && decide (c.maxStack ≤ mostOperands) && decide (meth.sig.returnType = rt) && !meth.locks && decide (parseMethodDescriptor y.desc = some meth.sig)) = true) : (Jvm.Cond.code y bytes mx rt).before a s = true := by
  simp only [Bool.and_eq_true, beq_iff_eq, Bool.not_eq_true', decide_eq_true_eq] at h5
  obtain ⟨⟨⟨⟨⟨g1, g2⟩, g3⟩, g4⟩, g5⟩, g6⟩ := h5
  simp [Cond.before, Cond.holds, Cond.value, h1, h2, h3, h4, g1, g2, g3, g4, g5, g6]
def isCode : Jvm.Cond → Bool
  | .code _ _ _ _ => true
  | _ => false
theorem all_split {L : List Jvm.Cond} {P : Jvm.Cond → Bool} (h1 : L.all (fun c => isCode c || P c) = true) (h2 : ∀ c ∈ L.filter isCode, P c = true) : L.all P = true := by
  refine List.all_eq_true.mpr fun c hc => ?_
  have h := List.all_eq_true.mp h1 c hc
  rcases Bool.eq_false_or_eq_true (isCode c) with hi | hi
  · exact h2 c (List.mem_filter.mpr ⟨hc, hi⟩)
  · simpa [hi] using h
set_option maxRecDepth 65536 in
theorem w_c0 : (Jvm.Cond.code x code maxLocals ret).before args0 about1 = true := code_word (m := ⟨1, 1⟩) (meth := k1m1) (c := k1c1) (by decide +kernel) rfl rfl rfl (by decide +kernel)
set_option maxRecDepth 65536 in
theorem w_c1 : (Jvm.Cond.code ({ cls := "com/example/lambdaloom/lambdaloom/validate/Demands", name := "pair", desc := "(II)J" } : Jvm.MethodName) prog_65_method_2_code (2 : Nat) (Option.some Jvm.ClassFile.FieldType.long)).before args0 about1 = true := code_word (m := ⟨2, 1⟩) (meth := k2m1) (c := k2c1) (by decide +kernel) rfl rfl rfl (by decide +kernel)
def codes1 : List Jvm.Cond := [Jvm.Cond.code x code maxLocals ret, Jvm.Cond.code ({ cls := "com/example/lambdaloom/lambdaloom/validate/Demands", name := "pair", desc := "(II)J" } : Jvm.MethodName) prog_65_method_2_code (2 : Nat) (Option.some Jvm.ClassFile.FieldType.long)]
set_option maxRecDepth 65536 in
theorem codes_eq : words1.filter isCode = codes1 := rfl
theorem w_codes : ∀ c ∈ words1.filter isCode, c.before args0 about1 = true := by
  rw [codes_eq]
  intro c hc
  simp only [codes1, List.mem_cons, List.not_mem_nil, or_false] at hc
  rcases hc with rfl | rfl
  · exact w_c0
  · exact w_c1
set_option maxRecDepth 65536 in
theorem w_t1 : words1.all (fun c => isCode c || c.before args0 about1) = true := by decide +kernel
theorem w_tables : (allAtoms (Jvm.Cond.code x code maxLocals ret :: tables_1)).before args0 about1 = true := by
  rw [allAtoms_all]
  show words1.all (fun c => c.before args0 about1) = true
  refine all_split ?_ w_codes
  rw [w_t1]
set_option maxRecDepth 65536 in
theorem w_case : (Jvm.Cond.and given_1 narrow_1).before args0 about1 = true := by decide +kernel
theorem w_applies : (headSpec (Jvm.Cond.code x code maxLocals ret :: tables_1) room_1).applies x e0.platform about1 = true :=
  (Spec.applies_iff w_frames).mpr ⟨w_running, w_runnable, w_alone, w_named, w_hears, w_ripe, w_room, w_tables⟩
theorem atStart : AtStart classFile x code maxLocals ret World_1 tables_1 room_1 Calls_1 rest_1 Pre_1 launch0 p0 e0 about1 theMethod args0 below0 :=
  ⟨lists_1, trivial, launch0.admits_env _ _ _, launch0.least_env, fairChoices_fair.cas, fairChoices_fair.clock, w_frames, w_args, w_heap, w_applies, trivial, trivial, w_case⟩
end start1
theorem witness_1 : WitnessClaimed_1 := ⟨start1.p0, start1.e0, start1.about1, start1.theMethod, start1.args0, start1.below0, start1.atStart⟩
end Jvm.Pilot.@@N@@
