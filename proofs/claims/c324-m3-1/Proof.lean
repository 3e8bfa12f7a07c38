import JvmDerived
import JvmDerived.Pilot.@@N@@Statement
import JvmDerived.Pilot.@@N@@Code
set_option linter.unusedVariables false
set_option linter.unusedSimpArgs false
namespace Jvm.RoadKit
open Sem ClassFile Op Lib Jvm.Stand Jvm.Free Jvm.LawKit
section New
variable {p : Program} {l : Launch} {e : Env} {R : Room} {s : State} {m : MethodId} {args : Array Value} {below : List Frame} {meth : Method} {c : Code} {T : State} {locs : List Loc} {cells slots : Nat}
theorem retI (X : Stand p l e R s m args below meth c T locs cells slots) (hx : p.tables.exec = Jvm.exec) {pc : Nat} {Ls : Array Slot} {z : Int32} {rest : List Value} (hret : meth.sig.returnType = some .int) (hd : decode c.code pc = .ok (.ireturn, 1)) {fs : List Frame}
    (hl : ∀ (f : JFrame) (acts : List Action), f.method = m → f.locked = none → f.entered = [] → (doReturn e (T.setTop f) acts (some (.int z))).1 = T.setFrames fs) : Steps p.tables e below (T.setTop (mkF m pc Ls (.int z :: rest))) (T.setFrames fs) := by
  have hm' : T.vm.method? m = some meth := X.method'
  have hn : narrow .int (.int z) = .int z := rfl
  show Steps p.tables e below (T.setTop { method := m, pc := pc, locals := Ls, stack := _ :: rest, locked := none }) _
  jvm_step X.here [X.here.top, hx, hd, hm', hret, hn]
  first | (intro acts; rw [hl _ acts rfl rfl rfl]) | rw [hl _ _ rfl rfl rfl]
  exact Steps.refl _
end New
end Jvm.RoadKit
namespace Jvm.Pilot.@@N@@
open Jvm Jvm.ClassFile Sem Op Lib Jvm.Free Jvm.Stand Jvm.LawKit Jvm.RoadKit Bundle Jvm.Pilot.@@N@@.Jvm.D
abbrev OWN : String := "com/example/vigilant_ledger/vigilantledger/journal/JournalFormatIsTornHeaderPinLaw"
abbrev EL : List (String × Nat) := [(OWN, 7), (OWN, 15)]
/-- what is left to pay for an entry's literal: 2 cells till it is loaded -/
def own_lt (Z : State) (vm : Vm) (i : Nat) : Nat := match (Z.setVm vm).resolvedAt? OWN i with
  | some (.string _) => 0
  | _ => 2
def own_phi (Z : State) (vm : Vm) : Nat := own_lt Z vm 7 + own_lt Z vm 15
theorem own_lt_le (Z : State) (vm : Vm) (i : Nat) : own_lt Z vm i ≤ 2 := by unfold own_lt; split <;> omega
theorem own_phi_le (Z : State) (vm : Vm) : own_phi Z vm ≤ 4 := Nat.add_le_add (own_lt_le ..) (own_lt_le ..)
theorem own_lt_lit {Z s : State} {vm : Vm} {i : Nat} {a : Addr} (L : Lit (s.setVm vm) OWN i a) : own_lt Z vm i = 0 := by
  have q : (Z.setVm vm).resolvedAt? OWN i = some (.string a) := L
  unfold own_lt; rw [q]
theorem own_lt_mono {Z s : State} {vm0 vm1 : Vm} (W : (s.setVm vm0).Warmed39 vm1) (i : Nat) : own_lt Z vm1 i ≤ own_lt Z vm0 i := by
  cases q : (Z.setVm vm0).resolvedAt? OWN i with
  | none => have := own_lt_le Z vm1 i; unfold own_lt at *; rw [q]; exact this
  | some r =>
    cases r with
    | string a =>
      have q1 : (s.setVm vm0).resolvedAt? OWN i = some (.string a) := q
      have L : Lit (s.setVm vm1) OWN i a := State.resolvedAt?_warmed39 W q1
      rw [own_lt_lit L]; exact Nat.zero_le _
    | _ => have := own_lt_le Z vm1 i; unfold own_lt at *; rw [q]; exact this
theorem own_phi_mono {Z s : State} {vm0 vm1 : Vm} (W : (s.setVm vm0).Warmed39 vm1) : own_phi Z vm1 ≤ own_phi Z vm0 := Nat.add_le_add (own_lt_mono W 7) (own_lt_mono W 15)
section HeldP
variable {p : Program} {l : Launch} {e : Env} {R : Room} {s : State} {m : MethodId} {args : Array Value} {below : List Frame} {meth : Method} {c : Code} {T : State} {locs : List Loc} {cells slots : Nat} {Z : State} {a0 : Array Value} {h h0 : Heap} {vm0 : Vm} {n0 cb sb : Nat}
/-- a place of a walk that may have interned: over the start with the tables at hand -/
def own_S (Z : State) (p : Program) (l : Launch) (e : Env) (R : Room) (s : State) (m : MethodId) (args : Array Value) (below : List Frame) (meth : Method) (c : Code) (n0 : Nat) (h0 : Heap) (cb sb : Nat) (T : State) (locs : List Loc) (cells slots : Nat) : Prop :=
  Stand p l e R (s.setVm T.vm) m args below meth c T locs cells slots ∧ Fr n0 locs ∧ s.Since T.vm T.heap.size ∧ Z.Warmed39 T.vm ∧ T.vm.findClass OWN = some m.cls ∧ CHr Z EL s.vm h0 T.vm T.heap ∧ cells + own_phi Z T.vm ≤ cb ∧ slots + 54 * own_phi Z T.vm ≤ sb
theorem own_pack (X : Stand p l e R (s.setVm vm0) m args below meth c T locs cells slots) (N : Fr n0 locs) {k0 : Nat} (hS : s.Since vm0 k0) (hk : k0 ≤ T.heap.size) (hZ : Z.Warmed39 vm0) (hown : vm0.findClass OWN = some m.cls) (hEL : EW Z a0 EL)
    (hC : CHr Z EL s.vm h0 vm0 T.heap) (b1 : cells + own_phi Z vm0 ≤ cb) (b2 : slots + 54 * own_phi Z vm0 ≤ sb) : own_S Z p l e R s m args below meth c n0 h0 cb sb T locs cells slots := by
  have W : (s.setVm vm0).Warmed39 T.vm := X.warmed.wide
  have q := own_phi_mono (Z := Z) W
  exact ⟨X.retabled W, N, hS.trans (X.warmed.since T.heap.size) hk, wtrans (s := s.setVm vm0) hZ X.warmed, by rw [X.warmed.alike.findClass]; exact hown, hC.trans (CHv.at X hZ hEL hC.1), by omega, by omega⟩
/-- a callee that may load the two literals: what it leaves -/
def own_Con (Z : State) (l : Launch) (n0 : Nat) (y : MethodName) (bytes : ByteArray) (maxL : Nat) (ret : Option FieldType) (rm : Room) (ss : List Addr) (as' : Array Value) (h : Heap) (Q : Option Value → Heap → Prop) : Prop :=
  MetFree l y (head1 [Cond.code y bytes maxL ret] rm) (fun a U => a = as' ∧ Z.Warmed39 U.vm ∧ U.heap = h ∧ CHv Z EL U.vm h ∧ ∀ x ∈ ss, x < h.size ∧ Safe Z EL U.vm h x) (fun _ _ _ _ _ => True)
    (fun _ U o U' => ∃ v L k n, o = .returned v ∧ Q v U'.heap ∧ Fr n0 L ∧ CHr Z EL U.vm U.heap U'.vm U'.heap ∧ k + own_phi Z U'.vm ≤ own_phi Z U.vm ∧ n + 54 * own_phi Z U'.vm ≤ 54 * own_phi Z U.vm ∧ ReturnedEndW U o U' L k n)
theorem own_back {y : MethodName} {bytes : ByteArray} {maxL : Nat} {ret : Option FieldType} {rm : Room} {len W : Nat} {ss : List Addr} {as' : Array Value} {Q : Option Value → Heap → Prop} (hM : own_Con Z l n0 y bytes maxL ret rm ss as' h Q)
    (hZ : Z.Warmed39 vm0) (wc : (Cond.code y bytes maxL ret).before a0 Z = true) (wz : (Cond.initialized y.cls).before a0 Z = true) (hf : rm.frames + 1 ≤ R.frames) (hl : W + (maxL + 11) + rm.locals ≤ R.locals) (hEL : EW Z a0 EL) (H : CHv Z EL vm0 h) (hs : ∀ x ∈ ss, x < h.size ∧ Safe Z EL vm0 h x) :
    BackS l R p e below (s.setVm vm0) args y len W (fun A a => a = as' ∧ A.U.heap = h ∧ A.cells + rm.cells ≤ R.cells ∧ A.slots + rm.slots ≤ R.slots)
      (fun A _ v B => ∃ L k n, Q v B.U.heap ∧ Fr n0 L ∧ CHr Z EL vm0 h B.U.vm B.U.heap ∧ B.locs = A.locs ++ L ∧ B.cells = A.cells + k ∧ B.slots = A.slots + n ∧ k + own_phi Z B.U.vm ≤ own_phi Z vm0 ∧ n + 54 * own_phi Z B.U.vm ≤ 54 * own_phi Z vm0) :=
  BackS.of_freeW (bytes := bytes) (maxL := maxL) (ret := ret) (E := fun _ U o U' L k n => ∃ v, o = .returned v ∧ Q v U'.heap ∧ Fr n0 L ∧ CHr Z EL U.vm U.heap U'.vm U'.heap ∧ k + own_phi Z U'.vm ≤ own_phi Z U.vm ∧ n + 54 * own_phi Z U'.vm ≤ 54 * own_phi Z U.vm) hM hf hl
    (fun m meth c A a Y hp => have hU : Z.Warmed39 A.U.vm := wtrans (s := s.setVm vm0) hZ Y.warmed
      ⟨by show (Cond.and _ .tt).before a A.U = true; rw [Cond.before_and, mv hU wc]; rfl, mv hU wc, mv hU wz, hp.2.2.1, hp.2.2.2⟩)
    (fun m meth c A a g mk Y hp => ⟨hp.1, wtrans (s := s.setVm vm0) hZ Y.warmed, hp.2.1, (CHv.at Y hZ hEL H).1, fun x hx => ⟨(hs x hx).1, (CHv.at Y hZ hEL H).safe (hs x hx).1 (hs x hx).2⟩⟩) (fun _ _ _ _ _ _ _ _ _ => trivial)
    (fun _ _ _ _ ⟨v, L, k, n, h1, h2, h3, h4, h5, h6, h7⟩ => ⟨L, k, n, h7, v, h1, h2, h3, h4, h5, h6⟩)
    (fun m meth c A a g mk v t L k n Y hp _ _ ⟨v', e1, e2, e3, e4, e5, e6⟩ => by
      cases e1
      have q : own_phi Z A.U.vm ≤ own_phi Z vm0 := own_phi_mono Y.warmed.wide
      have e5' : k + own_phi Z t.vm ≤ own_phi Z A.U.vm := e5
      have e6' : n + 54 * own_phi Z t.vm ≤ 54 * own_phi Z A.U.vm := e6
      refine ⟨L, k, n, e2, e3, (CHv.at Y hZ hEL H).trans ?_, rfl, rfl, rfl, Nat.le_trans e5' q, Nat.le_trans e6' (Nat.mul_le_mul_left _ q)⟩
      rw [← hp.2.1]; exact e4)
/-- a static call by such a contract -/
theorem own_call (P : own_S Z p l e R s m args below meth c n0 h0 cb sb T locs cells slots) (hx : p.tables.exec = Jvm.exec) (hEL : EW Z a0 EL) {index : Nat} {y : MethodName} {bytes : ByteArray} {maxL : Nat} {ret : Option FieldType} {rm : Room} {ss : List Addr} {argsL rest : List Value} {Q : Option Value → Heap → Prop}
    (w1 : (Cond.methodLink OWN index y).before a0 Z = true) (w2 : (Cond.static y).before a0 Z = true) (w3 : (Cond.initialized y.cls).before a0 Z = true) (w4 : (Cond.code y bytes maxL ret).before a0 Z = true)
    (hy : y.cls ≠ "java/lang/invoke/MethodHandle" ∧ y.cls ≠ "java/lang/invoke/VarHandle") {W : Nat} (hM : own_Con Z l n0 y bytes maxL ret rm ss argsL.toArray T.heap Q) (hs : ∀ x ∈ ss, x < T.heap.size ∧ Safe Z EL T.vm T.heap x) (hf : rm.frames + 1 ≤ R.frames) (hl : W + (maxL + 11) + rm.locals ≤ R.locals)
    (hc : cells + rm.cells ≤ R.cells) (hsl : slots + rm.slots ≤ R.slots)
    {g : JFrame} (hg : g.method = m) (hsize : g.locals.size = c.maxLocals) (hlen : ∀ sig, parseMethodDescriptor y.desc = some sig → argsL.length = sig.parameters.length) (hstack : g.stack = argsL.reverse ++ rest) (hW : 2 * g.monitorRoom + (rest.map fun v => v.category).sum ≤ W) (hdg : decode c.code g.pc = .ok (.invokestatic index, 3)) :
    ∃ (v : Option Value) (T' : State) (locs' : List Loc) (cells' slots' : Nat), own_S Z p l e R s m args below meth c n0 h0 cb sb T' locs' cells' slots' ∧ Q v T'.heap ∧ CHr Z EL T.vm T.heap T'.vm T'.heap ∧ cells' ≤ cells + 4 ∧ slots' ≤ slots + 216 ∧
      Steps p.tables e below (T.setTop g) (T'.setTop { g with pc := g.pc + 3, stack := v.toList ++ rest }) := by
  obtain ⟨X, N, hS, hZ, hown, hC, b1, b2⟩ := P
  obtain ⟨v, vm1, ⟨T', L', k', n'⟩, -, X', hS', -, ⟨L, k, n, hQ, hF, hR, e1, e2, e3, c1, c2⟩, st⟩ := callSS X hx (own := OWN) (y := y) hown (mvT (s := s.setVm T.vm) hZ w1) (mvT (s := s.setVm T.vm) hZ w2) (mvT (s := s.setVm T.vm) hZ w3) (mvT (s := s.setVm T.vm) hZ w4) hy (own_back (W := W) hM hZ w4 w3 hf hl hEL hC.1 hs) hg hsize hlen hstack hW hdg (fun _ _ => ⟨rfl, rfl, hc, hsl⟩)
  dsimp only [Pt.U, Pt.locs, Pt.cells, Pt.slots] at X' hS' hQ hR e1 e2 e3 c1 c2 st
  have q := own_phi_le Z T.vm
  refine ⟨v, T', L', k', n', ⟨X', by rw [e1]; exact Fr.app N hF, hS.trans hS' (by have := hR.2.1; omega), State.Warmed39.trans (t := s.setVm T.vm) hZ hS'.1, by rw [hS'.1.alike.findClass]; exact hown, hC.trans hR, by omega, by omega⟩, hQ, hR, by omega, by omega, st⟩
end HeldP
section HeldL
variable {p : Program} {l : Launch} {e : Env} {R : Room} {s : State} {m : MethodId} {args : Array Value} {below : List Frame} {meth : Method} {c : Code} {T : State} {locs : List Loc} {cells slots : Nat} {Z : State} {a0 : Array Value} {h h0 : Heap} {vm : Vm} {n0 cb sb : Nat}
/-- what a loaded literal of EL is, by the invariant -/
theorem own_says {index : Nat} {text : String} (hZ : Z.Warmed39 vm) (w : (Cond.stringLink OWN index text).before a0 Z = true) (hmem : (OWN, index) ∈ EL) (H : CHv Z EL vm h) {a : Addr} (L : Lit (Z.setVm vm) OWN index a)
    {vs : List Value} {z : Int32} (ht : (∀ c ∈ text.toList, c.toNat < 256) ∧ text.toList.map (fun c => Value.int (Jvm.Lit.byteI c.toNat.toUInt16)) = vs) (hz : ¬ z < 0) (hl : z.toNatClampNeg = vs.length) :
    ∃ (b : Addr) (k : ClassId), Exa Z h a "java/lang/String" ∧ Fld Z h a "java/lang/String" "coder" "B" (.int 0) ∧ Fld Z h a "java/lang/String" "value" "[B" (.ref b) ∧ Arv Z h b k .byte z vs (.int 0) := by
  have hal : Z.vm.Alike vm := hZ.alike
  have w2 : (Cond.stringLink OWN index text).before a0 (Wst Z vm h) = true := mvS (s := { Z with heap := h }) hZ w
  cases hc : vm.findClass OWN with
  | none => have q : (Z.setVm vm).resolvedAt? OWN index = some (.string a) := L; simp [State.resolvedAt?, hc] at q
  | some cO =>
    obtain ⟨kO, cf, i, units, hk, hcf, hp, hu, -, htext, -⟩ := Cond.stringLink_spec (s := Wst Z vm h) hc w2
    have hk' : vm.classes[cO]? = some kO := hk
    have hres : kO.resolved[index]? = some (some (.string a)) := by
      have q : (Z.setVm vm).resolvedAt? OWN index = some (.string a) := L
      simp only [State.resolvedAt?, State.vm_setVm, hc, hk', Option.bind_eq_bind, Option.bind_some] at q
      cases hr : kO.resolved[index]? with
      | none => rw [hr] at q; cases q
      | some o => rw [hr] at q; simpa using q
    obtain ⟨q, hqa, cS, ⟨⟨s1, s2, s3, ⟨cv, kv, iv, s4, s4'⟩, ⟨cc, kc, ic, s5, s5'⟩, s6, s7, s8, s9, s10, ⟨hst, k9, hk9, comp, hkind⟩, s12, s13, s14, s15, s16⟩, hfS, hcS⟩, ⟨kS, k1, k2, k3⟩, hB, hbyt⟩ := SlB.of (H _ hmem units a ⟨cO, kO, cf, i, hc, hk', hcf, hp, hu, Or.inl hres⟩)
    subst hqa
    obtain ⟨kv', z4⟩ := ff_back (U := Wst Z vm h) hal s4
    obtain ⟨kc', z5⟩ := ff_back (U := Wst Z vm h) hal s5
    have hfZ : Z.vm.findClass "java/lang/String" = some q.sC.cls := by rw [← hal.findClass, hcS]; exact hfS
    have hBZ : Z.vm.findClass "[B" = some q.SA.cls := by rw [← hal.findClass]; exact hB
    obtain ⟨kz, hkz, -⟩ := Vm.findClass_spec hfZ
    obtain ⟨kb, hkb, -⟩ := Vm.findClass_spec hBZ
    obtain ⟨kz', hkz', ekz⟩ := hal.2.2 _ _ hkz
    obtain ⟨kb', hkb', ekb⟩ := hal.2.2 _ _ hkb
    obtain rfl : kz' = kS := Option.some.inj (hkz'.symm.trans (by rw [hcS]; exact k1))
    obtain rfl : k9 = kb' := Option.some.inj ((show vm.classes[q.SA.cls]? = some k9 from hk9).symm.trans hkb')
    have eu : vs = units.toList.map fun u => Value.int (Jvm.Lit.byteI u) := by rw [← ht.2, Jvm.ClassFile.units_of_text htext ht.1, List.map_map]; rfl
    have hsl : q.SA.slots = units.map fun u => Value.int (Jvm.Lit.byteI u) := by rw [hbyt, SBG.stringBytes_lat (Jvm.ClassFile.lat_of_text htext ht.1)]; rfl
    have hsz : q.SA.slots.size = units.size := by rw [hsl, Array.size_map]
    have el : vs.length = units.size := by rw [eu]; simp
    have Hs : Has q.SA vs (.int 0) := fun j hj => by
      have hj' : j < units.size := by omega
      rw [hsl, eu]; simp [hj']
    refine ⟨q.sd, q.SA.cls, ⟨q.sC, kz, s1, hfZ, hkz, s3, fun _ => by rw [k3, ekz]⟩, ⟨q.sC, cc, kc', ic, q.fSC, s1, z5, s7, s2, s3, by rw [← hal.assignable]; exact s5', s9⟩, ⟨q.sC, cv, kv', iv, q.fSV, s1, z4, s6, s2, s3, by rw [← hal.assignable]; exact s4', s8⟩,
      q.SA, ⟨s10, ⟨hst, kb, hkb, comp, by rw [← hkind, ekb]⟩, s12⟩, rfl, by rw [hsz, hl, el], hz, Hs, fun j hj => ?_⟩
    have e1 := s16 j hj
    rw [SBG.getD_of (Hs j hj)] at e1
    exact e1
/-- ldc of a literal of EL, first load or again: paid once -/
theorem own_ldc (P : own_S Z p l e R s m args below meth c n0 h0 cb sb T locs cells slots) (hx : p.tables.exec = Jvm.exec) (hEL : EW Z a0 EL) {index : Nat} {text : String} (hi : index = 7 ∨ index = 15) (w : (Cond.stringLink OWN index text).before a0 Z = true) (wS : ∀ a ∈ Bundle.stringAtoms, a.before a0 Z = true)
    {vs : List Value} {z : Int32} (ht : (∀ c ∈ text.toList, c.toNat < 256) ∧ text.toList.map (fun c => Value.int (Jvm.Lit.byteI c.toNat.toUInt16)) = vs) (hz : ¬ z < 0) (hl : z.toNatClampNeg = vs.length)
    {g : JFrame} (hg : g.method = m) (hd : decode c.code g.pc = .ok (.ldc index, 2)) (hn : 4 * text.toList.length ≤ 104) (hc : cells + 2 ≤ R.cells) (hsl : slots + 108 ≤ R.slots) :
    ∃ (a b : Addr) (k : ClassId) (T' : State) (cells' slots' : Nat), own_S Z p l e R s m args below meth c n0 h0 cb sb T' locs cells' slots' ∧ Ext T.heap T'.heap ∧ Exa Z T'.heap a "java/lang/String" ∧ Fld Z T'.heap a "java/lang/String" "coder" "B" (.int 0) ∧ Fld Z T'.heap a "java/lang/String" "value" "[B" (.ref b) ∧ Arv Z T'.heap b k .byte z vs (.int 0) ∧ cells' ≤ cells + 2 ∧ slots' ≤ slots + 108 ∧
      ∀ target, Steps p.tables e below (T'.setTop { g with pc := g.pc + 2, stack := .ref a :: g.stack }) target → Steps p.tables e below (T.setTop g) target := by
  obtain ⟨X, N, hS, hZ, hown, hC, b1, b2⟩ := id P
  have hmem : (OWN, index) ∈ EL := by rcases hi with rfl | rfl <;> simp [EL]
  by_cases q : ∃ a, (s.setVm T.vm).resolvedAt? OWN index = some (.string a)
  · obtain ⟨a, q⟩ := q
    obtain ⟨b, k, f1, f2, f3, f4⟩ := own_says hZ w hmem hC.1 (a := a) q ht hz hl
    exact ⟨a, b, k, T, cells, slots, P, ⟨Nat.le_refl _, fun _ _ q => q⟩, f1, f2, f3, f4, by omega, by omega, ldcAgain X hx hZ hown w (show Lit (s.setVm T.vm) OWN index a from q) hg hd⟩
  · obtain ⟨a, T', h', k1, b, k, X', rfl, E, hS', hk', hZ', hown', f1, f2, f3, f4, -, -, hR, hL, -, st⟩ := ldcCH (s := s.setVm T.vm) (vm0 := T.vm) X hx hZ hown w wS rfl ((State.WarmedH.refl (s.setVm T.vm)).since T.heap.size) (Nat.le_refl _) hEL hmem hC.1 ht hz hl hg hd hn (by decide) hc hsl
    have q0 : own_lt Z T'.vm index = 0 := own_lt_lit (s := s.setVm T.vm) hL
    have q1 : own_lt Z T.vm index = 2 := by
      unfold own_lt
      split
      · rename_i a' e'; exact absurd ⟨a', e'⟩ q
      · rfl
    have q2 := own_lt_mono (Z := Z) (s := s) hS'.1 7
    have q3 := own_lt_mono (Z := Z) (s := s) hS'.1 15
    have q4 : own_phi Z T'.vm + 2 ≤ own_phi Z T.vm := by
      unfold own_phi
      rcases hi with rfl | rfl <;> omega
    have hS2 : (s.setVm T.vm).Since T'.vm T'.heap.size := ⟨hS'.1, hS'.2.mono hk'⟩
    exact ⟨a, b, k, T', _, _, own_pack (vm0 := T'.vm) X' N (hS.trans hS2 E.1) (Nat.le_refl _) hZ' hown' hEL (hC.trans hR) (by omega) (by omega), E, f1, f2, f3, f4, by omega, by omega, st⟩
end HeldL

theorem d11_0 : decode jdk_41_method_11_code 0 = .ok (.iload_n 0, 1) := by decide +kernel
theorem d11_1 : decode jdk_41_method_11_code 1 = .ok (.ifCond .lt 8, 3) := by decide +kernel
theorem d11_4 : decode jdk_41_method_11_code 4 = .ok (.iload_n 0, 1) := by decide +kernel
theorem d11_5 : decode jdk_41_method_11_code 5 = .ok (.iload_n 1, 1) := by decide +kernel
theorem d11_6 : decode jdk_41_method_11_code 6 = .ok (.if_icmp .lt 10, 3) := by decide +kernel
theorem d11_16 : decode jdk_41_method_11_code 16 = .ok (.iload_n 0, 1) := by decide +kernel
theorem d11_17 : decode jdk_41_method_11_code 17 = .ok (.ireturn, 1) := by decide +kernel
theorem pn_11 : plainName "jdk/internal/util/Preconditions" = true := by first | (simp [plainName, overriddenIn]; done) | decide +kernel
theorem ef_11 (m : MethodId) (x0 : Int32) (x1 : Int32) (x2 : Addr) : entryFrame m #[(.int x0), (.int x1), (.ref x2)] 3 = mkF m 0 #[.val (.int x0), .val (.int x1), .val (.ref x2)] [] := by first | (simp [entryFrame, mkF, argsToLocals, Value.category]; done) | rfl
def Q11 (Z : State) (p1 : Int32) (h0 : Heap) (n0 : Nat) (v : Option Value) (h : Heap) (L : List Loc) : Prop := v = some (.int p1) ∧ Fr n0 L ∧ h = h0
set_option maxRecDepth 65536 in
set_option maxHeartbeats 40000000 in
theorem rm11 (l : Launch) (Z : State) (a0 : Array Value) (hw : ∀ d ∈ tables_1, d.before a0 Z = true) (ws : List Jvm.Cond) (p1 : Int32) (p2 : Int32) (a3 : Addr) (h0 : Heap) (n0 : Nat) (Z0 : n0 ≤ h0.size) (hc1 : ¬ (p1 < (0 : Int32))) (hc6 : p1 < p2) :
    MetFree l (⟨"jdk/internal/util/Preconditions", "checkIndex", "(IILjava/util/function/BiFunction;)I"⟩ : MethodName) (head1 (Jvm.Cond.code (⟨"jdk/internal/util/Preconditions", "checkIndex", "(IILjava/util/function/BiFunction;)I"⟩ : MethodName) jdk_41_method_11_code 3 (some .int) :: ws) ({ frames := 0, cells := 0, slots := 0, locals := 0 } : Room)) (fun a U => a = #[(.int p1), (.int p2), (.ref a3)] ∧ Z.Warmed39 U.vm ∧ U.heap = h0) (fun _ _ _ _ _ => True) (fun _ U o U' => ∃ v L, o = .returned v ∧ Q11 Z p1 h0 n0 v U'.heap L ∧ FrameEnd U o U' L ({ frames := 0, cells := 0, slots := 0, locals := 0 } : Room).cells ({ frames := 0, cells := 0, slots := 0, locals := 0 } : Room).slots) := by
  refine MetFree.of_bodySF (plainFor_of_name pn_11) hisR ?_
  intro p e s m args below meth c s₁ Bd hml0 hP hK
  obtain ⟨rfl, hZ, hh⟩ := hP
  have hx := Bd.exec
  have hby := Bd.bytes
  have hml : c.maxLocals = 3 := hml0
  have hown : s.vm.findClass "jdk/internal/util/Preconditions" = some m.cls := findClass_of_methodNamed Bd.named
  have hnm := (name_of_methodNamed Bd.named Bd.method).1
  have X0 : Stand p l e ({ frames := 0, cells := 0, slots := 0, locals := 0 } : Room) s m #[(.int p1), (.int p2), (.ref a3)] below meth c s₁ [] 0 0 := Stand.of_body Bd
  have e0 : s₁.heap = h0 := by rw [← hh, Bd.state]; rfl
  have N0 := Fr.nil n0
  have pre0 : ∀ t, Steps p.tables e below (s₁.setTop (mkF m 0 #[.val (.int p1), .val (.int p2), .val (.ref a3)] [])) t → Steps p.tables e below (s₁.setTop (entryFrame m #[(.int p1), (.int p2), (.ref a3)] 3)) t := fun t k => castTop (ef_11 m p1 p2 a3) k

  obtain ⟨fs, hr, hrun, hended, hW, hsame⟩ := X0.leave (v := some (.int p1)) (fun h => by rw [Bd.returns] at h; cases h)
  refine ⟨_, _, pre0 _ ?_, hrun, hended, _, _, rfl, ?_, ⟨_, rfl⟩, hW, hsame.mono (by decide) (by decide)⟩
  · show Steps p.tables e below (s₁.setTop (mkF m 0 #[.val (.int p1), .val (.int p2), .val (.ref a3)] [])) _
    refine XS.iloadN X0.here hx rfl (hb hby d11_0) rfl ?_
    show Steps p.tables e below (s₁.setTop (mkF m 1 #[.val (.int p1), .val (.int p2), .val (.ref a3)] [(.int p1)])) _
    refine XS.ifNo X0.here hx rfl (hb hby d11_1) rfl ((if0 _ _).trans (flt hc1).1) ?_
    show Steps p.tables e below (s₁.setTop (mkF m 4 #[.val (.int p1), .val (.int p2), .val (.ref a3)] [])) _
    refine XS.iloadN X0.here hx rfl (hb hby d11_4) rfl ?_
    show Steps p.tables e below (s₁.setTop (mkF m 5 #[.val (.int p1), .val (.int p2), .val (.ref a3)] [(.int p1)])) _
    refine XS.iloadN X0.here hx rfl (hb hby d11_5) rfl ?_
    show Steps p.tables e below (s₁.setTop (mkF m 6 #[.val (.int p1), .val (.int p2), .val (.ref a3)] [(.int p2), (.int p1)])) _
    refine XS.icmpYes X0.here hx rfl (pc0 := 6) (pc' := 16) rfl (hb hby d11_6) rfl (tlt hc6).1 (by decide) (by decide) ?_
    show Steps p.tables e below (s₁.setTop (mkF m 16 #[.val (.int p1), .val (.int p2), .val (.ref a3)] [])) _
    refine XS.iloadN X0.here hx rfl (hb hby d11_16) rfl ?_
    show Steps p.tables e below (s₁.setTop (mkF m 17 #[.val (.int p1), .val (.int p2), .val (.ref a3)] [(.int p1)])) _
    exact retI X0 hx Bd.returns (hb hby d11_17) hr
  · show Q11 Z p1 h0 n0 _ s₁.heap _
    rw [e0]
    exact ⟨rfl, N0, rfl⟩
theorem ef_11n (m : MethodId) (x0 : Int32) (x1 : Int32) : entryFrame m #[(.int x0), (.int x1), .null] 3 = mkF m 0 #[.val (.int x0), .val (.int x1), .val .null] [] := by first | (simp [entryFrame, mkF, argsToLocals, Value.category]; done) | rfl
set_option maxRecDepth 65536 in
set_option maxHeartbeats 40000000 in
theorem rm11n (l : Launch) (Z : State) (a0 : Array Value) (hw : ∀ d ∈ tables_1, d.before a0 Z = true) (ws : List Jvm.Cond) (p1 : Int32) (p2 : Int32) (h0 : Heap) (n0 : Nat) (Z0 : n0 ≤ h0.size) (hc1 : ¬ (p1 < (0 : Int32))) (hc6 : p1 < p2) :
    MetFree l (⟨"jdk/internal/util/Preconditions", "checkIndex", "(IILjava/util/function/BiFunction;)I"⟩ : MethodName) (head1 (Jvm.Cond.code (⟨"jdk/internal/util/Preconditions", "checkIndex", "(IILjava/util/function/BiFunction;)I"⟩ : MethodName) jdk_41_method_11_code 3 (some .int) :: ws) ({ frames := 0, cells := 0, slots := 0, locals := 0 } : Room)) (fun a U => a = #[(.int p1), (.int p2), .null] ∧ Z.Warmed39 U.vm ∧ U.heap = h0) (fun _ _ _ _ _ => True) (fun _ U o U' => ∃ v L, o = .returned v ∧ Q11 Z p1 h0 n0 v U'.heap L ∧ FrameEnd U o U' L ({ frames := 0, cells := 0, slots := 0, locals := 0 } : Room).cells ({ frames := 0, cells := 0, slots := 0, locals := 0 } : Room).slots) := by
  refine MetFree.of_bodySF (plainFor_of_name pn_11) hisR ?_
  intro p e s m args below meth c s₁ Bd hml0 hP hK
  obtain ⟨rfl, hZ, hh⟩ := hP
  have hx := Bd.exec
  have hby := Bd.bytes
  have hml : c.maxLocals = 3 := hml0
  have hown : s.vm.findClass "jdk/internal/util/Preconditions" = some m.cls := findClass_of_methodNamed Bd.named
  have hnm := (name_of_methodNamed Bd.named Bd.method).1
  have X0 : Stand p l e ({ frames := 0, cells := 0, slots := 0, locals := 0 } : Room) s m #[(.int p1), (.int p2), .null] below meth c s₁ [] 0 0 := Stand.of_body Bd
  have e0 : s₁.heap = h0 := by rw [← hh, Bd.state]; rfl
  have N0 := Fr.nil n0
  have pre0 : ∀ t, Steps p.tables e below (s₁.setTop (mkF m 0 #[.val (.int p1), .val (.int p2), .val .null] [])) t → Steps p.tables e below (s₁.setTop (entryFrame m #[(.int p1), (.int p2), .null] 3)) t := fun t k => castTop (ef_11n m p1 p2) k

  obtain ⟨fs, hr, hrun, hended, hW, hsame⟩ := X0.leave (v := some (.int p1)) (fun h => by rw [Bd.returns] at h; cases h)
  refine ⟨_, _, pre0 _ ?_, hrun, hended, _, _, rfl, ?_, ⟨_, rfl⟩, hW, hsame.mono (by decide) (by decide)⟩
  · show Steps p.tables e below (s₁.setTop (mkF m 0 #[.val (.int p1), .val (.int p2), .val .null] [])) _
    refine XS.iloadN X0.here hx rfl (hb hby d11_0) rfl ?_
    show Steps p.tables e below (s₁.setTop (mkF m 1 #[.val (.int p1), .val (.int p2), .val .null] [(.int p1)])) _
    refine XS.ifNo X0.here hx rfl (hb hby d11_1) rfl ((if0 _ _).trans (flt hc1).1) ?_
    show Steps p.tables e below (s₁.setTop (mkF m 4 #[.val (.int p1), .val (.int p2), .val .null] [])) _
    refine XS.iloadN X0.here hx rfl (hb hby d11_4) rfl ?_
    show Steps p.tables e below (s₁.setTop (mkF m 5 #[.val (.int p1), .val (.int p2), .val .null] [(.int p1)])) _
    refine XS.iloadN X0.here hx rfl (hb hby d11_5) rfl ?_
    show Steps p.tables e below (s₁.setTop (mkF m 6 #[.val (.int p1), .val (.int p2), .val .null] [(.int p2), (.int p1)])) _
    refine XS.icmpYes X0.here hx rfl (pc0 := 6) (pc' := 16) rfl (hb hby d11_6) rfl (tlt hc6).1 (by decide) (by decide) ?_
    show Steps p.tables e below (s₁.setTop (mkF m 16 #[.val (.int p1), .val (.int p2), .val .null] [])) _
    refine XS.iloadN X0.here hx rfl (hb hby d11_16) rfl ?_
    show Steps p.tables e below (s₁.setTop (mkF m 17 #[.val (.int p1), .val (.int p2), .val .null] [(.int p1)])) _
    exact retI X0 hx Bd.returns (hb hby d11_17) hr
  · show Q11 Z p1 h0 n0 _ s₁.heap _
    rw [e0]
    exact ⟨rfl, N0, rfl⟩
theorem d10_0 : decode jdk_42_method_155_code 0 = .ok (.iload_n 0, 1) := by decide +kernel
theorem d10_1 : decode jdk_42_method_155_code 1 = .ok (.iload_n 1, 1) := by decide +kernel
theorem d10_2 : decode jdk_42_method_155_code 2 = .ok (.getstatic 1053, 3) := by decide +kernel
theorem d10_5 : decode jdk_42_method_155_code 5 = .ok (.invokestatic 1059, 3) := by decide +kernel
theorem d10_8 : decode jdk_42_method_155_code 8 = .ok (.pop, 1) := by decide +kernel
theorem d10_9 : decode jdk_42_method_155_code 9 = .ok (.return_, 1) := by decide +kernel
theorem pn_10 : plainName "java/lang/String" = true := by first | (simp [plainName, overriddenIn]; done) | decide +kernel
theorem pd_10_11 : parseMethodDescriptor "(IILjava/util/function/BiFunction;)I" = some ⟨[.int, .int, (.object "java/util/function/BiFunction")], some .int⟩ := by decide +kernel
theorem ef_10 (m : MethodId) (x0 : Int32) (x1 : Int32) : entryFrame m #[(.int x0), (.int x1)] 2 = mkF m 0 #[.val (.int x0), .val (.int x1)] [] := by first | (simp [entryFrame, mkF, argsToLocals, Value.category]; done) | rfl
def Q10 (Z : State) (h0 : Heap) (n0 : Nat) (v : Option Value) (h : Heap) (L : List Loc) : Prop := v = none ∧ Fr n0 L ∧ h = h0
set_option maxRecDepth 65536 in
set_option maxHeartbeats 40000000 in
theorem rm10r (l : Launch) (Z : State) (a0 : Array Value) (hw : ∀ d ∈ tables_1, d.before a0 Z = true) (ws : List Jvm.Cond) (p1 : Int32) (p2 : Int32) (w3 : Addr) (h0 : Heap) (n0 : Nat) (Z0 : n0 ≤ h0.size) (S_SIOOBE_FORMATTER : Sta Z h0 "jdk/internal/util/Preconditions" "SIOOBE_FORMATTER" "Ljava/util/function/BiFunction;" (.ref w3)) (hc1 : ¬ (p1 < (0 : Int32))) (hc6 : p1 < p2) :
    MetFree l (⟨"java/lang/String", "checkIndex", "(II)V"⟩ : MethodName) (head1 (Jvm.Cond.code (⟨"java/lang/String", "checkIndex", "(II)V"⟩ : MethodName) jdk_42_method_155_code 2 none :: ws) ({ frames := 1, cells := 0, slots := 0, locals := 14 } : Room)) (fun a U => a = #[(.int p1), (.int p2)] ∧ Z.Warmed39 U.vm ∧ U.heap = h0) (fun _ _ _ _ _ => True) (fun _ U o U' => ∃ v L, o = .returned v ∧ Q10 Z h0 n0 v U'.heap L ∧ FrameEnd U o U' L ({ frames := 1, cells := 0, slots := 0, locals := 14 } : Room).cells ({ frames := 1, cells := 0, slots := 0, locals := 14 } : Room).slots) := by
  refine MetFree.of_bodySF (plainFor_of_name pn_10) hisR ?_
  intro p e s m args below meth c s₁ Bd hml0 hP hK
  obtain ⟨rfl, hZ, hh⟩ := hP
  have hx := Bd.exec
  have hby := Bd.bytes
  have hml : c.maxLocals = 2 := hml0
  have hown : s.vm.findClass "java/lang/String" = some m.cls := findClass_of_methodNamed Bd.named
  have hnm := (name_of_methodNamed Bd.named Bd.method).1
  have X0 : Stand p l e ({ frames := 1, cells := 0, slots := 0, locals := 14 } : Room) s m #[(.int p1), (.int p2)] below meth c s₁ [] 0 0 := Stand.of_body Bd
  have e0 : s₁.heap = h0 := by rw [← hh, Bd.state]; rfl
  have N0 := Fr.nil n0
  have pre0 : ∀ t, Steps p.tables e below (s₁.setTop (mkF m 0 #[.val (.int p1), .val (.int p2)] [])) t → Steps p.tables e below (s₁.setTop (entryFrame m #[(.int p1), (.int p2)] 2)) t := fun t k => castTop (ef_10 m p1 p2) k
  obtain ⟨T4, X4, e4, st4⟩ := getS2 X0 hx hZ hown (host := "") (Or.inl (hw _ (List.mem_of_getElem? (i := 61) rfl))) Via.refl e0 S_SIOOBE_FORMATTER (g := (mkF m 2 #[.val (.int p1), .val (.int p2)] [(.int p2), (.int p1)])) rfl (hb hby d10_2)
  obtain ⟨_, _, ⟨T5, L5, k5, n5⟩, -, X5, ⟨Lc5, hQ5, l5, y5, z5⟩, st5⟩ := Jvm.LawKit.callS X4 hx (y := (⟨"jdk/internal/util/Preconditions", "checkIndex", "(IILjava/util/function/BiFunction;)I"⟩ : MethodName)) hown (mvT hZ (hw _ (List.mem_of_getElem? (i := 63) rfl))) (mvT hZ (hw _ (List.mem_of_getElem? (i := 64) rfl))) (mvT hZ (hw _ (List.mem_of_getElem? (i := 62) rfl))) (mvT hZ (hw _ (List.mem_of_getElem? (i := 65) rfl))) (by decide) (backOf (W := 0) (rm11 l Z a0 hw [] p1 p2 w3  h0 n0 Z0 hc1 hc6) hZ (hw _ (List.mem_of_getElem? (i := 65) rfl)) (hw _ (List.mem_of_getElem? (i := 62) rfl)) (by decide) (by decide)) (g := (mkF m 5 #[.val (.int p1), .val (.int p2)] [(.ref w3), (.int p2), (.int p1)])) rfl (by rw [hml]; rfl) (argsL := [(.int p1), (.int p2), (.ref w3)]) (rest := []) (lenOf pd_10_11 rfl) rfl (by show 2 * 0 + _ ≤ _; exact Nat.le_of_eq rfl) (hb hby d10_5) (fun _ _ => ⟨rfl, e4, (by decide : 0 + 0 ≤ _), (by decide : 0 + 0 ≤ _)⟩)
  dsimp only [Pt.U, Pt.locs, Pt.cells, Pt.slots] at X5 l5 y5 z5 st5 hQ5
  have y5' : k5 = 0 := y5
  have z5' : n5 = 0 := z5
  clear y5 z5
  subst y5' z5'
  obtain ⟨rfl, N5q, e5q0⟩ := hQ5
  have e5q : T5.heap = h0 := e5q0
  have N5 : Fr n0 L5 := by rw [l5]; exact Fr.app N0 N5q
  obtain ⟨fs, hr, hrun, hended, hW, hsame⟩ := X5.leave (v := none) (fun _ => rfl)
  refine ⟨_, _, pre0 _ ?_, hrun, hended, _, _, rfl, ?_, ⟨_, rfl⟩, hW, hsame.mono (by decide) (by decide)⟩
  · show Steps p.tables e below (s₁.setTop (mkF m 0 #[.val (.int p1), .val (.int p2)] [])) _
    refine XS.iloadN X0.here hx rfl (hb hby d10_0) rfl ?_
    show Steps p.tables e below (s₁.setTop (mkF m 1 #[.val (.int p1), .val (.int p2)] [(.int p1)])) _
    refine XS.iloadN X0.here hx rfl (hb hby d10_1) rfl ?_
    show Steps p.tables e below (s₁.setTop (mkF m 2 #[.val (.int p1), .val (.int p2)] [(.int p2), (.int p1)])) _
    refine st4 _ ?_
    show Steps p.tables e below (T4.setTop (mkF m 5 #[.val (.int p1), .val (.int p2)] [(.ref w3), (.int p2), (.int p1)])) _
    refine st5 _ ?_
    show Steps p.tables e below (T5.setTop (mkF m 8 #[.val (.int p1), .val (.int p2)] [(.int p1)])) _
    refine XS.pop X5.here hx rfl (hb hby d10_8) rfl rfl ?_
    show Steps p.tables e below (T5.setTop (mkF m 9 #[.val (.int p1), .val (.int p2)] [])) _
    exact X5.returnOut hx Bd.returns (hb hby d10_9) hr
  · show Q10 Z h0 n0 _ T5.heap _
    rw [e5q]
    exact ⟨rfl, N5, rfl⟩
set_option maxRecDepth 65536 in
set_option maxHeartbeats 40000000 in
theorem rm10n (l : Launch) (Z : State) (a0 : Array Value) (hw : ∀ d ∈ tables_1, d.before a0 Z = true) (ws : List Jvm.Cond) (p1 : Int32) (p2 : Int32) (h0 : Heap) (n0 : Nat) (Z0 : n0 ≤ h0.size) (S_SIOOBE_FORMATTER : Sta Z h0 "jdk/internal/util/Preconditions" "SIOOBE_FORMATTER" "Ljava/util/function/BiFunction;" .null) (hc1 : ¬ (p1 < (0 : Int32))) (hc6 : p1 < p2) :
    MetFree l (⟨"java/lang/String", "checkIndex", "(II)V"⟩ : MethodName) (head1 (Jvm.Cond.code (⟨"java/lang/String", "checkIndex", "(II)V"⟩ : MethodName) jdk_42_method_155_code 2 none :: ws) ({ frames := 1, cells := 0, slots := 0, locals := 14 } : Room)) (fun a U => a = #[(.int p1), (.int p2)] ∧ Z.Warmed39 U.vm ∧ U.heap = h0) (fun _ _ _ _ _ => True) (fun _ U o U' => ∃ v L, o = .returned v ∧ Q10 Z h0 n0 v U'.heap L ∧ FrameEnd U o U' L ({ frames := 1, cells := 0, slots := 0, locals := 14 } : Room).cells ({ frames := 1, cells := 0, slots := 0, locals := 14 } : Room).slots) := by
  refine MetFree.of_bodySF (plainFor_of_name pn_10) hisR ?_
  intro p e s m args below meth c s₁ Bd hml0 hP hK
  obtain ⟨rfl, hZ, hh⟩ := hP
  have hx := Bd.exec
  have hby := Bd.bytes
  have hml : c.maxLocals = 2 := hml0
  have hown : s.vm.findClass "java/lang/String" = some m.cls := findClass_of_methodNamed Bd.named
  have hnm := (name_of_methodNamed Bd.named Bd.method).1
  have X0 : Stand p l e ({ frames := 1, cells := 0, slots := 0, locals := 14 } : Room) s m #[(.int p1), (.int p2)] below meth c s₁ [] 0 0 := Stand.of_body Bd
  have e0 : s₁.heap = h0 := by rw [← hh, Bd.state]; rfl
  have N0 := Fr.nil n0
  have pre0 : ∀ t, Steps p.tables e below (s₁.setTop (mkF m 0 #[.val (.int p1), .val (.int p2)] [])) t → Steps p.tables e below (s₁.setTop (entryFrame m #[(.int p1), (.int p2)] 2)) t := fun t k => castTop (ef_10 m p1 p2) k
  obtain ⟨T4, X4, e4, st4⟩ := getS2 X0 hx hZ hown (host := "") (Or.inl (hw _ (List.mem_of_getElem? (i := 61) rfl))) Via.refl e0 S_SIOOBE_FORMATTER (g := (mkF m 2 #[.val (.int p1), .val (.int p2)] [(.int p2), (.int p1)])) rfl (hb hby d10_2)
  obtain ⟨_, _, ⟨T5, L5, k5, n5⟩, -, X5, ⟨Lc5, hQ5, l5, y5, z5⟩, st5⟩ := Jvm.LawKit.callS X4 hx (y := (⟨"jdk/internal/util/Preconditions", "checkIndex", "(IILjava/util/function/BiFunction;)I"⟩ : MethodName)) hown (mvT hZ (hw _ (List.mem_of_getElem? (i := 63) rfl))) (mvT hZ (hw _ (List.mem_of_getElem? (i := 64) rfl))) (mvT hZ (hw _ (List.mem_of_getElem? (i := 62) rfl))) (mvT hZ (hw _ (List.mem_of_getElem? (i := 65) rfl))) (by decide) (backOf (W := 0) (rm11n l Z a0 hw [] p1 p2  h0 n0 Z0 hc1 hc6) hZ (hw _ (List.mem_of_getElem? (i := 65) rfl)) (hw _ (List.mem_of_getElem? (i := 62) rfl)) (by decide) (by decide)) (g := (mkF m 5 #[.val (.int p1), .val (.int p2)] [.null, (.int p2), (.int p1)])) rfl (by rw [hml]; rfl) (argsL := [(.int p1), (.int p2), .null]) (rest := []) (lenOf pd_10_11 rfl) rfl (by show 2 * 0 + _ ≤ _; exact Nat.le_of_eq rfl) (hb hby d10_5) (fun _ _ => ⟨rfl, e4, (by decide : 0 + 0 ≤ _), (by decide : 0 + 0 ≤ _)⟩)
  dsimp only [Pt.U, Pt.locs, Pt.cells, Pt.slots] at X5 l5 y5 z5 st5 hQ5
  have y5' : k5 = 0 := y5
  have z5' : n5 = 0 := z5
  clear y5 z5
  subst y5' z5'
  obtain ⟨rfl, N5q, e5q0⟩ := hQ5
  have e5q : T5.heap = h0 := e5q0
  have N5 : Fr n0 L5 := by rw [l5]; exact Fr.app N0 N5q
  obtain ⟨fs, hr, hrun, hended, hW, hsame⟩ := X5.leave (v := none) (fun _ => rfl)
  refine ⟨_, _, pre0 _ ?_, hrun, hended, _, _, rfl, ?_, ⟨_, rfl⟩, hW, hsame.mono (by decide) (by decide)⟩
  · show Steps p.tables e below (s₁.setTop (mkF m 0 #[.val (.int p1), .val (.int p2)] [])) _
    refine XS.iloadN X0.here hx rfl (hb hby d10_0) rfl ?_
    show Steps p.tables e below (s₁.setTop (mkF m 1 #[.val (.int p1), .val (.int p2)] [(.int p1)])) _
    refine XS.iloadN X0.here hx rfl (hb hby d10_1) rfl ?_
    show Steps p.tables e below (s₁.setTop (mkF m 2 #[.val (.int p1), .val (.int p2)] [(.int p2), (.int p1)])) _
    refine st4 _ ?_
    show Steps p.tables e below (T4.setTop (mkF m 5 #[.val (.int p1), .val (.int p2)] [.null, (.int p2), (.int p1)])) _
    refine st5 _ ?_
    show Steps p.tables e below (T5.setTop (mkF m 8 #[.val (.int p1), .val (.int p2)] [(.int p1)])) _
    refine XS.pop X5.here hx rfl (hb hby d10_8) rfl rfl ?_
    show Steps p.tables e below (T5.setTop (mkF m 9 #[.val (.int p1), .val (.int p2)] [])) _
    exact X5.returnOut hx Bd.returns (hb hby d10_9) hr
  · show Q10 Z h0 n0 _ T5.heap _
    rw [e5q]
    exact ⟨rfl, N5, rfl⟩
theorem rm10 (l : Launch) (Z : State) (a0 : Array Value) (hw : ∀ d ∈ tables_1, d.before a0 Z = true) (ws : List Jvm.Cond) (p1 : Int32) (p2 : Int32) (G3 : Value) (h0 : Heap) (n0 : Nat) (Z0 : n0 ≤ h0.size) (rG3 : G3.isRef = true) (S_SIOOBE_FORMATTER : Sta Z h0 "jdk/internal/util/Preconditions" "SIOOBE_FORMATTER" "Ljava/util/function/BiFunction;" G3) (hc1 : ¬ (p1 < (0 : Int32))) (hc6 : p1 < p2) :
    MetFree l (⟨"java/lang/String", "checkIndex", "(II)V"⟩ : MethodName) (head1 (Jvm.Cond.code (⟨"java/lang/String", "checkIndex", "(II)V"⟩ : MethodName) jdk_42_method_155_code 2 none :: ws) ({ frames := 1, cells := 0, slots := 0, locals := 14 } : Room)) (fun a U => a = #[(.int p1), (.int p2)] ∧ Z.Warmed39 U.vm ∧ U.heap = h0) (fun _ _ _ _ _ => True) (fun _ U o U' => ∃ v L, o = .returned v ∧ Q10 Z h0 n0 v U'.heap L ∧ FrameEnd U o U' L ({ frames := 1, cells := 0, slots := 0, locals := 14 } : Room).cells ({ frames := 1, cells := 0, slots := 0, locals := 14 } : Room).slots) := by
  cases G3 with
  | ref a => exact rm10r l Z a0 hw ws p1 p2 a h0 n0 Z0 S_SIOOBE_FORMATTER hc1 hc6
  | null => exact rm10n l Z a0 hw ws p1 p2 h0 n0 Z0 S_SIOOBE_FORMATTER hc1 hc6
  | _ => simp [Value.isRef] at rG3
theorem d9_0 : decode jdk_43_method_2_code 0 = .ok (.iload_n 1, 1) := by decide +kernel
theorem d9_1 : decode jdk_43_method_2_code 1 = .ok (.aload_n 0, 1) := by decide +kernel
theorem d9_2 : decode jdk_43_method_2_code 2 = .ok (.arraylength, 1) := by decide +kernel
theorem d9_3 : decode jdk_43_method_2_code 3 = .ok (.invokestatic 9, 3) := by decide +kernel
theorem d9_6 : decode jdk_43_method_2_code 6 = .ok (.aload_n 0, 1) := by decide +kernel
theorem d9_7 : decode jdk_43_method_2_code 7 = .ok (.iload_n 1, 1) := by decide +kernel
theorem d9_8 : decode jdk_43_method_2_code 8 = .ok (.baload, 1) := by decide +kernel
theorem d9_9 : decode jdk_43_method_2_code 9 = .ok (.sipush 255, 3) := by decide +kernel
theorem d9_12 : decode jdk_43_method_2_code 12 = .ok (.iand, 1) := by decide +kernel
theorem d9_13 : decode jdk_43_method_2_code 13 = .ok (.i2c, 1) := by decide +kernel
theorem d9_14 : decode jdk_43_method_2_code 14 = .ok (.ireturn, 1) := by decide +kernel
theorem pn_9 : plainName "java/lang/StringLatin1" = true := by first | (simp [plainName, overriddenIn]; done) | decide +kernel
theorem pd_9_10 : parseMethodDescriptor "(II)V" = some ⟨[.int, .int], none⟩ := by decide +kernel
theorem ef_9 (m : MethodId) (x0 : Addr) (x1 : Int32) : entryFrame m #[(.ref x0), (.int x1)] 2 = mkF m 0 #[.val (.ref x0), .val (.int x1)] [] := by first | (simp [entryFrame, mkF, argsToLocals, Value.category]; done) | rfl
def Q9 (Z : State) (w4 : Int32) (h0 : Heap) (n0 : Nat) (v : Option Value) (h : Heap) (L : List Loc) : Prop := v = some (.int (((w4 &&& (255 : Int32)).toUInt32.toUInt16.toUInt32.toInt32).toUInt32.toUInt16.toUInt32.toInt32)) ∧ Fr n0 L ∧ h = h0
set_option maxRecDepth 65536 in
set_option maxHeartbeats 40000000 in
theorem rm9 (l : Launch) (Z : State) (a0 : Array Value) (hw : ∀ d ∈ tables_1, d.before a0 Z = true) (ws : List Jvm.Cond) (a1 : Addr) (p2 : Int32) (cl_a1 : Cell) (z_a1 : Int32) (w4 : Int32) (G3 : Value) (h0 : Heap) (n0 : Nat) (Z0 : n0 ≤ h0.size) (Ar_a1 : Arr Z h0 a1 cl_a1 .byte) (S_a1 : cl_a1.slots.size = z_a1.toNatClampNeg) (N_a1 : ¬ z_a1 < 0) (hin8 : ¬ (p2 < 0 ∨ cl_a1.slots.size ≤ (p2).toNatClampNeg)) (hat8 : cl_a1.slots[(p2).toNatClampNeg]? = some (.int w4)) (rG3 : G3.isRef = true) (S_SIOOBE_FORMATTER : Sta Z h0 "jdk/internal/util/Preconditions" "SIOOBE_FORMATTER" "Ljava/util/function/BiFunction;" G3) (hc1 : ¬ (p2 < (0 : Int32))) (hc6 : p2 < z_a1) :
    MetFree l (⟨"java/lang/StringLatin1", "charAt", "([BI)C"⟩ : MethodName) (head1 (Jvm.Cond.code (⟨"java/lang/StringLatin1", "charAt", "([BI)C"⟩ : MethodName) jdk_43_method_2_code 2 (some .char) :: ws) ({ frames := 2, cells := 0, slots := 0, locals := 27 } : Room)) (fun a U => a = #[(.ref a1), (.int p2)] ∧ Z.Warmed39 U.vm ∧ U.heap = h0) (fun _ _ _ _ _ => True) (fun _ U o U' => ∃ v L, o = .returned v ∧ Q9 Z w4 h0 n0 v U'.heap L ∧ FrameEnd U o U' L ({ frames := 2, cells := 0, slots := 0, locals := 27 } : Room).cells ({ frames := 2, cells := 0, slots := 0, locals := 27 } : Room).slots) := by
  refine MetFree.of_bodySF (plainFor_of_name pn_9) hisR ?_
  intro p e s m args below meth c s₁ Bd hml0 hP hK
  obtain ⟨rfl, hZ, hh⟩ := hP
  have hx := Bd.exec
  have hby := Bd.bytes
  have hml : c.maxLocals = 2 := hml0
  have hown : s.vm.findClass "java/lang/StringLatin1" = some m.cls := findClass_of_methodNamed Bd.named
  have hnm := (name_of_methodNamed Bd.named Bd.method).1
  have X0 : Stand p l e ({ frames := 2, cells := 0, slots := 0, locals := 27 } : Room) s m #[(.ref a1), (.int p2)] below meth c s₁ [] 0 0 := Stand.of_body Bd
  have e0 : s₁.heap = h0 := by rw [← hh, Bd.state]; rfl
  have N0 := Fr.nil n0
  have pre0 : ∀ t, Steps p.tables e below (s₁.setTop (mkF m 0 #[.val (.ref a1), .val (.int p2)] [])) t → Steps p.tables e below (s₁.setTop (entryFrame m #[(.ref a1), (.int p2)] 2)) t := fun t k => castTop (ef_9 m a1 p2) k
  obtain ⟨_, _, ⟨T3, L3, k3, n3⟩, -, X3, ⟨Lc3, hQ3, l3, y3, z3⟩, st3⟩ := Jvm.LawKit.callS X0 hx (y := (⟨"java/lang/String", "checkIndex", "(II)V"⟩ : MethodName)) hown (mvT hZ (hw _ (List.mem_of_getElem? (i := 58) rfl))) (mvT hZ (hw _ (List.mem_of_getElem? (i := 59) rfl))) (mvT hZ (hw _ (List.mem_of_getElem? (i := 35) rfl))) (mvT hZ (hw _ (List.mem_of_getElem? (i := 60) rfl))) (by decide) (backOf (W := 0) (rm10 l Z a0 hw [] p2 z_a1 G3 h0 n0 Z0 rG3 S_SIOOBE_FORMATTER hc1 hc6) hZ (hw _ (List.mem_of_getElem? (i := 60) rfl)) (hw _ (List.mem_of_getElem? (i := 35) rfl)) (by decide) (by decide)) (g := (mkF m 3 #[.val (.ref a1), .val (.int p2)] [(.int z_a1), (.int p2)])) rfl (by rw [hml]; rfl) (argsL := [(.int p2), (.int z_a1)]) (rest := []) (lenOf pd_9_10 rfl) rfl (by show 2 * 0 + _ ≤ _; exact Nat.le_of_eq rfl) (hb hby d9_3) (fun _ _ => ⟨rfl, e0, (by decide : 0 + 0 ≤ _), (by decide : 0 + 0 ≤ _)⟩)
  dsimp only [Pt.U, Pt.locs, Pt.cells, Pt.slots] at X3 l3 y3 z3 st3 hQ3
  have y3' : k3 = 0 := y3
  have z3' : n3 = 0 := z3
  clear y3 z3
  subst y3' z3'
  obtain ⟨rfl, N3q, e3q0⟩ := hQ3
  have e3q : T3.heap = h0 := e3q0
  have N3 : Fr n0 L3 := by rw [l3]; exact Fr.app N0 N3q
  obtain ⟨fs, hr, hrun, hended, hW, hsame⟩ := X3.leave (v := some (.int (((w4 &&& (255 : Int32)).toUInt32.toUInt16.toUInt32.toInt32).toUInt32.toUInt16.toUInt32.toInt32))) (fun h => by rw [Bd.returns] at h; cases h)
  refine ⟨_, _, pre0 _ ?_, hrun, hended, _, _, rfl, ?_, ⟨_, rfl⟩, hW, hsame.mono (by decide) (by decide)⟩
  · show Steps p.tables e below (s₁.setTop (mkF m 0 #[.val (.ref a1), .val (.int p2)] [])) _
    refine XS.iloadN X0.here hx rfl (hb hby d9_0) rfl ?_
    show Steps p.tables e below (s₁.setTop (mkF m 1 #[.val (.ref a1), .val (.int p2)] [(.int p2)])) _
    refine XS.aloadN X0.here hx rfl (hb hby d9_1) rfl rfl ?_
    show Steps p.tables e below (s₁.setTop (mkF m 2 #[.val (.ref a1), .val (.int p2)] [(.ref a1), (.int p2)])) _
    refine X0.arraylength hx (by rw [e0]; exact Ar_a1.1) (State.isArrayOf_alike hZ.alike Ar_a1.2.1) (g := (mkF m 2 #[.val (.ref a1), .val (.int p2)] [(.ref a1), (.int p2)])) rfl rfl (hb hby d9_2) _ ?_
    rw [len_of S_a1 N_a1]
    show Steps p.tables e below (s₁.setTop (mkF m 3 #[.val (.ref a1), .val (.int p2)] [(.int z_a1), (.int p2)])) _
    refine st3 _ ?_
    show Steps p.tables e below (T3.setTop (mkF m 6 #[.val (.ref a1), .val (.int p2)] [])) _
    refine XS.aloadN X3.here hx rfl (hb hby d9_6) rfl rfl ?_
    show Steps p.tables e below (T3.setTop (mkF m 7 #[.val (.ref a1), .val (.int p2)] [(.ref a1)])) _
    refine XS.iloadN X3.here hx rfl (hb hby d9_7) rfl ?_
    show Steps p.tables e below (T3.setTop (mkF m 8 #[.val (.ref a1), .val (.int p2)] [(.int p2), (.ref a1)])) _
    refine X3.baloadBytes hx (j := p2) (v := (.int w4)) (by rw [e3q]; exact Ar_a1.1) (State.isArrayOf_alike hZ.alike Ar_a1.2.1) Ar_a1.2.2 hin8 hat8 (g := (mkF m 8 #[.val (.ref a1), .val (.int p2)] [(.int p2), (.ref a1)])) rfl rfl (hb hby d9_8) _ ?_
    show Steps p.tables e below (T3.setTop (mkF m 9 #[.val (.ref a1), .val (.int p2)] [(.int w4)])) _
    refine XS.sipush X3.here hx rfl (hb hby d9_9) ?_
    show Steps p.tables e below (T3.setTop (mkF m 12 #[.val (.ref a1), .val (.int p2)] [(.int (255 : Int32)), (.int w4)])) _
    refine XS.iand X3.here hx rfl (hb hby d9_12) rfl ?_
    show Steps p.tables e below (T3.setTop (mkF m 13 #[.val (.ref a1), .val (.int p2)] [(.int (w4 &&& (255 : Int32)))])) _
    refine XS.i2c X3.here hx rfl (hb hby d9_13) rfl ?_
    show Steps p.tables e below (T3.setTop (mkF m 14 #[.val (.ref a1), .val (.int p2)] [(.int ((w4 &&& (255 : Int32)).toUInt32.toUInt16.toUInt32.toInt32))])) _
    exact retN X3 hx (t := .char) Bd.returns (by simp) (hb hby d9_14) hr
  · show Q9 Z w4 h0 n0 _ T3.heap _
    rw [e3q]
    exact ⟨rfl, N3, rfl⟩
theorem d8_0 : decode jdk_42_method_154_code 0 = .ok (.getstatic 38, 3) := by decide +kernel
theorem d8_3 : decode jdk_42_method_154_code 3 = .ok (.ifCond .eq 14, 3) := by decide +kernel
theorem d8_6 : decode jdk_42_method_154_code 6 = .ok (.aload_n 0, 1) := by decide +kernel
theorem d8_7 : decode jdk_42_method_154_code 7 = .ok (.getfield 15, 3) := by decide +kernel
theorem d8_10 : decode jdk_42_method_154_code 10 = .ok (.ifCond .ne 7, 3) := by decide +kernel
theorem d8_13 : decode jdk_42_method_154_code 13 = .ok (.iconst 1, 1) := by decide +kernel
theorem d8_14 : decode jdk_42_method_154_code 14 = .ok (.goto 4, 3) := by decide +kernel
theorem d8_18 : decode jdk_42_method_154_code 18 = .ok (.ireturn, 1) := by decide +kernel
theorem pn_8 : plainName "java/lang/String" = true := by first | (simp [plainName, overriddenIn]; done) | decide +kernel
theorem ef_8 (m : MethodId) (x0 : Addr) : entryFrame m #[(.ref x0)] 1 = mkF m 0 #[.val (.ref x0)] [] := by first | (simp [entryFrame, mkF, argsToLocals, Value.category]; done) | rfl
def Q8 (Z : State) (h0 : Heap) (n0 : Nat) (v : Option Value) (h : Heap) (L : List Loc) : Prop := v = some (.int (1 : Int32)) ∧ Fr n0 L ∧ h = h0
set_option maxRecDepth 65536 in
set_option maxHeartbeats 40000000 in
theorem rm8 (l : Launch) (Z : State) (a0 : Array Value) (hw : ∀ d ∈ tables_1, d.before a0 Z = true) (ws : List Jvm.Cond) (a1 : Addr) (w2 : Int32) (w4 : Int32) (h0 : Heap) (n0 : Nat) (Z0 : n0 ≤ h0.size) (S_COMPACT_STRINGS : Sta Z h0 "java/lang/String" "COMPACT_STRINGS" "Z" (.int w2)) (F_coder_a1 : Fld Z h0 a1 "java/lang/String" "coder" "B" (.int w4)) (hc3 : ¬ (w2 = (0 : Int32))) (hc10 : w4 = (0 : Int32)) :
    MetFree l (⟨"java/lang/String", "isLatin1", "()Z"⟩ : MethodName) (head1 (Jvm.Cond.code (⟨"java/lang/String", "isLatin1", "()Z"⟩ : MethodName) jdk_42_method_154_code 1 (some .boolean) :: ws) ({ frames := 0, cells := 0, slots := 0, locals := 0 } : Room)) (fun a U => a = #[(.ref a1)] ∧ Z.Warmed39 U.vm ∧ U.heap = h0) (fun _ _ _ _ _ => True) (fun _ U o U' => ∃ v L, o = .returned v ∧ Q8 Z h0 n0 v U'.heap L ∧ FrameEnd U o U' L ({ frames := 0, cells := 0, slots := 0, locals := 0 } : Room).cells ({ frames := 0, cells := 0, slots := 0, locals := 0 } : Room).slots) := by
  refine MetFree.of_bodySF (plainFor_of_name pn_8) hisR ?_
  intro p e s m args below meth c s₁ Bd hml0 hP hK
  obtain ⟨rfl, hZ, hh⟩ := hP
  have hx := Bd.exec
  have hby := Bd.bytes
  have hml : c.maxLocals = 1 := hml0
  have hown : s.vm.findClass "java/lang/String" = some m.cls := findClass_of_methodNamed Bd.named
  have hnm := (name_of_methodNamed Bd.named Bd.method).1
  have X0 : Stand p l e ({ frames := 0, cells := 0, slots := 0, locals := 0 } : Room) s m #[(.ref a1)] below meth c s₁ [] 0 0 := Stand.of_body Bd
  have e0 : s₁.heap = h0 := by rw [← hh, Bd.state]; rfl
  have N0 := Fr.nil n0
  have pre0 : ∀ t, Steps p.tables e below (s₁.setTop (mkF m 0 #[.val (.ref a1)] [])) t → Steps p.tables e below (s₁.setTop (entryFrame m #[(.ref a1)] 1)) t := fun t k => castTop (ef_8 m a1) k
  obtain ⟨T3, X3, e3, st3⟩ := getS2 X0 hx hZ hown (host := "") (Or.inl (hw _ (List.mem_of_getElem? (i := 51) rfl))) Via.refl e0 S_COMPACT_STRINGS (g := (mkF m 0 #[.val (.ref a1)] [])) rfl (hb hby d8_0)
  obtain ⟨T5, X5, e5, st5⟩ := getF X3 hx hZ hown (host := "") (Or.inl (hw _ (List.mem_of_getElem? (i := 52) rfl))) Via.refl e3 F_coder_a1 (g := (mkF m 7 #[.val (.ref a1)] [(.ref a1)])) rfl rfl (hb hby d8_7)
  obtain ⟨fs, hr, hrun, hended, hW, hsame⟩ := X5.leave (v := some (.int (1 : Int32))) (fun h => by rw [Bd.returns] at h; cases h)
  refine ⟨_, _, pre0 _ ?_, hrun, hended, _, _, rfl, ?_, ⟨_, rfl⟩, hW, hsame.mono (by decide) (by decide)⟩
  · show Steps p.tables e below (s₁.setTop (mkF m 0 #[.val (.ref a1)] [])) _
    refine st3 _ ?_
    show Steps p.tables e below (T3.setTop (mkF m 3 #[.val (.ref a1)] [(.int w2)])) _
    refine XS.ifNo X3.here hx rfl (hb hby d8_3) rfl ((if0 _ _).trans (feq hc3).1) ?_
    show Steps p.tables e below (T3.setTop (mkF m 6 #[.val (.ref a1)] [])) _
    refine XS.aloadN X3.here hx rfl (hb hby d8_6) rfl rfl ?_
    show Steps p.tables e below (T3.setTop (mkF m 7 #[.val (.ref a1)] [(.ref a1)])) _
    refine st5 _ ?_
    show Steps p.tables e below (T5.setTop (mkF m 10 #[.val (.ref a1)] [(.int w4)])) _
    refine XS.ifNo X5.here hx rfl (hb hby d8_10) rfl ((if0 _ _).trans (teq hc10).2) ?_
    show Steps p.tables e below (T5.setTop (mkF m 13 #[.val (.ref a1)] [])) _
    refine XS.iconst X5.here hx rfl (hb hby d8_13) ?_
    show Steps p.tables e below (T5.setTop (mkF m 14 #[.val (.ref a1)] [(.int (1 : Int32))])) _
    refine XS.goto X5.here hx rfl (pc0 := 14) (pc' := 18) rfl (hb hby d8_14) (by decide) (by decide) ?_
    show Steps p.tables e below (T5.setTop (mkF m 18 #[.val (.ref a1)] [(.int (1 : Int32))])) _
    exact retN X5 hx (t := .boolean) Bd.returns (by simp) (hb hby d8_18) hr
  · show Q8 Z h0 n0 _ T5.heap _
    rw [e5]
    exact ⟨rfl, N0, rfl⟩
theorem d7_0 : decode jdk_42_method_56_code 0 = .ok (.aload_n 0, 1) := by decide +kernel
theorem d7_1 : decode jdk_42_method_56_code 1 = .ok (.invokevirtual 492, 3) := by decide +kernel
theorem d7_4 : decode jdk_42_method_56_code 4 = .ok (.ifCond .eq 12, 3) := by decide +kernel
theorem d7_7 : decode jdk_42_method_56_code 7 = .ok (.aload_n 0, 1) := by decide +kernel
theorem d7_8 : decode jdk_42_method_56_code 8 = .ok (.getfield 9, 3) := by decide +kernel
theorem d7_11 : decode jdk_42_method_56_code 11 = .ok (.iload_n 1, 1) := by decide +kernel
theorem d7_12 : decode jdk_42_method_56_code 12 = .ok (.invokestatic 495, 3) := by decide +kernel
theorem d7_15 : decode jdk_42_method_56_code 15 = .ok (.ireturn, 1) := by decide +kernel
theorem pn_7 : plainName "java/lang/String" = true := by first | (simp [plainName, overriddenIn]; done) | decide +kernel
theorem pd_7_8 : parseMethodDescriptor "()Z" = some ⟨[], some .boolean⟩ := by decide +kernel
theorem pd_7_9 : parseMethodDescriptor "([BI)C" = some ⟨[(.array .byte), .int], some .char⟩ := by decide +kernel
theorem ef_7 (m : MethodId) (x0 : Addr) (x1 : Int32) : entryFrame m #[(.ref x0), (.int x1)] 2 = mkF m 0 #[.val (.ref x0), .val (.int x1)] [] := by first | (simp [entryFrame, mkF, argsToLocals, Value.category]; done) | rfl
def Q7 (Z : State) (b4 : Int32) (h0 : Heap) (n0 : Nat) (v : Option Value) (h : Heap) (L : List Loc) : Prop := v = some (.int ((((b4 &&& (255 : Int32)).toUInt32.toUInt16.toUInt32.toInt32).toUInt32.toUInt16.toUInt32.toInt32).toUInt32.toUInt16.toUInt32.toInt32)) ∧ Fr n0 L ∧ h = h0
set_option maxRecDepth 65536 in
set_option maxHeartbeats 40000000 in
theorem rm7 (l : Launch) (Z : State) (a0 : Array Value) (hw : ∀ d ∈ tables_1, d.before a0 Z = true) (ws : List Jvm.Cond) (a1 : Addr) (p2 : Int32) (w4 : Addr) (cl_w4 : Cell) (z_w4 : Int32) (b4 : Int32) (G1 : Int32) (G3 : Value) (h0 : Heap) (n0 : Nat) (Z0 : n0 ≤ h0.size) (E_a1 : Exa Z h0 a1 "java/lang/String") (F_value_a1 : Fld Z h0 a1 "java/lang/String" "value" "[B" (.ref w4)) (F_coder : Fld Z h0 a1 "java/lang/String" "coder" "B" (.int 0)) (S_COMPACT : Sta Z h0 "java/lang/String" "COMPACT_STRINGS" "Z" (.int G1)) (hG1 : ¬ (G1 = (0 : Int32))) (Ar_w4 : Arr Z h0 w4 cl_w4 .byte) (S_w4 : cl_w4.slots.size = z_w4.toNatClampNeg) (N_w4 : ¬ z_w4 < 0) (hin : ¬ (p2 < 0 ∨ cl_w4.slots.size ≤ (p2).toNatClampNeg)) (hat : cl_w4.slots[(p2).toNatClampNeg]? = some (.int b4)) (rG3 : G3.isRef = true) (S_SIOOBE_FORMATTER : Sta Z h0 "jdk/internal/util/Preconditions" "SIOOBE_FORMATTER" "Ljava/util/function/BiFunction;" G3) (hc1 : ¬ (p2 < (0 : Int32))) (hc6 : p2 < z_w4) :
    MetFree l (⟨"java/lang/String", "charAt", "(I)C"⟩ : MethodName) (head1 (Jvm.Cond.code (⟨"java/lang/String", "charAt", "(I)C"⟩ : MethodName) jdk_42_method_56_code 2 (some .char) :: ws) ({ frames := 3, cells := 0, slots := 0, locals := 40 } : Room)) (fun a U => a = #[(.ref a1), (.int p2)] ∧ Z.Warmed39 U.vm ∧ U.heap = h0) (fun _ _ _ _ _ => True) (fun _ U o U' => ∃ v L, o = .returned v ∧ Q7 Z b4 h0 n0 v U'.heap L ∧ FrameEnd U o U' L ({ frames := 3, cells := 0, slots := 0, locals := 40 } : Room).cells ({ frames := 3, cells := 0, slots := 0, locals := 40 } : Room).slots) := by
  refine MetFree.of_bodySF (plainFor_of_name pn_7) hisR ?_
  intro p e s m args below meth c s₁ Bd hml0 hP hK
  obtain ⟨rfl, hZ, hh⟩ := hP
  have hx := Bd.exec
  have hby := Bd.bytes
  have hml : c.maxLocals = 2 := hml0
  have hown : s.vm.findClass "java/lang/String" = some m.cls := findClass_of_methodNamed Bd.named
  have hnm := (name_of_methodNamed Bd.named Bd.method).1
  have X0 : Stand p l e ({ frames := 3, cells := 0, slots := 0, locals := 40 } : Room) s m #[(.ref a1), (.int p2)] below meth c s₁ [] 0 0 := Stand.of_body Bd
  have e0 : s₁.heap = h0 := by rw [← hh, Bd.state]; rfl
  have N0 := Fr.nil n0
  have pre0 : ∀ t, Steps p.tables e below (s₁.setTop (mkF m 0 #[.val (.ref a1), .val (.int p2)] [])) t → Steps p.tables e below (s₁.setTop (entryFrame m #[(.ref a1), (.int p2)] 2)) t := fun t k => castTop (ef_7 m a1 p2) k
  obtain ⟨cq3, kq3, q3a, q3b, q3c⟩ := isOf hZ e0 E_a1
  obtain ⟨_, _, ⟨T3, L3, k3, n3⟩, -, X3, ⟨Lc3, hQ3, l3, y3, z3⟩, st3⟩ := X0.virtualBack hx (y := (⟨"java/lang/String", "isLatin1", "()Z"⟩ : MethodName)) (z := (⟨"java/lang/String", "isLatin1", "()Z"⟩ : MethodName)) hown (mvT hZ (hw _ (List.mem_of_getElem? (i := 46) rfl))) (mvT hZ (hw _ (List.mem_of_getElem? (i := 47) rfl))) (notFace_of_selects (args := #[]) (mvT hZ (hw _ (List.mem_of_getElem? (i := 49) rfl)))) (mvT hZ (hw _ (List.mem_of_getElem? (i := 49) rfl))) (mvT hZ (hw _ (List.mem_of_getElem? (i := 48) rfl))) (by decide) (backOf (W := 0) (rm8 l Z a0 hw [] a1 G1 (0 : Int32) h0 n0 Z0 S_COMPACT F_coder hG1 rfl) hZ (hw _ (List.mem_of_getElem? (i := 50) rfl)) (hw _ (List.mem_of_getElem? (i := 35) rfl)) (by decide) (by decide)) q3a q3c (g := (mkF m 1 #[.val (.ref a1), .val (.int p2)] [(.ref a1)])) rfl (by rw [hml]; rfl) (Steps.refl _) (argsL := []) (rest := []) (lenOf pd_7_8 rfl) rfl (by show 2 * 0 + _ ≤ _; exact Nat.le_of_eq rfl) (hb hby d7_1) (fun _ _ => ⟨rfl, e0, (by decide : 0 + 0 ≤ _), (by decide : 0 + 0 ≤ _)⟩)
  dsimp only [Pt.U, Pt.locs, Pt.cells, Pt.slots] at X3 l3 y3 z3 st3 hQ3
  have y3' : k3 = 0 := y3
  have z3' : n3 = 0 := z3
  clear y3 z3
  subst y3' z3'
  obtain ⟨rfl, N3q, e3q0⟩ := hQ3
  have e3q : T3.heap = h0 := e3q0
  have N3 : Fr n0 L3 := by rw [l3]; exact Fr.app N0 N3q
  obtain ⟨T5, X5, e5, st5⟩ := getF X3 hx hZ hown (host := "") (Or.inl (hw _ (List.mem_of_getElem? (i := 53) rfl))) Via.refl e3q F_value_a1 (g := (mkF m 8 #[.val (.ref a1), .val (.int p2)] [(.ref a1)])) rfl rfl (hb hby d7_8)
  obtain ⟨_, _, ⟨T6, L6, k6, n6⟩, -, X6, ⟨Lc6, hQ6, l6, y6, z6⟩, st6⟩ := Jvm.LawKit.callS X5 hx (y := (⟨"java/lang/StringLatin1", "charAt", "([BI)C"⟩ : MethodName)) hown (mvT hZ (hw _ (List.mem_of_getElem? (i := 54) rfl))) (mvT hZ (hw _ (List.mem_of_getElem? (i := 55) rfl))) (mvT hZ (hw _ (List.mem_of_getElem? (i := 56) rfl))) (mvT hZ (hw _ (List.mem_of_getElem? (i := 57) rfl))) (by decide) (backOf (W := 0) (rm9 l Z a0 hw [] w4 p2 cl_w4 z_w4 b4 G3 h0 n0 Z0 Ar_w4 S_w4 N_w4 hin hat rG3 S_SIOOBE_FORMATTER hc1 hc6) hZ (hw _ (List.mem_of_getElem? (i := 57) rfl)) (hw _ (List.mem_of_getElem? (i := 56) rfl)) (by decide) (by decide)) (g := (mkF m 12 #[.val (.ref a1), .val (.int p2)] [(.int p2), (.ref w4)])) rfl (by rw [hml]; rfl) (argsL := [(.ref w4), (.int p2)]) (rest := []) (lenOf pd_7_9 rfl) rfl (by show 2 * 0 + _ ≤ _; exact Nat.le_of_eq rfl) (hb hby d7_12) (fun _ _ => ⟨rfl, e5, (by decide : 0 + 0 ≤ _), (by decide : 0 + 0 ≤ _)⟩)
  dsimp only [Pt.U, Pt.locs, Pt.cells, Pt.slots] at X6 l6 y6 z6 st6 hQ6
  have y6' : k6 = 0 := y6
  have z6' : n6 = 0 := z6
  clear y6 z6
  subst y6' z6'
  obtain ⟨rfl, N6q, e6q0⟩ := hQ6
  have e6q : T6.heap = h0 := e6q0
  have N6 : Fr n0 L6 := by rw [l6]; exact Fr.app N3 N6q
  obtain ⟨fs, hr, hrun, hended, hW, hsame⟩ := X6.leave (v := some (.int ((((b4 &&& (255 : Int32)).toUInt32.toUInt16.toUInt32.toInt32).toUInt32.toUInt16.toUInt32.toInt32).toUInt32.toUInt16.toUInt32.toInt32))) (fun h => by rw [Bd.returns] at h; cases h)
  refine ⟨_, _, pre0 _ ?_, hrun, hended, _, _, rfl, ?_, ⟨_, rfl⟩, hW, hsame.mono (by decide) (by decide)⟩
  · show Steps p.tables e below (s₁.setTop (mkF m 0 #[.val (.ref a1), .val (.int p2)] [])) _
    refine XS.aloadN X0.here hx rfl (hb hby d7_0) rfl rfl ?_
    show Steps p.tables e below (s₁.setTop (mkF m 1 #[.val (.ref a1), .val (.int p2)] [(.ref a1)])) _
    refine st3.trans ?_
    show Steps p.tables e below (T3.setTop (mkF m 4 #[.val (.ref a1), .val (.int p2)] [(.int (1 : Int32))])) _
    refine XS.ifNo X3.here hx rfl (hb hby d7_4) rfl ((if0 _ _).trans (feq (by decide : ¬ ((1 : Int32) = (0 : Int32)))).1) ?_
    show Steps p.tables e below (T3.setTop (mkF m 7 #[.val (.ref a1), .val (.int p2)] [])) _
    refine XS.aloadN X3.here hx rfl (hb hby d7_7) rfl rfl ?_
    show Steps p.tables e below (T3.setTop (mkF m 8 #[.val (.ref a1), .val (.int p2)] [(.ref a1)])) _
    refine st5 _ ?_
    show Steps p.tables e below (T5.setTop (mkF m 11 #[.val (.ref a1), .val (.int p2)] [(.ref w4)])) _
    refine XS.iloadN X5.here hx rfl (hb hby d7_11) rfl ?_
    show Steps p.tables e below (T5.setTop (mkF m 12 #[.val (.ref a1), .val (.int p2)] [(.int p2), (.ref w4)])) _
    refine st6 _ ?_
    show Steps p.tables e below (T6.setTop (mkF m 15 #[.val (.ref a1), .val (.int p2)] [(.int (((b4 &&& (255 : Int32)).toUInt32.toUInt16.toUInt32.toInt32).toUInt32.toUInt16.toUInt32.toInt32))])) _
    exact retN X6 hx (t := .char) Bd.returns (by simp) (hb hby d7_15) hr
  · show Q7 Z b4 h0 n0 _ T6.heap _
    rw [e6q]
    exact ⟨rfl, N6, rfl⟩
theorem dd_put_0 : decode method_4_code 0 = .ok (.iload_n 1, 1) := by decide +kernel
theorem dd_put_1 : decode method_4_code 1 = .ok (.aload_n 0, 1) := by decide +kernel
theorem dd_put_2 : decode method_4_code 2 = .ok (.arraylength, 1) := by decide +kernel
theorem dd_put_3 : decode method_4_code 3 = .ok (.if_icmp .ge 16, 3) := by decide +kernel
theorem dd_put_6 : decode method_4_code 6 = .ok (.aload_n 0, 1) := by decide +kernel
theorem dd_put_7 : decode method_4_code 7 = .ok (.iload_n 1, 1) := by decide +kernel
theorem dd_put_8 : decode method_4_code 8 = .ok (.iload_n 1, 1) := by decide +kernel
theorem dd_put_9 : decode method_4_code 9 = .ok (.iload_n 2, 1) := by decide +kernel
theorem dd_put_10 : decode method_4_code 10 = .ok (.iload_n 3, 1) := by decide +kernel
theorem dd_put_11 : decode method_4_code 11 = .ok (.iload 4, 2) := by decide +kernel
theorem dd_put_13 : decode method_4_code 13 = .ok (.iload 5, 2) := by decide +kernel
theorem dd_put_15 : decode method_4_code 15 = .ok (.invokestatic 23, 3) := by decide +kernel
theorem dd_put_18 : decode method_4_code 18 = .ok (.bastore, 1) := by decide +kernel
theorem dd_put_19 : decode method_4_code 19 = .ok (.return_, 1) := by decide +kernel
theorem dd_ok_0 : decode method_5_code 0 = .ok (.iload_n 1, 1) := by decide +kernel
theorem dd_ok_1 : decode method_5_code 1 = .ok (.iload_n 2, 1) := by decide +kernel
theorem dd_ok_2 : decode method_5_code 2 = .ok (.if_icmp .lt 5, 3) := by decide +kernel
theorem dd_ok_5 : decode method_5_code 5 = .ok (.iconst 1, 1) := by decide +kernel
theorem dd_ok_6 : decode method_5_code 6 = .ok (.ireturn, 1) := by decide +kernel
theorem dd_ok_7 : decode method_5_code 7 = .ok (.iload_n 1, 1) := by decide +kernel
theorem dd_ok_8 : decode method_5_code 8 = .ok (.iload_n 3, 1) := by decide +kernel
theorem dd_ok_9 : decode method_5_code 9 = .ok (.iload 4, 2) := by decide +kernel
theorem dd_ok_11 : decode method_5_code 11 = .ok (.iload 5, 2) := by decide +kernel
theorem dd_ok_13 : decode method_5_code 13 = .ok (.iload 6, 2) := by decide +kernel
theorem dd_ok_15 : decode method_5_code 15 = .ok (.invokestatic 23, 3) := by decide +kernel
theorem dd_ok_18 : decode method_5_code 18 = .ok (.istore 7, 2) := by decide +kernel
theorem dd_ok_20 : decode method_5_code 20 = .ok (.iload 7, 2) := by decide +kernel
theorem dd_ok_22 : decode method_5_code 22 = .ok (.ifCond .eq 14, 3) := by decide +kernel
theorem dd_ok_25 : decode method_5_code 25 = .ok (.iload 7, 2) := by decide +kernel
theorem dd_ok_27 : decode method_5_code 27 = .ok (.iload_n 0, 1) := by decide +kernel
theorem dd_ok_28 : decode method_5_code 28 = .ok (.iload_n 1, 1) := by decide +kernel
theorem dd_ok_29 : decode method_5_code 29 = .ok (.invokestatic 17, 3) := by decide +kernel
theorem dd_ok_32 : decode method_5_code 32 = .ok (.i2b, 1) := by decide +kernel
theorem dd_ok_33 : decode method_5_code 33 = .ok (.if_icmp .ne 7, 3) := by decide +kernel
theorem dd_ok_36 : decode method_5_code 36 = .ok (.iconst 1, 1) := by decide +kernel
theorem dd_ok_37 : decode method_5_code 37 = .ok (.goto 4, 3) := by decide +kernel
theorem dd_ok_40 : decode method_5_code 40 = .ok (.iconst 0, 1) := by decide +kernel
theorem dd_ok_41 : decode method_5_code 41 = .ok (.ireturn, 1) := by decide +kernel
theorem dd_at_0 : decode method_3_code 0 = .ok (.iload_n 0, 1) := by decide +kernel
theorem dd_at_1 : decode method_3_code 1 = .ok (.iload_n 3, 1) := by decide +kernel
theorem dd_at_2 : decode method_3_code 2 = .ok (.if_icmp .ne 5, 3) := by decide +kernel
theorem dd_at_5 : decode method_3_code 5 = .ok (.iconst 0, 1) := by decide +kernel
theorem dd_at_6 : decode method_3_code 6 = .ok (.ireturn, 1) := by decide +kernel
theorem dd_at_7 : decode method_3_code 7 = .ok (.iload_n 0, 1) := by decide +kernel
theorem dd_at_8 : decode method_3_code 8 = .ok (.iload_n 1, 1) := by decide +kernel
theorem dd_at_9 : decode method_3_code 9 = .ok (.if_icmp .ne 5, 3) := by decide +kernel
theorem dd_at_12 : decode method_3_code 12 = .ok (.iload_n 2, 1) := by decide +kernel
theorem dd_at_13 : decode method_3_code 13 = .ok (.ireturn, 1) := by decide +kernel
theorem dd_at_14 : decode method_3_code 14 = .ok (.iload_n 0, 1) := by decide +kernel
theorem dd_at_15 : decode method_3_code 15 = .ok (.bipush 24, 2) := by decide +kernel
theorem dd_at_17 : decode method_3_code 17 = .ok (.if_icmp .ne 6, 3) := by decide +kernel
theorem dd_at_20 : decode method_3_code 20 = .ok (.iload 4, 2) := by decide +kernel
theorem dd_at_22 : decode method_3_code 22 = .ok (.ireturn, 1) := by decide +kernel
theorem dd_at_23 : decode method_3_code 23 = .ok (.iconst 1, 1) := by decide +kernel
theorem dd_at_24 : decode method_3_code 24 = .ok (.iload_n 0, 1) := by decide +kernel
theorem dd_at_25 : decode method_3_code 25 = .ok (.invokestatic 17, 3) := by decide +kernel
theorem dd_at_28 : decode method_3_code 28 = .ok (.i2b, 1) := by decide +kernel
theorem dd_at_29 : decode method_3_code 29 = .ok (.ireturn, 1) := by decide +kernel
theorem dd_h_0 : decode method_2_code 0 = .ok (.iload_n 0, 1) := by decide +kernel
theorem dd_h_1 : decode method_2_code 1 = .ok (.iconst 1, 1) := by decide +kernel
theorem dd_h_2 : decode method_2_code 2 = .ok (.if_icmp .ne 12, 3) := by decide +kernel
theorem dd_h_5 : decode method_2_code 5 = .ok (.ldc 7, 2) := by decide +kernel
theorem dd_h_7 : decode method_2_code 7 = .ok (.iload_n 1, 1) := by decide +kernel
theorem dd_h_8 : decode method_2_code 8 = .ok (.invokevirtual 9, 3) := by decide +kernel
theorem dd_h_11 : decode method_2_code 11 = .ok (.goto 9, 3) := by decide +kernel
theorem dd_h_14 : decode method_2_code 14 = .ok (.ldc 15, 2) := by decide +kernel
theorem dd_h_16 : decode method_2_code 16 = .ok (.iload_n 1, 1) := by decide +kernel
theorem dd_h_17 : decode method_2_code 17 = .ok (.invokevirtual 9, 3) := by decide +kernel
theorem dd_h_20 : decode method_2_code 20 = .ok (.ireturn, 1) := by decide +kernel
theorem pdd_h : parseMethodDescriptor "(II)C" = some ⟨[.int, .int], some .char⟩ := by decide +kernel
theorem pdd_at : parseMethodDescriptor "(IIBIB)B" = some ⟨[.int, .int, .byte, .int, .byte], some .byte⟩ := by decide +kernel
theorem pdd_put : parseMethodDescriptor "([BIIBIB)V" = some ⟨[(.array .byte), .int, .int, .byte, .int, .byte], none⟩ := by decide +kernel
theorem pdd_ok : parseMethodDescriptor "(IIIIBIB)Z" = some ⟨[.int, .int, .int, .int, .byte, .int, .byte], some .boolean⟩ := by decide +kernel
theorem pdd_c : parseMethodDescriptor "(I)C" = some ⟨[.int], some .char⟩ := by decide +kernel
theorem pnn : plainName "com/example/vigilant_ledger/vigilantledger/journal/JournalFormatIsTornHeaderPinLaw" = true := by first | (simp [plainName, overriddenIn]; done) | decide +kernel
theorem eff_h (m : MethodId) (x0 : Int32) (x1 : Int32) : entryFrame m #[(.int x0), (.int x1)] 2 = mkF m 0 #[.val (.int x0), .val (.int x1)] [] := by first | (simp [entryFrame, mkF, argsToLocals, Value.category]; done) | rfl
theorem eff_at (m : MethodId) (x0 : Int32) (x1 : Int32) (x2 : Int32) (x3 : Int32) (x4 : Int32) : entryFrame m #[(.int x0), (.int x1), (.int x2), (.int x3), (.int x4)] 5 = mkF m 0 #[.val (.int x0), .val (.int x1), .val (.int x2), .val (.int x3), .val (.int x4)] [] := by first | (simp [entryFrame, mkF, argsToLocals, Value.category]; done) | rfl
theorem eff_put (m : MethodId) (x0 : Addr) (x1 : Int32) (x2 : Int32) (x3 : Int32) (x4 : Int32) (x5 : Int32) : entryFrame m #[(.ref x0), (.int x1), (.int x2), (.int x3), (.int x4), (.int x5)] 6 = mkF m 0 #[.val (.ref x0), .val (.int x1), .val (.int x2), .val (.int x3), .val (.int x4), .val (.int x5)] [] := by first | (simp [entryFrame, mkF, argsToLocals, Value.category]; done) | rfl
theorem eff_ok (m : MethodId) (x0 : Int32) (x1 : Int32) (x2 : Int32) (x3 : Int32) (x4 : Int32) (x5 : Int32) (x6 : Int32) : entryFrame m #[(.int x0), (.int x1), (.int x2), (.int x3), (.int x4), (.int x5), (.int x6)] 8 = mkF m 0 #[.val (.int x0), .val (.int x1), .val (.int x2), .val (.int x3), .val (.int x4), .val (.int x5), .val (.int x6), .unset] [] := by first | (simp [entryFrame, mkF, argsToLocals, Value.category]; done) | rfl
def own_cs1 : List Int32 := [118, 105, 103, 105, 108, 97, 110, 116, 45, 108, 101, 100, 103, 101, 114, 32, 106, 111, 117, 114, 110, 97, 108, 32, 49, 10]
def own_cs2 : List Int32 := [118, 105, 103, 105, 108, 97, 110, 116, 45, 108, 101, 100, 103, 101, 114, 32, 106, 111, 117, 114, 110, 97, 108, 32, 50, 10]
theorem own_nat : ∀ j, j < 26 → (Int32.ofNat j).toNatClampNeg = j := by decide +kernel
theorem own_in : ∀ j, j < 26 → ¬ ((Int32.ofNat j) < 0 ∨ (26 : Int32).toNatClampNeg ≤ j) := by decide +kernel
theorem own_rg : ∀ j, j < 26 → ¬ ((Int32.ofNat j) < (0 : Int32)) ∧ (Int32.ofNat j) < (26 : Int32) := by decide +kernel
def own_H (k : Int32) (j : Nat) : Int32 := if k = 1 then own_cs1.getD j 0 else own_cs2.getD j 0
theorem own_up (cs : List Int32) (h : ∀ c ∈ cs, ¬ c < 0 ∧ ¬ (255 : Int32) < c) : ∀ c ∈ cs, ¬ c < 0 ∧ ¬ (65535 : Int32) < c := fun c hc => ⟨(h c hc).1, fun q => (h c hc).2 (by rw [Int32.lt_iff_toInt_lt] at q ⊢; have e1 : (65535 : Int32).toInt = 65535 := rfl; have e2 : (255 : Int32).toInt = 255 := rfl; omega)⟩
theorem own_start {p : Program} {l : Launch} {e : Env} {R : Room} {s : State} {m : MethodId} {args : Array Value} {below : List Frame} {meth : Method} {c : Code} {s₁ : State} {Z : State} {a0 : Array Value} {n0 : Nat} (X : Stand p l e R s m args below meth c s₁ [] 0 0) (e0 : s₁.heap = s.heap) (hZ : Z.Warmed39 s.vm) (hown : s.vm.findClass OWN = some m.cls) (hEL : EW Z a0 EL) (H : CHv Z EL s.vm s.heap) :
    own_S Z p l e R s m args below meth c n0 s.heap (own_phi Z s.vm) (54 * own_phi Z s.vm) s₁ [] 0 0 :=
  own_pack (vm0 := s.vm) (k0 := s.heap.size) (by rw [State.setVm_self]; exact X) (Fr.nil n0) ((State.WarmedH.refl s).since _) (by rw [e0]; exact Nat.le_refl _) hZ hown hEL (by rw [e0]; exact CHr.refl H) (by omega) (by omega)
theorem own_vs1 : ∀ j, j < 26 → ((own_cs1.map (fun c => c.toInt8.toInt32)).map Value.int).getD j (.int 0) = .int ((own_cs1.getD j 0).toInt8.toInt32) := by
  intro j hj
  simp only [List.getD_eq_getElem?_getD, List.getElem?_map]
  have q : j < own_cs1.length := hj
  rw [List.getElem?_eq_getElem q]; rfl
theorem own_ch1 : ∀ j, j < 26 → ((((((own_cs1.getD j 0).toInt8.toInt32) &&& (255 : Int32)).toUInt32.toUInt16.toUInt32.toInt32).toUInt32.toUInt16.toUInt32.toInt32).toUInt32.toUInt16.toUInt32.toInt32) = own_cs1.getD j 0 := by decide +kernel
theorem own_nc1 : ∀ j, j < 26 → nar .char (own_cs1.getD j 0) = own_cs1.getD j 0 := by decide +kernel
set_option maxRecDepth 65536 in
set_option maxHeartbeats 4000000 in
theorem own_h1 (l : Launch) (Z : State) (a0 : Array Value) (hw : ∀ d ∈ tables_1, d.before a0 Z = true) (hEL : EW Z a0 EL) (n0 : Nat) (G1 : Int32) (G3 : Value) (rG3 : G3.isRef = true) (P5 : ¬ G1 = 0) (O2 : Sta Z Z.heap "java/lang/String" "COMPACT_STRINGS" "Z" (.int G1)) (O4 : Sta Z Z.heap "jdk/internal/util/Preconditions" "SIOOBE_FORMATTER" "Ljava/util/function/BiFunction;" G3) (k : Int32) (hk : k = 1) (j : Nat) (hj : j < 26) (h : Heap) (X00 : Old Z n0 h) :
    own_Con Z l n0 (⟨"com/example/vigilant_ledger/vigilantledger/journal/JournalFormatIsTornHeaderPinLaw", "h", "(II)C"⟩ : MethodName) method_2_code 2 (some .char) ({ frames := 4, cells := 2, slots := 108, locals := 53 } : Room) [] #[.int k, .int (Int32.ofNat j)] h (fun v h' => v = some (.int (own_cs1.getD j 0)) ∧ Ext h h') := by
  refine MetFree.of_bodySF (plainFor_of_name pnn) hisR ?_
  intro p e s m args below meth c s₁ Bd hml0 hP hK
  obtain ⟨rfl, hZ, hh, hCH, hSf⟩ := hP
  subst hh
  have hx := Bd.exec
  have hby := Bd.bytes
  have hml : c.maxLocals = 2 := hml0
  have hown : s.vm.findClass OWN = some m.cls := findClass_of_methodNamed Bd.named
  have X0 := Stand.of_body Bd
  have e0 : s₁.heap = s.heap := by rw [Bd.state]; rfl
  have P0 := own_start (n0 := n0) X0 e0 hZ hown hEL hCH
  obtain ⟨a, b, kb, T1, c1, s1, P1, E1, Ea, Fc, Fv, Va, i1, i2, st1⟩ := own_ldc P0 hx hEL (index := 7) (text := "vigilant-ledger journal 1\n") (by decide) (hw _ (List.mem_of_getElem? (i := 34) rfl)) (fun d hd => hw d ((by decide +kernel : ∀ d ∈ Bundle.stringAtoms, d ∈ tables_1) d hd)) (vs := ((own_cs1.map (fun c => c.toInt8.toInt32)).map Value.int)) (z := 26) (by decide +kernel) (by decide) (by decide) (g := mkF m 5 #[.val (.int k), .val (.int (Int32.ofNat j))] []) rfl (hb hby dd_h_5) (by decide +kernel) (by decide) (by decide)
  obtain ⟨X1, N1, hS1, hZ1, hown1, hC1, b11, b21⟩ := P1
  have X0e : Ext s.heap T1.heap := by rw [← e0]; exact E1
  have XZ := X00.ext X0e
  obtain ⟨cl, Ar, -, Sl, Nl, Hl, -⟩ := id Va
  have hjn : (Int32.ofNat j).toNatClampNeg = j := own_nat j hj
  obtain ⟨cq, kq, qa, qb, qc⟩ := isOf (s := s.setVm T1.vm) hZ1 rfl Ea
  obtain ⟨_, _, ⟨T2, L2, k2, n2⟩, -, X2, ⟨Lc2, hQ2, l2, y2, z2⟩, st2⟩ := X1.virtualBack hx (y := (⟨"java/lang/String", "charAt", "(I)C"⟩ : MethodName)) (z := (⟨"java/lang/String", "charAt", "(I)C"⟩ : MethodName)) hown1 (mvT (s := s.setVm T1.vm) hZ1 (hw _ (List.mem_of_getElem? (i := 41) rfl))) (mvT (s := s.setVm T1.vm) hZ1 (hw _ (List.mem_of_getElem? (i := 42) rfl))) (notFace_of_selects (args := #[]) (mvT (s := s.setVm T1.vm) hZ1 (hw _ (List.mem_of_getElem? (i := 44) rfl)))) (mvT (s := s.setVm T1.vm) hZ1 (hw _ (List.mem_of_getElem? (i := 44) rfl))) (mvT (s := s.setVm T1.vm) hZ1 (hw _ (List.mem_of_getElem? (i := 43) rfl))) (by decide)
    (backOf (W := 0) (rm7 l Z a0 hw [] a (Int32.ofNat j) b cl 26 ((own_cs1.getD j 0).toInt8.toInt32) G1 G3 T1.heap n0 (by rw [← X00.1]; exact XZ.2.1) Ea Fv Fc (O2.ext XZ.2) P5 Ar Sl Nl (by rw [hjn, Sl]; exact own_in j hj) (by rw [hjn, ← own_vs1 j hj]; exact Hl j (by rw [Sl]; exact hj)) rG3 (O4.ext XZ.2) (own_rg j hj).1 (own_rg j hj).2) hZ1 (hw _ (List.mem_of_getElem? (i := 45) rfl)) (hw _ (List.mem_of_getElem? (i := 35) rfl)) (by decide) (by decide)) qa qc (g := mkF m 8 #[.val (.int k), .val (.int (Int32.ofNat j))] [(.int (Int32.ofNat j)), (.ref a)]) rfl (by rw [hml]; rfl) (Steps.refl _) (argsL := [(.int (Int32.ofNat j))]) (rest := []) (lenOf pdd_c rfl) rfl (by show 2 * 0 + _ ≤ _; exact Nat.le_of_eq rfl) (hb hby dd_h_8) (fun _ _ => ⟨rfl, rfl, (show c1 + 0 ≤ 2 by omega), (show s1 + 0 ≤ 108 by omega)⟩)
  dsimp only [Pt.U, Pt.locs, Pt.cells, Pt.slots] at X2 l2 y2 z2 st2 hQ2
  obtain ⟨rfl, N2q, e2q⟩ := hQ2
  have e2 : T2.heap = T1.heap := e2q
  rw [own_ch1 j hj] at st2
  have b12 : k2 + own_phi Z T1.vm ≤ own_phi Z s.vm := by rw [y2]; exact b11
  have b22 : n2 + 54 * own_phi Z T1.vm ≤ 54 * own_phi Z s.vm := by rw [z2]; exact b21
  have P := own_pack (vm0 := T1.vm) (k0 := T1.heap.size) (n0 := n0) (h0 := s.heap) X2 (by rw [l2]; exact Fr.app N1 N2q) hS1 (by rw [e2]; exact Nat.le_refl _) hZ1 hown1 hEL (by rw [e2]; exact hC1) b12 b22
  have pre0 : ∀ t, Steps p.tables e below (s₁.setTop (mkF m 0 #[.val (.int k), .val (.int (Int32.ofNat j))] [])) t → Steps p.tables e below (s₁.setTop (entryFrame m #[(.int k), (.int (Int32.ofNat j))] 2)) t := fun t q => castTop (eff_h m k _) q
  obtain ⟨X, N, hS, hZ', hown', hC, b1, b2⟩ := P
  obtain ⟨fs, hr, hrun, hended, hend⟩ := X.leaveW hS (Nat.le_refl _) (v := some (.int (own_cs1.getD j 0))) (fun h => by rw [Bd.returns] at h; cases h)
  refine ⟨_, _, pre0 _ ?_, hrun, hended, _, _, _, _, rfl, ⟨rfl, by show Ext s.heap T2.heap; rw [e2]; exact X0e⟩, N, hC, b1, b2, hend⟩
  · show Steps p.tables e below (s₁.setTop (mkF m 0 #[.val (.int k), .val (.int (Int32.ofNat j))] [])) _
    refine XS.iloadN X0.here hx rfl (hb hby dd_h_0) rfl ?_
    show Steps p.tables e below (s₁.setTop (mkF m 1 #[.val (.int k), .val (.int (Int32.ofNat j))] [(.int k)])) _
    refine XS.iconst X0.here hx rfl (hb hby dd_h_1) ?_
    show Steps p.tables e below (s₁.setTop (mkF m 2 #[.val (.int k), .val (.int (Int32.ofNat j))] [(.int (1 : Int32)), (.int k)])) _
    refine XS.icmpNo X0.here hx rfl (hb hby dd_h_2) rfl (teq hk).2 ?_
    show Steps p.tables e below (s₁.setTop (mkF m 5 #[.val (.int k), .val (.int (Int32.ofNat j))] [])) _
    refine st1 _ ?_
    show Steps p.tables e below (T1.setTop (mkF m 7 #[.val (.int k), .val (.int (Int32.ofNat j))] [(.ref a)])) _
    refine XS.iloadN X1.here hx rfl (hb hby dd_h_7) rfl ?_
    show Steps p.tables e below (T1.setTop (mkF m 8 #[.val (.int k), .val (.int (Int32.ofNat j))] [(.int (Int32.ofNat j)), (.ref a)])) _
    refine st2.trans ?_
    show Steps p.tables e below (T2.setTop (mkF m 11 #[.val (.int k), .val (.int (Int32.ofNat j))] [(.int (own_cs1.getD j 0))])) _
    refine XS.goto X2.here hx rfl (pc0 := 11) (pc' := 20) rfl (hb hby dd_h_11) (by decide) (by decide) ?_
    show Steps p.tables e below (T2.setTop (mkF m 20 #[.val (.int k), .val (.int (Int32.ofNat j))] [(.int (own_cs1.getD j 0))])) _
    exact retN X2 hx (t := .char) Bd.returns (by simp) (hb hby dd_h_20) (by rw [own_nc1 j hj]; exact hr)
theorem own_vs2 : ∀ j, j < 26 → ((own_cs2.map (fun c => c.toInt8.toInt32)).map Value.int).getD j (.int 0) = .int ((own_cs2.getD j 0).toInt8.toInt32) := by
  intro j hj
  simp only [List.getD_eq_getElem?_getD, List.getElem?_map]
  have q : j < own_cs2.length := hj
  rw [List.getElem?_eq_getElem q]; rfl
theorem own_ch2 : ∀ j, j < 26 → ((((((own_cs2.getD j 0).toInt8.toInt32) &&& (255 : Int32)).toUInt32.toUInt16.toUInt32.toInt32).toUInt32.toUInt16.toUInt32.toInt32).toUInt32.toUInt16.toUInt32.toInt32) = own_cs2.getD j 0 := by decide +kernel
theorem own_nc2 : ∀ j, j < 26 → nar .char (own_cs2.getD j 0) = own_cs2.getD j 0 := by decide +kernel
set_option maxRecDepth 65536 in
set_option maxHeartbeats 4000000 in
theorem own_h2 (l : Launch) (Z : State) (a0 : Array Value) (hw : ∀ d ∈ tables_1, d.before a0 Z = true) (hEL : EW Z a0 EL) (n0 : Nat) (G1 : Int32) (G3 : Value) (rG3 : G3.isRef = true) (P5 : ¬ G1 = 0) (O2 : Sta Z Z.heap "java/lang/String" "COMPACT_STRINGS" "Z" (.int G1)) (O4 : Sta Z Z.heap "jdk/internal/util/Preconditions" "SIOOBE_FORMATTER" "Ljava/util/function/BiFunction;" G3) (k : Int32) (hk : ¬ k = 1) (j : Nat) (hj : j < 26) (h : Heap) (X00 : Old Z n0 h) :
    own_Con Z l n0 (⟨"com/example/vigilant_ledger/vigilantledger/journal/JournalFormatIsTornHeaderPinLaw", "h", "(II)C"⟩ : MethodName) method_2_code 2 (some .char) ({ frames := 4, cells := 2, slots := 108, locals := 53 } : Room) [] #[.int k, .int (Int32.ofNat j)] h (fun v h' => v = some (.int (own_cs2.getD j 0)) ∧ Ext h h') := by
  refine MetFree.of_bodySF (plainFor_of_name pnn) hisR ?_
  intro p e s m args below meth c s₁ Bd hml0 hP hK
  obtain ⟨rfl, hZ, hh, hCH, hSf⟩ := hP
  subst hh
  have hx := Bd.exec
  have hby := Bd.bytes
  have hml : c.maxLocals = 2 := hml0
  have hown : s.vm.findClass OWN = some m.cls := findClass_of_methodNamed Bd.named
  have X0 := Stand.of_body Bd
  have e0 : s₁.heap = s.heap := by rw [Bd.state]; rfl
  have P0 := own_start (n0 := n0) X0 e0 hZ hown hEL hCH
  obtain ⟨a, b, kb, T1, c1, s1, P1, E1, Ea, Fc, Fv, Va, i1, i2, st1⟩ := own_ldc P0 hx hEL (index := 15) (text := "vigilant-ledger journal 2\n") (by decide) (hw _ (List.mem_of_getElem? (i := 69) rfl)) (fun d hd => hw d ((by decide +kernel : ∀ d ∈ Bundle.stringAtoms, d ∈ tables_1) d hd)) (vs := ((own_cs2.map (fun c => c.toInt8.toInt32)).map Value.int)) (z := 26) (by decide +kernel) (by decide) (by decide) (g := mkF m 14 #[.val (.int k), .val (.int (Int32.ofNat j))] []) rfl (hb hby dd_h_14) (by decide +kernel) (by decide) (by decide)
  obtain ⟨X1, N1, hS1, hZ1, hown1, hC1, b11, b21⟩ := P1
  have X0e : Ext s.heap T1.heap := by rw [← e0]; exact E1
  have XZ := X00.ext X0e
  obtain ⟨cl, Ar, -, Sl, Nl, Hl, -⟩ := id Va
  have hjn : (Int32.ofNat j).toNatClampNeg = j := own_nat j hj
  obtain ⟨cq, kq, qa, qb, qc⟩ := isOf (s := s.setVm T1.vm) hZ1 rfl Ea
  obtain ⟨_, _, ⟨T2, L2, k2, n2⟩, -, X2, ⟨Lc2, hQ2, l2, y2, z2⟩, st2⟩ := X1.virtualBack hx (y := (⟨"java/lang/String", "charAt", "(I)C"⟩ : MethodName)) (z := (⟨"java/lang/String", "charAt", "(I)C"⟩ : MethodName)) hown1 (mvT (s := s.setVm T1.vm) hZ1 (hw _ (List.mem_of_getElem? (i := 41) rfl))) (mvT (s := s.setVm T1.vm) hZ1 (hw _ (List.mem_of_getElem? (i := 42) rfl))) (notFace_of_selects (args := #[]) (mvT (s := s.setVm T1.vm) hZ1 (hw _ (List.mem_of_getElem? (i := 44) rfl)))) (mvT (s := s.setVm T1.vm) hZ1 (hw _ (List.mem_of_getElem? (i := 44) rfl))) (mvT (s := s.setVm T1.vm) hZ1 (hw _ (List.mem_of_getElem? (i := 43) rfl))) (by decide)
    (backOf (W := 0) (rm7 l Z a0 hw [] a (Int32.ofNat j) b cl 26 ((own_cs2.getD j 0).toInt8.toInt32) G1 G3 T1.heap n0 (by rw [← X00.1]; exact XZ.2.1) Ea Fv Fc (O2.ext XZ.2) P5 Ar Sl Nl (by rw [hjn, Sl]; exact own_in j hj) (by rw [hjn, ← own_vs2 j hj]; exact Hl j (by rw [Sl]; exact hj)) rG3 (O4.ext XZ.2) (own_rg j hj).1 (own_rg j hj).2) hZ1 (hw _ (List.mem_of_getElem? (i := 45) rfl)) (hw _ (List.mem_of_getElem? (i := 35) rfl)) (by decide) (by decide)) qa qc (g := mkF m 17 #[.val (.int k), .val (.int (Int32.ofNat j))] [(.int (Int32.ofNat j)), (.ref a)]) rfl (by rw [hml]; rfl) (Steps.refl _) (argsL := [(.int (Int32.ofNat j))]) (rest := []) (lenOf pdd_c rfl) rfl (by show 2 * 0 + _ ≤ _; exact Nat.le_of_eq rfl) (hb hby dd_h_17) (fun _ _ => ⟨rfl, rfl, (show c1 + 0 ≤ 2 by omega), (show s1 + 0 ≤ 108 by omega)⟩)
  dsimp only [Pt.U, Pt.locs, Pt.cells, Pt.slots] at X2 l2 y2 z2 st2 hQ2
  obtain ⟨rfl, N2q, e2q⟩ := hQ2
  have e2 : T2.heap = T1.heap := e2q
  rw [own_ch2 j hj] at st2
  have b12 : k2 + own_phi Z T1.vm ≤ own_phi Z s.vm := by rw [y2]; exact b11
  have b22 : n2 + 54 * own_phi Z T1.vm ≤ 54 * own_phi Z s.vm := by rw [z2]; exact b21
  have P := own_pack (vm0 := T1.vm) (k0 := T1.heap.size) (n0 := n0) (h0 := s.heap) X2 (by rw [l2]; exact Fr.app N1 N2q) hS1 (by rw [e2]; exact Nat.le_refl _) hZ1 hown1 hEL (by rw [e2]; exact hC1) b12 b22
  have pre0 : ∀ t, Steps p.tables e below (s₁.setTop (mkF m 0 #[.val (.int k), .val (.int (Int32.ofNat j))] [])) t → Steps p.tables e below (s₁.setTop (entryFrame m #[(.int k), (.int (Int32.ofNat j))] 2)) t := fun t q => castTop (eff_h m k _) q
  obtain ⟨X, N, hS, hZ', hown', hC, b1, b2⟩ := P
  obtain ⟨fs, hr, hrun, hended, hend⟩ := X.leaveW hS (Nat.le_refl _) (v := some (.int (own_cs2.getD j 0))) (fun h => by rw [Bd.returns] at h; cases h)
  refine ⟨_, _, pre0 _ ?_, hrun, hended, _, _, _, _, rfl, ⟨rfl, by show Ext s.heap T2.heap; rw [e2]; exact X0e⟩, N, hC, b1, b2, hend⟩
  · show Steps p.tables e below (s₁.setTop (mkF m 0 #[.val (.int k), .val (.int (Int32.ofNat j))] [])) _
    refine XS.iloadN X0.here hx rfl (hb hby dd_h_0) rfl ?_
    show Steps p.tables e below (s₁.setTop (mkF m 1 #[.val (.int k), .val (.int (Int32.ofNat j))] [(.int k)])) _
    refine XS.iconst X0.here hx rfl (hb hby dd_h_1) ?_
    show Steps p.tables e below (s₁.setTop (mkF m 2 #[.val (.int k), .val (.int (Int32.ofNat j))] [(.int (1 : Int32)), (.int k)])) _
    refine XS.icmpYes X0.here hx rfl (pc0 := 2) (pc' := 14) rfl (hb hby dd_h_2) rfl (feq hk).2 (by decide) (by decide) ?_
    show Steps p.tables e below (s₁.setTop (mkF m 14 #[.val (.int k), .val (.int (Int32.ofNat j))] [])) _
    refine st1 _ ?_
    show Steps p.tables e below (T1.setTop (mkF m 16 #[.val (.int k), .val (.int (Int32.ofNat j))] [(.ref a)])) _
    refine XS.iloadN X1.here hx rfl (hb hby dd_h_16) rfl ?_
    show Steps p.tables e below (T1.setTop (mkF m 17 #[.val (.int k), .val (.int (Int32.ofNat j))] [(.int (Int32.ofNat j)), (.ref a)])) _
    refine st2.trans ?_
    show Steps p.tables e below (T2.setTop (mkF m 20 #[.val (.int k), .val (.int (Int32.ofNat j))] [(.int (own_cs2.getD j 0))])) _
    exact retN X2 hx (t := .char) Bd.returns (by simp) (hb hby dd_h_20) (by rw [own_nc2 j hj]; exact hr)
theorem own_h (l : Launch) (Z : State) (a0 : Array Value) (hw : ∀ d ∈ tables_1, d.before a0 Z = true) (hEL : EW Z a0 EL) (n0 : Nat) (G1 : Int32) (G3 : Value) (rG3 : G3.isRef = true) (P5 : ¬ G1 = 0) (O2 : Sta Z Z.heap "java/lang/String" "COMPACT_STRINGS" "Z" (.int G1)) (O4 : Sta Z Z.heap "jdk/internal/util/Preconditions" "SIOOBE_FORMATTER" "Ljava/util/function/BiFunction;" G3) (k : Int32) (j : Nat) (hj : j < 26) (h : Heap) (X00 : Old Z n0 h) :
    own_Con Z l n0 (⟨"com/example/vigilant_ledger/vigilantledger/journal/JournalFormatIsTornHeaderPinLaw", "h", "(II)C"⟩ : MethodName) method_2_code 2 (some .char) ({ frames := 4, cells := 2, slots := 108, locals := 53 } : Room) [] #[.int k, .int (Int32.ofNat j)] h (fun v h' => v = some (.int (own_H k j)) ∧ Ext h h') := by
  by_cases hk : k = 1
  · rw [show own_H k j = own_cs1.getD j 0 from if_pos hk]; exact own_h1 l Z a0 hw hEL n0 G1 G3 rG3 P5 O2 O4 k hk j hj h X00
  · rw [show own_H k j = own_cs2.getD j 0 from if_neg hk]; exact own_h2 l Z a0 hw hEL n0 G1 G3 rG3 P5 O2 O4 k hk j hj h X00
def own_at (j : Nat) (q b w d : Int32) : Int32 := if Int32.ofNat j = w then 0 else if Int32.ofNat j = q then nar .byte b else if Int32.ofNat j = 24 then nar .byte d else own_cs1.getD j 0
theorem own_nb : ∀ j, j < 26 → nar .byte ((own_H 1 j).toInt8.toInt32) = own_cs1.getD j 0 := by decide +kernel
set_option maxRecDepth 65536 in
theorem own_atA (l : Launch) (Z : State) (a0 : Array Value) (hw : ∀ d ∈ tables_1, d.before a0 Z = true) (hEL : EW Z a0 EL) (n0 : Nat) (G1 : Int32) (G3 : Value) (rG3 : G3.isRef = true) (P5 : ¬ G1 = 0) (O2 : Sta Z Z.heap "java/lang/String" "COMPACT_STRINGS" "Z" (.int G1)) (O4 : Sta Z Z.heap "jdk/internal/util/Preconditions" "SIOOBE_FORMATTER" "Ljava/util/function/BiFunction;" G3) (j : Nat) (hj : j < 26) (q b w d : Int32) (h : Heap) (X00 : Old Z n0 h) (h1 : Int32.ofNat j = w) :
    own_Con Z l n0 (⟨"com/example/vigilant_ledger/vigilantledger/journal/JournalFormatIsTornHeaderPinLaw", "at", "(IIBIB)B"⟩ : MethodName) method_3_code 5 (some .byte) ({ frames := 5, cells := 2, slots := 108, locals := 66 } : Room) [] #[(.int (Int32.ofNat j)), (.int q), (.int b), (.int w), (.int d)] h (fun v h' => v = some (.int (nar .byte (0 : Int32))) ∧ Ext h h') := by
  refine MetFree.of_bodySF (plainFor_of_name pnn) hisR ?_
  intro p e s m args below meth c s₁ Bd hml0 hP hK
  obtain ⟨rfl, hZ, hh, hCH, hSf⟩ := hP
  subst hh
  have hx := Bd.exec
  have hby := Bd.bytes
  have hml : c.maxLocals = 5 := hml0
  have hown : s.vm.findClass OWN = some m.cls := findClass_of_methodNamed Bd.named
  have X0 := Stand.of_body Bd
  have e0 : s₁.heap = s.heap := by rw [Bd.state]; rfl
  have P0 := own_start (n0 := n0) X0 e0 hZ hown hEL hCH
  have pre0 : ∀ t, Steps p.tables e below (s₁.setTop (mkF m 0 #[.val (.int (Int32.ofNat j)), .val (.int q), .val (.int b), .val (.int w), .val (.int d)] [])) t → Steps p.tables e below (s₁.setTop (entryFrame m #[(.int (Int32.ofNat j)), (.int q), (.int b), (.int w), (.int d)] 5)) t := fun t q => castTop (eff_at m _ _ _ _ _) q
  obtain ⟨X, N, hS, hZ', hown', hC, b1, b2⟩ := P0
  obtain ⟨fs, hr, hrun, hended, hend⟩ := X.leaveW hS (Nat.le_refl _) (v := some (.int (nar .byte (0 : Int32)))) (fun h => by rw [Bd.returns] at h; cases h)
  refine ⟨_, _, pre0 _ ?_, hrun, hended, _, _, _, _, rfl, ⟨rfl, by show Ext s.heap s₁.heap; rw [e0]; exact ⟨Nat.le_refl _, fun _ _ q => q⟩⟩, N, hC, b1, b2, hend⟩
  · show Steps p.tables e below (s₁.setTop (mkF m 0 #[.val (.int (Int32.ofNat j)), .val (.int q), .val (.int b), .val (.int w), .val (.int d)] [])) _
    refine XS.iloadN X0.here hx rfl (hb hby dd_at_0) rfl ?_
    show Steps p.tables e below (s₁.setTop (mkF m 1 #[.val (.int (Int32.ofNat j)), .val (.int q), .val (.int b), .val (.int w), .val (.int d)] [(.int (Int32.ofNat j))])) _
    refine XS.iloadN X0.here hx rfl (hb hby dd_at_1) rfl ?_
    show Steps p.tables e below (s₁.setTop (mkF m 2 #[.val (.int (Int32.ofNat j)), .val (.int q), .val (.int b), .val (.int w), .val (.int d)] [(.int w), (.int (Int32.ofNat j))])) _
    refine XS.icmpNo X0.here hx rfl (hb hby dd_at_2) rfl (teq h1).2 ?_
    show Steps p.tables e below (s₁.setTop (mkF m 5 #[.val (.int (Int32.ofNat j)), .val (.int q), .val (.int b), .val (.int w), .val (.int d)] [])) _
    refine XS.iconst X0.here hx rfl (hb hby dd_at_5) ?_
    show Steps p.tables e below (s₁.setTop (mkF m 6 #[.val (.int (Int32.ofNat j)), .val (.int q), .val (.int b), .val (.int w), .val (.int d)] [(.int (0 : Int32))])) _
    exact retN X hx (t := .byte) Bd.returns (by simp) (hb hby dd_at_6) hr
set_option maxRecDepth 65536 in
theorem own_atB (l : Launch) (Z : State) (a0 : Array Value) (hw : ∀ d ∈ tables_1, d.before a0 Z = true) (hEL : EW Z a0 EL) (n0 : Nat) (G1 : Int32) (G3 : Value) (rG3 : G3.isRef = true) (P5 : ¬ G1 = 0) (O2 : Sta Z Z.heap "java/lang/String" "COMPACT_STRINGS" "Z" (.int G1)) (O4 : Sta Z Z.heap "jdk/internal/util/Preconditions" "SIOOBE_FORMATTER" "Ljava/util/function/BiFunction;" G3) (j : Nat) (hj : j < 26) (q b w d : Int32) (h : Heap) (X00 : Old Z n0 h) (h1 : ¬ Int32.ofNat j = w) (h2 : Int32.ofNat j = q) :
    own_Con Z l n0 (⟨"com/example/vigilant_ledger/vigilantledger/journal/JournalFormatIsTornHeaderPinLaw", "at", "(IIBIB)B"⟩ : MethodName) method_3_code 5 (some .byte) ({ frames := 5, cells := 2, slots := 108, locals := 66 } : Room) [] #[(.int (Int32.ofNat j)), (.int q), (.int b), (.int w), (.int d)] h (fun v h' => v = some (.int (nar .byte b)) ∧ Ext h h') := by
  refine MetFree.of_bodySF (plainFor_of_name pnn) hisR ?_
  intro p e s m args below meth c s₁ Bd hml0 hP hK
  obtain ⟨rfl, hZ, hh, hCH, hSf⟩ := hP
  subst hh
  have hx := Bd.exec
  have hby := Bd.bytes
  have hml : c.maxLocals = 5 := hml0
  have hown : s.vm.findClass OWN = some m.cls := findClass_of_methodNamed Bd.named
  have X0 := Stand.of_body Bd
  have e0 : s₁.heap = s.heap := by rw [Bd.state]; rfl
  have P0 := own_start (n0 := n0) X0 e0 hZ hown hEL hCH
  have pre0 : ∀ t, Steps p.tables e below (s₁.setTop (mkF m 0 #[.val (.int (Int32.ofNat j)), .val (.int q), .val (.int b), .val (.int w), .val (.int d)] [])) t → Steps p.tables e below (s₁.setTop (entryFrame m #[(.int (Int32.ofNat j)), (.int q), (.int b), (.int w), (.int d)] 5)) t := fun t q => castTop (eff_at m _ _ _ _ _) q
  obtain ⟨X, N, hS, hZ', hown', hC, b1, b2⟩ := P0
  obtain ⟨fs, hr, hrun, hended, hend⟩ := X.leaveW hS (Nat.le_refl _) (v := some (.int (nar .byte b))) (fun h => by rw [Bd.returns] at h; cases h)
  refine ⟨_, _, pre0 _ ?_, hrun, hended, _, _, _, _, rfl, ⟨rfl, by show Ext s.heap s₁.heap; rw [e0]; exact ⟨Nat.le_refl _, fun _ _ q => q⟩⟩, N, hC, b1, b2, hend⟩
  · show Steps p.tables e below (s₁.setTop (mkF m 0 #[.val (.int (Int32.ofNat j)), .val (.int q), .val (.int b), .val (.int w), .val (.int d)] [])) _
    refine XS.iloadN X0.here hx rfl (hb hby dd_at_0) rfl ?_
    show Steps p.tables e below (s₁.setTop (mkF m 1 #[.val (.int (Int32.ofNat j)), .val (.int q), .val (.int b), .val (.int w), .val (.int d)] [(.int (Int32.ofNat j))])) _
    refine XS.iloadN X0.here hx rfl (hb hby dd_at_1) rfl ?_
    show Steps p.tables e below (s₁.setTop (mkF m 2 #[.val (.int (Int32.ofNat j)), .val (.int q), .val (.int b), .val (.int w), .val (.int d)] [(.int w), (.int (Int32.ofNat j))])) _
    refine XS.icmpYes X0.here hx rfl (pc0 := 2) (pc' := 7) rfl (hb hby dd_at_2) rfl (feq h1).2 (by decide) (by decide) ?_
    show Steps p.tables e below (s₁.setTop (mkF m 7 #[.val (.int (Int32.ofNat j)), .val (.int q), .val (.int b), .val (.int w), .val (.int d)] [])) _
    refine XS.iloadN X0.here hx rfl (hb hby dd_at_7) rfl ?_
    show Steps p.tables e below (s₁.setTop (mkF m 8 #[.val (.int (Int32.ofNat j)), .val (.int q), .val (.int b), .val (.int w), .val (.int d)] [(.int (Int32.ofNat j))])) _
    refine XS.iloadN X0.here hx rfl (hb hby dd_at_8) rfl ?_
    show Steps p.tables e below (s₁.setTop (mkF m 9 #[.val (.int (Int32.ofNat j)), .val (.int q), .val (.int b), .val (.int w), .val (.int d)] [(.int q), (.int (Int32.ofNat j))])) _
    refine XS.icmpNo X0.here hx rfl (hb hby dd_at_9) rfl (teq h2).2 ?_
    show Steps p.tables e below (s₁.setTop (mkF m 12 #[.val (.int (Int32.ofNat j)), .val (.int q), .val (.int b), .val (.int w), .val (.int d)] [])) _
    refine XS.iloadN X0.here hx rfl (hb hby dd_at_12) rfl ?_
    show Steps p.tables e below (s₁.setTop (mkF m 13 #[.val (.int (Int32.ofNat j)), .val (.int q), .val (.int b), .val (.int w), .val (.int d)] [(.int b)])) _
    exact retN X hx (t := .byte) Bd.returns (by simp) (hb hby dd_at_13) hr
set_option maxRecDepth 65536 in
theorem own_atC (l : Launch) (Z : State) (a0 : Array Value) (hw : ∀ d ∈ tables_1, d.before a0 Z = true) (hEL : EW Z a0 EL) (n0 : Nat) (G1 : Int32) (G3 : Value) (rG3 : G3.isRef = true) (P5 : ¬ G1 = 0) (O2 : Sta Z Z.heap "java/lang/String" "COMPACT_STRINGS" "Z" (.int G1)) (O4 : Sta Z Z.heap "jdk/internal/util/Preconditions" "SIOOBE_FORMATTER" "Ljava/util/function/BiFunction;" G3) (j : Nat) (hj : j < 26) (q b w d : Int32) (h : Heap) (X00 : Old Z n0 h) (h1 : ¬ Int32.ofNat j = w) (h2 : ¬ Int32.ofNat j = q) (h3 : Int32.ofNat j = 24) :
    own_Con Z l n0 (⟨"com/example/vigilant_ledger/vigilantledger/journal/JournalFormatIsTornHeaderPinLaw", "at", "(IIBIB)B"⟩ : MethodName) method_3_code 5 (some .byte) ({ frames := 5, cells := 2, slots := 108, locals := 66 } : Room) [] #[(.int (Int32.ofNat j)), (.int q), (.int b), (.int w), (.int d)] h (fun v h' => v = some (.int (nar .byte d)) ∧ Ext h h') := by
  refine MetFree.of_bodySF (plainFor_of_name pnn) hisR ?_
  intro p e s m args below meth c s₁ Bd hml0 hP hK
  obtain ⟨rfl, hZ, hh, hCH, hSf⟩ := hP
  subst hh
  have hx := Bd.exec
  have hby := Bd.bytes
  have hml : c.maxLocals = 5 := hml0
  have hown : s.vm.findClass OWN = some m.cls := findClass_of_methodNamed Bd.named
  have X0 := Stand.of_body Bd
  have e0 : s₁.heap = s.heap := by rw [Bd.state]; rfl
  have P0 := own_start (n0 := n0) X0 e0 hZ hown hEL hCH
  have pre0 : ∀ t, Steps p.tables e below (s₁.setTop (mkF m 0 #[.val (.int (Int32.ofNat j)), .val (.int q), .val (.int b), .val (.int w), .val (.int d)] [])) t → Steps p.tables e below (s₁.setTop (entryFrame m #[(.int (Int32.ofNat j)), (.int q), (.int b), (.int w), (.int d)] 5)) t := fun t q => castTop (eff_at m _ _ _ _ _) q
  obtain ⟨X, N, hS, hZ', hown', hC, b1, b2⟩ := P0
  obtain ⟨fs, hr, hrun, hended, hend⟩ := X.leaveW hS (Nat.le_refl _) (v := some (.int (nar .byte d))) (fun h => by rw [Bd.returns] at h; cases h)
  refine ⟨_, _, pre0 _ ?_, hrun, hended, _, _, _, _, rfl, ⟨rfl, by show Ext s.heap s₁.heap; rw [e0]; exact ⟨Nat.le_refl _, fun _ _ q => q⟩⟩, N, hC, b1, b2, hend⟩
  · show Steps p.tables e below (s₁.setTop (mkF m 0 #[.val (.int (Int32.ofNat j)), .val (.int q), .val (.int b), .val (.int w), .val (.int d)] [])) _
    refine XS.iloadN X0.here hx rfl (hb hby dd_at_0) rfl ?_
    show Steps p.tables e below (s₁.setTop (mkF m 1 #[.val (.int (Int32.ofNat j)), .val (.int q), .val (.int b), .val (.int w), .val (.int d)] [(.int (Int32.ofNat j))])) _
    refine XS.iloadN X0.here hx rfl (hb hby dd_at_1) rfl ?_
    show Steps p.tables e below (s₁.setTop (mkF m 2 #[.val (.int (Int32.ofNat j)), .val (.int q), .val (.int b), .val (.int w), .val (.int d)] [(.int w), (.int (Int32.ofNat j))])) _
    refine XS.icmpYes X0.here hx rfl (pc0 := 2) (pc' := 7) rfl (hb hby dd_at_2) rfl (feq h1).2 (by decide) (by decide) ?_
    show Steps p.tables e below (s₁.setTop (mkF m 7 #[.val (.int (Int32.ofNat j)), .val (.int q), .val (.int b), .val (.int w), .val (.int d)] [])) _
    refine XS.iloadN X0.here hx rfl (hb hby dd_at_7) rfl ?_
    show Steps p.tables e below (s₁.setTop (mkF m 8 #[.val (.int (Int32.ofNat j)), .val (.int q), .val (.int b), .val (.int w), .val (.int d)] [(.int (Int32.ofNat j))])) _
    refine XS.iloadN X0.here hx rfl (hb hby dd_at_8) rfl ?_
    show Steps p.tables e below (s₁.setTop (mkF m 9 #[.val (.int (Int32.ofNat j)), .val (.int q), .val (.int b), .val (.int w), .val (.int d)] [(.int q), (.int (Int32.ofNat j))])) _
    refine XS.icmpYes X0.here hx rfl (pc0 := 9) (pc' := 14) rfl (hb hby dd_at_9) rfl (feq h2).2 (by decide) (by decide) ?_
    show Steps p.tables e below (s₁.setTop (mkF m 14 #[.val (.int (Int32.ofNat j)), .val (.int q), .val (.int b), .val (.int w), .val (.int d)] [])) _
    refine XS.iloadN X0.here hx rfl (hb hby dd_at_14) rfl ?_
    show Steps p.tables e below (s₁.setTop (mkF m 15 #[.val (.int (Int32.ofNat j)), .val (.int q), .val (.int b), .val (.int w), .val (.int d)] [(.int (Int32.ofNat j))])) _
    refine XS.bipush X0.here hx rfl (hb hby dd_at_15) ?_
    show Steps p.tables e below (s₁.setTop (mkF m 17 #[.val (.int (Int32.ofNat j)), .val (.int q), .val (.int b), .val (.int w), .val (.int d)] [(.int (24 : Int32)), (.int (Int32.ofNat j))])) _
    refine XS.icmpNo X0.here hx rfl (hb hby dd_at_17) rfl (teq h3).2 ?_
    show Steps p.tables e below (s₁.setTop (mkF m 20 #[.val (.int (Int32.ofNat j)), .val (.int q), .val (.int b), .val (.int w), .val (.int d)] [])) _
    refine XS.iload X0.here hx rfl (hb hby dd_at_20) rfl ?_
    show Steps p.tables e below (s₁.setTop (mkF m 22 #[.val (.int (Int32.ofNat j)), .val (.int q), .val (.int b), .val (.int w), .val (.int d)] [(.int d)])) _
    exact retN X hx (t := .byte) Bd.returns (by simp) (hb hby dd_at_22) hr
set_option maxRecDepth 65536 in
theorem own_atD (l : Launch) (Z : State) (a0 : Array Value) (hw : ∀ d ∈ tables_1, d.before a0 Z = true) (hEL : EW Z a0 EL) (n0 : Nat) (G1 : Int32) (G3 : Value) (rG3 : G3.isRef = true) (P5 : ¬ G1 = 0) (O2 : Sta Z Z.heap "java/lang/String" "COMPACT_STRINGS" "Z" (.int G1)) (O4 : Sta Z Z.heap "jdk/internal/util/Preconditions" "SIOOBE_FORMATTER" "Ljava/util/function/BiFunction;" G3) (j : Nat) (hj : j < 26) (q b w d : Int32) (h : Heap) (X00 : Old Z n0 h) (h1 : ¬ Int32.ofNat j = w) (h2 : ¬ Int32.ofNat j = q) (h3 : ¬ Int32.ofNat j = 24) :
    own_Con Z l n0 (⟨"com/example/vigilant_ledger/vigilantledger/journal/JournalFormatIsTornHeaderPinLaw", "at", "(IIBIB)B"⟩ : MethodName) method_3_code 5 (some .byte) ({ frames := 5, cells := 2, slots := 108, locals := 66 } : Room) [] #[(.int (Int32.ofNat j)), (.int q), (.int b), (.int w), (.int d)] h (fun v h' => v = some (.int (own_cs1.getD j 0)) ∧ Ext h h') := by
  refine MetFree.of_bodySF (plainFor_of_name pnn) hisR ?_
  intro p e s m args below meth c s₁ Bd hml0 hP hK
  obtain ⟨rfl, hZ, hh, hCH, hSf⟩ := hP
  subst hh
  have hx := Bd.exec
  have hby := Bd.bytes
  have hml : c.maxLocals = 5 := hml0
  have hown : s.vm.findClass OWN = some m.cls := findClass_of_methodNamed Bd.named
  have X0 := Stand.of_body Bd
  have e0 : s₁.heap = s.heap := by rw [Bd.state]; rfl
  have P0 := own_start (n0 := n0) X0 e0 hZ hown hEL hCH
  have pre0 : ∀ t, Steps p.tables e below (s₁.setTop (mkF m 0 #[.val (.int (Int32.ofNat j)), .val (.int q), .val (.int b), .val (.int w), .val (.int d)] [])) t → Steps p.tables e below (s₁.setTop (entryFrame m #[(.int (Int32.ofNat j)), (.int q), (.int b), (.int w), (.int d)] 5)) t := fun t q => castTop (eff_at m _ _ _ _ _) q
  obtain ⟨v, T1, L1, c1, s1, P1, ⟨rfl, E1⟩, hR1, i1, i2, st1⟩ := own_call P0 hx hEL (index := 17) (y := (⟨"com/example/vigilant_ledger/vigilantledger/journal/JournalFormatIsTornHeaderPinLaw", "h", "(II)C"⟩ : MethodName)) (hw _ (List.mem_of_getElem? (i := 31) rfl)) (hw _ (List.mem_of_getElem? (i := 32) rfl)) (hw _ (List.mem_of_getElem? (i := 4) rfl)) (hw _ (List.mem_of_getElem? (i := 33) rfl)) (by decide) (W := 0) (argsL := [(.int (1 : Int32)), (.int (Int32.ofNat j))]) (rest := []) (own_h l Z a0 hw hEL n0 G1 G3 rG3 P5 O2 O4 1 j hj s₁.heap (by rw [e0]; exact X00)) (fun _ q => nomatch q) (by decide) (by decide) (by decide) (by decide) (g := mkF m 25 #[.val (.int (Int32.ofNat j)), .val (.int q), .val (.int b), .val (.int w), .val (.int d)] [(.int (Int32.ofNat j)), (.int (1 : Int32))]) rfl (by rw [hml]; rfl) (lenOf pdd_h rfl) rfl (by show 2 * 0 + _ ≤ _; exact Nat.le_of_eq rfl) (hb hby dd_at_25)
  obtain ⟨X, N, hS, hZ', hown', hC, b1, b2⟩ := P1
  obtain ⟨fs, hr, hrun, hended, hend⟩ := X.leaveW hS (Nat.le_refl _) (v := some (.int (own_cs1.getD j 0))) (fun h => by rw [Bd.returns] at h; cases h)
  refine ⟨_, _, pre0 _ ?_, hrun, hended, _, _, _, _, rfl, ⟨rfl, by show Ext s.heap T1.heap; rw [← e0]; exact E1⟩, N, hC, b1, b2, hend⟩
  · show Steps p.tables e below (s₁.setTop (mkF m 0 #[.val (.int (Int32.ofNat j)), .val (.int q), .val (.int b), .val (.int w), .val (.int d)] [])) _
    refine XS.iloadN X0.here hx rfl (hb hby dd_at_0) rfl ?_
    show Steps p.tables e below (s₁.setTop (mkF m 1 #[.val (.int (Int32.ofNat j)), .val (.int q), .val (.int b), .val (.int w), .val (.int d)] [(.int (Int32.ofNat j))])) _
    refine XS.iloadN X0.here hx rfl (hb hby dd_at_1) rfl ?_
    show Steps p.tables e below (s₁.setTop (mkF m 2 #[.val (.int (Int32.ofNat j)), .val (.int q), .val (.int b), .val (.int w), .val (.int d)] [(.int w), (.int (Int32.ofNat j))])) _
    refine XS.icmpYes X0.here hx rfl (pc0 := 2) (pc' := 7) rfl (hb hby dd_at_2) rfl (feq h1).2 (by decide) (by decide) ?_
    show Steps p.tables e below (s₁.setTop (mkF m 7 #[.val (.int (Int32.ofNat j)), .val (.int q), .val (.int b), .val (.int w), .val (.int d)] [])) _
    refine XS.iloadN X0.here hx rfl (hb hby dd_at_7) rfl ?_
    show Steps p.tables e below (s₁.setTop (mkF m 8 #[.val (.int (Int32.ofNat j)), .val (.int q), .val (.int b), .val (.int w), .val (.int d)] [(.int (Int32.ofNat j))])) _
    refine XS.iloadN X0.here hx rfl (hb hby dd_at_8) rfl ?_
    show Steps p.tables e below (s₁.setTop (mkF m 9 #[.val (.int (Int32.ofNat j)), .val (.int q), .val (.int b), .val (.int w), .val (.int d)] [(.int q), (.int (Int32.ofNat j))])) _
    refine XS.icmpYes X0.here hx rfl (pc0 := 9) (pc' := 14) rfl (hb hby dd_at_9) rfl (feq h2).2 (by decide) (by decide) ?_
    show Steps p.tables e below (s₁.setTop (mkF m 14 #[.val (.int (Int32.ofNat j)), .val (.int q), .val (.int b), .val (.int w), .val (.int d)] [])) _
    refine XS.iloadN X0.here hx rfl (hb hby dd_at_14) rfl ?_
    show Steps p.tables e below (s₁.setTop (mkF m 15 #[.val (.int (Int32.ofNat j)), .val (.int q), .val (.int b), .val (.int w), .val (.int d)] [(.int (Int32.ofNat j))])) _
    refine XS.bipush X0.here hx rfl (hb hby dd_at_15) ?_
    show Steps p.tables e below (s₁.setTop (mkF m 17 #[.val (.int (Int32.ofNat j)), .val (.int q), .val (.int b), .val (.int w), .val (.int d)] [(.int (24 : Int32)), (.int (Int32.ofNat j))])) _
    refine XS.icmpYes X0.here hx rfl (pc0 := 17) (pc' := 23) rfl (hb hby dd_at_17) rfl (feq h3).2 (by decide) (by decide) ?_
    show Steps p.tables e below (s₁.setTop (mkF m 23 #[.val (.int (Int32.ofNat j)), .val (.int q), .val (.int b), .val (.int w), .val (.int d)] [])) _
    refine XS.iconst X0.here hx rfl (hb hby dd_at_23) ?_
    show Steps p.tables e below (s₁.setTop (mkF m 24 #[.val (.int (Int32.ofNat j)), .val (.int q), .val (.int b), .val (.int w), .val (.int d)] [(.int (1 : Int32))])) _
    refine XS.iloadN X0.here hx rfl (hb hby dd_at_24) rfl ?_
    show Steps p.tables e below (s₁.setTop (mkF m 25 #[.val (.int (Int32.ofNat j)), .val (.int q), .val (.int b), .val (.int w), .val (.int d)] [(.int (Int32.ofNat j)), (.int (1 : Int32))])) _
    refine st1.trans ?_
    show Steps p.tables e below (T1.setTop (mkF m 28 #[.val (.int (Int32.ofNat j)), .val (.int q), .val (.int b), .val (.int w), .val (.int d)] [(.int (own_H 1 j))])) _
    refine XS.i2b X.here hx rfl (hb hby dd_at_28) rfl ?_
    show Steps p.tables e below (T1.setTop (mkF m 29 #[.val (.int (Int32.ofNat j)), .val (.int q), .val (.int b), .val (.int w), .val (.int d)] [(.int ((own_H 1 j).toInt8.toInt32))])) _
    exact retN X hx (t := .byte) Bd.returns (by simp) (hb hby dd_at_29) (by rw [own_nb j hj]; exact hr)
theorem own_atJ (l : Launch) (Z : State) (a0 : Array Value) (hw : ∀ d ∈ tables_1, d.before a0 Z = true) (hEL : EW Z a0 EL) (n0 : Nat) (G1 : Int32) (G3 : Value) (rG3 : G3.isRef = true) (P5 : ¬ G1 = 0) (O2 : Sta Z Z.heap "java/lang/String" "COMPACT_STRINGS" "Z" (.int G1)) (O4 : Sta Z Z.heap "jdk/internal/util/Preconditions" "SIOOBE_FORMATTER" "Ljava/util/function/BiFunction;" G3) (j : Nat) (hj : j < 26) (q b w d : Int32) (h : Heap) (X00 : Old Z n0 h) :
    own_Con Z l n0 (⟨"com/example/vigilant_ledger/vigilantledger/journal/JournalFormatIsTornHeaderPinLaw", "at", "(IIBIB)B"⟩ : MethodName) method_3_code 5 (some .byte) ({ frames := 5, cells := 2, slots := 108, locals := 66 } : Room) [] #[(.int (Int32.ofNat j)), (.int q), (.int b), (.int w), (.int d)] h (fun v h' => v = some (.int (own_at j q b w d)) ∧ Ext h h') := by
  unfold own_at
  by_cases h1 : Int32.ofNat j = w
  · rw [if_pos h1]; exact own_atA l Z a0 hw hEL n0 G1 G3 rG3 P5 O2 O4 j hj q b w d h X00 h1
  · rw [if_neg h1]
    by_cases h2 : Int32.ofNat j = q
    · rw [if_pos h2]; exact own_atB l Z a0 hw hEL n0 G1 G3 rG3 P5 O2 O4 j hj q b w d h X00 h1 h2
    · rw [if_neg h2]
      by_cases h3 : Int32.ofNat j = 24
      · rw [if_pos h3]; exact own_atC l Z a0 hw hEL n0 G1 G3 rG3 P5 O2 O4 j hj q b w d h X00 h1 h2 h3
      · rw [if_neg h3]; exact own_atD l Z a0 hw hEL n0 G1 G3 rG3 P5 O2 O4 j hj q b w d h X00 h1 h2 h3
theorem own_bb (x : Int32) : nar .byte (nar .byte x) = nar .byte x := by show x.toInt8.toInt32.toInt8.toInt32 = x.toInt8.toInt32; rw [Int8.toInt8_toInt32]
theorem own_b1 : ∀ j, j < 26 → nar .byte (own_cs1.getD j 0) = own_cs1.getD j 0 := by decide +kernel
theorem own_atn (j : Nat) (hj : j < 26) (q b w d : Int32) : nar .byte (own_at j q b w d) = own_at j q b w d := by
  unfold own_at
  split
  · rfl
  · split
    · exact own_bb b
    · split
      · exact own_bb d
      · exact own_b1 j hj
theorem own_fits (x : Int32) (h : nar .byte x = x) : fits .byte (.int x) = true := by rw [← h]; exact Jvm.Free.SBG.fits_of_int8 _
theorem own_setout {Z : State} {h : Heap} {a : Addr} {k : ClassId} {z : Int32} {vs : List Value} {dv v : Value} (F : Arv Z h a k .byte z vs dv) (j : Nat) (q : z.toNatClampNeg ≤ j) : Arv Z h a k .byte z (vs.set j v) dv := by
  obtain ⟨c, A, r1, r2, r3, H, G⟩ := F
  have e : ∀ i, i < c.slots.size → (vs.set j v).getD i dv = vs.getD i dv := fun i hi => by
    simp only [List.getD_eq_getElem?_getD]; rw [List.getElem?_set_ne (by omega)]
  exact ⟨c, A, r1, r2, r3, fun i hi => by rw [e i hi]; exact H i hi, fun i hi => by rw [e i hi]; exact G i hi⟩
theorem own_ge (j : Nat) (hj : j < 26) (z : Int32) (hz : ¬ z < 0) (h : ¬ Int32.ofNat j < z) : z.toNatClampNeg ≤ j := by
  have e := own_nat j hj
  have e2 : (Int32.ofNat j).toInt = j := by
    have : ∀ j, j < 26 → (Int32.ofNat j).toInt = (j : Int) := by decide +kernel
    exact this j hj
  rw [Int32.lt_iff_toInt_lt, e2] at h
  unfold Int32.toNatClampNeg
  omega
set_option maxRecDepth 65536 in
theorem own_putA (l : Launch) (Z : State) (a0 : Array Value) (hw : ∀ d ∈ tables_1, d.before a0 Z = true) (hEL : EW Z a0 EL) (n0 : Nat) (G1 : Int32) (G3 : Value) (rG3 : G3.isRef = true) (P5 : ¬ G1 = 0) (O2 : Sta Z Z.heap "java/lang/String" "COMPACT_STRINGS" "Z" (.int G1)) (O4 : Sta Z Z.heap "jdk/internal/util/Preconditions" "SIOOBE_FORMATTER" "Ljava/util/function/BiFunction;" G3) (a : Addr) (ka : ClassId) (nn : Int32) (vs : List Value) (hvs : vs.length = 26) (j : Nat) (hj : j < 26) (q b w d : Int32) (h : Heap) (X00 : Old Z n0 h) (ga : n0 ≤ a) (Va : Arv Z h a ka .byte nn vs (.int 0)) (h1 : ¬ Int32.ofNat j < nn) :
    own_Con Z l n0 (⟨"com/example/vigilant_ledger/vigilantledger/journal/JournalFormatIsTornHeaderPinLaw", "put", "([BIIBIB)V"⟩ : MethodName) method_4_code 6 none ({ frames := 6, cells := 2, slots := 108, locals := 84 } : Room) [a] #[(.ref a), (.int (Int32.ofNat j)), (.int q), (.int b), (.int w), (.int d)] h (fun v h' => v = none ∧ Keep h h' [a] ∧ Arv Z h' a ka .byte nn (vs.set j (.int (own_at j q b w d))) (.int 0)) := by
  refine MetFree.of_bodySF (plainFor_of_name pnn) hisR ?_
  intro p e s m args below meth c s₁ Bd hml0 hP hK
  obtain ⟨rfl, hZ, hh, hCH, hSf⟩ := hP
  subst hh
  have hx := Bd.exec
  have hby := Bd.bytes
  have hml : c.maxLocals = 6 := hml0
  have hown : s.vm.findClass OWN = some m.cls := findClass_of_methodNamed Bd.named
  have X0 := Stand.of_body Bd
  have e0 : s₁.heap = s.heap := by rw [Bd.state]; rfl
  have P0 := own_start (n0 := n0) X0 e0 hZ hown hEL hCH
  have pre0 : ∀ t, Steps p.tables e below (s₁.setTop (mkF m 0 #[.val (.ref a), .val (.int (Int32.ofNat j)), .val (.int q), .val (.int b), .val (.int w), .val (.int d)] [])) t → Steps p.tables e below (s₁.setTop (entryFrame m #[(.ref a), (.int (Int32.ofNat j)), (.int q), (.int b), (.int w), (.int d)] 6)) t := fun t q => castTop (eff_put m _ _ _ _ _ _) q
  obtain ⟨cl, Ar, -, Sl, Nl, -, -⟩ := id Va
  obtain ⟨X, N, hS, hZ', hown', hC, b1, b2⟩ := P0
  obtain ⟨fs, hr, hrun, hended, hend⟩ := X.leaveW hS (Nat.le_refl _) (v := none) (fun _ => rfl)
  refine ⟨_, _, pre0 _ ?_, hrun, hended, _, _, _, _, rfl, ⟨rfl, by show Keep s.heap s₁.heap [a]; rw [e0]; exact Keep.refl _ _, by show Arv Z s₁.heap a ka .byte nn _ _; rw [e0]; exact own_setout Va j (own_ge j hj nn Nl h1)⟩, N, hC, b1, b2, hend⟩
  · show Steps p.tables e below (s₁.setTop (mkF m 0 #[.val (.ref a), .val (.int (Int32.ofNat j)), .val (.int q), .val (.int b), .val (.int w), .val (.int d)] [])) _
    refine XS.iloadN X0.here hx rfl (hb hby dd_put_0) rfl ?_
    show Steps p.tables e below (s₁.setTop (mkF m 1 #[.val (.ref a), .val (.int (Int32.ofNat j)), .val (.int q), .val (.int b), .val (.int w), .val (.int d)] [(.int (Int32.ofNat j))])) _
    refine XS.aloadN X0.here hx rfl (hb hby dd_put_1) rfl rfl ?_
    show Steps p.tables e below (s₁.setTop (mkF m 2 #[.val (.ref a), .val (.int (Int32.ofNat j)), .val (.int q), .val (.int b), .val (.int w), .val (.int d)] [(.ref a), (.int (Int32.ofNat j))])) _
    refine X0.arraylength hx (cell := cl) (by rw [e0]; exact Ar.1) (State.isArrayOf_alike hZ.alike Ar.2.1) (g := (mkF m 2 #[.val (.ref a), .val (.int (Int32.ofNat j)), .val (.int q), .val (.int b), .val (.int w), .val (.int d)] [(.ref a), (.int (Int32.ofNat j))])) rfl rfl (hb hby dd_put_2) _ ?_
    rw [len_of Sl Nl]
    show Steps p.tables e below (s₁.setTop (mkF m 3 #[.val (.ref a), .val (.int (Int32.ofNat j)), .val (.int q), .val (.int b), .val (.int w), .val (.int d)] [(.int nn), (.int (Int32.ofNat j))])) _
    refine XS.icmpYes X0.here hx rfl (pc0 := 3) (pc' := 19) rfl (hb hby dd_put_3) rfl (flt h1).2.1 (by decide) (by decide) ?_
    show Steps p.tables e below (s₁.setTop (mkF m 19 #[.val (.ref a), .val (.int (Int32.ofNat j)), .val (.int q), .val (.int b), .val (.int w), .val (.int d)] [])) _
    exact X.returnOut hx Bd.returns (hb hby dd_put_19) hr
set_option maxRecDepth 65536 in
theorem own_putB (l : Launch) (Z : State) (a0 : Array Value) (hw : ∀ d ∈ tables_1, d.before a0 Z = true) (hEL : EW Z a0 EL) (n0 : Nat) (G1 : Int32) (G3 : Value) (rG3 : G3.isRef = true) (P5 : ¬ G1 = 0) (O2 : Sta Z Z.heap "java/lang/String" "COMPACT_STRINGS" "Z" (.int G1)) (O4 : Sta Z Z.heap "jdk/internal/util/Preconditions" "SIOOBE_FORMATTER" "Ljava/util/function/BiFunction;" G3) (a : Addr) (ka : ClassId) (nn : Int32) (vs : List Value) (hvs : vs.length = 26) (j : Nat) (hj : j < 26) (q b w d : Int32) (h : Heap) (X00 : Old Z n0 h) (ga : n0 ≤ a) (Va : Arv Z h a ka .byte nn vs (.int 0)) (h1 : Int32.ofNat j < nn) :
    own_Con Z l n0 (⟨"com/example/vigilant_ledger/vigilantledger/journal/JournalFormatIsTornHeaderPinLaw", "put", "([BIIBIB)V"⟩ : MethodName) method_4_code 6 none ({ frames := 6, cells := 2, slots := 108, locals := 84 } : Room) [a] #[(.ref a), (.int (Int32.ofNat j)), (.int q), (.int b), (.int w), (.int d)] h (fun v h' => v = none ∧ Keep h h' [a] ∧ Arv Z h' a ka .byte nn (vs.set j (.int (own_at j q b w d))) (.int 0)) := by
  refine MetFree.of_bodySF (plainFor_of_name pnn) hisR ?_
  intro p e s m args below meth c s₁ Bd hml0 hP hK
  obtain ⟨rfl, hZ, hh, hCH, hSf⟩ := hP
  subst hh
  have hx := Bd.exec
  have hby := Bd.bytes
  have hml : c.maxLocals = 6 := hml0
  have hown : s.vm.findClass OWN = some m.cls := findClass_of_methodNamed Bd.named
  have X0 := Stand.of_body Bd
  have e0 : s₁.heap = s.heap := by rw [Bd.state]; rfl
  have P0 := own_start (n0 := n0) X0 e0 hZ hown hEL hCH
  have pre0 : ∀ t, Steps p.tables e below (s₁.setTop (mkF m 0 #[.val (.ref a), .val (.int (Int32.ofNat j)), .val (.int q), .val (.int b), .val (.int w), .val (.int d)] [])) t → Steps p.tables e below (s₁.setTop (entryFrame m #[(.ref a), (.int (Int32.ofNat j)), (.int q), (.int b), (.int w), (.int d)] 6)) t := fun t q => castTop (eff_put m _ _ _ _ _ _) q
  obtain ⟨cl, Ar, -, Sl, Nl, -, -⟩ := id Va
  obtain ⟨v, T1, L1, c1, s1, P1, ⟨rfl, E1⟩, hR1, i1, i2, st1⟩ := own_call P0 hx hEL (index := 23) (y := (⟨"com/example/vigilant_ledger/vigilantledger/journal/JournalFormatIsTornHeaderPinLaw", "at", "(IIBIB)B"⟩ : MethodName)) (hw _ (List.mem_of_getElem? (i := 28) rfl)) (hw _ (List.mem_of_getElem? (i := 29) rfl)) (hw _ (List.mem_of_getElem? (i := 4) rfl)) (hw _ (List.mem_of_getElem? (i := 30) rfl)) (by decide) (W := 2) (argsL := [(.int (Int32.ofNat j)), (.int q), (.int b), (.int w), (.int d)]) (rest := [(.int (Int32.ofNat j)), (.ref a)]) (own_atJ l Z a0 hw hEL n0 G1 G3 rG3 P5 O2 O4 j hj q b w d s₁.heap (by rw [e0]; exact X00)) (fun _ q => nomatch q) (by decide) (by decide) (by decide) (by decide) (g := mkF m 15 #[.val (.ref a), .val (.int (Int32.ofNat j)), .val (.int q), .val (.int b), .val (.int w), .val (.int d)] [(.int d), (.int w), (.int b), (.int q), (.int (Int32.ofNat j)), (.int (Int32.ofNat j)), (.ref a)]) rfl (by rw [hml]; rfl) (lenOf pdd_at rfl) rfl (by show 2 * 0 + _ ≤ _; exact Nat.le_of_eq rfl) (hb hby dd_put_15)
  obtain ⟨X1, N1, hS1, hZ1, hown1, hC1, b11, b21⟩ := P1
  rw [e0] at E1
  obtain ⟨cl1, Ar1, q1, S1, N1', H1, G1'⟩ := id (Va.ext E1)
  obtain ⟨T2, h2, X2, e2, W2, st2⟩ := stB X1 hx hZ1 rfl Ar1 (inb_of S1 ⟨(own_rg j hj).1, h1⟩) (g := mkF m 18 #[.val (.ref a), .val (.int (Int32.ofNat j)), .val (.int q), .val (.int b), .val (.int w), .val (.int d)] [(.int (own_at j q b w d)), (.int (Int32.ofNat j)), (.ref a)]) rfl rfl (hb hby dd_put_18)
  rw [own_atn j hj] at W2
  subst e2
  have hsz := (Keep.of_wr W2).1
  have P := own_pack (vm0 := T1.vm) (k0 := T1.heap.size) (n0 := n0) (h0 := s.heap) X2 (Fr.app N1 (fun y hy => by cases List.mem_singleton.mp hy; exact ga)) hS1 hsz hZ1 hown1 hEL (hC1.trans (CHr.wr W2 (hC1.safe (hSf a (by simp)).1 (hSf a (by simp)).2) hC1.1)) b11 b21
  obtain ⟨X, N, hS, hZ', hown', hC, b1, b2⟩ := P
  obtain ⟨fs, hr, hrun, hended, hend⟩ := X.leaveW hS (Nat.le_refl _) (v := none) (fun _ => rfl)
  refine ⟨_, _, pre0 _ ?_, hrun, hended, _, _, _, _, rfl, ⟨rfl, ((Keep.refl s.heap [a]).ext E1).wr W2 (Or.inl (by simp)), Arv.set Ar1 q1 S1 N1' H1 G1' (own_fits _ (own_atn j hj q b w d)) W2 j (own_nat j hj) (by rw [hvs]; exact hj)⟩, N, hC, b1, b2, hend⟩
  · show Steps p.tables e below (s₁.setTop (mkF m 0 #[.val (.ref a), .val (.int (Int32.ofNat j)), .val (.int q), .val (.int b), .val (.int w), .val (.int d)] [])) _
    refine XS.iloadN X0.here hx rfl (hb hby dd_put_0) rfl ?_
    show Steps p.tables e below (s₁.setTop (mkF m 1 #[.val (.ref a), .val (.int (Int32.ofNat j)), .val (.int q), .val (.int b), .val (.int w), .val (.int d)] [(.int (Int32.ofNat j))])) _
    refine XS.aloadN X0.here hx rfl (hb hby dd_put_1) rfl rfl ?_
    show Steps p.tables e below (s₁.setTop (mkF m 2 #[.val (.ref a), .val (.int (Int32.ofNat j)), .val (.int q), .val (.int b), .val (.int w), .val (.int d)] [(.ref a), (.int (Int32.ofNat j))])) _
    refine X0.arraylength hx (cell := cl) (by rw [e0]; exact Ar.1) (State.isArrayOf_alike hZ.alike Ar.2.1) (g := (mkF m 2 #[.val (.ref a), .val (.int (Int32.ofNat j)), .val (.int q), .val (.int b), .val (.int w), .val (.int d)] [(.ref a), (.int (Int32.ofNat j))])) rfl rfl (hb hby dd_put_2) _ ?_
    rw [len_of Sl Nl]
    show Steps p.tables e below (s₁.setTop (mkF m 3 #[.val (.ref a), .val (.int (Int32.ofNat j)), .val (.int q), .val (.int b), .val (.int w), .val (.int d)] [(.int nn), (.int (Int32.ofNat j))])) _
    refine XS.icmpNo X0.here hx rfl (hb hby dd_put_3) rfl (tlt h1).2.1 ?_
    show Steps p.tables e below (s₁.setTop (mkF m 6 #[.val (.ref a), .val (.int (Int32.ofNat j)), .val (.int q), .val (.int b), .val (.int w), .val (.int d)] [])) _
    refine XS.aloadN X0.here hx rfl (hb hby dd_put_6) rfl rfl ?_
    show Steps p.tables e below (s₁.setTop (mkF m 7 #[.val (.ref a), .val (.int (Int32.ofNat j)), .val (.int q), .val (.int b), .val (.int w), .val (.int d)] [(.ref a)])) _
    refine XS.iloadN X0.here hx rfl (hb hby dd_put_7) rfl ?_
    show Steps p.tables e below (s₁.setTop (mkF m 8 #[.val (.ref a), .val (.int (Int32.ofNat j)), .val (.int q), .val (.int b), .val (.int w), .val (.int d)] [(.int (Int32.ofNat j)), (.ref a)])) _
    refine XS.iloadN X0.here hx rfl (hb hby dd_put_8) rfl ?_
    show Steps p.tables e below (s₁.setTop (mkF m 9 #[.val (.ref a), .val (.int (Int32.ofNat j)), .val (.int q), .val (.int b), .val (.int w), .val (.int d)] [(.int (Int32.ofNat j)), (.int (Int32.ofNat j)), (.ref a)])) _
    refine XS.iloadN X0.here hx rfl (hb hby dd_put_9) rfl ?_
    show Steps p.tables e below (s₁.setTop (mkF m 10 #[.val (.ref a), .val (.int (Int32.ofNat j)), .val (.int q), .val (.int b), .val (.int w), .val (.int d)] [(.int q), (.int (Int32.ofNat j)), (.int (Int32.ofNat j)), (.ref a)])) _
    refine XS.iloadN X0.here hx rfl (hb hby dd_put_10) rfl ?_
    show Steps p.tables e below (s₁.setTop (mkF m 11 #[.val (.ref a), .val (.int (Int32.ofNat j)), .val (.int q), .val (.int b), .val (.int w), .val (.int d)] [(.int b), (.int q), (.int (Int32.ofNat j)), (.int (Int32.ofNat j)), (.ref a)])) _
    refine XS.iload X0.here hx rfl (hb hby dd_put_11) rfl ?_
    show Steps p.tables e below (s₁.setTop (mkF m 13 #[.val (.ref a), .val (.int (Int32.ofNat j)), .val (.int q), .val (.int b), .val (.int w), .val (.int d)] [(.int w), (.int b), (.int q), (.int (Int32.ofNat j)), (.int (Int32.ofNat j)), (.ref a)])) _
    refine XS.iload X0.here hx rfl (hb hby dd_put_13) rfl ?_
    show Steps p.tables e below (s₁.setTop (mkF m 15 #[.val (.ref a), .val (.int (Int32.ofNat j)), .val (.int q), .val (.int b), .val (.int w), .val (.int d)] [(.int d), (.int w), (.int b), (.int q), (.int (Int32.ofNat j)), (.int (Int32.ofNat j)), (.ref a)])) _
    refine st1.trans ?_
    show Steps p.tables e below (T1.setTop (mkF m 18 #[.val (.ref a), .val (.int (Int32.ofNat j)), .val (.int q), .val (.int b), .val (.int w), .val (.int d)] [(.int (own_at j q b w d)), (.int (Int32.ofNat j)), (.ref a)])) _
    refine st2 _ ?_
    show Steps p.tables e below (T2.setTop (mkF m 19 #[.val (.ref a), .val (.int (Int32.ofNat j)), .val (.int q), .val (.int b), .val (.int w), .val (.int d)] [])) _
    exact X.returnOut hx Bd.returns (hb hby dd_put_19) hr
theorem own_put (l : Launch) (Z : State) (a0 : Array Value) (hw : ∀ d ∈ tables_1, d.before a0 Z = true) (hEL : EW Z a0 EL) (n0 : Nat) (G1 : Int32) (G3 : Value) (rG3 : G3.isRef = true) (P5 : ¬ G1 = 0) (O2 : Sta Z Z.heap "java/lang/String" "COMPACT_STRINGS" "Z" (.int G1)) (O4 : Sta Z Z.heap "jdk/internal/util/Preconditions" "SIOOBE_FORMATTER" "Ljava/util/function/BiFunction;" G3) (a : Addr) (ka : ClassId) (nn : Int32) (vs : List Value) (hvs : vs.length = 26) (j : Nat) (hj : j < 26) (q b w d : Int32) (h : Heap) (X00 : Old Z n0 h) (ga : n0 ≤ a) (Va : Arv Z h a ka .byte nn vs (.int 0)) :
    own_Con Z l n0 (⟨"com/example/vigilant_ledger/vigilantledger/journal/JournalFormatIsTornHeaderPinLaw", "put", "([BIIBIB)V"⟩ : MethodName) method_4_code 6 none ({ frames := 6, cells := 2, slots := 108, locals := 84 } : Room) [a] #[(.ref a), (.int (Int32.ofNat j)), (.int q), (.int b), (.int w), (.int d)] h (fun v h' => v = none ∧ Keep h h' [a] ∧ Arv Z h' a ka .byte nn (vs.set j (.int (own_at j q b w d))) (.int 0)) := by
  by_cases h1 : Int32.ofNat j < nn
  · exact own_putB l Z a0 hw hEL n0 G1 G3 rG3 P5 O2 O4 a ka nn vs hvs j hj q b w d h X00 ga Va h1
  · exact own_putA l Z a0 hw hEL n0 G1 G3 rG3 P5 O2 O4 a ka nn vs hvs j hj q b w d h X00 ga Va h1
def own_ok (k : Int32) (j : Nat) (nn q b w d : Int32) : Int32 := if Int32.ofNat j < nn then (if own_at j q b w d = 0 then 1 else if own_at j q b w d = (own_H k j).toInt8.toInt32 then 1 else 0) else 1
set_option maxRecDepth 65536 in
theorem own_okA (l : Launch) (Z : State) (a0 : Array Value) (hw : ∀ d ∈ tables_1, d.before a0 Z = true) (hEL : EW Z a0 EL) (n0 : Nat) (G1 : Int32) (G3 : Value) (rG3 : G3.isRef = true) (P5 : ¬ G1 = 0) (O2 : Sta Z Z.heap "java/lang/String" "COMPACT_STRINGS" "Z" (.int G1)) (O4 : Sta Z Z.heap "jdk/internal/util/Preconditions" "SIOOBE_FORMATTER" "Ljava/util/function/BiFunction;" G3) (k : Int32) (j : Nat) (hj : j < 26) (nn q b w d : Int32) (h : Heap) (X00 : Old Z n0 h) (h1 : ¬ Int32.ofNat j < nn) :
    own_Con Z l n0 (⟨"com/example/vigilant_ledger/vigilantledger/journal/JournalFormatIsTornHeaderPinLaw", "ok", "(IIIIBIB)Z"⟩ : MethodName) method_5_code 8 (some .boolean) ({ frames := 6, cells := 6, slots := 324, locals := 82 } : Room) [] #[(.int k), (.int (Int32.ofNat j)), (.int nn), (.int q), (.int b), (.int w), (.int d)] h (fun v h' => v = some (.int 1) ∧ Ext h h') := by
  refine MetFree.of_bodySF (plainFor_of_name pnn) hisR ?_
  intro p e s m args below meth c s₁ Bd hml0 hP hK
  obtain ⟨rfl, hZ, hh, hCH, hSf⟩ := hP
  subst hh
  have hx := Bd.exec
  have hby := Bd.bytes
  have hml : c.maxLocals = 8 := hml0
  have hown : s.vm.findClass OWN = some m.cls := findClass_of_methodNamed Bd.named
  have X0 := Stand.of_body Bd
  have e0 : s₁.heap = s.heap := by rw [Bd.state]; rfl
  have P0 := own_start (n0 := n0) X0 e0 hZ hown hEL hCH
  have pre0 : ∀ t, Steps p.tables e below (s₁.setTop (mkF m 0 #[.val (.int k), .val (.int (Int32.ofNat j)), .val (.int nn), .val (.int q), .val (.int b), .val (.int w), .val (.int d), .unset] [])) t → Steps p.tables e below (s₁.setTop (entryFrame m #[(.int k), (.int (Int32.ofNat j)), (.int nn), (.int q), (.int b), (.int w), (.int d)] 8)) t := fun t q => castTop (eff_ok m _ _ _ _ _ _ _) q
  obtain ⟨X, N, hS, hZ', hown', hC, b1, b2⟩ := P0
  obtain ⟨fs, hr, hrun, hended, hend⟩ := X.leaveW hS (Nat.le_refl _) (v := some (.int (1 : Int32))) (fun h => by rw [Bd.returns] at h; cases h)
  refine ⟨_, _, pre0 _ ?_, hrun, hended, _, _, _, _, rfl, ⟨rfl, by show Ext s.heap s₁.heap; rw [e0]; exact ⟨Nat.le_refl _, fun _ _ q => q⟩⟩, N, hC, b1, b2, hend⟩
  · show Steps p.tables e below (s₁.setTop (mkF m 0 #[.val (.int k), .val (.int (Int32.ofNat j)), .val (.int nn), .val (.int q), .val (.int b), .val (.int w), .val (.int d), .unset] [])) _
    refine XS.iloadN X0.here hx rfl (hb hby dd_ok_0) rfl ?_
    show Steps p.tables e below (s₁.setTop (mkF m 1 #[.val (.int k), .val (.int (Int32.ofNat j)), .val (.int nn), .val (.int q), .val (.int b), .val (.int w), .val (.int d), .unset] [(.int (Int32.ofNat j))])) _
    refine XS.iloadN X0.here hx rfl (hb hby dd_ok_1) rfl ?_
    show Steps p.tables e below (s₁.setTop (mkF m 2 #[.val (.int k), .val (.int (Int32.ofNat j)), .val (.int nn), .val (.int q), .val (.int b), .val (.int w), .val (.int d), .unset] [(.int nn), (.int (Int32.ofNat j))])) _
    refine XS.icmpNo X0.here hx rfl (hb hby dd_ok_2) rfl (flt h1).1 ?_
    show Steps p.tables e below (s₁.setTop (mkF m 5 #[.val (.int k), .val (.int (Int32.ofNat j)), .val (.int nn), .val (.int q), .val (.int b), .val (.int w), .val (.int d), .unset] [])) _
    refine XS.iconst X0.here hx rfl (hb hby dd_ok_5) ?_
    show Steps p.tables e below (s₁.setTop (mkF m 6 #[.val (.int k), .val (.int (Int32.ofNat j)), .val (.int nn), .val (.int q), .val (.int b), .val (.int w), .val (.int d), .unset] [(.int (1 : Int32))])) _
    exact retN X hx (t := .boolean) Bd.returns (by simp) (hb hby dd_ok_6) hr
set_option maxRecDepth 65536 in
theorem own_okB (l : Launch) (Z : State) (a0 : Array Value) (hw : ∀ d ∈ tables_1, d.before a0 Z = true) (hEL : EW Z a0 EL) (n0 : Nat) (G1 : Int32) (G3 : Value) (rG3 : G3.isRef = true) (P5 : ¬ G1 = 0) (O2 : Sta Z Z.heap "java/lang/String" "COMPACT_STRINGS" "Z" (.int G1)) (O4 : Sta Z Z.heap "jdk/internal/util/Preconditions" "SIOOBE_FORMATTER" "Ljava/util/function/BiFunction;" G3) (k : Int32) (j : Nat) (hj : j < 26) (nn q b w d : Int32) (h : Heap) (X00 : Old Z n0 h) (h1 : Int32.ofNat j < nn) (h2 : own_at j q b w d = 0) :
    own_Con Z l n0 (⟨"com/example/vigilant_ledger/vigilantledger/journal/JournalFormatIsTornHeaderPinLaw", "ok", "(IIIIBIB)Z"⟩ : MethodName) method_5_code 8 (some .boolean) ({ frames := 6, cells := 6, slots := 324, locals := 82 } : Room) [] #[(.int k), (.int (Int32.ofNat j)), (.int nn), (.int q), (.int b), (.int w), (.int d)] h (fun v h' => v = some (.int 1) ∧ Ext h h') := by
  refine MetFree.of_bodySF (plainFor_of_name pnn) hisR ?_
  intro p e s m args below meth c s₁ Bd hml0 hP hK
  obtain ⟨rfl, hZ, hh, hCH, hSf⟩ := hP
  subst hh
  have hx := Bd.exec
  have hby := Bd.bytes
  have hml : c.maxLocals = 8 := hml0
  have hown : s.vm.findClass OWN = some m.cls := findClass_of_methodNamed Bd.named
  have X0 := Stand.of_body Bd
  have e0 : s₁.heap = s.heap := by rw [Bd.state]; rfl
  have P0 := own_start (n0 := n0) X0 e0 hZ hown hEL hCH
  have pre0 : ∀ t, Steps p.tables e below (s₁.setTop (mkF m 0 #[.val (.int k), .val (.int (Int32.ofNat j)), .val (.int nn), .val (.int q), .val (.int b), .val (.int w), .val (.int d), .unset] [])) t → Steps p.tables e below (s₁.setTop (entryFrame m #[(.int k), (.int (Int32.ofNat j)), (.int nn), (.int q), (.int b), (.int w), (.int d)] 8)) t := fun t q => castTop (eff_ok m _ _ _ _ _ _ _) q
  obtain ⟨v, T1, L1, c1, s1, P1, ⟨rfl, E1⟩, hR1, i1, i2, st1⟩ := own_call P0 hx hEL (index := 23) (y := (⟨"com/example/vigilant_ledger/vigilantledger/journal/JournalFormatIsTornHeaderPinLaw", "at", "(IIBIB)B"⟩ : MethodName)) (hw _ (List.mem_of_getElem? (i := 28) rfl)) (hw _ (List.mem_of_getElem? (i := 29) rfl)) (hw _ (List.mem_of_getElem? (i := 4) rfl)) (hw _ (List.mem_of_getElem? (i := 30) rfl)) (by decide) (W := 0) (argsL := [(.int (Int32.ofNat j)), (.int q), (.int b), (.int w), (.int d)]) (rest := []) (own_atJ l Z a0 hw hEL n0 G1 G3 rG3 P5 O2 O4 j hj q b w d s₁.heap (by rw [e0]; exact X00)) (fun _ q => nomatch q) (by decide) (by decide) (by decide) (by decide) (g := mkF m 15 #[.val (.int k), .val (.int (Int32.ofNat j)), .val (.int nn), .val (.int q), .val (.int b), .val (.int w), .val (.int d), .unset] [(.int d), (.int w), (.int b), (.int q), (.int (Int32.ofNat j))]) rfl (by rw [hml]; rfl) (lenOf pdd_at rfl) rfl (by show 2 * 0 + _ ≤ _; exact Nat.le_of_eq rfl) (hb hby dd_ok_15)
  rw [e0] at E1
  obtain ⟨X, N, hS, hZ', hown', hC, b1, b2⟩ := P1
  obtain ⟨fs, hr, hrun, hended, hend⟩ := X.leaveW hS (Nat.le_refl _) (v := some (.int (1 : Int32))) (fun h => by rw [Bd.returns] at h; cases h)
  refine ⟨_, _, pre0 _ ?_, hrun, hended, _, _, _, _, rfl, ⟨rfl, E1⟩, N, hC, b1, b2, hend⟩
  · show Steps p.tables e below (s₁.setTop (mkF m 0 #[.val (.int k), .val (.int (Int32.ofNat j)), .val (.int nn), .val (.int q), .val (.int b), .val (.int w), .val (.int d), .unset] [])) _
    refine XS.iloadN X0.here hx rfl (hb hby dd_ok_0) rfl ?_
    show Steps p.tables e below (s₁.setTop (mkF m 1 #[.val (.int k), .val (.int (Int32.ofNat j)), .val (.int nn), .val (.int q), .val (.int b), .val (.int w), .val (.int d), .unset] [(.int (Int32.ofNat j))])) _
    refine XS.iloadN X0.here hx rfl (hb hby dd_ok_1) rfl ?_
    show Steps p.tables e below (s₁.setTop (mkF m 2 #[.val (.int k), .val (.int (Int32.ofNat j)), .val (.int nn), .val (.int q), .val (.int b), .val (.int w), .val (.int d), .unset] [(.int nn), (.int (Int32.ofNat j))])) _
    refine XS.icmpYes X0.here hx rfl (pc0 := 2) (pc' := 7) rfl (hb hby dd_ok_2) rfl (tlt h1).1 (by decide) (by decide) ?_
    show Steps p.tables e below (s₁.setTop (mkF m 7 #[.val (.int k), .val (.int (Int32.ofNat j)), .val (.int nn), .val (.int q), .val (.int b), .val (.int w), .val (.int d), .unset] [])) _
    refine XS.iloadN X0.here hx rfl (hb hby dd_ok_7) rfl ?_
    show Steps p.tables e below (s₁.setTop (mkF m 8 #[.val (.int k), .val (.int (Int32.ofNat j)), .val (.int nn), .val (.int q), .val (.int b), .val (.int w), .val (.int d), .unset] [(.int (Int32.ofNat j))])) _
    refine XS.iloadN X0.here hx rfl (hb hby dd_ok_8) rfl ?_
    show Steps p.tables e below (s₁.setTop (mkF m 9 #[.val (.int k), .val (.int (Int32.ofNat j)), .val (.int nn), .val (.int q), .val (.int b), .val (.int w), .val (.int d), .unset] [(.int q), (.int (Int32.ofNat j))])) _
    refine XS.iload X0.here hx rfl (hb hby dd_ok_9) rfl ?_
    show Steps p.tables e below (s₁.setTop (mkF m 11 #[.val (.int k), .val (.int (Int32.ofNat j)), .val (.int nn), .val (.int q), .val (.int b), .val (.int w), .val (.int d), .unset] [(.int b), (.int q), (.int (Int32.ofNat j))])) _
    refine XS.iload X0.here hx rfl (hb hby dd_ok_11) rfl ?_
    show Steps p.tables e below (s₁.setTop (mkF m 13 #[.val (.int k), .val (.int (Int32.ofNat j)), .val (.int nn), .val (.int q), .val (.int b), .val (.int w), .val (.int d), .unset] [(.int w), (.int b), (.int q), (.int (Int32.ofNat j))])) _
    refine XS.iload X0.here hx rfl (hb hby dd_ok_13) rfl ?_
    show Steps p.tables e below (s₁.setTop (mkF m 15 #[.val (.int k), .val (.int (Int32.ofNat j)), .val (.int nn), .val (.int q), .val (.int b), .val (.int w), .val (.int d), .unset] [(.int d), (.int w), (.int b), (.int q), (.int (Int32.ofNat j))])) _
    refine st1.trans ?_
    show Steps p.tables e below (T1.setTop (mkF m 18 #[.val (.int k), .val (.int (Int32.ofNat j)), .val (.int nn), .val (.int q), .val (.int b), .val (.int w), .val (.int d), .unset] [(.int (own_at j q b w d))])) _
    refine XS.istore X.here hx rfl (hb hby dd_ok_18) rfl (l' := #[.val (.int k), .val (.int (Int32.ofNat j)), .val (.int nn), .val (.int q), .val (.int b), .val (.int w), .val (.int d), .val (.int (own_at j q b w d))]) rfl ?_
    show Steps p.tables e below (T1.setTop (mkF m 20 #[.val (.int k), .val (.int (Int32.ofNat j)), .val (.int nn), .val (.int q), .val (.int b), .val (.int w), .val (.int d), .val (.int (own_at j q b w d))] [])) _
    refine XS.iload X.here hx rfl (hb hby dd_ok_20) rfl ?_
    show Steps p.tables e below (T1.setTop (mkF m 22 #[.val (.int k), .val (.int (Int32.ofNat j)), .val (.int nn), .val (.int q), .val (.int b), .val (.int w), .val (.int d), .val (.int (own_at j q b w d))] [(.int (own_at j q b w d))])) _
    refine XS.ifYes X.here hx rfl (pc0 := 22) (pc' := 36) rfl (hb hby dd_ok_22) rfl ((if0 _ _).trans (teq h2).1) (by decide) (by decide) ?_
    show Steps p.tables e below (T1.setTop (mkF m 36 #[.val (.int k), .val (.int (Int32.ofNat j)), .val (.int nn), .val (.int q), .val (.int b), .val (.int w), .val (.int d), .val (.int (own_at j q b w d))] [])) _
    refine XS.iconst X.here hx rfl (hb hby dd_ok_36) ?_
    show Steps p.tables e below (T1.setTop (mkF m 37 #[.val (.int k), .val (.int (Int32.ofNat j)), .val (.int nn), .val (.int q), .val (.int b), .val (.int w), .val (.int d), .val (.int (own_at j q b w d))] [(.int (1 : Int32))])) _
    refine XS.goto X.here hx rfl (pc0 := 37) (pc' := 41) rfl (hb hby dd_ok_37) (by decide) (by decide) ?_
    show Steps p.tables e below (T1.setTop (mkF m 41 #[.val (.int k), .val (.int (Int32.ofNat j)), .val (.int nn), .val (.int q), .val (.int b), .val (.int w), .val (.int d), .val (.int (own_at j q b w d))] [(.int (1 : Int32))])) _
    exact retN X hx (t := .boolean) Bd.returns (by simp) (hb hby dd_ok_41) hr
set_option maxRecDepth 65536 in
theorem own_okC (l : Launch) (Z : State) (a0 : Array Value) (hw : ∀ d ∈ tables_1, d.before a0 Z = true) (hEL : EW Z a0 EL) (n0 : Nat) (G1 : Int32) (G3 : Value) (rG3 : G3.isRef = true) (P5 : ¬ G1 = 0) (O2 : Sta Z Z.heap "java/lang/String" "COMPACT_STRINGS" "Z" (.int G1)) (O4 : Sta Z Z.heap "jdk/internal/util/Preconditions" "SIOOBE_FORMATTER" "Ljava/util/function/BiFunction;" G3) (k : Int32) (j : Nat) (hj : j < 26) (nn q b w d : Int32) (h : Heap) (X00 : Old Z n0 h) (h1 : Int32.ofNat j < nn) (h2 : ¬ own_at j q b w d = 0) (h3 : own_at j q b w d = (own_H k j).toInt8.toInt32) :
    own_Con Z l n0 (⟨"com/example/vigilant_ledger/vigilantledger/journal/JournalFormatIsTornHeaderPinLaw", "ok", "(IIIIBIB)Z"⟩ : MethodName) method_5_code 8 (some .boolean) ({ frames := 6, cells := 6, slots := 324, locals := 82 } : Room) [] #[(.int k), (.int (Int32.ofNat j)), (.int nn), (.int q), (.int b), (.int w), (.int d)] h (fun v h' => v = some (.int 1) ∧ Ext h h') := by
  refine MetFree.of_bodySF (plainFor_of_name pnn) hisR ?_
  intro p e s m args below meth c s₁ Bd hml0 hP hK
  obtain ⟨rfl, hZ, hh, hCH, hSf⟩ := hP
  subst hh
  have hx := Bd.exec
  have hby := Bd.bytes
  have hml : c.maxLocals = 8 := hml0
  have hown : s.vm.findClass OWN = some m.cls := findClass_of_methodNamed Bd.named
  have X0 := Stand.of_body Bd
  have e0 : s₁.heap = s.heap := by rw [Bd.state]; rfl
  have P0 := own_start (n0 := n0) X0 e0 hZ hown hEL hCH
  have pre0 : ∀ t, Steps p.tables e below (s₁.setTop (mkF m 0 #[.val (.int k), .val (.int (Int32.ofNat j)), .val (.int nn), .val (.int q), .val (.int b), .val (.int w), .val (.int d), .unset] [])) t → Steps p.tables e below (s₁.setTop (entryFrame m #[(.int k), (.int (Int32.ofNat j)), (.int nn), (.int q), (.int b), (.int w), (.int d)] 8)) t := fun t q => castTop (eff_ok m _ _ _ _ _ _ _) q
  obtain ⟨v, T1, L1, c1, s1, P1, ⟨rfl, E1⟩, hR1, i1, i2, st1⟩ := own_call P0 hx hEL (index := 23) (y := (⟨"com/example/vigilant_ledger/vigilantledger/journal/JournalFormatIsTornHeaderPinLaw", "at", "(IIBIB)B"⟩ : MethodName)) (hw _ (List.mem_of_getElem? (i := 28) rfl)) (hw _ (List.mem_of_getElem? (i := 29) rfl)) (hw _ (List.mem_of_getElem? (i := 4) rfl)) (hw _ (List.mem_of_getElem? (i := 30) rfl)) (by decide) (W := 0) (argsL := [(.int (Int32.ofNat j)), (.int q), (.int b), (.int w), (.int d)]) (rest := []) (own_atJ l Z a0 hw hEL n0 G1 G3 rG3 P5 O2 O4 j hj q b w d s₁.heap (by rw [e0]; exact X00)) (fun _ q => nomatch q) (by decide) (by decide) (by decide) (by decide) (g := mkF m 15 #[.val (.int k), .val (.int (Int32.ofNat j)), .val (.int nn), .val (.int q), .val (.int b), .val (.int w), .val (.int d), .unset] [(.int d), (.int w), (.int b), (.int q), (.int (Int32.ofNat j))]) rfl (by rw [hml]; rfl) (lenOf pdd_at rfl) rfl (by show 2 * 0 + _ ≤ _; exact Nat.le_of_eq rfl) (hb hby dd_ok_15)
  rw [e0] at E1
  obtain ⟨v, T2, L2, c2, s2, P2, ⟨rfl, E2⟩, hR2, i3, i4, st2⟩ := own_call P1 hx hEL (index := 17) (y := (⟨"com/example/vigilant_ledger/vigilantledger/journal/JournalFormatIsTornHeaderPinLaw", "h", "(II)C"⟩ : MethodName)) (hw _ (List.mem_of_getElem? (i := 31) rfl)) (hw _ (List.mem_of_getElem? (i := 32) rfl)) (hw _ (List.mem_of_getElem? (i := 4) rfl)) (hw _ (List.mem_of_getElem? (i := 33) rfl)) (by decide) (W := 1) (argsL := [(.int k), (.int (Int32.ofNat j))]) (rest := [(.int (own_at j q b w d))]) (own_h l Z a0 hw hEL n0 G1 G3 rG3 P5 O2 O4 k j hj T1.heap (X00.ext E1)) (fun _ q => nomatch q) (by decide) (by decide) (show c1 + 2 ≤ 6 by omega) (show s1 + 108 ≤ 324 by omega) (g := mkF m 29 #[.val (.int k), .val (.int (Int32.ofNat j)), .val (.int nn), .val (.int q), .val (.int b), .val (.int w), .val (.int d), .val (.int (own_at j q b w d))] [(.int (Int32.ofNat j)), (.int k), (.int (own_at j q b w d))]) rfl (by rw [hml]; rfl) (lenOf pdd_h rfl) rfl (by show 2 * 0 + _ ≤ _; exact Nat.le_of_eq rfl) (hb hby dd_ok_29)
  obtain ⟨X, N, hS, hZ', hown', hC, b1, b2⟩ := P2
  obtain ⟨fs, hr, hrun, hended, hend⟩ := X.leaveW hS (Nat.le_refl _) (v := some (.int (1 : Int32))) (fun h => by rw [Bd.returns] at h; cases h)
  refine ⟨_, _, pre0 _ ?_, hrun, hended, _, _, _, _, rfl, ⟨rfl, ⟨Nat.le_trans E1.1 E2.1, fun x c q => E2.2 x c (E1.2 x c q)⟩⟩, N, hC, b1, b2, hend⟩
  · show Steps p.tables e below (s₁.setTop (mkF m 0 #[.val (.int k), .val (.int (Int32.ofNat j)), .val (.int nn), .val (.int q), .val (.int b), .val (.int w), .val (.int d), .unset] [])) _
    refine XS.iloadN X0.here hx rfl (hb hby dd_ok_0) rfl ?_
    show Steps p.tables e below (s₁.setTop (mkF m 1 #[.val (.int k), .val (.int (Int32.ofNat j)), .val (.int nn), .val (.int q), .val (.int b), .val (.int w), .val (.int d), .unset] [(.int (Int32.ofNat j))])) _
    refine XS.iloadN X0.here hx rfl (hb hby dd_ok_1) rfl ?_
    show Steps p.tables e below (s₁.setTop (mkF m 2 #[.val (.int k), .val (.int (Int32.ofNat j)), .val (.int nn), .val (.int q), .val (.int b), .val (.int w), .val (.int d), .unset] [(.int nn), (.int (Int32.ofNat j))])) _
    refine XS.icmpYes X0.here hx rfl (pc0 := 2) (pc' := 7) rfl (hb hby dd_ok_2) rfl (tlt h1).1 (by decide) (by decide) ?_
    show Steps p.tables e below (s₁.setTop (mkF m 7 #[.val (.int k), .val (.int (Int32.ofNat j)), .val (.int nn), .val (.int q), .val (.int b), .val (.int w), .val (.int d), .unset] [])) _
    refine XS.iloadN X0.here hx rfl (hb hby dd_ok_7) rfl ?_
    show Steps p.tables e below (s₁.setTop (mkF m 8 #[.val (.int k), .val (.int (Int32.ofNat j)), .val (.int nn), .val (.int q), .val (.int b), .val (.int w), .val (.int d), .unset] [(.int (Int32.ofNat j))])) _
    refine XS.iloadN X0.here hx rfl (hb hby dd_ok_8) rfl ?_
    show Steps p.tables e below (s₁.setTop (mkF m 9 #[.val (.int k), .val (.int (Int32.ofNat j)), .val (.int nn), .val (.int q), .val (.int b), .val (.int w), .val (.int d), .unset] [(.int q), (.int (Int32.ofNat j))])) _
    refine XS.iload X0.here hx rfl (hb hby dd_ok_9) rfl ?_
    show Steps p.tables e below (s₁.setTop (mkF m 11 #[.val (.int k), .val (.int (Int32.ofNat j)), .val (.int nn), .val (.int q), .val (.int b), .val (.int w), .val (.int d), .unset] [(.int b), (.int q), (.int (Int32.ofNat j))])) _
    refine XS.iload X0.here hx rfl (hb hby dd_ok_11) rfl ?_
    show Steps p.tables e below (s₁.setTop (mkF m 13 #[.val (.int k), .val (.int (Int32.ofNat j)), .val (.int nn), .val (.int q), .val (.int b), .val (.int w), .val (.int d), .unset] [(.int w), (.int b), (.int q), (.int (Int32.ofNat j))])) _
    refine XS.iload X0.here hx rfl (hb hby dd_ok_13) rfl ?_
    show Steps p.tables e below (s₁.setTop (mkF m 15 #[.val (.int k), .val (.int (Int32.ofNat j)), .val (.int nn), .val (.int q), .val (.int b), .val (.int w), .val (.int d), .unset] [(.int d), (.int w), (.int b), (.int q), (.int (Int32.ofNat j))])) _
    refine st1.trans ?_
    show Steps p.tables e below (T1.setTop (mkF m 18 #[.val (.int k), .val (.int (Int32.ofNat j)), .val (.int nn), .val (.int q), .val (.int b), .val (.int w), .val (.int d), .unset] [(.int (own_at j q b w d))])) _
    refine XS.istore P1.1.here hx rfl (hb hby dd_ok_18) rfl (l' := #[.val (.int k), .val (.int (Int32.ofNat j)), .val (.int nn), .val (.int q), .val (.int b), .val (.int w), .val (.int d), .val (.int (own_at j q b w d))]) rfl ?_
    show Steps p.tables e below (T1.setTop (mkF m 20 #[.val (.int k), .val (.int (Int32.ofNat j)), .val (.int nn), .val (.int q), .val (.int b), .val (.int w), .val (.int d), .val (.int (own_at j q b w d))] [])) _
    refine XS.iload P1.1.here hx rfl (hb hby dd_ok_20) rfl ?_
    show Steps p.tables e below (T1.setTop (mkF m 22 #[.val (.int k), .val (.int (Int32.ofNat j)), .val (.int nn), .val (.int q), .val (.int b), .val (.int w), .val (.int d), .val (.int (own_at j q b w d))] [(.int (own_at j q b w d))])) _
    refine XS.ifNo P1.1.here hx rfl (hb hby dd_ok_22) rfl ((if0 _ _).trans (feq h2).1) ?_
    show Steps p.tables e below (T1.setTop (mkF m 25 #[.val (.int k), .val (.int (Int32.ofNat j)), .val (.int nn), .val (.int q), .val (.int b), .val (.int w), .val (.int d), .val (.int (own_at j q b w d))] [])) _
    refine XS.iload P1.1.here hx rfl (hb hby dd_ok_25) rfl ?_
    show Steps p.tables e below (T1.setTop (mkF m 27 #[.val (.int k), .val (.int (Int32.ofNat j)), .val (.int nn), .val (.int q), .val (.int b), .val (.int w), .val (.int d), .val (.int (own_at j q b w d))] [(.int (own_at j q b w d))])) _
    refine XS.iloadN P1.1.here hx rfl (hb hby dd_ok_27) rfl ?_
    show Steps p.tables e below (T1.setTop (mkF m 28 #[.val (.int k), .val (.int (Int32.ofNat j)), .val (.int nn), .val (.int q), .val (.int b), .val (.int w), .val (.int d), .val (.int (own_at j q b w d))] [(.int k), (.int (own_at j q b w d))])) _
    refine XS.iloadN P1.1.here hx rfl (hb hby dd_ok_28) rfl ?_
    show Steps p.tables e below (T1.setTop (mkF m 29 #[.val (.int k), .val (.int (Int32.ofNat j)), .val (.int nn), .val (.int q), .val (.int b), .val (.int w), .val (.int d), .val (.int (own_at j q b w d))] [(.int (Int32.ofNat j)), (.int k), (.int (own_at j q b w d))])) _
    refine st2.trans ?_
    show Steps p.tables e below (T2.setTop (mkF m 32 #[.val (.int k), .val (.int (Int32.ofNat j)), .val (.int nn), .val (.int q), .val (.int b), .val (.int w), .val (.int d), .val (.int (own_at j q b w d))] [(.int (own_H k j)), (.int (own_at j q b w d))])) _
    refine XS.i2b X.here hx rfl (hb hby dd_ok_32) rfl ?_
    show Steps p.tables e below (T2.setTop (mkF m 33 #[.val (.int k), .val (.int (Int32.ofNat j)), .val (.int nn), .val (.int q), .val (.int b), .val (.int w), .val (.int d), .val (.int (own_at j q b w d))] [(.int ((own_H k j).toInt8.toInt32)), (.int (own_at j q b w d))])) _
    refine XS.icmpNo X.here hx rfl (hb hby dd_ok_33) rfl (teq h3).2 ?_
    show Steps p.tables e below (T2.setTop (mkF m 36 #[.val (.int k), .val (.int (Int32.ofNat j)), .val (.int nn), .val (.int q), .val (.int b), .val (.int w), .val (.int d), .val (.int (own_at j q b w d))] [])) _
    refine XS.iconst X.here hx rfl (hb hby dd_ok_36) ?_
    show Steps p.tables e below (T2.setTop (mkF m 37 #[.val (.int k), .val (.int (Int32.ofNat j)), .val (.int nn), .val (.int q), .val (.int b), .val (.int w), .val (.int d), .val (.int (own_at j q b w d))] [(.int (1 : Int32))])) _
    refine XS.goto X.here hx rfl (pc0 := 37) (pc' := 41) rfl (hb hby dd_ok_37) (by decide) (by decide) ?_
    show Steps p.tables e below (T2.setTop (mkF m 41 #[.val (.int k), .val (.int (Int32.ofNat j)), .val (.int nn), .val (.int q), .val (.int b), .val (.int w), .val (.int d), .val (.int (own_at j q b w d))] [(.int (1 : Int32))])) _
    exact retN X hx (t := .boolean) Bd.returns (by simp) (hb hby dd_ok_41) hr
set_option maxRecDepth 65536 in
theorem own_okD (l : Launch) (Z : State) (a0 : Array Value) (hw : ∀ d ∈ tables_1, d.before a0 Z = true) (hEL : EW Z a0 EL) (n0 : Nat) (G1 : Int32) (G3 : Value) (rG3 : G3.isRef = true) (P5 : ¬ G1 = 0) (O2 : Sta Z Z.heap "java/lang/String" "COMPACT_STRINGS" "Z" (.int G1)) (O4 : Sta Z Z.heap "jdk/internal/util/Preconditions" "SIOOBE_FORMATTER" "Ljava/util/function/BiFunction;" G3) (k : Int32) (j : Nat) (hj : j < 26) (nn q b w d : Int32) (h : Heap) (X00 : Old Z n0 h) (h1 : Int32.ofNat j < nn) (h2 : ¬ own_at j q b w d = 0) (h3 : ¬ own_at j q b w d = (own_H k j).toInt8.toInt32) :
    own_Con Z l n0 (⟨"com/example/vigilant_ledger/vigilantledger/journal/JournalFormatIsTornHeaderPinLaw", "ok", "(IIIIBIB)Z"⟩ : MethodName) method_5_code 8 (some .boolean) ({ frames := 6, cells := 6, slots := 324, locals := 82 } : Room) [] #[(.int k), (.int (Int32.ofNat j)), (.int nn), (.int q), (.int b), (.int w), (.int d)] h (fun v h' => v = some (.int 0) ∧ Ext h h') := by
  refine MetFree.of_bodySF (plainFor_of_name pnn) hisR ?_
  intro p e s m args below meth c s₁ Bd hml0 hP hK
  obtain ⟨rfl, hZ, hh, hCH, hSf⟩ := hP
  subst hh
  have hx := Bd.exec
  have hby := Bd.bytes
  have hml : c.maxLocals = 8 := hml0
  have hown : s.vm.findClass OWN = some m.cls := findClass_of_methodNamed Bd.named
  have X0 := Stand.of_body Bd
  have e0 : s₁.heap = s.heap := by rw [Bd.state]; rfl
  have P0 := own_start (n0 := n0) X0 e0 hZ hown hEL hCH
  have pre0 : ∀ t, Steps p.tables e below (s₁.setTop (mkF m 0 #[.val (.int k), .val (.int (Int32.ofNat j)), .val (.int nn), .val (.int q), .val (.int b), .val (.int w), .val (.int d), .unset] [])) t → Steps p.tables e below (s₁.setTop (entryFrame m #[(.int k), (.int (Int32.ofNat j)), (.int nn), (.int q), (.int b), (.int w), (.int d)] 8)) t := fun t q => castTop (eff_ok m _ _ _ _ _ _ _) q
  obtain ⟨v, T1, L1, c1, s1, P1, ⟨rfl, E1⟩, hR1, i1, i2, st1⟩ := own_call P0 hx hEL (index := 23) (y := (⟨"com/example/vigilant_ledger/vigilantledger/journal/JournalFormatIsTornHeaderPinLaw", "at", "(IIBIB)B"⟩ : MethodName)) (hw _ (List.mem_of_getElem? (i := 28) rfl)) (hw _ (List.mem_of_getElem? (i := 29) rfl)) (hw _ (List.mem_of_getElem? (i := 4) rfl)) (hw _ (List.mem_of_getElem? (i := 30) rfl)) (by decide) (W := 0) (argsL := [(.int (Int32.ofNat j)), (.int q), (.int b), (.int w), (.int d)]) (rest := []) (own_atJ l Z a0 hw hEL n0 G1 G3 rG3 P5 O2 O4 j hj q b w d s₁.heap (by rw [e0]; exact X00)) (fun _ q => nomatch q) (by decide) (by decide) (by decide) (by decide) (g := mkF m 15 #[.val (.int k), .val (.int (Int32.ofNat j)), .val (.int nn), .val (.int q), .val (.int b), .val (.int w), .val (.int d), .unset] [(.int d), (.int w), (.int b), (.int q), (.int (Int32.ofNat j))]) rfl (by rw [hml]; rfl) (lenOf pdd_at rfl) rfl (by show 2 * 0 + _ ≤ _; exact Nat.le_of_eq rfl) (hb hby dd_ok_15)
  rw [e0] at E1
  obtain ⟨v, T2, L2, c2, s2, P2, ⟨rfl, E2⟩, hR2, i3, i4, st2⟩ := own_call P1 hx hEL (index := 17) (y := (⟨"com/example/vigilant_ledger/vigilantledger/journal/JournalFormatIsTornHeaderPinLaw", "h", "(II)C"⟩ : MethodName)) (hw _ (List.mem_of_getElem? (i := 31) rfl)) (hw _ (List.mem_of_getElem? (i := 32) rfl)) (hw _ (List.mem_of_getElem? (i := 4) rfl)) (hw _ (List.mem_of_getElem? (i := 33) rfl)) (by decide) (W := 1) (argsL := [(.int k), (.int (Int32.ofNat j))]) (rest := [(.int (own_at j q b w d))]) (own_h l Z a0 hw hEL n0 G1 G3 rG3 P5 O2 O4 k j hj T1.heap (X00.ext E1)) (fun _ q => nomatch q) (by decide) (by decide) (show c1 + 2 ≤ 6 by omega) (show s1 + 108 ≤ 324 by omega) (g := mkF m 29 #[.val (.int k), .val (.int (Int32.ofNat j)), .val (.int nn), .val (.int q), .val (.int b), .val (.int w), .val (.int d), .val (.int (own_at j q b w d))] [(.int (Int32.ofNat j)), (.int k), (.int (own_at j q b w d))]) rfl (by rw [hml]; rfl) (lenOf pdd_h rfl) rfl (by show 2 * 0 + _ ≤ _; exact Nat.le_of_eq rfl) (hb hby dd_ok_29)
  obtain ⟨X, N, hS, hZ', hown', hC, b1, b2⟩ := P2
  obtain ⟨fs, hr, hrun, hended, hend⟩ := X.leaveW hS (Nat.le_refl _) (v := some (.int (0 : Int32))) (fun h => by rw [Bd.returns] at h; cases h)
  refine ⟨_, _, pre0 _ ?_, hrun, hended, _, _, _, _, rfl, ⟨rfl, ⟨Nat.le_trans E1.1 E2.1, fun x c q => E2.2 x c (E1.2 x c q)⟩⟩, N, hC, b1, b2, hend⟩
  · show Steps p.tables e below (s₁.setTop (mkF m 0 #[.val (.int k), .val (.int (Int32.ofNat j)), .val (.int nn), .val (.int q), .val (.int b), .val (.int w), .val (.int d), .unset] [])) _
    refine XS.iloadN X0.here hx rfl (hb hby dd_ok_0) rfl ?_
    show Steps p.tables e below (s₁.setTop (mkF m 1 #[.val (.int k), .val (.int (Int32.ofNat j)), .val (.int nn), .val (.int q), .val (.int b), .val (.int w), .val (.int d), .unset] [(.int (Int32.ofNat j))])) _
    refine XS.iloadN X0.here hx rfl (hb hby dd_ok_1) rfl ?_
    show Steps p.tables e below (s₁.setTop (mkF m 2 #[.val (.int k), .val (.int (Int32.ofNat j)), .val (.int nn), .val (.int q), .val (.int b), .val (.int w), .val (.int d), .unset] [(.int nn), (.int (Int32.ofNat j))])) _
    refine XS.icmpYes X0.here hx rfl (pc0 := 2) (pc' := 7) rfl (hb hby dd_ok_2) rfl (tlt h1).1 (by decide) (by decide) ?_
    show Steps p.tables e below (s₁.setTop (mkF m 7 #[.val (.int k), .val (.int (Int32.ofNat j)), .val (.int nn), .val (.int q), .val (.int b), .val (.int w), .val (.int d), .unset] [])) _
    refine XS.iloadN X0.here hx rfl (hb hby dd_ok_7) rfl ?_
    show Steps p.tables e below (s₁.setTop (mkF m 8 #[.val (.int k), .val (.int (Int32.ofNat j)), .val (.int nn), .val (.int q), .val (.int b), .val (.int w), .val (.int d), .unset] [(.int (Int32.ofNat j))])) _
    refine XS.iloadN X0.here hx rfl (hb hby dd_ok_8) rfl ?_
    show Steps p.tables e below (s₁.setTop (mkF m 9 #[.val (.int k), .val (.int (Int32.ofNat j)), .val (.int nn), .val (.int q), .val (.int b), .val (.int w), .val (.int d), .unset] [(.int q), (.int (Int32.ofNat j))])) _
    refine XS.iload X0.here hx rfl (hb hby dd_ok_9) rfl ?_
    show Steps p.tables e below (s₁.setTop (mkF m 11 #[.val (.int k), .val (.int (Int32.ofNat j)), .val (.int nn), .val (.int q), .val (.int b), .val (.int w), .val (.int d), .unset] [(.int b), (.int q), (.int (Int32.ofNat j))])) _
    refine XS.iload X0.here hx rfl (hb hby dd_ok_11) rfl ?_
    show Steps p.tables e below (s₁.setTop (mkF m 13 #[.val (.int k), .val (.int (Int32.ofNat j)), .val (.int nn), .val (.int q), .val (.int b), .val (.int w), .val (.int d), .unset] [(.int w), (.int b), (.int q), (.int (Int32.ofNat j))])) _
    refine XS.iload X0.here hx rfl (hb hby dd_ok_13) rfl ?_
    show Steps p.tables e below (s₁.setTop (mkF m 15 #[.val (.int k), .val (.int (Int32.ofNat j)), .val (.int nn), .val (.int q), .val (.int b), .val (.int w), .val (.int d), .unset] [(.int d), (.int w), (.int b), (.int q), (.int (Int32.ofNat j))])) _
    refine st1.trans ?_
    show Steps p.tables e below (T1.setTop (mkF m 18 #[.val (.int k), .val (.int (Int32.ofNat j)), .val (.int nn), .val (.int q), .val (.int b), .val (.int w), .val (.int d), .unset] [(.int (own_at j q b w d))])) _
    refine XS.istore P1.1.here hx rfl (hb hby dd_ok_18) rfl (l' := #[.val (.int k), .val (.int (Int32.ofNat j)), .val (.int nn), .val (.int q), .val (.int b), .val (.int w), .val (.int d), .val (.int (own_at j q b w d))]) rfl ?_
    show Steps p.tables e below (T1.setTop (mkF m 20 #[.val (.int k), .val (.int (Int32.ofNat j)), .val (.int nn), .val (.int q), .val (.int b), .val (.int w), .val (.int d), .val (.int (own_at j q b w d))] [])) _
    refine XS.iload P1.1.here hx rfl (hb hby dd_ok_20) rfl ?_
    show Steps p.tables e below (T1.setTop (mkF m 22 #[.val (.int k), .val (.int (Int32.ofNat j)), .val (.int nn), .val (.int q), .val (.int b), .val (.int w), .val (.int d), .val (.int (own_at j q b w d))] [(.int (own_at j q b w d))])) _
    refine XS.ifNo P1.1.here hx rfl (hb hby dd_ok_22) rfl ((if0 _ _).trans (feq h2).1) ?_
    show Steps p.tables e below (T1.setTop (mkF m 25 #[.val (.int k), .val (.int (Int32.ofNat j)), .val (.int nn), .val (.int q), .val (.int b), .val (.int w), .val (.int d), .val (.int (own_at j q b w d))] [])) _
    refine XS.iload P1.1.here hx rfl (hb hby dd_ok_25) rfl ?_
    show Steps p.tables e below (T1.setTop (mkF m 27 #[.val (.int k), .val (.int (Int32.ofNat j)), .val (.int nn), .val (.int q), .val (.int b), .val (.int w), .val (.int d), .val (.int (own_at j q b w d))] [(.int (own_at j q b w d))])) _
    refine XS.iloadN P1.1.here hx rfl (hb hby dd_ok_27) rfl ?_
    show Steps p.tables e below (T1.setTop (mkF m 28 #[.val (.int k), .val (.int (Int32.ofNat j)), .val (.int nn), .val (.int q), .val (.int b), .val (.int w), .val (.int d), .val (.int (own_at j q b w d))] [(.int k), (.int (own_at j q b w d))])) _
    refine XS.iloadN P1.1.here hx rfl (hb hby dd_ok_28) rfl ?_
    show Steps p.tables e below (T1.setTop (mkF m 29 #[.val (.int k), .val (.int (Int32.ofNat j)), .val (.int nn), .val (.int q), .val (.int b), .val (.int w), .val (.int d), .val (.int (own_at j q b w d))] [(.int (Int32.ofNat j)), (.int k), (.int (own_at j q b w d))])) _
    refine st2.trans ?_
    show Steps p.tables e below (T2.setTop (mkF m 32 #[.val (.int k), .val (.int (Int32.ofNat j)), .val (.int nn), .val (.int q), .val (.int b), .val (.int w), .val (.int d), .val (.int (own_at j q b w d))] [(.int (own_H k j)), (.int (own_at j q b w d))])) _
    refine XS.i2b X.here hx rfl (hb hby dd_ok_32) rfl ?_
    show Steps p.tables e below (T2.setTop (mkF m 33 #[.val (.int k), .val (.int (Int32.ofNat j)), .val (.int nn), .val (.int q), .val (.int b), .val (.int w), .val (.int d), .val (.int (own_at j q b w d))] [(.int ((own_H k j).toInt8.toInt32)), (.int (own_at j q b w d))])) _
    refine XS.icmpYes X.here hx rfl (pc0 := 33) (pc' := 40) rfl (hb hby dd_ok_33) rfl (feq h3).2 (by decide) (by decide) ?_
    show Steps p.tables e below (T2.setTop (mkF m 40 #[.val (.int k), .val (.int (Int32.ofNat j)), .val (.int nn), .val (.int q), .val (.int b), .val (.int w), .val (.int d), .val (.int (own_at j q b w d))] [])) _
    refine XS.iconst X.here hx rfl (hb hby dd_ok_40) ?_
    show Steps p.tables e below (T2.setTop (mkF m 41 #[.val (.int k), .val (.int (Int32.ofNat j)), .val (.int nn), .val (.int q), .val (.int b), .val (.int w), .val (.int d), .val (.int (own_at j q b w d))] [(.int (0 : Int32))])) _
    exact retN X hx (t := .boolean) Bd.returns (by simp) (hb hby dd_ok_41) hr
theorem own_okJ (l : Launch) (Z : State) (a0 : Array Value) (hw : ∀ d ∈ tables_1, d.before a0 Z = true) (hEL : EW Z a0 EL) (n0 : Nat) (G1 : Int32) (G3 : Value) (rG3 : G3.isRef = true) (P5 : ¬ G1 = 0) (O2 : Sta Z Z.heap "java/lang/String" "COMPACT_STRINGS" "Z" (.int G1)) (O4 : Sta Z Z.heap "jdk/internal/util/Preconditions" "SIOOBE_FORMATTER" "Ljava/util/function/BiFunction;" G3) (k : Int32) (j : Nat) (hj : j < 26) (nn q b w d : Int32) (h : Heap) (X00 : Old Z n0 h) :
    own_Con Z l n0 (⟨"com/example/vigilant_ledger/vigilantledger/journal/JournalFormatIsTornHeaderPinLaw", "ok", "(IIIIBIB)Z"⟩ : MethodName) method_5_code 8 (some .boolean) ({ frames := 6, cells := 6, slots := 324, locals := 82 } : Room) [] #[(.int k), (.int (Int32.ofNat j)), (.int nn), (.int q), (.int b), (.int w), (.int d)] h (fun v h' => v = some (.int (own_ok k j nn q b w d)) ∧ Ext h h') := by
  unfold own_ok
  by_cases h1 : Int32.ofNat j < nn
  · rw [if_pos h1]
    by_cases h2 : own_at j q b w d = 0
    · rw [if_pos h2]; exact own_okB l Z a0 hw hEL n0 G1 G3 rG3 P5 O2 O4 k j hj nn q b w d h X00 h1 h2
    · rw [if_neg h2]
      by_cases h3 : own_at j q b w d = (own_H k j).toInt8.toInt32
      · rw [if_pos h3]; exact own_okC l Z a0 hw hEL n0 G1 G3 rG3 P5 O2 O4 k j hj nn q b w d h X00 h1 h2 h3
      · rw [if_neg h3]; exact own_okD l Z a0 hw hEL n0 G1 G3 rG3 P5 O2 O4 k j hj nn q b w d h X00 h1 h2 h3
  · rw [if_neg h1]; exact own_okA l Z a0 hw hEL n0 G1 G3 rG3 P5 O2 O4 k j hj nn q b w d h X00 h1
theorem d4_0 : decode prog_19_method_1_code 0 = .ok (.getstatic 10, 3) := by decide +kernel
theorem d4_3 : decode prog_19_method_1_code 3 = .ok (.invokevirtual 14, 3) := by decide +kernel
theorem d4_6 : decode prog_19_method_1_code 6 = .ok (.checkcast 15, 3) := by decide +kernel
theorem d4_9 : decode prog_19_method_1_code 9 = .ok (.areturn, 1) := by decide +kernel
theorem pn_4 : plainName "com/example/vigilant_ledger/vigilantledger/journal/JournalFormat" = true := by first | (simp [plainName, overriddenIn]; done) | decide +kernel
theorem pd_4_4 : parseMethodDescriptor "()Ljava/lang/Object;" = some ⟨[], some (.object "java/lang/Object")⟩ := by decide +kernel
theorem ef_4 (m : MethodId)  : entryFrame m #[] 0 = mkF m 0 #[] [] := by first | (simp [entryFrame, mkF, argsToLocals, Value.category]; done) | rfl
def Q4 (Z : State) (kv : ClassId) (f1 f2 : Addr) (h0 : Heap) (n0 : Nat) (v : Option Value) (h : Heap) (L : List Loc) : Prop := ∃ r : Addr, v = some (.ref r) ∧ Fr n0 L ∧ Ext h0 h ∧ Arv Z h r kv (.object "com/example/vigilant_ledger/vigilantledger/journal/JournalFormat") 2 [.ref f1, .ref f2] .null
set_option maxRecDepth 65536 in
theorem rm4 (l : Launch) (Z : State) (a0 : Array Value) (hw : ∀ d ∈ tables_1, d.before a0 Z = true) (ws : List Jvm.Cond) (w1 : Addr) (kv : ClassId) (f1 f2 : Addr) (h0 : Heap) (n0 : Nat) (S_V : Sta Z h0 "com/example/vigilant_ledger/vigilantledger/journal/JournalFormat" "$VALUES" "[Lcom/example/vigilant_ledger/vigilantledger/journal/JournalFormat;" (.ref w1)) (FV : Arv Z h0 w1 kv (.object "com/example/vigilant_ledger/vigilantledger/journal/JournalFormat") 2 [.ref f1, .ref f2] .null) (EV : Exa Z h0 w1 "[Lcom/example/vigilant_ledger/vigilantledger/journal/JournalFormat;") :
    MetFree l (⟨"com/example/vigilant_ledger/vigilantledger/journal/JournalFormat", "values", "()[Lcom/example/vigilant_ledger/vigilantledger/journal/JournalFormat;"⟩ : MethodName) (head1 (Jvm.Cond.code (⟨"com/example/vigilant_ledger/vigilantledger/journal/JournalFormat", "values", "()[Lcom/example/vigilant_ledger/vigilantledger/journal/JournalFormat;"⟩ : MethodName) prog_19_method_1_code 0 (some (.array (.object "com/example/vigilant_ledger/vigilantledger/journal/JournalFormat"))) :: ws) ({ frames := 1, cells := 1, slots := 2, locals := 14 } : Room)) (fun a U => a = #[] ∧ Z.Warmed39 U.vm ∧ U.heap = h0) (fun _ _ _ _ _ => True) (fun _ U o U' => ∃ v L, o = .returned v ∧ Q4 Z kv f1 f2 h0 n0 v U'.heap L ∧ FrameEnd U o U' L ({ frames := 1, cells := 1, slots := 2, locals := 14 } : Room).cells ({ frames := 1, cells := 1, slots := 2, locals := 14 } : Room).slots) := by
  refine MetFree.of_bodySF (plainFor_of_name pn_4) hisR ?_
  intro p e s m args below meth c s₁ Bd hml0 hP hK
  obtain ⟨rfl, hZ, hh⟩ := hP
  have hx := Bd.exec
  have hby := Bd.bytes
  have hml : c.maxLocals = 0 := hml0
  have hown : s.vm.findClass "com/example/vigilant_ledger/vigilantledger/journal/JournalFormat" = some m.cls := findClass_of_methodNamed Bd.named
  have X0 : Stand p l e ({ frames := 1, cells := 1, slots := 2, locals := 14 } : Room) s m #[] below meth c s₁ [] 0 0 := Stand.of_body Bd
  have e0 : s₁.heap = h0 := by rw [← hh, Bd.state]; rfl
  have pre0 : ∀ t, Steps p.tables e below (s₁.setTop (mkF m 0 #[] [])) t → Steps p.tables e below (s₁.setTop (entryFrame m #[] 0)) t := fun t k => castTop (ef_4 m) k
  obtain ⟨T2, X2, e2, st2⟩ := getS2 X0 hx hZ hown (host := "") (Or.inl (hw _ (List.mem_of_getElem? (i := 16) rfl))) Via.refl e0 S_V (g := (mkF m 0 #[] [])) rfl (hb hby d4_0)
  obtain ⟨T3, h3, X3, e3, E3, A3, Ex3, st3⟩ := cloneH X2 hx hZ hown (hw _ (List.mem_of_getElem? (i := 18) rfl)) (hw _ (List.mem_of_getElem? (i := 19) rfl)) (hw _ (List.mem_of_getElem? (i := 23) rfl)) (hw _ (List.mem_of_getElem? (i := 21) rfl)) (hw _ (List.mem_of_getElem? (i := 22) rfl)) (hw _ (List.mem_of_getElem? (i := 24) rfl)) e2 FV.arh EV (g := mkF m 3 #[] [(.ref w1)]) rfl (by rw [hml]; rfl) rfl (hb hby d4_3) (by decide) (W := 0) (cap := 2) (by show 2 * 0 + _ ≤ _; exact Nat.le_of_eq rfl) (by decide) (by decide) (by decide) (by decide)
  obtain ⟨T4, X4, e4, st4⟩ := castY X3 hx hZ hown (hw _ (List.mem_of_getElem? (i := 26) rfl)) e3 (Ins.self Ex3) (g := mkF m 6 #[] [(.ref h0.size)]) rfl rfl (hb hby d4_6)
  obtain ⟨fs, hr, hrun, hended, hW, hsame⟩ := X4.leave (v := some (.ref h0.size)) (fun h => by rw [Bd.returns] at h; cases h)
  refine ⟨_, _, pre0 _ ?_, hrun, hended, _, _, rfl, ?_, ⟨_, rfl⟩, hW, hsame.mono (by decide) (by decide)⟩
  · show Steps p.tables e below (s₁.setTop (mkF m 0 #[] [])) _
    refine st2 _ ?_
    show Steps p.tables e below (T2.setTop (mkF m 3 #[] [(.ref w1)])) _
    refine st3 _ ?_
    show Steps p.tables e below (T3.setTop (mkF m 6 #[] [(.ref h0.size)])) _
    refine st4 _ ?_
    show Steps p.tables e below (T4.setTop (mkF m 9 #[] [(.ref h0.size)])) _
    jvm_step X4.here [X4.here.top, hx, (hb hby d4_9), X4.method', Bd.returns, Value.isRef, FieldType.isReference]
    first | (intro acts; rw [hr _ acts rfl rfl rfl]) | rw [hr _ _ rfl rfl rfl]
    exact Steps.refl _
  · show Q4 Z kv f1 f2 h0 n0 _ T4.heap _
    rw [e4]
    exact ⟨_, rfl, Fr.nil n0, E3, A3⟩
theorem d3_30 : decode prog_19_method_5_code 30 = .ok (.iload 6, 2) := by decide +kernel
theorem d3_32 : decode prog_19_method_5_code 32 = .ok (.ifCond .eq 45, 3) := by decide +kernel
theorem d3_35 : decode prog_19_method_5_code 35 = .ok (.iload 7, 2) := by decide +kernel
theorem d3_37 : decode prog_19_method_5_code 37 = .ok (.aload_n 0, 1) := by decide +kernel
theorem d3_38 : decode prog_19_method_5_code 38 = .ok (.arraylength, 1) := by decide +kernel
theorem d3_39 : decode prog_19_method_5_code 39 = .ok (.if_icmp .ge 38, 3) := by decide +kernel
theorem d3_42 : decode prog_19_method_5_code 42 = .ok (.aload_n 0, 1) := by decide +kernel
theorem d3_43 : decode prog_19_method_5_code 43 = .ok (.iload 7, 2) := by decide +kernel
theorem d3_45 : decode prog_19_method_5_code 45 = .ok (.baload, 1) := by decide +kernel
theorem d3_46 : decode prog_19_method_5_code 46 = .ok (.ifCond .eq 18, 3) := by decide +kernel
theorem d3_64 : decode prog_19_method_5_code 64 = .ok (.iconst 1, 1) := by decide +kernel
theorem d3_65 : decode prog_19_method_5_code 65 = .ok (.goto 4, 3) := by decide +kernel
theorem d3_69 : decode prog_19_method_5_code 69 = .ok (.istore 6, 2) := by decide +kernel
theorem d3_71 : decode prog_19_method_5_code 71 = .ok (.iinc 7 1, 3) := by decide +kernel
theorem d3_74 : decode prog_19_method_5_code 74 = .ok (.goto (-44), 3) := by decide +kernel
set_option maxRecDepth 65536 in
set_option maxHeartbeats 40000000 in
theorem tn3_fft {p : Program} {l : Launch} {e : Env} {R : Room} {s : State} {m : MethodId} {args : Array Value} {below : List Frame} {meth : Method} {c : Code} {T0 : State} {locs : List Loc} {cells slots : Nat} {Z : State} {a0 : Array Value} {h0 : Heap} (o0 : Addr) (s1 : Slot) (s2 : Slot) (s3 : Slot) (s4 : Slot) (s5 : Slot) (i6 : Int32) (i7 : Int32) (cl_o0 : Cell) (z_o0 : Int32) (w2 : Int32)
    (X0 : Stand p l e R s m args below meth c T0 locs cells slots) (hx : p.tables.exec = Jvm.exec) (hZ : Z.Warmed39 s.vm) (hw : ∀ d ∈ tables_1, d.before a0 Z = true) (hby : c.code = prog_19_method_5_code) (hml : c.maxLocals = 8) (hown : s.vm.findClass "com/example/vigilant_ledger/vigilantledger/journal/JournalFormat" = some m.cls) (e0 : T0.heap = h0) (Ar_o0 : Arr Z h0 o0 cl_o0 .byte) (S_o0 : cl_o0.slots.size = z_o0.toNatClampNeg) (N_o0 : ¬ z_o0 < 0) (hin45 : ¬ (i7 < 0 ∨ cl_o0.slots.size ≤ (i7).toNatClampNeg)) (hat45 : cl_o0.slots[(i7).toNatClampNeg]? = some (.int w2)) (hc32 : ¬ (i6 = (0 : Int32))) (hc39 : i7 < z_o0) (hc46 : w2 = (0 : Int32)) :
    ∃ (T' : State), Stand p l e R s m args below meth c T' locs cells slots ∧ T'.heap = h0 ∧
      ∀ target, Steps p.tables e below (T'.setTop (mkF m 30 #[.val (.ref o0), s1, s2, s3, s4, s5, .val (.int (1 : Int32)), .val (.int (i7 + (1 : Int32)))] [])) target → Steps p.tables e below (T0.setTop (mkF m 30 #[.val (.ref o0), s1, s2, s3, s4, s5, .val (.int i6), .val (.int i7)] [])) target := by

  refine ⟨T0, X0, e0, fun target kt => ?_⟩
  show Steps p.tables e below (T0.setTop (mkF m 30 #[.val (.ref o0), s1, s2, s3, s4, s5, .val (.int i6), .val (.int i7)] [])) _
  refine XS.iload X0.here hx rfl (hb hby d3_30) rfl ?_
  show Steps p.tables e below (T0.setTop (mkF m 32 #[.val (.ref o0), s1, s2, s3, s4, s5, .val (.int i6), .val (.int i7)] [(.int i6)])) _
  refine XS.ifNo X0.here hx rfl (hb hby d3_32) rfl ((if0 _ _).trans (feq hc32).1) ?_
  show Steps p.tables e below (T0.setTop (mkF m 35 #[.val (.ref o0), s1, s2, s3, s4, s5, .val (.int i6), .val (.int i7)] [])) _
  refine XS.iload X0.here hx rfl (hb hby d3_35) rfl ?_
  show Steps p.tables e below (T0.setTop (mkF m 37 #[.val (.ref o0), s1, s2, s3, s4, s5, .val (.int i6), .val (.int i7)] [(.int i7)])) _
  refine XS.aloadN X0.here hx rfl (hb hby d3_37) rfl rfl ?_
  show Steps p.tables e below (T0.setTop (mkF m 38 #[.val (.ref o0), s1, s2, s3, s4, s5, .val (.int i6), .val (.int i7)] [(.ref o0), (.int i7)])) _
  refine X0.arraylength hx (by rw [e0]; exact Ar_o0.1) (State.isArrayOf_alike hZ.alike Ar_o0.2.1) (g := (mkF m 38 #[.val (.ref o0), s1, s2, s3, s4, s5, .val (.int i6), .val (.int i7)] [(.ref o0), (.int i7)])) rfl rfl (hb hby d3_38) _ ?_
  rw [len_of S_o0 N_o0]
  show Steps p.tables e below (T0.setTop (mkF m 39 #[.val (.ref o0), s1, s2, s3, s4, s5, .val (.int i6), .val (.int i7)] [(.int z_o0), (.int i7)])) _
  refine XS.icmpNo X0.here hx rfl (hb hby d3_39) rfl (tlt hc39).2.1 ?_
  show Steps p.tables e below (T0.setTop (mkF m 42 #[.val (.ref o0), s1, s2, s3, s4, s5, .val (.int i6), .val (.int i7)] [])) _
  refine XS.aloadN X0.here hx rfl (hb hby d3_42) rfl rfl ?_
  show Steps p.tables e below (T0.setTop (mkF m 43 #[.val (.ref o0), s1, s2, s3, s4, s5, .val (.int i6), .val (.int i7)] [(.ref o0)])) _
  refine XS.iload X0.here hx rfl (hb hby d3_43) rfl ?_
  show Steps p.tables e below (T0.setTop (mkF m 45 #[.val (.ref o0), s1, s2, s3, s4, s5, .val (.int i6), .val (.int i7)] [(.int i7), (.ref o0)])) _
  refine X0.baloadBytes hx (j := i7) (v := (.int w2)) (by rw [e0]; exact Ar_o0.1) (State.isArrayOf_alike hZ.alike Ar_o0.2.1) Ar_o0.2.2 hin45 hat45 (g := (mkF m 45 #[.val (.ref o0), s1, s2, s3, s4, s5, .val (.int i6), .val (.int i7)] [(.int i7), (.ref o0)])) rfl rfl (hb hby d3_45) _ ?_
  show Steps p.tables e below (T0.setTop (mkF m 46 #[.val (.ref o0), s1, s2, s3, s4, s5, .val (.int i6), .val (.int i7)] [(.int w2)])) _
  refine XS.ifYes X0.here hx rfl (pc0 := 46) (pc' := 64) rfl (hb hby d3_46) rfl ((if0 _ _).trans (teq hc46).1) (by decide) (by decide) ?_
  show Steps p.tables e below (T0.setTop (mkF m 64 #[.val (.ref o0), s1, s2, s3, s4, s5, .val (.int i6), .val (.int i7)] [])) _
  refine XS.iconst X0.here hx rfl (hb hby d3_64) ?_
  show Steps p.tables e below (T0.setTop (mkF m 65 #[.val (.ref o0), s1, s2, s3, s4, s5, .val (.int i6), .val (.int i7)] [(.int (1 : Int32))])) _
  refine XS.goto X0.here hx rfl (pc0 := 65) (pc' := 69) rfl (hb hby d3_65) (by decide) (by decide) ?_
  show Steps p.tables e below (T0.setTop (mkF m 69 #[.val (.ref o0), s1, s2, s3, s4, s5, .val (.int i6), .val (.int i7)] [(.int (1 : Int32))])) _
  refine XS.istore X0.here hx rfl (hb hby d3_69) rfl (l' := #[.val (.ref o0), s1, s2, s3, s4, s5, .val (.int (1 : Int32)), .val (.int i7)]) rfl ?_
  show Steps p.tables e below (T0.setTop (mkF m 71 #[.val (.ref o0), s1, s2, s3, s4, s5, .val (.int (1 : Int32)), .val (.int i7)] [])) _
  refine XS.iinc X0.here hx rfl (hb hby d3_71) rfl (l' := #[.val (.ref o0), s1, s2, s3, s4, s5, .val (.int (1 : Int32)), .val (.int (i7 + (1 : Int32)))]) rfl ?_
  show Steps p.tables e below (T0.setTop (mkF m 74 #[.val (.ref o0), s1, s2, s3, s4, s5, .val (.int (1 : Int32)), .val (.int (i7 + (1 : Int32)))] [])) _
  refine XS.goto X0.here hx rfl (pc0 := 74) (pc' := 30) rfl (hb hby d3_74) (by decide) (by decide) ?_
  exact kt
theorem d3_49 : decode prog_19_method_5_code 49 = .ok (.aload_n 0, 1) := by decide +kernel
theorem d3_50 : decode prog_19_method_5_code 50 = .ok (.iload 7, 2) := by decide +kernel
theorem d3_52 : decode prog_19_method_5_code 52 = .ok (.baload, 1) := by decide +kernel
theorem d3_53 : decode prog_19_method_5_code 53 = .ok (.aload 5, 2) := by decide +kernel
theorem d3_55 : decode prog_19_method_5_code 55 = .ok (.getfield 41, 3) := by decide +kernel
theorem d3_58 : decode prog_19_method_5_code 58 = .ok (.iload 7, 2) := by decide +kernel
theorem d3_60 : decode prog_19_method_5_code 60 = .ok (.baload, 1) := by decide +kernel
theorem d3_61 : decode prog_19_method_5_code 61 = .ok (.if_icmp .ne 7, 3) := by decide +kernel
set_option maxRecDepth 65536 in
set_option maxHeartbeats 40000000 in
theorem tn3_ffff {p : Program} {l : Launch} {e : Env} {R : Room} {s : State} {m : MethodId} {args : Array Value} {below : List Frame} {meth : Method} {c : Code} {T0 : State} {locs : List Loc} {cells slots : Nat} {Z : State} {a0 : Array Value} {h0 : Heap} (o0 : Addr) (s1 : Slot) (s2 : Slot) (s3 : Slot) (s4 : Slot) (o5 : Addr) (i6 : Int32) (i7 : Int32) (cl_o0 : Cell) (z_o0 : Int32) (w2 : Int32) (w3 : Int32) (w4 : Addr) (w6 : Int32) (cl_w4 : Cell)
    (X0 : Stand p l e R s m args below meth c T0 locs cells slots) (hx : p.tables.exec = Jvm.exec) (hZ : Z.Warmed39 s.vm) (hw : ∀ d ∈ tables_1, d.before a0 Z = true) (hby : c.code = prog_19_method_5_code) (hml : c.maxLocals = 8) (hown : s.vm.findClass "com/example/vigilant_ledger/vigilantledger/journal/JournalFormat" = some m.cls) (e0 : T0.heap = h0) (Ar_o0 : Arr Z h0 o0 cl_o0 .byte) (S_o0 : cl_o0.slots.size = z_o0.toNatClampNeg) (N_o0 : ¬ z_o0 < 0) (hin45 : ¬ (i7 < 0 ∨ cl_o0.slots.size ≤ (i7).toNatClampNeg)) (hat45 : cl_o0.slots[(i7).toNatClampNeg]? = some (.int w2)) (hin52 : ¬ (i7 < 0 ∨ cl_o0.slots.size ≤ (i7).toNatClampNeg)) (hat52 : cl_o0.slots[(i7).toNatClampNeg]? = some (.int w3)) (F_header_o5 : Fld Z h0 o5 "com/example/vigilant_ledger/vigilantledger/journal/JournalFormat" "header" "[B" (.ref w4)) (Ar_w4 : Arr Z h0 w4 cl_w4 .byte) (hin60 : ¬ (i7 < 0 ∨ cl_w4.slots.size ≤ (i7).toNatClampNeg)) (hat60 : cl_w4.slots[(i7).toNatClampNeg]? = some (.int w6)) (hc32 : ¬ (i6 = (0 : Int32))) (hc39 : i7 < z_o0) (hc46 : ¬ (w2 = (0 : Int32))) (hc61 : w3 = w6) :
    ∃ (T' : State), Stand p l e R s m args below meth c T' locs cells slots ∧ T'.heap = h0 ∧
      ∀ target, Steps p.tables e below (T'.setTop (mkF m 30 #[.val (.ref o0), s1, s2, s3, s4, .val (.ref o5), .val (.int (1 : Int32)), .val (.int (i7 + (1 : Int32)))] [])) target → Steps p.tables e below (T0.setTop (mkF m 30 #[.val (.ref o0), s1, s2, s3, s4, .val (.ref o5), .val (.int i6), .val (.int i7)] [])) target := by
  obtain ⟨T5, X5, e5, st5⟩ := getF X0 hx hZ hown (host := "") (Or.inl (hw _ (List.mem_of_getElem? (i := 66) rfl))) Via.refl e0 F_header_o5 (g := (mkF m 55 #[.val (.ref o0), s1, s2, s3, s4, .val (.ref o5), .val (.int i6), .val (.int i7)] [(.ref o5), (.int w3)])) rfl rfl (hb hby d3_55)
  refine ⟨T5, X5, e5, fun target kt => ?_⟩
  show Steps p.tables e below (T0.setTop (mkF m 30 #[.val (.ref o0), s1, s2, s3, s4, .val (.ref o5), .val (.int i6), .val (.int i7)] [])) _
  refine XS.iload X0.here hx rfl (hb hby d3_30) rfl ?_
  show Steps p.tables e below (T0.setTop (mkF m 32 #[.val (.ref o0), s1, s2, s3, s4, .val (.ref o5), .val (.int i6), .val (.int i7)] [(.int i6)])) _
  refine XS.ifNo X0.here hx rfl (hb hby d3_32) rfl ((if0 _ _).trans (feq hc32).1) ?_
  show Steps p.tables e below (T0.setTop (mkF m 35 #[.val (.ref o0), s1, s2, s3, s4, .val (.ref o5), .val (.int i6), .val (.int i7)] [])) _
  refine XS.iload X0.here hx rfl (hb hby d3_35) rfl ?_
  show Steps p.tables e below (T0.setTop (mkF m 37 #[.val (.ref o0), s1, s2, s3, s4, .val (.ref o5), .val (.int i6), .val (.int i7)] [(.int i7)])) _
  refine XS.aloadN X0.here hx rfl (hb hby d3_37) rfl rfl ?_
  show Steps p.tables e below (T0.setTop (mkF m 38 #[.val (.ref o0), s1, s2, s3, s4, .val (.ref o5), .val (.int i6), .val (.int i7)] [(.ref o0), (.int i7)])) _
  refine X0.arraylength hx (by rw [e0]; exact Ar_o0.1) (State.isArrayOf_alike hZ.alike Ar_o0.2.1) (g := (mkF m 38 #[.val (.ref o0), s1, s2, s3, s4, .val (.ref o5), .val (.int i6), .val (.int i7)] [(.ref o0), (.int i7)])) rfl rfl (hb hby d3_38) _ ?_
  rw [len_of S_o0 N_o0]
  show Steps p.tables e below (T0.setTop (mkF m 39 #[.val (.ref o0), s1, s2, s3, s4, .val (.ref o5), .val (.int i6), .val (.int i7)] [(.int z_o0), (.int i7)])) _
  refine XS.icmpNo X0.here hx rfl (hb hby d3_39) rfl (tlt hc39).2.1 ?_
  show Steps p.tables e below (T0.setTop (mkF m 42 #[.val (.ref o0), s1, s2, s3, s4, .val (.ref o5), .val (.int i6), .val (.int i7)] [])) _
  refine XS.aloadN X0.here hx rfl (hb hby d3_42) rfl rfl ?_
  show Steps p.tables e below (T0.setTop (mkF m 43 #[.val (.ref o0), s1, s2, s3, s4, .val (.ref o5), .val (.int i6), .val (.int i7)] [(.ref o0)])) _
  refine XS.iload X0.here hx rfl (hb hby d3_43) rfl ?_
  show Steps p.tables e below (T0.setTop (mkF m 45 #[.val (.ref o0), s1, s2, s3, s4, .val (.ref o5), .val (.int i6), .val (.int i7)] [(.int i7), (.ref o0)])) _
  refine X0.baloadBytes hx (j := i7) (v := (.int w2)) (by rw [e0]; exact Ar_o0.1) (State.isArrayOf_alike hZ.alike Ar_o0.2.1) Ar_o0.2.2 hin45 hat45 (g := (mkF m 45 #[.val (.ref o0), s1, s2, s3, s4, .val (.ref o5), .val (.int i6), .val (.int i7)] [(.int i7), (.ref o0)])) rfl rfl (hb hby d3_45) _ ?_
  show Steps p.tables e below (T0.setTop (mkF m 46 #[.val (.ref o0), s1, s2, s3, s4, .val (.ref o5), .val (.int i6), .val (.int i7)] [(.int w2)])) _
  refine XS.ifNo X0.here hx rfl (hb hby d3_46) rfl ((if0 _ _).trans (feq hc46).1) ?_
  show Steps p.tables e below (T0.setTop (mkF m 49 #[.val (.ref o0), s1, s2, s3, s4, .val (.ref o5), .val (.int i6), .val (.int i7)] [])) _
  refine XS.aloadN X0.here hx rfl (hb hby d3_49) rfl rfl ?_
  show Steps p.tables e below (T0.setTop (mkF m 50 #[.val (.ref o0), s1, s2, s3, s4, .val (.ref o5), .val (.int i6), .val (.int i7)] [(.ref o0)])) _
  refine XS.iload X0.here hx rfl (hb hby d3_50) rfl ?_
  show Steps p.tables e below (T0.setTop (mkF m 52 #[.val (.ref o0), s1, s2, s3, s4, .val (.ref o5), .val (.int i6), .val (.int i7)] [(.int i7), (.ref o0)])) _
  refine X0.baloadBytes hx (j := i7) (v := (.int w3)) (by rw [e0]; exact Ar_o0.1) (State.isArrayOf_alike hZ.alike Ar_o0.2.1) Ar_o0.2.2 hin52 hat52 (g := (mkF m 52 #[.val (.ref o0), s1, s2, s3, s4, .val (.ref o5), .val (.int i6), .val (.int i7)] [(.int i7), (.ref o0)])) rfl rfl (hb hby d3_52) _ ?_
  show Steps p.tables e below (T0.setTop (mkF m 53 #[.val (.ref o0), s1, s2, s3, s4, .val (.ref o5), .val (.int i6), .val (.int i7)] [(.int w3)])) _
  refine XS.aload X0.here hx rfl (hb hby d3_53) rfl rfl ?_
  show Steps p.tables e below (T0.setTop (mkF m 55 #[.val (.ref o0), s1, s2, s3, s4, .val (.ref o5), .val (.int i6), .val (.int i7)] [(.ref o5), (.int w3)])) _
  refine st5 _ ?_
  show Steps p.tables e below (T5.setTop (mkF m 58 #[.val (.ref o0), s1, s2, s3, s4, .val (.ref o5), .val (.int i6), .val (.int i7)] [(.ref w4), (.int w3)])) _
  refine XS.iload X5.here hx rfl (hb hby d3_58) rfl ?_
  show Steps p.tables e below (T5.setTop (mkF m 60 #[.val (.ref o0), s1, s2, s3, s4, .val (.ref o5), .val (.int i6), .val (.int i7)] [(.int i7), (.ref w4), (.int w3)])) _
  refine X5.baloadBytes hx (j := i7) (v := (.int w6)) (by rw [e5]; exact Ar_w4.1) (State.isArrayOf_alike hZ.alike Ar_w4.2.1) Ar_w4.2.2 hin60 hat60 (g := (mkF m 60 #[.val (.ref o0), s1, s2, s3, s4, .val (.ref o5), .val (.int i6), .val (.int i7)] [(.int i7), (.ref w4), (.int w3)])) rfl rfl (hb hby d3_60) _ ?_
  show Steps p.tables e below (T5.setTop (mkF m 61 #[.val (.ref o0), s1, s2, s3, s4, .val (.ref o5), .val (.int i6), .val (.int i7)] [(.int w6), (.int w3)])) _
  refine XS.icmpNo X5.here hx rfl (hb hby d3_61) rfl (teq hc61).2 ?_
  show Steps p.tables e below (T5.setTop (mkF m 64 #[.val (.ref o0), s1, s2, s3, s4, .val (.ref o5), .val (.int i6), .val (.int i7)] [])) _
  refine XS.iconst X5.here hx rfl (hb hby d3_64) ?_
  show Steps p.tables e below (T5.setTop (mkF m 65 #[.val (.ref o0), s1, s2, s3, s4, .val (.ref o5), .val (.int i6), .val (.int i7)] [(.int (1 : Int32))])) _
  refine XS.goto X5.here hx rfl (pc0 := 65) (pc' := 69) rfl (hb hby d3_65) (by decide) (by decide) ?_
  show Steps p.tables e below (T5.setTop (mkF m 69 #[.val (.ref o0), s1, s2, s3, s4, .val (.ref o5), .val (.int i6), .val (.int i7)] [(.int (1 : Int32))])) _
  refine XS.istore X5.here hx rfl (hb hby d3_69) rfl (l' := #[.val (.ref o0), s1, s2, s3, s4, .val (.ref o5), .val (.int (1 : Int32)), .val (.int i7)]) rfl ?_
  show Steps p.tables e below (T5.setTop (mkF m 71 #[.val (.ref o0), s1, s2, s3, s4, .val (.ref o5), .val (.int (1 : Int32)), .val (.int i7)] [])) _
  refine XS.iinc X5.here hx rfl (hb hby d3_71) rfl (l' := #[.val (.ref o0), s1, s2, s3, s4, .val (.ref o5), .val (.int (1 : Int32)), .val (.int (i7 + (1 : Int32)))]) rfl ?_
  show Steps p.tables e below (T5.setTop (mkF m 74 #[.val (.ref o0), s1, s2, s3, s4, .val (.ref o5), .val (.int (1 : Int32)), .val (.int (i7 + (1 : Int32)))] [])) _
  refine XS.goto X5.here hx rfl (pc0 := 74) (pc' := 30) rfl (hb hby d3_74) (by decide) (by decide) ?_
  exact kt
theorem d3_68 : decode prog_19_method_5_code 68 = .ok (.iconst 0, 1) := by decide +kernel
set_option maxRecDepth 65536 in
set_option maxHeartbeats 40000000 in
theorem tn3_ffft {p : Program} {l : Launch} {e : Env} {R : Room} {s : State} {m : MethodId} {args : Array Value} {below : List Frame} {meth : Method} {c : Code} {T0 : State} {locs : List Loc} {cells slots : Nat} {Z : State} {a0 : Array Value} {h0 : Heap} (o0 : Addr) (s1 : Slot) (s2 : Slot) (s3 : Slot) (s4 : Slot) (o5 : Addr) (i6 : Int32) (i7 : Int32) (cl_o0 : Cell) (z_o0 : Int32) (w2 : Int32) (w3 : Int32) (w4 : Addr) (w6 : Int32) (cl_w4 : Cell)
    (X0 : Stand p l e R s m args below meth c T0 locs cells slots) (hx : p.tables.exec = Jvm.exec) (hZ : Z.Warmed39 s.vm) (hw : ∀ d ∈ tables_1, d.before a0 Z = true) (hby : c.code = prog_19_method_5_code) (hml : c.maxLocals = 8) (hown : s.vm.findClass "com/example/vigilant_ledger/vigilantledger/journal/JournalFormat" = some m.cls) (e0 : T0.heap = h0) (Ar_o0 : Arr Z h0 o0 cl_o0 .byte) (S_o0 : cl_o0.slots.size = z_o0.toNatClampNeg) (N_o0 : ¬ z_o0 < 0) (hin45 : ¬ (i7 < 0 ∨ cl_o0.slots.size ≤ (i7).toNatClampNeg)) (hat45 : cl_o0.slots[(i7).toNatClampNeg]? = some (.int w2)) (hin52 : ¬ (i7 < 0 ∨ cl_o0.slots.size ≤ (i7).toNatClampNeg)) (hat52 : cl_o0.slots[(i7).toNatClampNeg]? = some (.int w3)) (F_header_o5 : Fld Z h0 o5 "com/example/vigilant_ledger/vigilantledger/journal/JournalFormat" "header" "[B" (.ref w4)) (Ar_w4 : Arr Z h0 w4 cl_w4 .byte) (hin60 : ¬ (i7 < 0 ∨ cl_w4.slots.size ≤ (i7).toNatClampNeg)) (hat60 : cl_w4.slots[(i7).toNatClampNeg]? = some (.int w6)) (hc32 : ¬ (i6 = (0 : Int32))) (hc39 : i7 < z_o0) (hc46 : ¬ (w2 = (0 : Int32))) (hc61 : ¬ (w3 = w6)) :
    ∃ (T' : State), Stand p l e R s m args below meth c T' locs cells slots ∧ T'.heap = h0 ∧
      ∀ target, Steps p.tables e below (T'.setTop (mkF m 30 #[.val (.ref o0), s1, s2, s3, s4, .val (.ref o5), .val (.int (0 : Int32)), .val (.int (i7 + (1 : Int32)))] [])) target → Steps p.tables e below (T0.setTop (mkF m 30 #[.val (.ref o0), s1, s2, s3, s4, .val (.ref o5), .val (.int i6), .val (.int i7)] [])) target := by
  obtain ⟨T5, X5, e5, st5⟩ := getF X0 hx hZ hown (host := "") (Or.inl (hw _ (List.mem_of_getElem? (i := 66) rfl))) Via.refl e0 F_header_o5 (g := (mkF m 55 #[.val (.ref o0), s1, s2, s3, s4, .val (.ref o5), .val (.int i6), .val (.int i7)] [(.ref o5), (.int w3)])) rfl rfl (hb hby d3_55)
  refine ⟨T5, X5, e5, fun target kt => ?_⟩
  show Steps p.tables e below (T0.setTop (mkF m 30 #[.val (.ref o0), s1, s2, s3, s4, .val (.ref o5), .val (.int i6), .val (.int i7)] [])) _
  refine XS.iload X0.here hx rfl (hb hby d3_30) rfl ?_
  show Steps p.tables e below (T0.setTop (mkF m 32 #[.val (.ref o0), s1, s2, s3, s4, .val (.ref o5), .val (.int i6), .val (.int i7)] [(.int i6)])) _
  refine XS.ifNo X0.here hx rfl (hb hby d3_32) rfl ((if0 _ _).trans (feq hc32).1) ?_
  show Steps p.tables e below (T0.setTop (mkF m 35 #[.val (.ref o0), s1, s2, s3, s4, .val (.ref o5), .val (.int i6), .val (.int i7)] [])) _
  refine XS.iload X0.here hx rfl (hb hby d3_35) rfl ?_
  show Steps p.tables e below (T0.setTop (mkF m 37 #[.val (.ref o0), s1, s2, s3, s4, .val (.ref o5), .val (.int i6), .val (.int i7)] [(.int i7)])) _
  refine XS.aloadN X0.here hx rfl (hb hby d3_37) rfl rfl ?_
  show Steps p.tables e below (T0.setTop (mkF m 38 #[.val (.ref o0), s1, s2, s3, s4, .val (.ref o5), .val (.int i6), .val (.int i7)] [(.ref o0), (.int i7)])) _
  refine X0.arraylength hx (by rw [e0]; exact Ar_o0.1) (State.isArrayOf_alike hZ.alike Ar_o0.2.1) (g := (mkF m 38 #[.val (.ref o0), s1, s2, s3, s4, .val (.ref o5), .val (.int i6), .val (.int i7)] [(.ref o0), (.int i7)])) rfl rfl (hb hby d3_38) _ ?_
  rw [len_of S_o0 N_o0]
  show Steps p.tables e below (T0.setTop (mkF m 39 #[.val (.ref o0), s1, s2, s3, s4, .val (.ref o5), .val (.int i6), .val (.int i7)] [(.int z_o0), (.int i7)])) _
  refine XS.icmpNo X0.here hx rfl (hb hby d3_39) rfl (tlt hc39).2.1 ?_
  show Steps p.tables e below (T0.setTop (mkF m 42 #[.val (.ref o0), s1, s2, s3, s4, .val (.ref o5), .val (.int i6), .val (.int i7)] [])) _
  refine XS.aloadN X0.here hx rfl (hb hby d3_42) rfl rfl ?_
  show Steps p.tables e below (T0.setTop (mkF m 43 #[.val (.ref o0), s1, s2, s3, s4, .val (.ref o5), .val (.int i6), .val (.int i7)] [(.ref o0)])) _
  refine XS.iload X0.here hx rfl (hb hby d3_43) rfl ?_
  show Steps p.tables e below (T0.setTop (mkF m 45 #[.val (.ref o0), s1, s2, s3, s4, .val (.ref o5), .val (.int i6), .val (.int i7)] [(.int i7), (.ref o0)])) _
  refine X0.baloadBytes hx (j := i7) (v := (.int w2)) (by rw [e0]; exact Ar_o0.1) (State.isArrayOf_alike hZ.alike Ar_o0.2.1) Ar_o0.2.2 hin45 hat45 (g := (mkF m 45 #[.val (.ref o0), s1, s2, s3, s4, .val (.ref o5), .val (.int i6), .val (.int i7)] [(.int i7), (.ref o0)])) rfl rfl (hb hby d3_45) _ ?_
  show Steps p.tables e below (T0.setTop (mkF m 46 #[.val (.ref o0), s1, s2, s3, s4, .val (.ref o5), .val (.int i6), .val (.int i7)] [(.int w2)])) _
  refine XS.ifNo X0.here hx rfl (hb hby d3_46) rfl ((if0 _ _).trans (feq hc46).1) ?_
  show Steps p.tables e below (T0.setTop (mkF m 49 #[.val (.ref o0), s1, s2, s3, s4, .val (.ref o5), .val (.int i6), .val (.int i7)] [])) _
  refine XS.aloadN X0.here hx rfl (hb hby d3_49) rfl rfl ?_
  show Steps p.tables e below (T0.setTop (mkF m 50 #[.val (.ref o0), s1, s2, s3, s4, .val (.ref o5), .val (.int i6), .val (.int i7)] [(.ref o0)])) _
  refine XS.iload X0.here hx rfl (hb hby d3_50) rfl ?_
  show Steps p.tables e below (T0.setTop (mkF m 52 #[.val (.ref o0), s1, s2, s3, s4, .val (.ref o5), .val (.int i6), .val (.int i7)] [(.int i7), (.ref o0)])) _
  refine X0.baloadBytes hx (j := i7) (v := (.int w3)) (by rw [e0]; exact Ar_o0.1) (State.isArrayOf_alike hZ.alike Ar_o0.2.1) Ar_o0.2.2 hin52 hat52 (g := (mkF m 52 #[.val (.ref o0), s1, s2, s3, s4, .val (.ref o5), .val (.int i6), .val (.int i7)] [(.int i7), (.ref o0)])) rfl rfl (hb hby d3_52) _ ?_
  show Steps p.tables e below (T0.setTop (mkF m 53 #[.val (.ref o0), s1, s2, s3, s4, .val (.ref o5), .val (.int i6), .val (.int i7)] [(.int w3)])) _
  refine XS.aload X0.here hx rfl (hb hby d3_53) rfl rfl ?_
  show Steps p.tables e below (T0.setTop (mkF m 55 #[.val (.ref o0), s1, s2, s3, s4, .val (.ref o5), .val (.int i6), .val (.int i7)] [(.ref o5), (.int w3)])) _
  refine st5 _ ?_
  show Steps p.tables e below (T5.setTop (mkF m 58 #[.val (.ref o0), s1, s2, s3, s4, .val (.ref o5), .val (.int i6), .val (.int i7)] [(.ref w4), (.int w3)])) _
  refine XS.iload X5.here hx rfl (hb hby d3_58) rfl ?_
  show Steps p.tables e below (T5.setTop (mkF m 60 #[.val (.ref o0), s1, s2, s3, s4, .val (.ref o5), .val (.int i6), .val (.int i7)] [(.int i7), (.ref w4), (.int w3)])) _
  refine X5.baloadBytes hx (j := i7) (v := (.int w6)) (by rw [e5]; exact Ar_w4.1) (State.isArrayOf_alike hZ.alike Ar_w4.2.1) Ar_w4.2.2 hin60 hat60 (g := (mkF m 60 #[.val (.ref o0), s1, s2, s3, s4, .val (.ref o5), .val (.int i6), .val (.int i7)] [(.int i7), (.ref w4), (.int w3)])) rfl rfl (hb hby d3_60) _ ?_
  show Steps p.tables e below (T5.setTop (mkF m 61 #[.val (.ref o0), s1, s2, s3, s4, .val (.ref o5), .val (.int i6), .val (.int i7)] [(.int w6), (.int w3)])) _
  refine XS.icmpYes X5.here hx rfl (pc0 := 61) (pc' := 68) rfl (hb hby d3_61) rfl (feq hc61).2 (by decide) (by decide) ?_
  show Steps p.tables e below (T5.setTop (mkF m 68 #[.val (.ref o0), s1, s2, s3, s4, .val (.ref o5), .val (.int i6), .val (.int i7)] [])) _
  refine XS.iconst X5.here hx rfl (hb hby d3_68) ?_
  show Steps p.tables e below (T5.setTop (mkF m 69 #[.val (.ref o0), s1, s2, s3, s4, .val (.ref o5), .val (.int i6), .val (.int i7)] [(.int (0 : Int32))])) _
  refine XS.istore X5.here hx rfl (hb hby d3_69) rfl (l' := #[.val (.ref o0), s1, s2, s3, s4, .val (.ref o5), .val (.int (0 : Int32)), .val (.int i7)]) rfl ?_
  show Steps p.tables e below (T5.setTop (mkF m 71 #[.val (.ref o0), s1, s2, s3, s4, .val (.ref o5), .val (.int (0 : Int32)), .val (.int i7)] [])) _
  refine XS.iinc X5.here hx rfl (hb hby d3_71) rfl (l' := #[.val (.ref o0), s1, s2, s3, s4, .val (.ref o5), .val (.int (0 : Int32)), .val (.int (i7 + (1 : Int32)))]) rfl ?_
  show Steps p.tables e below (T5.setTop (mkF m 74 #[.val (.ref o0), s1, s2, s3, s4, .val (.ref o5), .val (.int (0 : Int32)), .val (.int (i7 + (1 : Int32)))] [])) _
  refine XS.goto X5.here hx rfl (pc0 := 74) (pc' := 30) rfl (hb hby d3_74) (by decide) (by decide) ?_
  exact kt
set_option maxRecDepth 65536 in
set_option maxHeartbeats 40000000 in
theorem tn3_t {p : Program} {l : Launch} {e : Env} {R : Room} {s : State} {m : MethodId} {args : Array Value} {below : List Frame} {meth : Method} {c : Code} {T0 : State} {locs : List Loc} {cells slots : Nat} {Z : State} {a0 : Array Value} {h0 : Heap} (s0 : Slot) (s1 : Slot) (s2 : Slot) (s3 : Slot) (s4 : Slot) (s5 : Slot) (i6 : Int32) (s7 : Slot)
    (X0 : Stand p l e R s m args below meth c T0 locs cells slots) (hx : p.tables.exec = Jvm.exec) (hZ : Z.Warmed39 s.vm) (hw : ∀ d ∈ tables_1, d.before a0 Z = true) (hby : c.code = prog_19_method_5_code) (hml : c.maxLocals = 8) (hown : s.vm.findClass "com/example/vigilant_ledger/vigilantledger/journal/JournalFormat" = some m.cls) (e0 : T0.heap = h0) (hc32 : i6 = (0 : Int32)) :
    ∃ (T' : State), Stand p l e R s m args below meth c T' locs cells slots ∧ T'.heap = h0 ∧
      ∀ target, Steps p.tables e below (T'.setTop (mkF m 77 #[s0, s1, s2, s3, s4, s5, .val (.int i6), s7] [])) target → Steps p.tables e below (T0.setTop (mkF m 30 #[s0, s1, s2, s3, s4, s5, .val (.int i6), s7] [])) target := by

  refine ⟨T0, X0, e0, fun target kt => ?_⟩
  show Steps p.tables e below (T0.setTop (mkF m 30 #[s0, s1, s2, s3, s4, s5, .val (.int i6), s7] [])) _
  refine XS.iload X0.here hx rfl (hb hby d3_30) rfl ?_
  show Steps p.tables e below (T0.setTop (mkF m 32 #[s0, s1, s2, s3, s4, s5, .val (.int i6), s7] [(.int i6)])) _
  refine XS.ifYes X0.here hx rfl (pc0 := 32) (pc' := 77) rfl (hb hby d3_32) rfl ((if0 _ _).trans (teq hc32).1) (by decide) (by decide) ?_
  exact kt
set_option maxRecDepth 65536 in
set_option maxHeartbeats 40000000 in
theorem tn3_ft {p : Program} {l : Launch} {e : Env} {R : Room} {s : State} {m : MethodId} {args : Array Value} {below : List Frame} {meth : Method} {c : Code} {T0 : State} {locs : List Loc} {cells slots : Nat} {Z : State} {a0 : Array Value} {h0 : Heap} (o0 : Addr) (s1 : Slot) (s2 : Slot) (s3 : Slot) (s4 : Slot) (s5 : Slot) (i6 : Int32) (i7 : Int32) (cl_o0 : Cell) (z_o0 : Int32)
    (X0 : Stand p l e R s m args below meth c T0 locs cells slots) (hx : p.tables.exec = Jvm.exec) (hZ : Z.Warmed39 s.vm) (hw : ∀ d ∈ tables_1, d.before a0 Z = true) (hby : c.code = prog_19_method_5_code) (hml : c.maxLocals = 8) (hown : s.vm.findClass "com/example/vigilant_ledger/vigilantledger/journal/JournalFormat" = some m.cls) (e0 : T0.heap = h0) (Ar_o0 : Arr Z h0 o0 cl_o0 .byte) (S_o0 : cl_o0.slots.size = z_o0.toNatClampNeg) (N_o0 : ¬ z_o0 < 0) (hc32 : ¬ (i6 = (0 : Int32))) (hc39 : ¬ (i7 < z_o0)) :
    ∃ (T' : State), Stand p l e R s m args below meth c T' locs cells slots ∧ T'.heap = h0 ∧
      ∀ target, Steps p.tables e below (T'.setTop (mkF m 77 #[.val (.ref o0), s1, s2, s3, s4, s5, .val (.int i6), .val (.int i7)] [])) target → Steps p.tables e below (T0.setTop (mkF m 30 #[.val (.ref o0), s1, s2, s3, s4, s5, .val (.int i6), .val (.int i7)] [])) target := by

  refine ⟨T0, X0, e0, fun target kt => ?_⟩
  show Steps p.tables e below (T0.setTop (mkF m 30 #[.val (.ref o0), s1, s2, s3, s4, s5, .val (.int i6), .val (.int i7)] [])) _
  refine XS.iload X0.here hx rfl (hb hby d3_30) rfl ?_
  show Steps p.tables e below (T0.setTop (mkF m 32 #[.val (.ref o0), s1, s2, s3, s4, s5, .val (.int i6), .val (.int i7)] [(.int i6)])) _
  refine XS.ifNo X0.here hx rfl (hb hby d3_32) rfl ((if0 _ _).trans (feq hc32).1) ?_
  show Steps p.tables e below (T0.setTop (mkF m 35 #[.val (.ref o0), s1, s2, s3, s4, s5, .val (.int i6), .val (.int i7)] [])) _
  refine XS.iload X0.here hx rfl (hb hby d3_35) rfl ?_
  show Steps p.tables e below (T0.setTop (mkF m 37 #[.val (.ref o0), s1, s2, s3, s4, s5, .val (.int i6), .val (.int i7)] [(.int i7)])) _
  refine XS.aloadN X0.here hx rfl (hb hby d3_37) rfl rfl ?_
  show Steps p.tables e below (T0.setTop (mkF m 38 #[.val (.ref o0), s1, s2, s3, s4, s5, .val (.int i6), .val (.int i7)] [(.ref o0), (.int i7)])) _
  refine X0.arraylength hx (by rw [e0]; exact Ar_o0.1) (State.isArrayOf_alike hZ.alike Ar_o0.2.1) (g := (mkF m 38 #[.val (.ref o0), s1, s2, s3, s4, s5, .val (.int i6), .val (.int i7)] [(.ref o0), (.int i7)])) rfl rfl (hb hby d3_38) _ ?_
  rw [len_of S_o0 N_o0]
  show Steps p.tables e below (T0.setTop (mkF m 39 #[.val (.ref o0), s1, s2, s3, s4, s5, .val (.int i6), .val (.int i7)] [(.int z_o0), (.int i7)])) _
  refine XS.icmpYes X0.here hx rfl (pc0 := 39) (pc' := 77) rfl (hb hby d3_39) rfl (flt hc39).2.1 (by decide) (by decide) ?_
  exact kt
def own_m (x y : Nat → Int32) : Nat → Nat → Int32
  | 0, _ => 1
  | k + 1, i => if x i = 0 then own_m x y k (i + 1) else if x i = y i then own_m x y k (i + 1) else 0
theorem own_suc : ∀ i, i < 26 → (Int32.ofNat i) + (1 : Int32) = Int32.ofNat (i + 1) := by decide +kernel
theorem own_lt32 (i : Nat) (z : Int32) (hz : ¬ z < 0) (h : z.toNatClampNeg ≤ 26) : Int32.ofNat i < z ∨ 26 < i ↔ (i < z.toNatClampNeg ∨ 26 < i) := by
  by_cases q : 26 < i
  · simp [q]
  · have e2 : (Int32.ofNat i).toInt = i := by
      have : ∀ j, j < 27 → (Int32.ofNat j).toInt = (j : Int) := by decide +kernel
      exact this i (by omega)
    rw [Int32.lt_iff_toInt_lt, e2]
    unfold Int32.toNatClampNeg
    omega
set_option maxHeartbeats 4000000 in
theorem own_loop {p : Program} {l : Launch} {e : Env} {R : Room} {s : State} {m : MethodId} {args : Array Value} {below : List Frame} {meth : Method} {c : Code} {locs : List Loc} {cells slots : Nat} {Z : State} {a0 : Array Value} {h0 : Heap} (o0 : Addr) (s1 s2 s3 s4 : Slot) (o5 hd : Addr) (cl clh : Cell) (nn : Int32) (x y : Nat → Int32)
    (hx : p.tables.exec = Jvm.exec) (hZ : Z.Warmed39 s.vm) (hw : ∀ d ∈ tables_1, d.before a0 Z = true) (hby : c.code = prog_19_method_5_code) (hml : c.maxLocals = 8) (hown : s.vm.findClass "com/example/vigilant_ledger/vigilantledger/journal/JournalFormat" = some m.cls) (Ar : Arr Z h0 o0 cl .byte) (Sl : cl.slots.size = nn.toNatClampNeg) (Nl : ¬ nn < 0) (n26 : nn.toNatClampNeg ≤ 26)
    (hX : ∀ i, i < nn.toNatClampNeg → cl.slots[i]? = some (.int (x i))) (F : Fld Z h0 o5 "com/example/vigilant_ledger/vigilantledger/journal/JournalFormat" "header" "[B" (.ref hd)) (Arh : Arr Z h0 hd clh .byte) (Sh : clh.slots.size = 26) (hY : ∀ i, i < 26 → clh.slots[i]? = some (.int (y i))) :
    ∀ (k i : Nat) (T0 : State), i + k = nn.toNatClampNeg → Stand p l e R s m args below meth c T0 locs cells slots → T0.heap = h0 → ∃ (T' : State) (i' : Int32), Stand p l e R s m args below meth c T' locs cells slots ∧ T'.heap = h0 ∧
      ∀ target, Steps p.tables e below (T'.setTop (mkF m 77 #[.val (.ref o0), s1, s2, s3, s4, .val (.ref o5), .val (.int (own_m x y k i)), .val (.int i')] [])) target → Steps p.tables e below (T0.setTop (mkF m 30 #[.val (.ref o0), s1, s2, s3, s4, .val (.ref o5), .val (.int (1 : Int32)), .val (.int (Int32.ofNat i))] [])) target := by
  intro k
  induction k with
  | zero =>
    intro i T0 hi X0 e0
    have q : ¬ Int32.ofNat i < nn := fun z => by have := (own_lt32 i nn Nl n26).mp (Or.inl z); omega
    obtain ⟨T', X', e', st⟩ := tn3_ft o0 s1 s2 s3 s4 (.val (.ref o5)) 1 (Int32.ofNat i) cl nn X0 hx hZ hw hby hml hown e0 Ar Sl Nl (by decide) q
    exact ⟨T', _, X', e', st⟩
  | succ k ih =>
    intro i T0 hi X0 e0
    have hlt : i < nn.toNatClampNeg := by omega
    have h26 : i < 26 := by omega
    have q : Int32.ofNat i < nn := ((own_lt32 i nn Nl n26).mpr (Or.inl hlt)).resolve_right (by omega)
    have hn := own_nat i h26
    have hin : ¬ (Int32.ofNat i < 0 ∨ cl.slots.size ≤ (Int32.ofNat i).toNatClampNeg) := by rw [hn, Sl]; rintro (z | z); exact (own_rg i h26).1 z; omega
    have hat : cl.slots[(Int32.ofNat i).toNatClampNeg]? = some (.int (x i)) := by rw [hn]; exact hX i hlt
    have hinh : ¬ (Int32.ofNat i < 0 ∨ clh.slots.size ≤ (Int32.ofNat i).toNatClampNeg) := by rw [hn, Sh]; rintro (z | z); exact (own_rg i h26).1 z; omega
    have hath : clh.slots[(Int32.ofNat i).toNatClampNeg]? = some (.int (y i)) := by rw [hn]; exact hY i h26
    by_cases c1 : x i = 0
    · obtain ⟨T1, X1, e1, st1⟩ := tn3_fft o0 s1 s2 s3 s4 (.val (.ref o5)) 1 (Int32.ofNat i) cl nn (x i) X0 hx hZ hw hby hml hown e0 Ar Sl Nl hin hat (by decide) q c1
      obtain ⟨T', i', X', e', st⟩ := ih (i + 1) T1 (by omega) X1 e1
      rw [own_suc i h26] at st1
      refine ⟨T', i', X', e', fun target kt => st1 _ (st _ ?_)⟩
      rw [show own_m x y (k + 1) i = own_m x y k (i + 1) from if_pos c1] at kt; exact kt
    · by_cases c2 : x i = y i
      · obtain ⟨T1, X1, e1, st1⟩ := tn3_ffff o0 s1 s2 s3 s4 o5 1 (Int32.ofNat i) cl nn (x i) (x i) hd (y i) clh X0 hx hZ hw hby hml hown e0 Ar Sl Nl hin hat hin hat F Arh hinh hath (by decide) q c1 c2
        obtain ⟨T', i', X', e', st⟩ := ih (i + 1) T1 (by omega) X1 e1
        rw [own_suc i h26] at st1
        refine ⟨T', i', X', e', fun target kt => st1 _ (st _ ?_)⟩
        rw [show own_m x y (k + 1) i = own_m x y k (i + 1) from (if_neg c1).trans (if_pos c2)] at kt; exact kt
      · obtain ⟨T1, X1, e1, st1⟩ := tn3_ffft o0 s1 s2 s3 s4 o5 1 (Int32.ofNat i) cl nn (x i) (x i) hd (y i) clh X0 hx hZ hw hby hml hown e0 Ar Sl Nl hin hat hin hat F Arh hinh hath (by decide) q c1 c2
        obtain ⟨T', X', e', st⟩ := tn3_t (.val (.ref o0)) s1 s2 s3 s4 (.val (.ref o5)) 0 (.val (.int (Int32.ofNat i + 1))) X1 hx hZ hw hby hml hown e1 rfl
        refine ⟨T', Int32.ofNat i + 1, X', e', fun target kt => st1 _ (st _ ?_)⟩
        rw [show own_m x y (k + 1) i = 0 from (if_neg c1).trans (if_neg c2)] at kt; exact kt
theorem d3_0 : decode prog_19_method_5_code 0 = .ok (.iconst 0, 1) := by decide +kernel
theorem d3_1 : decode prog_19_method_5_code 1 = .ok (.istore_n 1, 1) := by decide +kernel
theorem os3_1 {s0 : Slot} {s1 : Slot} {s2 : Slot} {s3 : Slot} {s4 : Slot} {s5 : Slot} {s6 : Slot} {s7 : Slot} {v : Int32} (h : One s1) : storeLocals #[s0, s1, s2, s3, s4, s5, s6, s7] 1 (.int v) = some #[s0, .val (.int v), s2, s3, s4, s5, s6, s7] := by
  rcases h with rfl | ⟨w, rfl, hw⟩
  · rfl
  · cases w <;> first | rfl | (simp [Value.category] at hw)
theorem d3_2 : decode prog_19_method_5_code 2 = .ok (.invokestatic 53, 3) := by decide +kernel
theorem d3_5 : decode prog_19_method_5_code 5 = .ok (.astore_n 2, 1) := by decide +kernel
theorem d3_6 : decode prog_19_method_5_code 6 = .ok (.aload_n 2, 1) := by decide +kernel
theorem d3_7 : decode prog_19_method_5_code 7 = .ok (.arraylength, 1) := by decide +kernel
theorem d3_8 : decode prog_19_method_5_code 8 = .ok (.istore_n 3, 1) := by decide +kernel
theorem d3_9 : decode prog_19_method_5_code 9 = .ok (.iconst 0, 1) := by decide +kernel
theorem d3_10 : decode prog_19_method_5_code 10 = .ok (.istore 4, 2) := by decide +kernel
theorem d3_12 : decode prog_19_method_5_code 12 = .ok (.iload 4, 2) := by decide +kernel
theorem d3_14 : decode prog_19_method_5_code 14 = .ok (.iload_n 3, 1) := by decide +kernel
theorem d3_15 : decode prog_19_method_5_code 15 = .ok (.if_icmp .ge 73, 3) := by decide +kernel
theorem d3_18 : decode prog_19_method_5_code 18 = .ok (.aload_n 2, 1) := by decide +kernel
theorem d3_19 : decode prog_19_method_5_code 19 = .ok (.iload 4, 2) := by decide +kernel
theorem d3_21 : decode prog_19_method_5_code 21 = .ok (.aaload, 1) := by decide +kernel
theorem d3_22 : decode prog_19_method_5_code 22 = .ok (.astore 5, 2) := by decide +kernel
theorem d3_24 : decode prog_19_method_5_code 24 = .ok (.iconst 1, 1) := by decide +kernel
theorem d3_25 : decode prog_19_method_5_code 25 = .ok (.istore 6, 2) := by decide +kernel
theorem d3_27 : decode prog_19_method_5_code 27 = .ok (.iconst 0, 1) := by decide +kernel
theorem d3_28 : decode prog_19_method_5_code 28 = .ok (.istore 7, 2) := by decide +kernel
theorem d3_77 : decode prog_19_method_5_code 77 = .ok (.iload_n 1, 1) := by decide +kernel
theorem d3_78 : decode prog_19_method_5_code 78 = .ok (.iload 6, 2) := by decide +kernel
theorem d3_80 : decode prog_19_method_5_code 80 = .ok (.ior, 1) := by decide +kernel
theorem d3_81 : decode prog_19_method_5_code 81 = .ok (.istore_n 1, 1) := by decide +kernel
theorem d3_82 : decode prog_19_method_5_code 82 = .ok (.iinc 4 1, 3) := by decide +kernel
theorem d3_85 : decode prog_19_method_5_code 85 = .ok (.goto (-73), 3) := by decide +kernel
theorem d3_88 : decode prog_19_method_5_code 88 = .ok (.iload_n 1, 1) := by decide +kernel
theorem d3_89 : decode prog_19_method_5_code 89 = .ok (.ireturn, 1) := by decide +kernel
theorem pdd_v : parseMethodDescriptor "()[Lcom/example/vigilant_ledger/vigilantledger/journal/JournalFormat;" = some ⟨[], some (.array (.object "com/example/vigilant_ledger/vigilantledger/journal/JournalFormat"))⟩ := by decide +kernel
theorem eff_3 (m : MethodId) (x0 : Addr) : entryFrame m #[(.ref x0)] 8 = mkF m 0 #[.val (.ref x0), .unset, .unset, .unset, .unset, .unset, .unset, .unset] [] := by first | (simp [entryFrame, mkF, argsToLocals, Value.category]; done) | rfl
def own_y1 (i : Nat) : Int32 := own_cs1.getD i 0
def own_y2 (i : Nat) : Int32 := own_cs2.getD i 0
def Q3 (r : Int32) (h0 : Heap) (n0 : Nat) (v : Option Value) (h : Heap) (L : List Loc) : Prop := v = some (.int (nar .boolean r)) ∧ Fr n0 L ∧ Ext h0 h
set_option maxRecDepth 65536 in
set_option maxHeartbeats 4000000 in
theorem rm3 (l : Launch) (Z : State) (a0 : Array Value) (hw : ∀ d ∈ tables_1, d.before a0 Z = true) (ws : List Jvm.Cond) (a : Addr) (cl : Cell) (nn : Int32) (x : Nat → Int32) (w1 : Addr) (kv : ClassId) (f1 f2 d1 d2 : Addr) (ch1 ch2 : Cell) (h0 : Heap) (n0 : Nat) (Ar : Arr Z h0 a cl .byte) (Sl : cl.slots.size = nn.toNatClampNeg) (Nl : ¬ nn < 0) (n26 : nn.toNatClampNeg ≤ 26) (hX : ∀ i, i < nn.toNatClampNeg → cl.slots[i]? = some (.int (x i))) (S_V : Sta Z h0 "com/example/vigilant_ledger/vigilantledger/journal/JournalFormat" "$VALUES" "[Lcom/example/vigilant_ledger/vigilantledger/journal/JournalFormat;" (.ref w1)) (FV : Arv Z h0 w1 kv (.object "com/example/vigilant_ledger/vigilantledger/journal/JournalFormat") 2 [.ref f1, .ref f2] .null) (EV : Exa Z h0 w1 "[Lcom/example/vigilant_ledger/vigilantledger/journal/JournalFormat;") (F1 : Fld Z h0 f1 "com/example/vigilant_ledger/vigilantledger/journal/JournalFormat" "header" "[B" (.ref d1)) (Ad1 : Arr Z h0 d1 ch1 .byte) (Sd1 : ch1.slots.size = 26) (Hd1 : ∀ i, i < 26 → ch1.slots[i]? = some (.int (own_y1 i))) (F2 : Fld Z h0 f2 "com/example/vigilant_ledger/vigilantledger/journal/JournalFormat" "header" "[B" (.ref d2)) (Ad2 : Arr Z h0 d2 ch2 .byte) (Sd2 : ch2.slots.size = 26) (Hd2 : ∀ i, i < 26 → ch2.slots[i]? = some (.int (own_y2 i))) :
    MetFree l (⟨"com/example/vigilant_ledger/vigilantledger/journal/JournalFormat", "isTornHeader", "([B)Z"⟩ : MethodName) (head1 (Jvm.Cond.code (⟨"com/example/vigilant_ledger/vigilantledger/journal/JournalFormat", "isTornHeader", "([B)Z"⟩ : MethodName) prog_19_method_5_code 8 (some .boolean) :: ws) ({ frames := 2, cells := 1, slots := 2, locals := 25 } : Room)) (fun a' U => a' = #[(.ref a)] ∧ Z.Warmed39 U.vm ∧ U.heap = h0) (fun _ _ _ _ _ => True) (fun _ U o U' => ∃ v L, o = .returned v ∧ Q3 (((0 : Int32) ||| (own_m x own_y1 nn.toNatClampNeg 0)) ||| (own_m x own_y2 nn.toNatClampNeg 0)) h0 n0 v U'.heap L ∧ FrameEnd U o U' L ({ frames := 2, cells := 1, slots := 2, locals := 25 } : Room).cells ({ frames := 2, cells := 1, slots := 2, locals := 25 } : Room).slots) := by
  refine MetFree.of_bodySF (plainFor_of_name pn_4) hisR ?_
  intro p e s m args below meth c s₁ Bd hml0 hP hK
  obtain ⟨rfl, hZ, hh⟩ := hP
  have hx := Bd.exec
  have hby := Bd.bytes
  have hml : c.maxLocals = 8 := hml0
  have hown : s.vm.findClass "com/example/vigilant_ledger/vigilantledger/journal/JournalFormat" = some m.cls := findClass_of_methodNamed Bd.named
  have X0 : Stand p l e ({ frames := 2, cells := 1, slots := 2, locals := 25 } : Room) s m #[(.ref a)] below meth c s₁ [] 0 0 := Stand.of_body Bd
  have e0 : s₁.heap = h0 := by rw [← hh, Bd.state]; rfl
  have pre0 : ∀ t, Steps p.tables e below (s₁.setTop (mkF m 0 #[.val (.ref a), .unset, .unset, .unset, .unset, .unset, .unset, .unset] [])) t → Steps p.tables e below (s₁.setTop (entryFrame m #[(.ref a)] 8)) t := fun t k => castTop (eff_3 m a) k
  obtain ⟨_, _, ⟨T1, L1, k1, n1⟩, -, X1, ⟨Lc1, hQ1, l1, y1, z1⟩, st1⟩ := Jvm.LawKit.callS X0 hx (y := (⟨"com/example/vigilant_ledger/vigilantledger/journal/JournalFormat", "values", "()[Lcom/example/vigilant_ledger/vigilantledger/journal/JournalFormat;"⟩ : MethodName)) hown (mvT hZ (hw _ (List.mem_of_getElem? (i := 13) rfl))) (mvT hZ (hw _ (List.mem_of_getElem? (i := 14) rfl))) (mvT hZ (hw _ (List.mem_of_getElem? (i := 11) rfl))) (mvT hZ (hw _ (List.mem_of_getElem? (i := 15) rfl))) (by decide) (backOf (W := 0) (rm4 l Z a0 hw [] w1 kv f1 f2 h0 n0 S_V FV EV) hZ (hw _ (List.mem_of_getElem? (i := 15) rfl)) (hw _ (List.mem_of_getElem? (i := 11) rfl)) (by decide) (by decide)) (g := (mkF m 2 #[.val (.ref a), .val (.int (0 : Int32)), .unset, .unset, .unset, .unset, .unset, .unset] [])) rfl (by rw [hml]; rfl) (argsL := []) (rest := []) (lenOf pdd_v rfl) rfl (by show 2 * 0 + _ ≤ _; exact Nat.le_of_eq rfl) (hb hby d3_2) (fun _ _ => ⟨rfl, e0, (by decide : 0 + 1 ≤ 1), (by decide : 0 + 2 ≤ 2)⟩)
  dsimp only [Pt.U, Pt.locs, Pt.cells, Pt.slots] at X1 l1 y1 z1 st1 hQ1
  obtain ⟨r, rfl, N1q, E1, V1⟩ := hQ1
  obtain ⟨clv, Av, -, Sv, Nv, Hv, -⟩ := id V1
  obtain ⟨T2, i2, X2, e2, st2⟩ := own_loop (h0 := T1.heap) a (.val (.int (0 : Int32))) (.val (.ref r)) (.val (.int (2 : Int32))) (.val (.int (0 : Int32))) f1 d1 cl ch1 nn x own_y1 hx hZ hw hby hml hown (Ar.ext E1) Sl Nl n26 hX (F1.ext E1) (Ad1.ext E1) Sd1 Hd1 nn.toNatClampNeg 0 T1 (Nat.zero_add _) X1 rfl
  obtain ⟨T3, i3, X3, e3, st3⟩ := own_loop (h0 := T1.heap) a (.val (.int ((0 : Int32) ||| (own_m x own_y1 nn.toNatClampNeg 0)))) (.val (.ref r)) (.val (.int (2 : Int32))) (.val (.int ((0 : Int32) + (1 : Int32)))) f2 d2 cl ch2 nn x own_y2 hx hZ hw hby hml hown (Ar.ext E1) Sl Nl n26 hX (F2.ext E1) (Ad2.ext E1) Sd2 Hd2 nn.toNatClampNeg 0 T2 (Nat.zero_add _) X2 e2
  have N3 : Fr n0 L1 := by rw [l1]; exact Fr.app (Fr.nil n0) N1q
  obtain ⟨fs, hr, hrun, hended, hW, hsame⟩ := X3.leave (v := some (.int (nar .boolean (((0 : Int32) ||| (own_m x own_y1 nn.toNatClampNeg 0)) ||| (own_m x own_y2 nn.toNatClampNeg 0))))) (fun h => by rw [Bd.returns] at h; cases h)
  refine ⟨_, _, pre0 _ ?_, hrun, hended, _, _, rfl, ⟨rfl, N3, by show Ext h0 T3.heap; rw [e3]; exact E1⟩, ⟨_, rfl⟩, hW, hsame.mono (by rw [y1]; decide) (by rw [z1]; decide)⟩
  · show Steps p.tables e below (s₁.setTop (mkF m 0 #[.val (.ref a), .unset, .unset, .unset, .unset, .unset, .unset, .unset] [])) _
    refine XS.iconst X0.here hx rfl (hb hby d3_0) ?_
    show Steps p.tables e below (s₁.setTop (mkF m 1 #[.val (.ref a), .unset, .unset, .unset, .unset, .unset, .unset, .unset] [(.int (0 : Int32))])) _
    refine XS.istoreN X0.here hx rfl (hb hby d3_1) rfl (l' := #[.val (.ref a), .val (.int (0 : Int32)), .unset, .unset, .unset, .unset, .unset, .unset]) rfl ?_
    show Steps p.tables e below (s₁.setTop (mkF m 2 #[.val (.ref a), .val (.int (0 : Int32)), .unset, .unset, .unset, .unset, .unset, .unset] [])) _
    refine st1 _ ?_
    show Steps p.tables e below (T1.setTop (mkF m 5 #[.val (.ref a), .val (.int (0 : Int32)), .unset, .unset, .unset, .unset, .unset, .unset] [(.ref r)])) _
    refine XS.astoreN X1.here hx rfl (hb hby d3_5) rfl rfl (l' := #[.val (.ref a), .val (.int (0 : Int32)), .val (.ref r), .unset, .unset, .unset, .unset, .unset]) rfl ?_
    show Steps p.tables e below (T1.setTop (mkF m 6 #[.val (.ref a), .val (.int (0 : Int32)), .val (.ref r), .unset, .unset, .unset, .unset, .unset] [])) _
    refine XS.aloadN X1.here hx rfl (hb hby d3_6) rfl rfl ?_
    show Steps p.tables e below (T1.setTop (mkF m 7 #[.val (.ref a), .val (.int (0 : Int32)), .val (.ref r), .unset, .unset, .unset, .unset, .unset] [(.ref r)])) _
    refine X1.arraylength hx (cell := clv) (by rw [(rfl : T1.heap = T1.heap)]; exact Av.1) (State.isArrayOf_alike hZ.alike Av.2.1) (g := (mkF m 7 #[.val (.ref a), .val (.int (0 : Int32)), .val (.ref r), .unset, .unset, .unset, .unset, .unset] [(.ref r)])) rfl rfl (hb hby d3_7) _ ?_
    rw [len_of Sv Nv]
    show Steps p.tables e below (T1.setTop (mkF m 8 #[.val (.ref a), .val (.int (0 : Int32)), .val (.ref r), .unset, .unset, .unset, .unset, .unset] [(.int (2 : Int32))])) _
    refine XS.istoreN X1.here hx rfl (hb hby d3_8) rfl (l' := #[.val (.ref a), .val (.int (0 : Int32)), .val (.ref r), .val (.int (2 : Int32)), .unset, .unset, .unset, .unset]) rfl ?_
    show Steps p.tables e below (T1.setTop (mkF m 9 #[.val (.ref a), .val (.int (0 : Int32)), .val (.ref r), .val (.int (2 : Int32)), .unset, .unset, .unset, .unset] [])) _
    refine XS.iconst X1.here hx rfl (hb hby d3_9) ?_
    show Steps p.tables e below (T1.setTop (mkF m 10 #[.val (.ref a), .val (.int (0 : Int32)), .val (.ref r), .val (.int (2 : Int32)), .unset, .unset, .unset, .unset] [(.int (0 : Int32))])) _
    refine XS.istore X1.here hx rfl (hb hby d3_10) rfl (l' := #[.val (.ref a), .val (.int (0 : Int32)), .val (.ref r), .val (.int (2 : Int32)), .val (.int (0 : Int32)), .unset, .unset, .unset]) rfl ?_
    show Steps p.tables e below (T1.setTop (mkF m 12 #[.val (.ref a), .val (.int (0 : Int32)), .val (.ref r), .val (.int (2 : Int32)), .val (.int (0 : Int32)), .unset, .unset, .unset] [])) _
    refine XS.iload X1.here hx rfl (hb hby d3_12) rfl ?_
    show Steps p.tables e below (T1.setTop (mkF m 14 #[.val (.ref a), .val (.int (0 : Int32)), .val (.ref r), .val (.int (2 : Int32)), .val (.int (0 : Int32)), .unset, .unset, .unset] [(.int (0 : Int32))])) _
    refine XS.iloadN X1.here hx rfl (hb hby d3_14) rfl ?_
    show Steps p.tables e below (T1.setTop (mkF m 15 #[.val (.ref a), .val (.int (0 : Int32)), .val (.ref r), .val (.int (2 : Int32)), .val (.int (0 : Int32)), .unset, .unset, .unset] [(.int (2 : Int32)), (.int (0 : Int32))])) _
    refine XS.icmpNo X1.here hx rfl (hb hby d3_15) rfl (tlt (by decide : (0 : Int32) < 2)).2.1 ?_
    show Steps p.tables e below (T1.setTop (mkF m 18 #[.val (.ref a), .val (.int (0 : Int32)), .val (.ref r), .val (.int (2 : Int32)), .val (.int (0 : Int32)), .unset, .unset, .unset] [])) _
    refine XS.aloadN X1.here hx rfl (hb hby d3_18) rfl rfl ?_
    show Steps p.tables e below (T1.setTop (mkF m 19 #[.val (.ref a), .val (.int (0 : Int32)), .val (.ref r), .val (.int (2 : Int32)), .val (.int (0 : Int32)), .unset, .unset, .unset] [(.ref r)])) _
    refine XS.iload X1.here hx rfl (hb hby d3_19) rfl ?_
    show Steps p.tables e below (T1.setTop (mkF m 21 #[.val (.ref a), .val (.int (0 : Int32)), .val (.ref r), .val (.int (2 : Int32)), .val (.int (0 : Int32)), .unset, .unset, .unset] [(.int (0 : Int32)), (.ref r)])) _
    refine X1.aaload hx (j := (0 : Int32)) (v := (.ref f1)) (by rw [(show T1.heap = T1.heap from rfl)]; exact Av.1) (State.isArrayOf_alike hZ.alike Av.2.1) rfl Av.2.2 (by rw [Sv]; decide) (Hv 0 (by rw [Sv]; decide)) (g := (mkF m 21 #[.val (.ref a), .val (.int (0 : Int32)), .val (.ref r), .val (.int (2 : Int32)), .val (.int (0 : Int32)), .unset, .unset, .unset] [(.int (0 : Int32)), (.ref r)])) rfl rfl (hb hby d3_21) _ ?_
    show Steps p.tables e below (T1.setTop (mkF m 22 #[.val (.ref a), .val (.int (0 : Int32)), .val (.ref r), .val (.int (2 : Int32)), .val (.int (0 : Int32)), .unset, .unset, .unset] [(.ref f1)])) _
    refine XS.astore X1.here hx rfl (hb hby d3_22) rfl rfl (l' := #[.val (.ref a), .val (.int (0 : Int32)), .val (.ref r), .val (.int (2 : Int32)), .val (.int (0 : Int32)), .val (.ref f1), .unset, .unset]) rfl ?_
    show Steps p.tables e below (T1.setTop (mkF m 24 #[.val (.ref a), .val (.int (0 : Int32)), .val (.ref r), .val (.int (2 : Int32)), .val (.int (0 : Int32)), .val (.ref f1), .unset, .unset] [])) _
    refine XS.iconst X1.here hx rfl (hb hby d3_24) ?_
    show Steps p.tables e below (T1.setTop (mkF m 25 #[.val (.ref a), .val (.int (0 : Int32)), .val (.ref r), .val (.int (2 : Int32)), .val (.int (0 : Int32)), .val (.ref f1), .unset, .unset] [(.int (1 : Int32))])) _
    refine XS.istore X1.here hx rfl (hb hby d3_25) rfl (l' := #[.val (.ref a), .val (.int (0 : Int32)), .val (.ref r), .val (.int (2 : Int32)), .val (.int (0 : Int32)), .val (.ref f1), .val (.int (1 : Int32)), .unset]) rfl ?_
    show Steps p.tables e below (T1.setTop (mkF m 27 #[.val (.ref a), .val (.int (0 : Int32)), .val (.ref r), .val (.int (2 : Int32)), .val (.int (0 : Int32)), .val (.ref f1), .val (.int (1 : Int32)), .unset] [])) _
    refine XS.iconst X1.here hx rfl (hb hby d3_27) ?_
    show Steps p.tables e below (T1.setTop (mkF m 28 #[.val (.ref a), .val (.int (0 : Int32)), .val (.ref r), .val (.int (2 : Int32)), .val (.int (0 : Int32)), .val (.ref f1), .val (.int (1 : Int32)), .unset] [(.int (0 : Int32))])) _
    refine XS.istore X1.here hx rfl (hb hby d3_28) rfl (l' := #[.val (.ref a), .val (.int (0 : Int32)), .val (.ref r), .val (.int (2 : Int32)), .val (.int (0 : Int32)), .val (.ref f1), .val (.int (1 : Int32)), .val (.int (0 : Int32))]) rfl ?_
    show Steps p.tables e below (T1.setTop (mkF m 30 #[.val (.ref a), .val (.int (0 : Int32)), .val (.ref r), .val (.int (2 : Int32)), .val (.int (0 : Int32)), .val (.ref f1), .val (.int (1 : Int32)), .val (.int (0 : Int32))] [])) _
    refine st2 _ ?_
    show Steps p.tables e below (T2.setTop (mkF m 77 #[.val (.ref a), .val (.int (0 : Int32)), .val (.ref r), .val (.int (2 : Int32)), .val (.int (0 : Int32)), .val (.ref f1), .val (.int (own_m x own_y1 nn.toNatClampNeg 0)), .val (.int i2)] [])) _
    refine XS.iloadN X2.here hx rfl (hb hby d3_77) rfl ?_
    show Steps p.tables e below (T2.setTop (mkF m 78 #[.val (.ref a), .val (.int (0 : Int32)), .val (.ref r), .val (.int (2 : Int32)), .val (.int (0 : Int32)), .val (.ref f1), .val (.int (own_m x own_y1 nn.toNatClampNeg 0)), .val (.int i2)] [(.int (0 : Int32))])) _
    refine XS.iload X2.here hx rfl (hb hby d3_78) rfl ?_
    show Steps p.tables e below (T2.setTop (mkF m 80 #[.val (.ref a), .val (.int (0 : Int32)), .val (.ref r), .val (.int (2 : Int32)), .val (.int (0 : Int32)), .val (.ref f1), .val (.int (own_m x own_y1 nn.toNatClampNeg 0)), .val (.int i2)] [(.int (own_m x own_y1 nn.toNatClampNeg 0)), (.int (0 : Int32))])) _
    refine XS.ior X2.here hx rfl (hb hby d3_80) rfl ?_
    show Steps p.tables e below (T2.setTop (mkF m 81 #[.val (.ref a), .val (.int (0 : Int32)), .val (.ref r), .val (.int (2 : Int32)), .val (.int (0 : Int32)), .val (.ref f1), .val (.int (own_m x own_y1 nn.toNatClampNeg 0)), .val (.int i2)] [(.int ((0 : Int32) ||| (own_m x own_y1 nn.toNatClampNeg 0)))])) _
    refine XS.istoreN X2.here hx rfl (hb hby d3_81) rfl (l' := #[.val (.ref a), .val (.int ((0 : Int32) ||| (own_m x own_y1 nn.toNatClampNeg 0))), .val (.ref r), .val (.int (2 : Int32)), .val (.int (0 : Int32)), .val (.ref f1), .val (.int (own_m x own_y1 nn.toNatClampNeg 0)), .val (.int i2)]) rfl ?_
    show Steps p.tables e below (T2.setTop (mkF m 82 #[.val (.ref a), .val (.int ((0 : Int32) ||| (own_m x own_y1 nn.toNatClampNeg 0))), .val (.ref r), .val (.int (2 : Int32)), .val (.int (0 : Int32)), .val (.ref f1), .val (.int (own_m x own_y1 nn.toNatClampNeg 0)), .val (.int i2)] [])) _
    refine XS.iinc X2.here hx rfl (hb hby d3_82) rfl (l' := #[.val (.ref a), .val (.int ((0 : Int32) ||| (own_m x own_y1 nn.toNatClampNeg 0))), .val (.ref r), .val (.int (2 : Int32)), .val (.int ((0 : Int32) + (1 : Int32))), .val (.ref f1), .val (.int (own_m x own_y1 nn.toNatClampNeg 0)), .val (.int i2)]) rfl ?_
    show Steps p.tables e below (T2.setTop (mkF m 85 #[.val (.ref a), .val (.int ((0 : Int32) ||| (own_m x own_y1 nn.toNatClampNeg 0))), .val (.ref r), .val (.int (2 : Int32)), .val (.int ((0 : Int32) + (1 : Int32))), .val (.ref f1), .val (.int (own_m x own_y1 nn.toNatClampNeg 0)), .val (.int i2)] [])) _
    refine XS.goto X2.here hx rfl (pc0 := 85) (pc' := 12) rfl (hb hby d3_85) (by decide) (by decide) ?_
    show Steps p.tables e below (T2.setTop (mkF m 12 #[.val (.ref a), .val (.int ((0 : Int32) ||| (own_m x own_y1 nn.toNatClampNeg 0))), .val (.ref r), .val (.int (2 : Int32)), .val (.int ((0 : Int32) + (1 : Int32))), .val (.ref f1), .val (.int (own_m x own_y1 nn.toNatClampNeg 0)), .val (.int i2)] [])) _
    refine XS.iload X2.here hx rfl (hb hby d3_12) rfl ?_
    show Steps p.tables e below (T2.setTop (mkF m 14 #[.val (.ref a), .val (.int ((0 : Int32) ||| (own_m x own_y1 nn.toNatClampNeg 0))), .val (.ref r), .val (.int (2 : Int32)), .val (.int ((0 : Int32) + (1 : Int32))), .val (.ref f1), .val (.int (own_m x own_y1 nn.toNatClampNeg 0)), .val (.int i2)] [(.int ((0 : Int32) + (1 : Int32)))])) _
    refine XS.iloadN X2.here hx rfl (hb hby d3_14) rfl ?_
    show Steps p.tables e below (T2.setTop (mkF m 15 #[.val (.ref a), .val (.int ((0 : Int32) ||| (own_m x own_y1 nn.toNatClampNeg 0))), .val (.ref r), .val (.int (2 : Int32)), .val (.int ((0 : Int32) + (1 : Int32))), .val (.ref f1), .val (.int (own_m x own_y1 nn.toNatClampNeg 0)), .val (.int i2)] [(.int (2 : Int32)), (.int ((0 : Int32) + (1 : Int32)))])) _
    refine XS.icmpNo X2.here hx rfl (hb hby d3_15) rfl (tlt (by decide : ((0 : Int32) + (1 : Int32) : Int32) < 2)).2.1 ?_
    show Steps p.tables e below (T2.setTop (mkF m 18 #[.val (.ref a), .val (.int ((0 : Int32) ||| (own_m x own_y1 nn.toNatClampNeg 0))), .val (.ref r), .val (.int (2 : Int32)), .val (.int ((0 : Int32) + (1 : Int32))), .val (.ref f1), .val (.int (own_m x own_y1 nn.toNatClampNeg 0)), .val (.int i2)] [])) _
    refine XS.aloadN X2.here hx rfl (hb hby d3_18) rfl rfl ?_
    show Steps p.tables e below (T2.setTop (mkF m 19 #[.val (.ref a), .val (.int ((0 : Int32) ||| (own_m x own_y1 nn.toNatClampNeg 0))), .val (.ref r), .val (.int (2 : Int32)), .val (.int ((0 : Int32) + (1 : Int32))), .val (.ref f1), .val (.int (own_m x own_y1 nn.toNatClampNeg 0)), .val (.int i2)] [(.ref r)])) _
    refine XS.iload X2.here hx rfl (hb hby d3_19) rfl ?_
    show Steps p.tables e below (T2.setTop (mkF m 21 #[.val (.ref a), .val (.int ((0 : Int32) ||| (own_m x own_y1 nn.toNatClampNeg 0))), .val (.ref r), .val (.int (2 : Int32)), .val (.int ((0 : Int32) + (1 : Int32))), .val (.ref f1), .val (.int (own_m x own_y1 nn.toNatClampNeg 0)), .val (.int i2)] [(.int ((0 : Int32) + (1 : Int32))), (.ref r)])) _
    refine X2.aaload hx (j := ((0 : Int32) + (1 : Int32))) (v := (.ref f2)) (by rw [(show T2.heap = T1.heap from e2)]; exact Av.1) (State.isArrayOf_alike hZ.alike Av.2.1) rfl Av.2.2 (by rw [Sv]; decide) (Hv 1 (by rw [Sv]; decide)) (g := (mkF m 21 #[.val (.ref a), .val (.int ((0 : Int32) ||| (own_m x own_y1 nn.toNatClampNeg 0))), .val (.ref r), .val (.int (2 : Int32)), .val (.int ((0 : Int32) + (1 : Int32))), .val (.ref f1), .val (.int (own_m x own_y1 nn.toNatClampNeg 0)), .val (.int i2)] [(.int ((0 : Int32) + (1 : Int32))), (.ref r)])) rfl rfl (hb hby d3_21) _ ?_
    show Steps p.tables e below (T2.setTop (mkF m 22 #[.val (.ref a), .val (.int ((0 : Int32) ||| (own_m x own_y1 nn.toNatClampNeg 0))), .val (.ref r), .val (.int (2 : Int32)), .val (.int ((0 : Int32) + (1 : Int32))), .val (.ref f1), .val (.int (own_m x own_y1 nn.toNatClampNeg 0)), .val (.int i2)] [(.ref f2)])) _
    refine XS.astore X2.here hx rfl (hb hby d3_22) rfl rfl (l' := #[.val (.ref a), .val (.int ((0 : Int32) ||| (own_m x own_y1 nn.toNatClampNeg 0))), .val (.ref r), .val (.int (2 : Int32)), .val (.int ((0 : Int32) + (1 : Int32))), .val (.ref f2), .val (.int (own_m x own_y1 nn.toNatClampNeg 0)), .val (.int i2)]) rfl ?_
    show Steps p.tables e below (T2.setTop (mkF m 24 #[.val (.ref a), .val (.int ((0 : Int32) ||| (own_m x own_y1 nn.toNatClampNeg 0))), .val (.ref r), .val (.int (2 : Int32)), .val (.int ((0 : Int32) + (1 : Int32))), .val (.ref f2), .val (.int (own_m x own_y1 nn.toNatClampNeg 0)), .val (.int i2)] [])) _
    refine XS.iconst X2.here hx rfl (hb hby d3_24) ?_
    show Steps p.tables e below (T2.setTop (mkF m 25 #[.val (.ref a), .val (.int ((0 : Int32) ||| (own_m x own_y1 nn.toNatClampNeg 0))), .val (.ref r), .val (.int (2 : Int32)), .val (.int ((0 : Int32) + (1 : Int32))), .val (.ref f2), .val (.int (own_m x own_y1 nn.toNatClampNeg 0)), .val (.int i2)] [(.int (1 : Int32))])) _
    refine XS.istore X2.here hx rfl (hb hby d3_25) rfl (l' := #[.val (.ref a), .val (.int ((0 : Int32) ||| (own_m x own_y1 nn.toNatClampNeg 0))), .val (.ref r), .val (.int (2 : Int32)), .val (.int ((0 : Int32) + (1 : Int32))), .val (.ref f2), .val (.int (1 : Int32)), .val (.int i2)]) rfl ?_
    show Steps p.tables e below (T2.setTop (mkF m 27 #[.val (.ref a), .val (.int ((0 : Int32) ||| (own_m x own_y1 nn.toNatClampNeg 0))), .val (.ref r), .val (.int (2 : Int32)), .val (.int ((0 : Int32) + (1 : Int32))), .val (.ref f2), .val (.int (1 : Int32)), .val (.int i2)] [])) _
    refine XS.iconst X2.here hx rfl (hb hby d3_27) ?_
    show Steps p.tables e below (T2.setTop (mkF m 28 #[.val (.ref a), .val (.int ((0 : Int32) ||| (own_m x own_y1 nn.toNatClampNeg 0))), .val (.ref r), .val (.int (2 : Int32)), .val (.int ((0 : Int32) + (1 : Int32))), .val (.ref f2), .val (.int (1 : Int32)), .val (.int i2)] [(.int (0 : Int32))])) _
    refine XS.istore X2.here hx rfl (hb hby d3_28) rfl (l' := #[.val (.ref a), .val (.int ((0 : Int32) ||| (own_m x own_y1 nn.toNatClampNeg 0))), .val (.ref r), .val (.int (2 : Int32)), .val (.int ((0 : Int32) + (1 : Int32))), .val (.ref f2), .val (.int (1 : Int32)), .val (.int (0 : Int32))]) rfl ?_
    show Steps p.tables e below (T2.setTop (mkF m 30 #[.val (.ref a), .val (.int ((0 : Int32) ||| (own_m x own_y1 nn.toNatClampNeg 0))), .val (.ref r), .val (.int (2 : Int32)), .val (.int ((0 : Int32) + (1 : Int32))), .val (.ref f2), .val (.int (1 : Int32)), .val (.int (0 : Int32))] [])) _
    refine st3 _ ?_
    show Steps p.tables e below (T3.setTop (mkF m 77 #[.val (.ref a), .val (.int ((0 : Int32) ||| (own_m x own_y1 nn.toNatClampNeg 0))), .val (.ref r), .val (.int (2 : Int32)), .val (.int ((0 : Int32) + (1 : Int32))), .val (.ref f2), .val (.int (own_m x own_y2 nn.toNatClampNeg 0)), .val (.int i3)] [])) _
    refine XS.iloadN X3.here hx rfl (hb hby d3_77) rfl ?_
    show Steps p.tables e below (T3.setTop (mkF m 78 #[.val (.ref a), .val (.int ((0 : Int32) ||| (own_m x own_y1 nn.toNatClampNeg 0))), .val (.ref r), .val (.int (2 : Int32)), .val (.int ((0 : Int32) + (1 : Int32))), .val (.ref f2), .val (.int (own_m x own_y2 nn.toNatClampNeg 0)), .val (.int i3)] [(.int ((0 : Int32) ||| (own_m x own_y1 nn.toNatClampNeg 0)))])) _
    refine XS.iload X3.here hx rfl (hb hby d3_78) rfl ?_
    show Steps p.tables e below (T3.setTop (mkF m 80 #[.val (.ref a), .val (.int ((0 : Int32) ||| (own_m x own_y1 nn.toNatClampNeg 0))), .val (.ref r), .val (.int (2 : Int32)), .val (.int ((0 : Int32) + (1 : Int32))), .val (.ref f2), .val (.int (own_m x own_y2 nn.toNatClampNeg 0)), .val (.int i3)] [(.int (own_m x own_y2 nn.toNatClampNeg 0)), (.int ((0 : Int32) ||| (own_m x own_y1 nn.toNatClampNeg 0)))])) _
    refine XS.ior X3.here hx rfl (hb hby d3_80) rfl ?_
    show Steps p.tables e below (T3.setTop (mkF m 81 #[.val (.ref a), .val (.int ((0 : Int32) ||| (own_m x own_y1 nn.toNatClampNeg 0))), .val (.ref r), .val (.int (2 : Int32)), .val (.int ((0 : Int32) + (1 : Int32))), .val (.ref f2), .val (.int (own_m x own_y2 nn.toNatClampNeg 0)), .val (.int i3)] [(.int (((0 : Int32) ||| (own_m x own_y1 nn.toNatClampNeg 0)) ||| (own_m x own_y2 nn.toNatClampNeg 0)))])) _
    refine XS.istoreN X3.here hx rfl (hb hby d3_81) rfl (l' := #[.val (.ref a), .val (.int (((0 : Int32) ||| (own_m x own_y1 nn.toNatClampNeg 0)) ||| (own_m x own_y2 nn.toNatClampNeg 0))), .val (.ref r), .val (.int (2 : Int32)), .val (.int ((0 : Int32) + (1 : Int32))), .val (.ref f2), .val (.int (own_m x own_y2 nn.toNatClampNeg 0)), .val (.int i3)]) rfl ?_
    show Steps p.tables e below (T3.setTop (mkF m 82 #[.val (.ref a), .val (.int (((0 : Int32) ||| (own_m x own_y1 nn.toNatClampNeg 0)) ||| (own_m x own_y2 nn.toNatClampNeg 0))), .val (.ref r), .val (.int (2 : Int32)), .val (.int ((0 : Int32) + (1 : Int32))), .val (.ref f2), .val (.int (own_m x own_y2 nn.toNatClampNeg 0)), .val (.int i3)] [])) _
    refine XS.iinc X3.here hx rfl (hb hby d3_82) rfl (l' := #[.val (.ref a), .val (.int (((0 : Int32) ||| (own_m x own_y1 nn.toNatClampNeg 0)) ||| (own_m x own_y2 nn.toNatClampNeg 0))), .val (.ref r), .val (.int (2 : Int32)), .val (.int (((0 : Int32) + (1 : Int32)) + (1 : Int32))), .val (.ref f2), .val (.int (own_m x own_y2 nn.toNatClampNeg 0)), .val (.int i3)]) rfl ?_
    show Steps p.tables e below (T3.setTop (mkF m 85 #[.val (.ref a), .val (.int (((0 : Int32) ||| (own_m x own_y1 nn.toNatClampNeg 0)) ||| (own_m x own_y2 nn.toNatClampNeg 0))), .val (.ref r), .val (.int (2 : Int32)), .val (.int (((0 : Int32) + (1 : Int32)) + (1 : Int32))), .val (.ref f2), .val (.int (own_m x own_y2 nn.toNatClampNeg 0)), .val (.int i3)] [])) _
    refine XS.goto X3.here hx rfl (pc0 := 85) (pc' := 12) rfl (hb hby d3_85) (by decide) (by decide) ?_
    show Steps p.tables e below (T3.setTop (mkF m 12 #[.val (.ref a), .val (.int (((0 : Int32) ||| (own_m x own_y1 nn.toNatClampNeg 0)) ||| (own_m x own_y2 nn.toNatClampNeg 0))), .val (.ref r), .val (.int (2 : Int32)), .val (.int (((0 : Int32) + (1 : Int32)) + (1 : Int32))), .val (.ref f2), .val (.int (own_m x own_y2 nn.toNatClampNeg 0)), .val (.int i3)] [])) _
    refine XS.iload X3.here hx rfl (hb hby d3_12) rfl ?_
    show Steps p.tables e below (T3.setTop (mkF m 14 #[.val (.ref a), .val (.int (((0 : Int32) ||| (own_m x own_y1 nn.toNatClampNeg 0)) ||| (own_m x own_y2 nn.toNatClampNeg 0))), .val (.ref r), .val (.int (2 : Int32)), .val (.int (((0 : Int32) + (1 : Int32)) + (1 : Int32))), .val (.ref f2), .val (.int (own_m x own_y2 nn.toNatClampNeg 0)), .val (.int i3)] [(.int (((0 : Int32) + (1 : Int32)) + (1 : Int32)))])) _
    refine XS.iloadN X3.here hx rfl (hb hby d3_14) rfl ?_
    show Steps p.tables e below (T3.setTop (mkF m 15 #[.val (.ref a), .val (.int (((0 : Int32) ||| (own_m x own_y1 nn.toNatClampNeg 0)) ||| (own_m x own_y2 nn.toNatClampNeg 0))), .val (.ref r), .val (.int (2 : Int32)), .val (.int (((0 : Int32) + (1 : Int32)) + (1 : Int32))), .val (.ref f2), .val (.int (own_m x own_y2 nn.toNatClampNeg 0)), .val (.int i3)] [(.int (2 : Int32)), (.int (((0 : Int32) + (1 : Int32)) + (1 : Int32)))])) _
    refine XS.icmpYes X3.here hx rfl (pc0 := 15) (pc' := 88) rfl (hb hby d3_15) rfl (flt (by decide : ¬ ((0 : Int32) + (1 : Int32)) + (1 : Int32) < 2)).2.1 (by decide) (by decide) ?_
    show Steps p.tables e below (T3.setTop (mkF m 88 #[.val (.ref a), .val (.int (((0 : Int32) ||| (own_m x own_y1 nn.toNatClampNeg 0)) ||| (own_m x own_y2 nn.toNatClampNeg 0))), .val (.ref r), .val (.int (2 : Int32)), .val (.int (((0 : Int32) + (1 : Int32)) + (1 : Int32))), .val (.ref f2), .val (.int (own_m x own_y2 nn.toNatClampNeg 0)), .val (.int i3)] [])) _
    refine XS.iloadN X3.here hx rfl (hb hby d3_88) rfl ?_
    show Steps p.tables e below (T3.setTop (mkF m 89 #[.val (.ref a), .val (.int (((0 : Int32) ||| (own_m x own_y1 nn.toNatClampNeg 0)) ||| (own_m x own_y2 nn.toNatClampNeg 0))), .val (.ref r), .val (.int (2 : Int32)), .val (.int (((0 : Int32) + (1 : Int32)) + (1 : Int32))), .val (.ref f2), .val (.int (own_m x own_y2 nn.toNatClampNeg 0)), .val (.int i3)] [(.int (((0 : Int32) ||| (own_m x own_y1 nn.toNatClampNeg 0)) ||| (own_m x own_y2 nn.toNatClampNeg 0)))])) _
    exact retN X3 hx (t := .boolean) Bd.returns (by simp) (hb hby d3_89) hr
def own_one (k : Int32) (jq : Nat) (nn b w d : Int32) : Int32 := if own_ok k 24 nn (Int32.ofNat jq) b w d = 0 then 0 else if own_ok k jq nn (Int32.ofNat jq) b w d = 0 then 0 else 1
def own_exp (jq : Nat) (nn b w d : Int32) : Int32 := if own_one 1 jq nn b w d = 0 then (if own_one 2 jq nn b w d = 0 then 0 else 1) else 1
theorem own_m_eq (x y : Nat → Int32) : ∀ k i, (own_m x y k i = 1 ∧ ∀ t, i ≤ t → t < i + k → x t = 0 ∨ x t = y t) ∨ (own_m x y k i = 0 ∧ ∃ t, i ≤ t ∧ t < i + k ∧ ¬ (x t = 0 ∨ x t = y t)) := by
  intro k
  induction k with
  | zero => intro i; exact Or.inl ⟨rfl, fun t h1 h2 => by omega⟩
  | succ k ih =>
    intro i
    by_cases c : x i = 0 ∨ x i = y i
    · have e : own_m x y (k + 1) i = own_m x y k (i + 1) := by
        rcases c with c | c
        · exact if_pos c
        · by_cases c0 : x i = 0
          · exact if_pos c0
          · exact (if_neg c0).trans (if_pos c)
      rw [e]
      rcases ih (i + 1) with ⟨h1, h2⟩ | ⟨h1, t, h2, h3, h4⟩
      · exact Or.inl ⟨h1, fun t h3 h4 => by
          by_cases q : t = i
          · subst q; exact c
          · exact h2 t (by omega) (by omega)⟩
      · exact Or.inr ⟨h1, t, by omega, by omega, h4⟩
    · exact Or.inr ⟨(if_neg fun z => c (Or.inl z)).trans (if_neg fun z => c (Or.inr z)), i, Nat.le_refl _, by omega, c⟩
theorem own_hb : ∀ k : Fin 2, ∀ j, j < 26 → (own_H (Int32.ofNat (k.1 + 1)) j).toInt8.toInt32 = (if k.1 = 0 then own_y1 j else own_y2 j) := by decide +kernel
theorem own_y12 : ∀ j, j < 26 → ¬ j = 24 → own_cs1.getD j 0 = own_y1 j ∧ own_cs1.getD j 0 = own_y2 j := by decide +kernel
theorem own_of_inj : ∀ i, i < 26 → ∀ j, j < 26 → Int32.ofNat i = Int32.ofNat j → i = j := by decide +kernel
/-- away from the two places nothing is changed -/
theorem own_away (jq : Nat) (hq : jq < 26) (b w d : Int32) (i : Nat) (hi : i < 26) (h1 : ¬ i = 24) (h2 : ¬ i = jq) : own_at i (Int32.ofNat jq) b w d = 0 ∨ own_at i (Int32.ofNat jq) b w d = own_cs1.getD i 0 := by
  unfold own_at
  by_cases c : Int32.ofNat i = w
  · exact Or.inl (if_pos c)
  · refine Or.inr ?_
    rw [if_neg c, if_neg (fun z => h2 (own_of_inj i hi jq hq z)), if_neg (fun z : Int32.ofNat i = 24 => h1 (own_of_inj i hi 24 (by decide) z))]
theorem own_ok01 (k : Int32) (j : Nat) (nn q b w d : Int32) : (own_ok k j nn q b w d = 1 ∧ (Int32.ofNat j < nn → own_at j q b w d = 0 ∨ own_at j q b w d = (own_H k j).toInt8.toInt32)) ∨ (own_ok k j nn q b w d = 0 ∧ Int32.ofNat j < nn ∧ ¬ (own_at j q b w d = 0 ∨ own_at j q b w d = (own_H k j).toInt8.toInt32)) := by
  unfold own_ok
  by_cases c : Int32.ofNat j < nn
  · rw [if_pos c]
    by_cases c1 : own_at j q b w d = 0
    · rw [if_pos c1]; exact Or.inl ⟨rfl, fun _ => Or.inl c1⟩
    · rw [if_neg c1]
      by_cases c2 : own_at j q b w d = (own_H k j).toInt8.toInt32
      · rw [if_pos c2]; exact Or.inl ⟨rfl, fun _ => Or.inr c2⟩
      · rw [if_neg c2]; exact Or.inr ⟨rfl, c, fun z => z.elim c1 c2⟩
  · rw [if_neg c]; exact Or.inl ⟨rfl, fun z => absurd z c⟩
theorem own_half (k : Int32) (y : Nat → Int32) (hk : ∀ j, j < 26 → (own_H k j).toInt8.toInt32 = y j) (hy : ∀ j, j < 26 → ¬ j = 24 → own_cs1.getD j 0 = y j) (jq : Nat) (hq : jq < 26) (nn b w d : Int32) (Nl : ¬ nn < 0) (n26 : nn.toNatClampNeg ≤ 26) :
    own_m (fun i => own_at i (Int32.ofNat jq) b w d) y nn.toNatClampNeg 0 = own_one k jq nn b w d := by
  have lt : ∀ i, i < 26 → (Int32.ofNat i < nn ↔ i < nn.toNatClampNeg) := fun i hi => by
    have := own_lt32 i nn Nl n26
    constructor
    · intro z; exact (this.mp (Or.inl z)).resolve_right (by omega)
    · intro z; exact (this.mpr (Or.inl z)).resolve_right (by omega)
  have g24 := own_ok01 k 24 nn (Int32.ofNat jq) b w d
  have gq := own_ok01 k jq nn (Int32.ofNat jq) b w d
  rw [hk 24 (by decide)] at g24
  rw [hk jq hq] at gq
  unfold own_one
  rcases own_m_eq (fun i => own_at i (Int32.ofNat jq) b w d) y nn.toNatClampNeg 0 with ⟨e, h⟩ | ⟨e, t, h1, h2, h3⟩
  · rw [e]
    rcases g24 with ⟨e1, -⟩ | ⟨e1, c, n1⟩
    · rw [if_neg (by rw [e1]; decide)]
      rcases gq with ⟨e2, -⟩ | ⟨e2, c, n1⟩
      · rw [if_neg (by rw [e2]; decide)]
      · exact absurd (h jq (Nat.zero_le _) (by rw [Nat.zero_add]; exact (lt jq hq).mp c)) n1
    · exact absurd (h 24 (Nat.zero_le _) (by rw [Nat.zero_add]; exact (lt 24 (by decide)).mp c)) n1
  · rw [e]
    rw [Nat.zero_add] at h2
    have t26 : t < 26 := by omega
    rcases g24 with ⟨e1, g1⟩ | ⟨e1, c, n1⟩
    · rw [if_neg (by rw [e1]; decide)]
      rcases gq with ⟨e2, g2⟩ | ⟨e2, c, n1⟩
      · exfalso
        by_cases c1 : t = 24
        · subst c1; exact h3 (g1 ((lt 24 (by decide)).mpr h2))
        · by_cases c2 : t = jq
          · subst c2; exact h3 (g2 ((lt t t26).mpr h2))
          · rcases own_away jq hq b w d t t26 c1 c2 with z | z
            · exact h3 (Or.inl z)
            · exact h3 (Or.inr (z.trans (hy t t26 c1)))
      · rw [if_pos e2]
    · rw [if_pos e1]
theorem own_law (jq : Nat) (hq : jq < 26) (nn b w d : Int32) (Nl : ¬ nn < 0) (n26 : nn.toNatClampNeg ≤ 26) :
    nar .boolean (((0 : Int32) ||| own_m (fun i => own_at i (Int32.ofNat jq) b w d) own_y1 nn.toNatClampNeg 0) ||| own_m (fun i => own_at i (Int32.ofNat jq) b w d) own_y2 nn.toNatClampNeg 0) = own_exp jq nn b w d := by
  rw [own_half 1 own_y1 (fun j hj => own_hb 0 j hj) (fun j hj h => (own_y12 j hj h).1) jq hq nn b w d Nl n26, own_half 2 own_y2 (fun j hj => own_hb 1 j hj) (fun j hj h => (own_y12 j hj h).2) jq hq nn b w d Nl n26]
  unfold own_exp
  have o : ∀ k : Int32, own_one k jq nn b w d = 0 ∨ own_one k jq nn b w d = 1 := fun k => by
    unfold own_one; split
    · exact Or.inl rfl
    · split
      · exact Or.inl rfl
      · exact Or.inr rfl
  rcases o 1 with e1 | e1 <;> rcases o 2 with e2 | e2 <;> rw [e1, e2] <;> decide
theorem os0_7_0_x {z0 : Value} {z1 : Value} {z2 : Value} {z3 : Value} {z4 : Value} {s5 : Slot} {s6 : Slot} {s7 : Slot} {s8 : Slot} {s9 : Slot} {s10 : Slot} {s11 : Slot} {s12 : Slot} {s13 : Slot} {s14 : Slot} {v : Int32} (h : One s5) : storeLocals #[.val z0, .val z1, .val z2, .val z3, .val z4, s5, s6, s7, s8, s9, s10, s11, s12, s13, s14] 5 (.int v) = some #[.val z0, .val z1, .val z2, .val z3, .val z4, .val (.int v), s6, s7, s8, s9, s10, s11, s12, s13, s14] := by
  rcases h with rfl | ⟨w, rfl, hw⟩
  · rfl
  · cases w <;> first | rfl | (simp [Value.category] at hw)
theorem os0_16_0_x {z0 : Value} {z1 : Value} {z2 : Value} {z3 : Value} {z4 : Value} {z5 : Value} {s6 : Slot} {s7 : Slot} {s8 : Slot} {s9 : Slot} {s10 : Slot} {s11 : Slot} {s12 : Slot} {s13 : Slot} {s14 : Slot} {v : Int32} (h : One s6) : storeLocals #[.val z0, .val z1, .val z2, .val z3, .val z4, .val z5, s6, s7, s8, s9, s10, s11, s12, s13, s14] 6 (.int v) = some #[.val z0, .val z1, .val z2, .val z3, .val z4, .val z5, .val (.int v), s7, s8, s9, s10, s11, s12, s13, s14] := by
  rcases h with rfl | ⟨w, rfl, hw⟩
  · rfl
  · cases w <;> first | rfl | (simp [Value.category] at hw)
theorem os0_20_0_x {z0 : Value} {z1 : Value} {z2 : Value} {z3 : Value} {z4 : Value} {z5 : Value} {z6 : Value} {s7 : Slot} {s8 : Slot} {s9 : Slot} {s10 : Slot} {s11 : Slot} {s12 : Slot} {s13 : Slot} {s14 : Slot} {v : Int32} (h : One s7) : storeLocals #[.val z0, .val z1, .val z2, .val z3, .val z4, .val z5, .val z6, s7, s8, s9, s10, s11, s12, s13, s14] 7 (.int v) = some #[.val z0, .val z1, .val z2, .val z3, .val z4, .val z5, .val z6, .val (.int v), s8, s9, s10, s11, s12, s13, s14] := by
  rcases h with rfl | ⟨w, rfl, hw⟩
  · rfl
  · cases w <;> first | rfl | (simp [Value.category] at hw)
theorem os0_29_0_x {z0 : Value} {z1 : Value} {z2 : Value} {z3 : Value} {z4 : Value} {z5 : Value} {z6 : Value} {z7 : Value} {s8 : Slot} {s9 : Slot} {s10 : Slot} {s11 : Slot} {s12 : Slot} {s13 : Slot} {s14 : Slot} {v : Int32} (h : One s8) : storeLocals #[.val z0, .val z1, .val z2, .val z3, .val z4, .val z5, .val z6, .val z7, s8, s9, s10, s11, s12, s13, s14] 8 (.int v) = some #[.val z0, .val z1, .val z2, .val z3, .val z4, .val z5, .val z6, .val z7, .val (.int v), s9, s10, s11, s12, s13, s14] := by
  rcases h with rfl | ⟨w, rfl, hw⟩
  · rfl
  · cases w <;> first | rfl | (simp [Value.category] at hw)
theorem os0_35_0_x {z0 : Value} {z1 : Value} {z2 : Value} {z3 : Value} {z4 : Value} {z5 : Value} {z6 : Value} {z7 : Value} {z8 : Value} {s9 : Slot} {s10 : Slot} {s11 : Slot} {s12 : Slot} {s13 : Slot} {s14 : Slot} {v : Int32} (h : One s9) : storeLocals #[.val z0, .val z1, .val z2, .val z3, .val z4, .val z5, .val z6, .val z7, .val z8, s9, s10, s11, s12, s13, s14] 9 (.int v) = some #[.val z0, .val z1, .val z2, .val z3, .val z4, .val z5, .val z6, .val z7, .val z8, .val (.int v), s10, s11, s12, s13, s14] := by
  rcases h with rfl | ⟨w, rfl, hw⟩
  · rfl
  · cases w <;> first | rfl | (simp [Value.category] at hw)
set_option maxRecDepth 65536 in
set_option maxHeartbeats 40000000 in
theorem tn0_0_37_x {p : Program} {l : Launch} {e : Env} {R : Room} {s : State} {m : MethodId} {args : Array Value} {below : List Frame} {meth : Method} {c : Code} {T0 : State} {locs : List Loc} {cells slots : Nat} {Z : State} {a0 : Array Value} {h0 : Heap} (i0 : Int32) (i1 : Int32) (i2 : Int32) (i3 : Int32) (i4 : Int32) (s5 : Slot) (s6 : Slot) (s7 : Slot) (s8 : Slot) (s9 : Slot) (s10 : Slot) (s11 : Slot) (s12 : Slot) (s13 : Slot) (s14 : Slot)
    (X0 : Stand p l e R s m args below meth c T0 locs cells slots) (hx : p.tables.exec = Jvm.exec) (hZ : Z.Warmed39 s.vm) (hw : ∀ d ∈ tables_1, d.before a0 Z = true) (hby : c.code = code) (hml : c.maxLocals = 15) (hown : s.vm.findClass "com/example/vigilant_ledger/vigilantledger/journal/JournalFormatIsTornHeaderPinLaw" = some m.cls) (e0 : T0.heap = h0) (hs5 : One s5) (hs6 : One s6) (hs7 : One s7) (hs8 : One s8) (hs9 : One s9) :
    ∃ (T' : State), Stand p l e R s m args below meth c T' locs cells slots ∧ T'.heap = h0 ∧
      ∀ target, Steps p.tables e below (T'.setTop (mkF m 37 #[.val (.int i0), .val (.int i1), .val (.int i2), .val (.int i3), .val (.int i4), .val (.int ((i0 &&& (2147483647 : Int32)) - ((i0 &&& (2147483647 : Int32)) / (27 : Int32)) * (27 : Int32))), .val (.int ((i1 &&& (2147483647 : Int32)) - ((i1 &&& (2147483647 : Int32)) / (26 : Int32)) * (26 : Int32))), .val (.int (i2.toInt8.toInt32)), .val (.int ((i3 &&& (2147483647 : Int32)) - ((i3 &&& (2147483647 : Int32)) / (27 : Int32)) * (27 : Int32))), .val (.int (i4 &&& (3 : Int32))), s10, s11, s12, s13, s14] [])) target → Steps p.tables e below (T0.setTop (mkF m 0 #[.val (.int i0), .val (.int i1), .val (.int i2), .val (.int i3), .val (.int i4), s5, s6, s7, s8, s9, s10, s11, s12, s13, s14] [])) target := by

  refine ⟨T0, X0, e0, fun target kt => ?_⟩
  show Steps p.tables e below (T0.setTop (mkF m 0 #[.val (.int i0), .val (.int i1), .val (.int i2), .val (.int i3), .val (.int i4), s5, s6, s7, s8, s9, s10, s11, s12, s13, s14] [])) _
  refine XS.iloadN X0.here hx rfl (hb hby at_0) rfl ?_
  show Steps p.tables e below (T0.setTop (mkF m 1 #[.val (.int i0), .val (.int i1), .val (.int i2), .val (.int i3), .val (.int i4), s5, s6, s7, s8, s9, s10, s11, s12, s13, s14] [(.int i0)])) _
  refine X0.ldcInt hx hown (mvT hZ (hw _ (List.mem_of_getElem? (i := 0) rfl))) (g := (mkF m 1 #[.val (.int i0), .val (.int i1), .val (.int i2), .val (.int i3), .val (.int i4), s5, s6, s7, s8, s9, s10, s11, s12, s13, s14] [(.int i0)])) rfl (hb hby at_1) _ ?_
  show Steps p.tables e below (T0.setTop (mkF m 3 #[.val (.int i0), .val (.int i1), .val (.int i2), .val (.int i3), .val (.int i4), s5, s6, s7, s8, s9, s10, s11, s12, s13, s14] [(.int (2147483647 : Int32)), (.int i0)])) _
  refine XS.iand X0.here hx rfl (hb hby at_3) rfl ?_
  show Steps p.tables e below (T0.setTop (mkF m 4 #[.val (.int i0), .val (.int i1), .val (.int i2), .val (.int i3), .val (.int i4), s5, s6, s7, s8, s9, s10, s11, s12, s13, s14] [(.int (i0 &&& (2147483647 : Int32)))])) _
  refine XS.bipush X0.here hx rfl (hb hby at_4) ?_
  show Steps p.tables e below (T0.setTop (mkF m 6 #[.val (.int i0), .val (.int i1), .val (.int i2), .val (.int i3), .val (.int i4), s5, s6, s7, s8, s9, s10, s11, s12, s13, s14] [(.int (27 : Int32)), (.int (i0 &&& (2147483647 : Int32)))])) _
  refine XS.irem X0.here hx rfl (hb hby at_6) rfl (by decide : ¬ ((27 : Int32) = (0 : Int32))) ?_
  show Steps p.tables e below (T0.setTop (mkF m 7 #[.val (.int i0), .val (.int i1), .val (.int i2), .val (.int i3), .val (.int i4), s5, s6, s7, s8, s9, s10, s11, s12, s13, s14] [(.int ((i0 &&& (2147483647 : Int32)) - ((i0 &&& (2147483647 : Int32)) / (27 : Int32)) * (27 : Int32)))])) _
  refine XS.istore X0.here hx rfl (hb hby at_7) rfl (l' := #[.val (.int i0), .val (.int i1), .val (.int i2), .val (.int i3), .val (.int i4), .val (.int ((i0 &&& (2147483647 : Int32)) - ((i0 &&& (2147483647 : Int32)) / (27 : Int32)) * (27 : Int32))), s6, s7, s8, s9, s10, s11, s12, s13, s14]) (os0_7_0_x hs5) ?_
  show Steps p.tables e below (T0.setTop (mkF m 9 #[.val (.int i0), .val (.int i1), .val (.int i2), .val (.int i3), .val (.int i4), .val (.int ((i0 &&& (2147483647 : Int32)) - ((i0 &&& (2147483647 : Int32)) / (27 : Int32)) * (27 : Int32))), s6, s7, s8, s9, s10, s11, s12, s13, s14] [])) _
  refine XS.iloadN X0.here hx rfl (hb hby at_9) rfl ?_
  show Steps p.tables e below (T0.setTop (mkF m 10 #[.val (.int i0), .val (.int i1), .val (.int i2), .val (.int i3), .val (.int i4), .val (.int ((i0 &&& (2147483647 : Int32)) - ((i0 &&& (2147483647 : Int32)) / (27 : Int32)) * (27 : Int32))), s6, s7, s8, s9, s10, s11, s12, s13, s14] [(.int i1)])) _
  refine X0.ldcInt hx hown (mvT hZ (hw _ (List.mem_of_getElem? (i := 0) rfl))) (g := (mkF m 10 #[.val (.int i0), .val (.int i1), .val (.int i2), .val (.int i3), .val (.int i4), .val (.int ((i0 &&& (2147483647 : Int32)) - ((i0 &&& (2147483647 : Int32)) / (27 : Int32)) * (27 : Int32))), s6, s7, s8, s9, s10, s11, s12, s13, s14] [(.int i1)])) rfl (hb hby at_10) _ ?_
  show Steps p.tables e below (T0.setTop (mkF m 12 #[.val (.int i0), .val (.int i1), .val (.int i2), .val (.int i3), .val (.int i4), .val (.int ((i0 &&& (2147483647 : Int32)) - ((i0 &&& (2147483647 : Int32)) / (27 : Int32)) * (27 : Int32))), s6, s7, s8, s9, s10, s11, s12, s13, s14] [(.int (2147483647 : Int32)), (.int i1)])) _
  refine XS.iand X0.here hx rfl (hb hby at_12) rfl ?_
  show Steps p.tables e below (T0.setTop (mkF m 13 #[.val (.int i0), .val (.int i1), .val (.int i2), .val (.int i3), .val (.int i4), .val (.int ((i0 &&& (2147483647 : Int32)) - ((i0 &&& (2147483647 : Int32)) / (27 : Int32)) * (27 : Int32))), s6, s7, s8, s9, s10, s11, s12, s13, s14] [(.int (i1 &&& (2147483647 : Int32)))])) _
  refine XS.bipush X0.here hx rfl (hb hby at_13) ?_
  show Steps p.tables e below (T0.setTop (mkF m 15 #[.val (.int i0), .val (.int i1), .val (.int i2), .val (.int i3), .val (.int i4), .val (.int ((i0 &&& (2147483647 : Int32)) - ((i0 &&& (2147483647 : Int32)) / (27 : Int32)) * (27 : Int32))), s6, s7, s8, s9, s10, s11, s12, s13, s14] [(.int (26 : Int32)), (.int (i1 &&& (2147483647 : Int32)))])) _
  refine XS.irem X0.here hx rfl (hb hby at_15) rfl (by decide : ¬ ((26 : Int32) = (0 : Int32))) ?_
  show Steps p.tables e below (T0.setTop (mkF m 16 #[.val (.int i0), .val (.int i1), .val (.int i2), .val (.int i3), .val (.int i4), .val (.int ((i0 &&& (2147483647 : Int32)) - ((i0 &&& (2147483647 : Int32)) / (27 : Int32)) * (27 : Int32))), s6, s7, s8, s9, s10, s11, s12, s13, s14] [(.int ((i1 &&& (2147483647 : Int32)) - ((i1 &&& (2147483647 : Int32)) / (26 : Int32)) * (26 : Int32)))])) _
  refine XS.istore X0.here hx rfl (hb hby at_16) rfl (l' := #[.val (.int i0), .val (.int i1), .val (.int i2), .val (.int i3), .val (.int i4), .val (.int ((i0 &&& (2147483647 : Int32)) - ((i0 &&& (2147483647 : Int32)) / (27 : Int32)) * (27 : Int32))), .val (.int ((i1 &&& (2147483647 : Int32)) - ((i1 &&& (2147483647 : Int32)) / (26 : Int32)) * (26 : Int32))), s7, s8, s9, s10, s11, s12, s13, s14]) (os0_16_0_x hs6) ?_
  show Steps p.tables e below (T0.setTop (mkF m 18 #[.val (.int i0), .val (.int i1), .val (.int i2), .val (.int i3), .val (.int i4), .val (.int ((i0 &&& (2147483647 : Int32)) - ((i0 &&& (2147483647 : Int32)) / (27 : Int32)) * (27 : Int32))), .val (.int ((i1 &&& (2147483647 : Int32)) - ((i1 &&& (2147483647 : Int32)) / (26 : Int32)) * (26 : Int32))), s7, s8, s9, s10, s11, s12, s13, s14] [])) _
  refine XS.iloadN X0.here hx rfl (hb hby at_18) rfl ?_
  show Steps p.tables e below (T0.setTop (mkF m 19 #[.val (.int i0), .val (.int i1), .val (.int i2), .val (.int i3), .val (.int i4), .val (.int ((i0 &&& (2147483647 : Int32)) - ((i0 &&& (2147483647 : Int32)) / (27 : Int32)) * (27 : Int32))), .val (.int ((i1 &&& (2147483647 : Int32)) - ((i1 &&& (2147483647 : Int32)) / (26 : Int32)) * (26 : Int32))), s7, s8, s9, s10, s11, s12, s13, s14] [(.int i2)])) _
  refine XS.i2b X0.here hx rfl (hb hby at_19) rfl ?_
  show Steps p.tables e below (T0.setTop (mkF m 20 #[.val (.int i0), .val (.int i1), .val (.int i2), .val (.int i3), .val (.int i4), .val (.int ((i0 &&& (2147483647 : Int32)) - ((i0 &&& (2147483647 : Int32)) / (27 : Int32)) * (27 : Int32))), .val (.int ((i1 &&& (2147483647 : Int32)) - ((i1 &&& (2147483647 : Int32)) / (26 : Int32)) * (26 : Int32))), s7, s8, s9, s10, s11, s12, s13, s14] [(.int (i2.toInt8.toInt32))])) _
  refine XS.istore X0.here hx rfl (hb hby at_20) rfl (l' := #[.val (.int i0), .val (.int i1), .val (.int i2), .val (.int i3), .val (.int i4), .val (.int ((i0 &&& (2147483647 : Int32)) - ((i0 &&& (2147483647 : Int32)) / (27 : Int32)) * (27 : Int32))), .val (.int ((i1 &&& (2147483647 : Int32)) - ((i1 &&& (2147483647 : Int32)) / (26 : Int32)) * (26 : Int32))), .val (.int (i2.toInt8.toInt32)), s8, s9, s10, s11, s12, s13, s14]) (os0_20_0_x hs7) ?_
  show Steps p.tables e below (T0.setTop (mkF m 22 #[.val (.int i0), .val (.int i1), .val (.int i2), .val (.int i3), .val (.int i4), .val (.int ((i0 &&& (2147483647 : Int32)) - ((i0 &&& (2147483647 : Int32)) / (27 : Int32)) * (27 : Int32))), .val (.int ((i1 &&& (2147483647 : Int32)) - ((i1 &&& (2147483647 : Int32)) / (26 : Int32)) * (26 : Int32))), .val (.int (i2.toInt8.toInt32)), s8, s9, s10, s11, s12, s13, s14] [])) _
  refine XS.iloadN X0.here hx rfl (hb hby at_22) rfl ?_
  show Steps p.tables e below (T0.setTop (mkF m 23 #[.val (.int i0), .val (.int i1), .val (.int i2), .val (.int i3), .val (.int i4), .val (.int ((i0 &&& (2147483647 : Int32)) - ((i0 &&& (2147483647 : Int32)) / (27 : Int32)) * (27 : Int32))), .val (.int ((i1 &&& (2147483647 : Int32)) - ((i1 &&& (2147483647 : Int32)) / (26 : Int32)) * (26 : Int32))), .val (.int (i2.toInt8.toInt32)), s8, s9, s10, s11, s12, s13, s14] [(.int i3)])) _
  refine X0.ldcInt hx hown (mvT hZ (hw _ (List.mem_of_getElem? (i := 0) rfl))) (g := (mkF m 23 #[.val (.int i0), .val (.int i1), .val (.int i2), .val (.int i3), .val (.int i4), .val (.int ((i0 &&& (2147483647 : Int32)) - ((i0 &&& (2147483647 : Int32)) / (27 : Int32)) * (27 : Int32))), .val (.int ((i1 &&& (2147483647 : Int32)) - ((i1 &&& (2147483647 : Int32)) / (26 : Int32)) * (26 : Int32))), .val (.int (i2.toInt8.toInt32)), s8, s9, s10, s11, s12, s13, s14] [(.int i3)])) rfl (hb hby at_23) _ ?_
  show Steps p.tables e below (T0.setTop (mkF m 25 #[.val (.int i0), .val (.int i1), .val (.int i2), .val (.int i3), .val (.int i4), .val (.int ((i0 &&& (2147483647 : Int32)) - ((i0 &&& (2147483647 : Int32)) / (27 : Int32)) * (27 : Int32))), .val (.int ((i1 &&& (2147483647 : Int32)) - ((i1 &&& (2147483647 : Int32)) / (26 : Int32)) * (26 : Int32))), .val (.int (i2.toInt8.toInt32)), s8, s9, s10, s11, s12, s13, s14] [(.int (2147483647 : Int32)), (.int i3)])) _
  refine XS.iand X0.here hx rfl (hb hby at_25) rfl ?_
  show Steps p.tables e below (T0.setTop (mkF m 26 #[.val (.int i0), .val (.int i1), .val (.int i2), .val (.int i3), .val (.int i4), .val (.int ((i0 &&& (2147483647 : Int32)) - ((i0 &&& (2147483647 : Int32)) / (27 : Int32)) * (27 : Int32))), .val (.int ((i1 &&& (2147483647 : Int32)) - ((i1 &&& (2147483647 : Int32)) / (26 : Int32)) * (26 : Int32))), .val (.int (i2.toInt8.toInt32)), s8, s9, s10, s11, s12, s13, s14] [(.int (i3 &&& (2147483647 : Int32)))])) _
  refine XS.bipush X0.here hx rfl (hb hby at_26) ?_
  show Steps p.tables e below (T0.setTop (mkF m 28 #[.val (.int i0), .val (.int i1), .val (.int i2), .val (.int i3), .val (.int i4), .val (.int ((i0 &&& (2147483647 : Int32)) - ((i0 &&& (2147483647 : Int32)) / (27 : Int32)) * (27 : Int32))), .val (.int ((i1 &&& (2147483647 : Int32)) - ((i1 &&& (2147483647 : Int32)) / (26 : Int32)) * (26 : Int32))), .val (.int (i2.toInt8.toInt32)), s8, s9, s10, s11, s12, s13, s14] [(.int (27 : Int32)), (.int (i3 &&& (2147483647 : Int32)))])) _
  refine XS.irem X0.here hx rfl (hb hby at_28) rfl (by decide : ¬ ((27 : Int32) = (0 : Int32))) ?_
  show Steps p.tables e below (T0.setTop (mkF m 29 #[.val (.int i0), .val (.int i1), .val (.int i2), .val (.int i3), .val (.int i4), .val (.int ((i0 &&& (2147483647 : Int32)) - ((i0 &&& (2147483647 : Int32)) / (27 : Int32)) * (27 : Int32))), .val (.int ((i1 &&& (2147483647 : Int32)) - ((i1 &&& (2147483647 : Int32)) / (26 : Int32)) * (26 : Int32))), .val (.int (i2.toInt8.toInt32)), s8, s9, s10, s11, s12, s13, s14] [(.int ((i3 &&& (2147483647 : Int32)) - ((i3 &&& (2147483647 : Int32)) / (27 : Int32)) * (27 : Int32)))])) _
  refine XS.istore X0.here hx rfl (hb hby at_29) rfl (l' := #[.val (.int i0), .val (.int i1), .val (.int i2), .val (.int i3), .val (.int i4), .val (.int ((i0 &&& (2147483647 : Int32)) - ((i0 &&& (2147483647 : Int32)) / (27 : Int32)) * (27 : Int32))), .val (.int ((i1 &&& (2147483647 : Int32)) - ((i1 &&& (2147483647 : Int32)) / (26 : Int32)) * (26 : Int32))), .val (.int (i2.toInt8.toInt32)), .val (.int ((i3 &&& (2147483647 : Int32)) - ((i3 &&& (2147483647 : Int32)) / (27 : Int32)) * (27 : Int32))), s9, s10, s11, s12, s13, s14]) (os0_29_0_x hs8) ?_
  show Steps p.tables e below (T0.setTop (mkF m 31 #[.val (.int i0), .val (.int i1), .val (.int i2), .val (.int i3), .val (.int i4), .val (.int ((i0 &&& (2147483647 : Int32)) - ((i0 &&& (2147483647 : Int32)) / (27 : Int32)) * (27 : Int32))), .val (.int ((i1 &&& (2147483647 : Int32)) - ((i1 &&& (2147483647 : Int32)) / (26 : Int32)) * (26 : Int32))), .val (.int (i2.toInt8.toInt32)), .val (.int ((i3 &&& (2147483647 : Int32)) - ((i3 &&& (2147483647 : Int32)) / (27 : Int32)) * (27 : Int32))), s9, s10, s11, s12, s13, s14] [])) _
  refine XS.iload X0.here hx rfl (hb hby at_31) rfl ?_
  show Steps p.tables e below (T0.setTop (mkF m 33 #[.val (.int i0), .val (.int i1), .val (.int i2), .val (.int i3), .val (.int i4), .val (.int ((i0 &&& (2147483647 : Int32)) - ((i0 &&& (2147483647 : Int32)) / (27 : Int32)) * (27 : Int32))), .val (.int ((i1 &&& (2147483647 : Int32)) - ((i1 &&& (2147483647 : Int32)) / (26 : Int32)) * (26 : Int32))), .val (.int (i2.toInt8.toInt32)), .val (.int ((i3 &&& (2147483647 : Int32)) - ((i3 &&& (2147483647 : Int32)) / (27 : Int32)) * (27 : Int32))), s9, s10, s11, s12, s13, s14] [(.int i4)])) _
  refine XS.iconst X0.here hx rfl (hb hby at_33) ?_
  show Steps p.tables e below (T0.setTop (mkF m 34 #[.val (.int i0), .val (.int i1), .val (.int i2), .val (.int i3), .val (.int i4), .val (.int ((i0 &&& (2147483647 : Int32)) - ((i0 &&& (2147483647 : Int32)) / (27 : Int32)) * (27 : Int32))), .val (.int ((i1 &&& (2147483647 : Int32)) - ((i1 &&& (2147483647 : Int32)) / (26 : Int32)) * (26 : Int32))), .val (.int (i2.toInt8.toInt32)), .val (.int ((i3 &&& (2147483647 : Int32)) - ((i3 &&& (2147483647 : Int32)) / (27 : Int32)) * (27 : Int32))), s9, s10, s11, s12, s13, s14] [(.int (3 : Int32)), (.int i4)])) _
  refine XS.iand X0.here hx rfl (hb hby at_34) rfl ?_
  show Steps p.tables e below (T0.setTop (mkF m 35 #[.val (.int i0), .val (.int i1), .val (.int i2), .val (.int i3), .val (.int i4), .val (.int ((i0 &&& (2147483647 : Int32)) - ((i0 &&& (2147483647 : Int32)) / (27 : Int32)) * (27 : Int32))), .val (.int ((i1 &&& (2147483647 : Int32)) - ((i1 &&& (2147483647 : Int32)) / (26 : Int32)) * (26 : Int32))), .val (.int (i2.toInt8.toInt32)), .val (.int ((i3 &&& (2147483647 : Int32)) - ((i3 &&& (2147483647 : Int32)) / (27 : Int32)) * (27 : Int32))), s9, s10, s11, s12, s13, s14] [(.int (i4 &&& (3 : Int32)))])) _
  refine XS.istore X0.here hx rfl (hb hby at_35) rfl (l' := #[.val (.int i0), .val (.int i1), .val (.int i2), .val (.int i3), .val (.int i4), .val (.int ((i0 &&& (2147483647 : Int32)) - ((i0 &&& (2147483647 : Int32)) / (27 : Int32)) * (27 : Int32))), .val (.int ((i1 &&& (2147483647 : Int32)) - ((i1 &&& (2147483647 : Int32)) / (26 : Int32)) * (26 : Int32))), .val (.int (i2.toInt8.toInt32)), .val (.int ((i3 &&& (2147483647 : Int32)) - ((i3 &&& (2147483647 : Int32)) / (27 : Int32)) * (27 : Int32))), .val (.int (i4 &&& (3 : Int32))), s10, s11, s12, s13, s14]) (os0_35_0_x hs9) ?_
  exact kt
set_option maxRecDepth 65536 in
theorem seg0_0_37 {p : Program} {l : Launch} {e : Env} {R : Room} {s : State} {m : MethodId} {args : Array Value} {below : List Frame} {meth : Method} {c : Code} {T0 : State} {locs : List Loc} {cells slots : Nat} {Z : State} {a0 : Array Value} {h0 : Heap} (i0 : Int32) (i1 : Int32) (i2 : Int32) (i3 : Int32) (i4 : Int32) (s5 : Slot) (s6 : Slot) (s7 : Slot) (s8 : Slot) (s9 : Slot) (s10 : Slot) (s11 : Slot) (s12 : Slot) (s13 : Slot) (s14 : Slot)
    (X0 : Stand p l e R s m args below meth c T0 locs cells slots) (hx : p.tables.exec = Jvm.exec) (hZ : Z.Warmed39 s.vm) (hw : ∀ d ∈ tables_1, d.before a0 Z = true) (hby : c.code = code) (hml : c.maxLocals = 15) (hown : s.vm.findClass "com/example/vigilant_ledger/vigilantledger/journal/JournalFormatIsTornHeaderPinLaw" = some m.cls) (e0 : T0.heap = h0) (hs5 : One (s5)) (hs6 : One (s6)) (hs7 : One (s7)) (hs8 : One (s8)) (hs9 : One (s9)) :
    ∃ (T' : State), Stand p l e R s m args below meth c T' locs cells slots ∧ T'.heap = h0 ∧
      ∀ target, Steps p.tables e below (T'.setTop (mkF m 37 #[.val (.int i0), .val (.int i1), .val (.int i2), .val (.int i3), .val (.int i4), .val (.int ((i0 &&& (2147483647 : Int32)) - ((i0 &&& (2147483647 : Int32)) / (27 : Int32)) * (27 : Int32))), .val (.int ((i1 &&& (2147483647 : Int32)) - ((i1 &&& (2147483647 : Int32)) / (26 : Int32)) * (26 : Int32))), .val (.int (i2.toInt8.toInt32)), .val (.int ((i3 &&& (2147483647 : Int32)) - ((i3 &&& (2147483647 : Int32)) / (27 : Int32)) * (27 : Int32))), .val (.int (i4 &&& (3 : Int32))), s10, s11, s12, s13, s14] [])) target → Steps p.tables e below (T0.setTop (mkF m 0 #[.val (.int i0), .val (.int i1), .val (.int i2), .val (.int i3), .val (.int i4), s5, s6, s7, s8, s9, s10, s11, s12, s13, s14] [])) target := by
  exact tn0_0_37_x i0 i1 i2 i3 i4 (s5) (s6) (s7) (s8) (s9) (s10) (s11) (s12) (s13) (s14) X0 hx hZ hw hby hml hown e0 hs5 hs6 hs7 hs8 hs9
theorem os0_79_37_ttt {s0 : Slot} {s1 : Slot} {s2 : Slot} {s3 : Slot} {z4 : Value} {s5 : Slot} {s6 : Slot} {s7 : Slot} {s8 : Slot} {z9 : Value} {s10 : Slot} {s11 : Slot} {s12 : Slot} {s13 : Slot} {s14 : Slot} {v : Int32} (h : One s10) : storeLocals #[s0, s1, s2, s3, .val z4, s5, s6, s7, s8, .val z9, s10, s11, s12, s13, s14] 10 (.int v) = some #[s0, s1, s2, s3, .val z4, s5, s6, s7, s8, .val z9, .val (.int v), s11, s12, s13, s14] := by
  rcases h with rfl | ⟨w, rfl, hw⟩
  · rfl
  · cases w <;> first | rfl | (simp [Value.category] at hw)
set_option maxRecDepth 65536 in
set_option maxHeartbeats 40000000 in
theorem tn0_37_81_ttt {p : Program} {l : Launch} {e : Env} {R : Room} {s : State} {m : MethodId} {args : Array Value} {below : List Frame} {meth : Method} {c : Code} {T0 : State} {locs : List Loc} {cells slots : Nat} {Z : State} {a0 : Array Value} {h0 : Heap} (s0 : Slot) (s1 : Slot) (s2 : Slot) (s3 : Slot) (i4 : Int32) (s5 : Slot) (s6 : Slot) (s7 : Slot) (s8 : Slot) (i9 : Int32) (s10 : Slot) (s11 : Slot) (s12 : Slot) (s13 : Slot) (s14 : Slot)
    (X0 : Stand p l e R s m args below meth c T0 locs cells slots) (hx : p.tables.exec = Jvm.exec) (hZ : Z.Warmed39 s.vm) (hw : ∀ d ∈ tables_1, d.before a0 Z = true) (hby : c.code = code) (hml : c.maxLocals = 15) (hown : s.vm.findClass "com/example/vigilant_ledger/vigilantledger/journal/JournalFormatIsTornHeaderPinLaw" = some m.cls) (e0 : T0.heap = h0) (hs10 : One s10) (hc39 : ¬ (i9 = (0 : Int32))) (hc52 : ¬ (i9 = (1 : Int32))) (hc65 : ¬ (i9 = (2 : Int32))) :
    ∃ (T' : State), Stand p l e R s m args below meth c T' locs cells slots ∧ T'.heap = h0 ∧
      ∀ target, Steps p.tables e below (T'.setTop (mkF m 81 #[s0, s1, s2, s3, .val (.int i4), s5, s6, s7, s8, .val (.int i9), .val (.int ((i4 >>> ((2 : Int32) &&& 31)).toInt8.toInt32)), s11, s12, s13, s14] [])) target → Steps p.tables e below (T0.setTop (mkF m 37 #[s0, s1, s2, s3, .val (.int i4), s5, s6, s7, s8, .val (.int i9), s10, s11, s12, s13, s14] [])) target := by

  refine ⟨T0, X0, e0, fun target kt => ?_⟩
  show Steps p.tables e below (T0.setTop (mkF m 37 #[s0, s1, s2, s3, .val (.int i4), s5, s6, s7, s8, .val (.int i9), s10, s11, s12, s13, s14] [])) _
  refine XS.iload X0.here hx rfl (hb hby at_37) rfl ?_
  show Steps p.tables e below (T0.setTop (mkF m 39 #[s0, s1, s2, s3, .val (.int i4), s5, s6, s7, s8, .val (.int i9), s10, s11, s12, s13, s14] [(.int i9)])) _
  refine XS.ifYes X0.here hx rfl (pc0 := 39) (pc' := 49) rfl (hb hby at_39) rfl ((if0 _ _).trans (feq hc39).2) (by decide) (by decide) ?_
  show Steps p.tables e below (T0.setTop (mkF m 49 #[s0, s1, s2, s3, .val (.int i4), s5, s6, s7, s8, .val (.int i9), s10, s11, s12, s13, s14] [])) _
  refine XS.iload X0.here hx rfl (hb hby at_49) rfl ?_
  show Steps p.tables e below (T0.setTop (mkF m 51 #[s0, s1, s2, s3, .val (.int i4), s5, s6, s7, s8, .val (.int i9), s10, s11, s12, s13, s14] [(.int i9)])) _
  refine XS.iconst X0.here hx rfl (hb hby at_51) ?_
  show Steps p.tables e below (T0.setTop (mkF m 52 #[s0, s1, s2, s3, .val (.int i4), s5, s6, s7, s8, .val (.int i9), s10, s11, s12, s13, s14] [(.int (1 : Int32)), (.int i9)])) _
  refine XS.icmpYes X0.here hx rfl (pc0 := 52) (pc' := 62) rfl (hb hby at_52) rfl (feq hc52).2 (by decide) (by decide) ?_
  show Steps p.tables e below (T0.setTop (mkF m 62 #[s0, s1, s2, s3, .val (.int i4), s5, s6, s7, s8, .val (.int i9), s10, s11, s12, s13, s14] [])) _
  refine XS.iload X0.here hx rfl (hb hby at_62) rfl ?_
  show Steps p.tables e below (T0.setTop (mkF m 64 #[s0, s1, s2, s3, .val (.int i4), s5, s6, s7, s8, .val (.int i9), s10, s11, s12, s13, s14] [(.int i9)])) _
  refine XS.iconst X0.here hx rfl (hb hby at_64) ?_
  show Steps p.tables e below (T0.setTop (mkF m 65 #[s0, s1, s2, s3, .val (.int i4), s5, s6, s7, s8, .val (.int i9), s10, s11, s12, s13, s14] [(.int (2 : Int32)), (.int i9)])) _
  refine XS.icmpYes X0.here hx rfl (pc0 := 65) (pc' := 74) rfl (hb hby at_65) rfl (feq hc65).2 (by decide) (by decide) ?_
  show Steps p.tables e below (T0.setTop (mkF m 74 #[s0, s1, s2, s3, .val (.int i4), s5, s6, s7, s8, .val (.int i9), s10, s11, s12, s13, s14] [])) _
  refine XS.iload X0.here hx rfl (hb hby at_74) rfl ?_
  show Steps p.tables e below (T0.setTop (mkF m 76 #[s0, s1, s2, s3, .val (.int i4), s5, s6, s7, s8, .val (.int i9), s10, s11, s12, s13, s14] [(.int i4)])) _
  refine XS.iconst X0.here hx rfl (hb hby at_76) ?_
  show Steps p.tables e below (T0.setTop (mkF m 77 #[s0, s1, s2, s3, .val (.int i4), s5, s6, s7, s8, .val (.int i9), s10, s11, s12, s13, s14] [(.int (2 : Int32)), (.int i4)])) _
  refine XS.ishr X0.here hx rfl (hb hby at_77) rfl ?_
  show Steps p.tables e below (T0.setTop (mkF m 78 #[s0, s1, s2, s3, .val (.int i4), s5, s6, s7, s8, .val (.int i9), s10, s11, s12, s13, s14] [(.int (i4 >>> ((2 : Int32) &&& 31)))])) _
  refine XS.i2b X0.here hx rfl (hb hby at_78) rfl ?_
  show Steps p.tables e below (T0.setTop (mkF m 79 #[s0, s1, s2, s3, .val (.int i4), s5, s6, s7, s8, .val (.int i9), s10, s11, s12, s13, s14] [(.int ((i4 >>> ((2 : Int32) &&& 31)).toInt8.toInt32))])) _
  refine XS.istore X0.here hx rfl (hb hby at_79) rfl (l' := #[s0, s1, s2, s3, .val (.int i4), s5, s6, s7, s8, .val (.int i9), .val (.int ((i4 >>> ((2 : Int32) &&& 31)).toInt8.toInt32)), s11, s12, s13, s14]) (os0_79_37_ttt hs10) ?_
  exact kt
theorem os0_69_37_ttf {s0 : Slot} {s1 : Slot} {s2 : Slot} {s3 : Slot} {s4 : Slot} {s5 : Slot} {s6 : Slot} {s7 : Slot} {s8 : Slot} {z9 : Value} {s10 : Slot} {s11 : Slot} {s12 : Slot} {s13 : Slot} {s14 : Slot} {v : Int32} (h : One s10) : storeLocals #[s0, s1, s2, s3, s4, s5, s6, s7, s8, .val z9, s10, s11, s12, s13, s14] 10 (.int v) = some #[s0, s1, s2, s3, s4, s5, s6, s7, s8, .val z9, .val (.int v), s11, s12, s13, s14] := by
  rcases h with rfl | ⟨w, rfl, hw⟩
  · rfl
  · cases w <;> first | rfl | (simp [Value.category] at hw)
set_option maxRecDepth 65536 in
set_option maxHeartbeats 40000000 in
theorem tn0_37_81_ttf {p : Program} {l : Launch} {e : Env} {R : Room} {s : State} {m : MethodId} {args : Array Value} {below : List Frame} {meth : Method} {c : Code} {T0 : State} {locs : List Loc} {cells slots : Nat} {Z : State} {a0 : Array Value} {h0 : Heap} (s0 : Slot) (s1 : Slot) (s2 : Slot) (s3 : Slot) (s4 : Slot) (s5 : Slot) (s6 : Slot) (s7 : Slot) (s8 : Slot) (i9 : Int32) (s10 : Slot) (s11 : Slot) (s12 : Slot) (s13 : Slot) (s14 : Slot)
    (X0 : Stand p l e R s m args below meth c T0 locs cells slots) (hx : p.tables.exec = Jvm.exec) (hZ : Z.Warmed39 s.vm) (hw : ∀ d ∈ tables_1, d.before a0 Z = true) (hby : c.code = code) (hml : c.maxLocals = 15) (hown : s.vm.findClass "com/example/vigilant_ledger/vigilantledger/journal/JournalFormatIsTornHeaderPinLaw" = some m.cls) (e0 : T0.heap = h0) (hs10 : One s10) (hc39 : ¬ (i9 = (0 : Int32))) (hc52 : ¬ (i9 = (1 : Int32))) (hc65 : i9 = (2 : Int32)) :
    ∃ (T' : State), Stand p l e R s m args below meth c T' locs cells slots ∧ T'.heap = h0 ∧
      ∀ target, Steps p.tables e below (T'.setTop (mkF m 81 #[s0, s1, s2, s3, s4, s5, s6, s7, s8, .val (.int i9), .val (.int (0 : Int32)), s11, s12, s13, s14] [])) target → Steps p.tables e below (T0.setTop (mkF m 37 #[s0, s1, s2, s3, s4, s5, s6, s7, s8, .val (.int i9), s10, s11, s12, s13, s14] [])) target := by

  refine ⟨T0, X0, e0, fun target kt => ?_⟩
  show Steps p.tables e below (T0.setTop (mkF m 37 #[s0, s1, s2, s3, s4, s5, s6, s7, s8, .val (.int i9), s10, s11, s12, s13, s14] [])) _
  refine XS.iload X0.here hx rfl (hb hby at_37) rfl ?_
  show Steps p.tables e below (T0.setTop (mkF m 39 #[s0, s1, s2, s3, s4, s5, s6, s7, s8, .val (.int i9), s10, s11, s12, s13, s14] [(.int i9)])) _
  refine XS.ifYes X0.here hx rfl (pc0 := 39) (pc' := 49) rfl (hb hby at_39) rfl ((if0 _ _).trans (feq hc39).2) (by decide) (by decide) ?_
  show Steps p.tables e below (T0.setTop (mkF m 49 #[s0, s1, s2, s3, s4, s5, s6, s7, s8, .val (.int i9), s10, s11, s12, s13, s14] [])) _
  refine XS.iload X0.here hx rfl (hb hby at_49) rfl ?_
  show Steps p.tables e below (T0.setTop (mkF m 51 #[s0, s1, s2, s3, s4, s5, s6, s7, s8, .val (.int i9), s10, s11, s12, s13, s14] [(.int i9)])) _
  refine XS.iconst X0.here hx rfl (hb hby at_51) ?_
  show Steps p.tables e below (T0.setTop (mkF m 52 #[s0, s1, s2, s3, s4, s5, s6, s7, s8, .val (.int i9), s10, s11, s12, s13, s14] [(.int (1 : Int32)), (.int i9)])) _
  refine XS.icmpYes X0.here hx rfl (pc0 := 52) (pc' := 62) rfl (hb hby at_52) rfl (feq hc52).2 (by decide) (by decide) ?_
  show Steps p.tables e below (T0.setTop (mkF m 62 #[s0, s1, s2, s3, s4, s5, s6, s7, s8, .val (.int i9), s10, s11, s12, s13, s14] [])) _
  refine XS.iload X0.here hx rfl (hb hby at_62) rfl ?_
  show Steps p.tables e below (T0.setTop (mkF m 64 #[s0, s1, s2, s3, s4, s5, s6, s7, s8, .val (.int i9), s10, s11, s12, s13, s14] [(.int i9)])) _
  refine XS.iconst X0.here hx rfl (hb hby at_64) ?_
  show Steps p.tables e below (T0.setTop (mkF m 65 #[s0, s1, s2, s3, s4, s5, s6, s7, s8, .val (.int i9), s10, s11, s12, s13, s14] [(.int (2 : Int32)), (.int i9)])) _
  refine XS.icmpNo X0.here hx rfl (hb hby at_65) rfl (teq hc65).2 ?_
  show Steps p.tables e below (T0.setTop (mkF m 68 #[s0, s1, s2, s3, s4, s5, s6, s7, s8, .val (.int i9), s10, s11, s12, s13, s14] [])) _
  refine XS.iconst X0.here hx rfl (hb hby at_68) ?_
  show Steps p.tables e below (T0.setTop (mkF m 69 #[s0, s1, s2, s3, s4, s5, s6, s7, s8, .val (.int i9), s10, s11, s12, s13, s14] [(.int (0 : Int32))])) _
  refine XS.istore X0.here hx rfl (hb hby at_69) rfl (l' := #[s0, s1, s2, s3, s4, s5, s6, s7, s8, .val (.int i9), .val (.int (0 : Int32)), s11, s12, s13, s14]) (os0_69_37_ttf hs10) ?_
  show Steps p.tables e below (T0.setTop (mkF m 71 #[s0, s1, s2, s3, s4, s5, s6, s7, s8, .val (.int i9), .val (.int (0 : Int32)), s11, s12, s13, s14] [])) _
  refine XS.goto X0.here hx rfl (pc0 := 71) (pc' := 81) rfl (hb hby at_71) (by decide) (by decide) ?_
  exact kt
theorem os0_57_37_tf {s0 : Slot} {s1 : Slot} {s2 : Slot} {s3 : Slot} {s4 : Slot} {s5 : Slot} {s6 : Slot} {s7 : Slot} {s8 : Slot} {z9 : Value} {s10 : Slot} {s11 : Slot} {s12 : Slot} {s13 : Slot} {s14 : Slot} {v : Int32} (h : One s10) : storeLocals #[s0, s1, s2, s3, s4, s5, s6, s7, s8, .val z9, s10, s11, s12, s13, s14] 10 (.int v) = some #[s0, s1, s2, s3, s4, s5, s6, s7, s8, .val z9, .val (.int v), s11, s12, s13, s14] := by
  rcases h with rfl | ⟨w, rfl, hw⟩
  · rfl
  · cases w <;> first | rfl | (simp [Value.category] at hw)
set_option maxRecDepth 65536 in
set_option maxHeartbeats 40000000 in
theorem tn0_37_81_tf {p : Program} {l : Launch} {e : Env} {R : Room} {s : State} {m : MethodId} {args : Array Value} {below : List Frame} {meth : Method} {c : Code} {T0 : State} {locs : List Loc} {cells slots : Nat} {Z : State} {a0 : Array Value} {h0 : Heap} (s0 : Slot) (s1 : Slot) (s2 : Slot) (s3 : Slot) (s4 : Slot) (s5 : Slot) (s6 : Slot) (s7 : Slot) (s8 : Slot) (i9 : Int32) (s10 : Slot) (s11 : Slot) (s12 : Slot) (s13 : Slot) (s14 : Slot)
    (X0 : Stand p l e R s m args below meth c T0 locs cells slots) (hx : p.tables.exec = Jvm.exec) (hZ : Z.Warmed39 s.vm) (hw : ∀ d ∈ tables_1, d.before a0 Z = true) (hby : c.code = code) (hml : c.maxLocals = 15) (hown : s.vm.findClass "com/example/vigilant_ledger/vigilantledger/journal/JournalFormatIsTornHeaderPinLaw" = some m.cls) (e0 : T0.heap = h0) (hs10 : One s10) (hc39 : ¬ (i9 = (0 : Int32))) (hc52 : i9 = (1 : Int32)) :
    ∃ (T' : State), Stand p l e R s m args below meth c T' locs cells slots ∧ T'.heap = h0 ∧
      ∀ target, Steps p.tables e below (T'.setTop (mkF m 81 #[s0, s1, s2, s3, s4, s5, s6, s7, s8, .val (.int i9), .val (.int (50 : Int32)), s11, s12, s13, s14] [])) target → Steps p.tables e below (T0.setTop (mkF m 37 #[s0, s1, s2, s3, s4, s5, s6, s7, s8, .val (.int i9), s10, s11, s12, s13, s14] [])) target := by

  refine ⟨T0, X0, e0, fun target kt => ?_⟩
  show Steps p.tables e below (T0.setTop (mkF m 37 #[s0, s1, s2, s3, s4, s5, s6, s7, s8, .val (.int i9), s10, s11, s12, s13, s14] [])) _
  refine XS.iload X0.here hx rfl (hb hby at_37) rfl ?_
  show Steps p.tables e below (T0.setTop (mkF m 39 #[s0, s1, s2, s3, s4, s5, s6, s7, s8, .val (.int i9), s10, s11, s12, s13, s14] [(.int i9)])) _
  refine XS.ifYes X0.here hx rfl (pc0 := 39) (pc' := 49) rfl (hb hby at_39) rfl ((if0 _ _).trans (feq hc39).2) (by decide) (by decide) ?_
  show Steps p.tables e below (T0.setTop (mkF m 49 #[s0, s1, s2, s3, s4, s5, s6, s7, s8, .val (.int i9), s10, s11, s12, s13, s14] [])) _
  refine XS.iload X0.here hx rfl (hb hby at_49) rfl ?_
  show Steps p.tables e below (T0.setTop (mkF m 51 #[s0, s1, s2, s3, s4, s5, s6, s7, s8, .val (.int i9), s10, s11, s12, s13, s14] [(.int i9)])) _
  refine XS.iconst X0.here hx rfl (hb hby at_51) ?_
  show Steps p.tables e below (T0.setTop (mkF m 52 #[s0, s1, s2, s3, s4, s5, s6, s7, s8, .val (.int i9), s10, s11, s12, s13, s14] [(.int (1 : Int32)), (.int i9)])) _
  refine XS.icmpNo X0.here hx rfl (hb hby at_52) rfl (teq hc52).2 ?_
  show Steps p.tables e below (T0.setTop (mkF m 55 #[s0, s1, s2, s3, s4, s5, s6, s7, s8, .val (.int i9), s10, s11, s12, s13, s14] [])) _
  refine XS.bipush X0.here hx rfl (hb hby at_55) ?_
  show Steps p.tables e below (T0.setTop (mkF m 57 #[s0, s1, s2, s3, s4, s5, s6, s7, s8, .val (.int i9), s10, s11, s12, s13, s14] [(.int (50 : Int32))])) _
  refine XS.istore X0.here hx rfl (hb hby at_57) rfl (l' := #[s0, s1, s2, s3, s4, s5, s6, s7, s8, .val (.int i9), .val (.int (50 : Int32)), s11, s12, s13, s14]) (os0_57_37_tf hs10) ?_
  show Steps p.tables e below (T0.setTop (mkF m 59 #[s0, s1, s2, s3, s4, s5, s6, s7, s8, .val (.int i9), .val (.int (50 : Int32)), s11, s12, s13, s14] [])) _
  refine XS.goto X0.here hx rfl (pc0 := 59) (pc' := 81) rfl (hb hby at_59) (by decide) (by decide) ?_
  exact kt
theorem os0_44_37_f {s0 : Slot} {s1 : Slot} {s2 : Slot} {s3 : Slot} {s4 : Slot} {s5 : Slot} {s6 : Slot} {s7 : Slot} {s8 : Slot} {z9 : Value} {s10 : Slot} {s11 : Slot} {s12 : Slot} {s13 : Slot} {s14 : Slot} {v : Int32} (h : One s10) : storeLocals #[s0, s1, s2, s3, s4, s5, s6, s7, s8, .val z9, s10, s11, s12, s13, s14] 10 (.int v) = some #[s0, s1, s2, s3, s4, s5, s6, s7, s8, .val z9, .val (.int v), s11, s12, s13, s14] := by
  rcases h with rfl | ⟨w, rfl, hw⟩
  · rfl
  · cases w <;> first | rfl | (simp [Value.category] at hw)
set_option maxRecDepth 65536 in
set_option maxHeartbeats 40000000 in
theorem tn0_37_81_f {p : Program} {l : Launch} {e : Env} {R : Room} {s : State} {m : MethodId} {args : Array Value} {below : List Frame} {meth : Method} {c : Code} {T0 : State} {locs : List Loc} {cells slots : Nat} {Z : State} {a0 : Array Value} {h0 : Heap} (s0 : Slot) (s1 : Slot) (s2 : Slot) (s3 : Slot) (s4 : Slot) (s5 : Slot) (s6 : Slot) (s7 : Slot) (s8 : Slot) (i9 : Int32) (s10 : Slot) (s11 : Slot) (s12 : Slot) (s13 : Slot) (s14 : Slot)
    (X0 : Stand p l e R s m args below meth c T0 locs cells slots) (hx : p.tables.exec = Jvm.exec) (hZ : Z.Warmed39 s.vm) (hw : ∀ d ∈ tables_1, d.before a0 Z = true) (hby : c.code = code) (hml : c.maxLocals = 15) (hown : s.vm.findClass "com/example/vigilant_ledger/vigilantledger/journal/JournalFormatIsTornHeaderPinLaw" = some m.cls) (e0 : T0.heap = h0) (hs10 : One s10) (hc39 : i9 = (0 : Int32)) :
    ∃ (T' : State), Stand p l e R s m args below meth c T' locs cells slots ∧ T'.heap = h0 ∧
      ∀ target, Steps p.tables e below (T'.setTop (mkF m 81 #[s0, s1, s2, s3, s4, s5, s6, s7, s8, .val (.int i9), .val (.int (49 : Int32)), s11, s12, s13, s14] [])) target → Steps p.tables e below (T0.setTop (mkF m 37 #[s0, s1, s2, s3, s4, s5, s6, s7, s8, .val (.int i9), s10, s11, s12, s13, s14] [])) target := by

  refine ⟨T0, X0, e0, fun target kt => ?_⟩
  show Steps p.tables e below (T0.setTop (mkF m 37 #[s0, s1, s2, s3, s4, s5, s6, s7, s8, .val (.int i9), s10, s11, s12, s13, s14] [])) _
  refine XS.iload X0.here hx rfl (hb hby at_37) rfl ?_
  show Steps p.tables e below (T0.setTop (mkF m 39 #[s0, s1, s2, s3, s4, s5, s6, s7, s8, .val (.int i9), s10, s11, s12, s13, s14] [(.int i9)])) _
  refine XS.ifNo X0.here hx rfl (hb hby at_39) rfl ((if0 _ _).trans (teq hc39).2) ?_
  show Steps p.tables e below (T0.setTop (mkF m 42 #[s0, s1, s2, s3, s4, s5, s6, s7, s8, .val (.int i9), s10, s11, s12, s13, s14] [])) _
  refine XS.bipush X0.here hx rfl (hb hby at_42) ?_
  show Steps p.tables e below (T0.setTop (mkF m 44 #[s0, s1, s2, s3, s4, s5, s6, s7, s8, .val (.int i9), s10, s11, s12, s13, s14] [(.int (49 : Int32))])) _
  refine XS.istore X0.here hx rfl (hb hby at_44) rfl (l' := #[s0, s1, s2, s3, s4, s5, s6, s7, s8, .val (.int i9), .val (.int (49 : Int32)), s11, s12, s13, s14]) (os0_44_37_f hs10) ?_
  show Steps p.tables e below (T0.setTop (mkF m 46 #[s0, s1, s2, s3, s4, s5, s6, s7, s8, .val (.int i9), .val (.int (49 : Int32)), s11, s12, s13, s14] [])) _
  refine XS.goto X0.here hx rfl (pc0 := 46) (pc' := 81) rfl (hb hby at_46) (by decide) (by decide) ?_
  exact kt
def own_s0_37_10 (i4 : Int32) (i9 : Int32) : Int32 := (if i9 = (0 : Int32) then (49 : Int32) else (if i9 = (1 : Int32) then (50 : Int32) else (if i9 = (2 : Int32) then (0 : Int32) else ((i4 >>> ((2 : Int32) &&& 31)).toInt8.toInt32))))
set_option maxRecDepth 65536 in
theorem seg0_37_81 {p : Program} {l : Launch} {e : Env} {R : Room} {s : State} {m : MethodId} {args : Array Value} {below : List Frame} {meth : Method} {c : Code} {T0 : State} {locs : List Loc} {cells slots : Nat} {Z : State} {a0 : Array Value} {h0 : Heap} (s0 : Slot) (s1 : Slot) (s2 : Slot) (s3 : Slot) (i4 : Int32) (s5 : Slot) (s6 : Slot) (s7 : Slot) (s8 : Slot) (i9 : Int32) (s10 : Slot) (s11 : Slot) (s12 : Slot) (s13 : Slot) (s14 : Slot)
    (X0 : Stand p l e R s m args below meth c T0 locs cells slots) (hx : p.tables.exec = Jvm.exec) (hZ : Z.Warmed39 s.vm) (hw : ∀ d ∈ tables_1, d.before a0 Z = true) (hby : c.code = code) (hml : c.maxLocals = 15) (hown : s.vm.findClass "com/example/vigilant_ledger/vigilantledger/journal/JournalFormatIsTornHeaderPinLaw" = some m.cls) (e0 : T0.heap = h0) (hs10 : One (s10)) :
    ∃ (T' : State), Stand p l e R s m args below meth c T' locs cells slots ∧ T'.heap = h0 ∧
      ∀ target, Steps p.tables e below (T'.setTop (mkF m 81 #[s0, s1, s2, s3, .val (.int i4), s5, s6, s7, s8, .val (.int i9), .val (.int (own_s0_37_10 i4 i9)), s11, s12, s13, s14] [])) target → Steps p.tables e below (T0.setTop (mkF m 37 #[s0, s1, s2, s3, .val (.int i4), s5, s6, s7, s8, .val (.int i9), s10, s11, s12, s13, s14] [])) target := by
  by_cases hc39 : i9 = (0 : Int32)
  · simp only [own_s0_37_10, if_pos hc39]
    exact tn0_37_81_f (s0) (s1) (s2) (s3) (.val (.int i4)) (s5) (s6) (s7) (s8) i9 (s10) (s11) (s12) (s13) (s14) X0 hx hZ hw hby hml hown e0 hs10 hc39
  · by_cases hc52 : i9 = (1 : Int32)
    · simp only [own_s0_37_10, if_neg hc39, if_pos hc52]
      exact tn0_37_81_tf (s0) (s1) (s2) (s3) (.val (.int i4)) (s5) (s6) (s7) (s8) i9 (s10) (s11) (s12) (s13) (s14) X0 hx hZ hw hby hml hown e0 hs10 hc39 hc52
    · by_cases hc65 : i9 = (2 : Int32)
      · simp only [own_s0_37_10, if_neg hc39, if_neg hc52, if_pos hc65]
        exact tn0_37_81_ttf (s0) (s1) (s2) (s3) (.val (.int i4)) (s5) (s6) (s7) (s8) i9 (s10) (s11) (s12) (s13) (s14) X0 hx hZ hw hby hml hown e0 hs10 hc39 hc52 hc65
      · simp only [own_s0_37_10, if_neg hc39, if_neg hc52, if_neg hc65]
        exact tn0_37_81_ttt (s0) (s1) (s2) (s3) i4 (s5) (s6) (s7) (s8) i9 (s10) (s11) (s12) (s13) (s14) X0 hx hZ hw hby hml hown e0 hs10 hc39 hc52 hc65
def own_cont (j : Nat) (q b w d : Int32) : List Value := (List.range 26).map (fun i => if i < j then Value.int (own_at i q b w d) else Value.int 0)
theorem own_cont_len (j : Nat) (q b w d : Int32) : (own_cont j q b w d).length = 26 := by simp [own_cont]
theorem own_cont_set (j : Nat) (hj : j < 26) (q b w d : Int32) : (own_cont j q b w d).set j (.int (own_at j q b w d)) = own_cont (j + 1) q b w d := by
  apply List.ext_getElem
  · simp [own_cont]
  · intro i h1 h2
    rw [List.getElem_set]
    simp only [own_cont, List.getElem_map, List.getElem_range]
    by_cases c : j = i
    · subst c; rw [if_pos rfl, if_pos (Nat.lt_succ_self _)]
    · rw [if_neg c]
      by_cases c2 : i < j
      · rw [if_pos c2, if_pos (by omega)]
      · rw [if_neg c2, if_neg (by omega)]
theorem own_cont_get (q b w d : Int32) (i : Nat) (hi : i < 26) : (own_cont 26 q b w d).getD i (.int 0) = .int (own_at i q b w d) := by
  have h : i < (own_cont 26 q b w d).length := by rw [own_cont_len]; exact hi
  rw [List.getD_eq_getElem?_getD, List.getElem?_eq_getElem h]
  simp [own_cont, hi]
theorem own_cont_zero (q b w d : Int32) : ∀ i, (own_cont 0 q b w d).getD i (.int 0) = ([] : List Value).getD i (.int 0) := fun i => by
  by_cases h : i < 26
  · have h' : i < (own_cont 0 q b w d).length := by rw [own_cont_len]; exact h
    rw [List.getD_eq_getElem?_getD, List.getElem?_eq_getElem h']
    simp [own_cont]
  · rw [List.getD_eq_getElem?_getD, List.getElem?_eq_none (by rw [own_cont_len]; omega)]; rfl
def own_L (Z : State) (p : Program) (l : Launch) (e : Env) (s : State) (m : MethodId) (args : Array Value) (below : List Frame) (meth : Method) (c : Code) (n0 : Nat) (h0 : Heap) (cb sb : Nat) (a : Addr) (ka : ClassId) (nn : Int32) (vs : List Value) (T : State) : Prop :=
  ∃ (locs : List Loc) (cells slots : Nat), own_S Z p l e room_1 s m args below meth c n0 h0 cb sb T locs cells slots ∧ Old Z n0 T.heap ∧ Arv Z T.heap a ka .byte nn vs (.int 0) ∧ Safe Z EL T.vm T.heap a
theorem own_putcall {p : Program} {l : Launch} {e : Env} {s : State} {m : MethodId} {args : Array Value} {below : List Frame} {meth : Method} {c : Code} {Z : State} {a0 : Array Value} {n0 cb sb : Nat} {h0 : Heap} {G1 : Int32} {G3 : Value} {T : State} {a : Addr} {ka : ClassId} {nn b w d : Int32} {jq : Nat} (hx : p.tables.exec = Jvm.exec) (hw : ∀ d ∈ tables_1, d.before a0 Z = true) (hEL : EW Z a0 EL) (rG3 : G3.isRef = true) (P5 : ¬ G1 = 0) (O2 : Sta Z Z.heap "java/lang/String" "COMPACT_STRINGS" "Z" (.int G1)) (O4 : Sta Z Z.heap "jdk/internal/util/Preconditions" "SIOOBE_FORMATTER" "Ljava/util/function/BiFunction;" G3) (hby : c.code = code) (hml : c.maxLocals = 15) (ga : n0 ≤ a) (hcb : cb ≤ 5) (hsb : sb ≤ 242) (j : Nat) (hj : j < 26) (P : own_L Z p l e s m args below meth c n0 h0 cb sb a ka nn (own_cont j (Int32.ofNat jq) b w d) T) (pc : Nat) (Ls : Array Slot) (hL : Ls.size = 15) (hd : decode code pc = .ok (.invokestatic 28, 3)) (vs : List Value) (hvs : vs = (own_cont (j + 1) (Int32.ofNat jq) b w d)) :
    ∃ T', own_L Z p l e s m args below meth c n0 h0 cb sb a ka nn vs T' ∧ Steps p.tables e below (T.setTop (mkF m pc Ls [(.int d), (.int w), (.int b), (.int (Int32.ofNat jq)), (.int (Int32.ofNat j)), (.ref a)])) (T'.setTop (mkF m (pc + 3) Ls [])) := by
  obtain ⟨locs, cells, slots, P, Od, Va, Sf⟩ := P
  have b1 := P.2.2.2.2.2.2.1
  have b2 := P.2.2.2.2.2.2.2
  obtain ⟨v, T', L', c', s', P', ⟨rfl, K, V'⟩, hR, i1, i2, st⟩ := own_call P hx hEL (index := 28) (y := (⟨"com/example/vigilant_ledger/vigilantledger/journal/JournalFormatIsTornHeaderPinLaw", "put", "([BIIBIB)V"⟩ : MethodName)) (hw _ (List.mem_of_getElem? (i := 2) rfl)) (hw _ (List.mem_of_getElem? (i := 3) rfl)) (hw _ (List.mem_of_getElem? (i := 4) rfl)) (hw _ (List.mem_of_getElem? (i := 5) rfl)) (by decide) (W := 0) (argsL := [(.ref a), (.int (Int32.ofNat j)), (.int (Int32.ofNat jq)), (.int b), (.int w), (.int d)]) (rest := []) (own_put l Z a0 hw hEL n0 G1 G3 rG3 P5 O2 O4 a ka nn _ (by rw [own_cont_len]) j hj (Int32.ofNat jq) b w d T.heap Od ga Va) (fun x hx => by cases List.mem_singleton.mp hx; exact ⟨Va.lt, Sf⟩) (by decide) (by decide) (show cells + 2 ≤ 16 by omega) (show slots + 108 ≤ 2176 by omega) (g := mkF m pc Ls [(.int d), (.int w), (.int b), (.int (Int32.ofNat jq)), (.int (Int32.ofNat j)), (.ref a)]) rfl (by rw [hml]; exact hL) (lenOf pdd_put rfl) rfl (by show 2 * 0 + _ ≤ _; exact Nat.le_of_eq rfl) (hb hby hd)
  rw [own_cont_set j hj] at V'
  subst hvs
  exact ⟨T', ⟨L', c', s', P', Od.keep K (fun x hx => by cases List.mem_singleton.mp hx; exact ga), V', hR.safe Va.lt Sf⟩, st⟩
theorem own_okcall {p : Program} {l : Launch} {e : Env} {s : State} {m : MethodId} {args : Array Value} {below : List Frame} {meth : Method} {c : Code} {Z : State} {a0 : Array Value} {n0 cb sb : Nat} {h0 : Heap} {G1 : Int32} {G3 : Value} {T : State} {a : Addr} {ka : ClassId} {nn b w d : Int32} {jq : Nat} (hx : p.tables.exec = Jvm.exec) (hw : ∀ d ∈ tables_1, d.before a0 Z = true) (hEL : EW Z a0 EL) (rG3 : G3.isRef = true) (P5 : ¬ G1 = 0) (O2 : Sta Z Z.heap "java/lang/String" "COMPACT_STRINGS" "Z" (.int G1)) (O4 : Sta Z Z.heap "jdk/internal/util/Preconditions" "SIOOBE_FORMATTER" "Ljava/util/function/BiFunction;" G3) (hby : c.code = code) (hml : c.maxLocals = 15) (ga : n0 ≤ a) (hcb : cb ≤ 5) (hsb : sb ≤ 242) {vs : List Value} (P : own_L Z p l e s m args below meth c n0 h0 cb sb a ka nn vs T) (k : Int32) (j : Nat) (hj : j < 26) (pc : Nat) (Ls : Array Slot) (hL : Ls.size = 15) (hd : decode code pc = .ok (.invokestatic 32, 3)) :
    ∃ T', own_L Z p l e s m args below meth c n0 h0 cb sb a ka nn vs T' ∧ Steps p.tables e below (T.setTop (mkF m pc Ls [(.int d), (.int w), (.int b), (.int (Int32.ofNat jq)), (.int nn), (.int (Int32.ofNat j)), (.int k)])) (T'.setTop (mkF m (pc + 3) Ls [(.int (own_ok k j nn (Int32.ofNat jq) b w d))])) := by
  obtain ⟨locs, cells, slots, P, Od, Va, Sf⟩ := P
  have b1 := P.2.2.2.2.2.2.1
  have b2 := P.2.2.2.2.2.2.2
  obtain ⟨v, T', L', c', s', P', ⟨rfl, E⟩, hR, i1, i2, st⟩ := own_call P hx hEL (index := 32) (y := (⟨"com/example/vigilant_ledger/vigilantledger/journal/JournalFormatIsTornHeaderPinLaw", "ok", "(IIIIBIB)Z"⟩ : MethodName)) (hw _ (List.mem_of_getElem? (i := 6) rfl)) (hw _ (List.mem_of_getElem? (i := 7) rfl)) (hw _ (List.mem_of_getElem? (i := 4) rfl)) (hw _ (List.mem_of_getElem? (i := 8) rfl)) (by decide) (W := 0) (argsL := [(.int k), (.int (Int32.ofNat j)), (.int nn), (.int (Int32.ofNat jq)), (.int b), (.int w), (.int d)]) (rest := []) (own_okJ l Z a0 hw hEL n0 G1 G3 rG3 P5 O2 O4 k j hj nn (Int32.ofNat jq) b w d T.heap Od) (fun _ q => nomatch q) (by decide) (by decide) (show cells + 6 ≤ 16 by omega) (show slots + 324 ≤ 2176 by omega) (g := mkF m pc Ls [(.int d), (.int w), (.int b), (.int (Int32.ofNat jq)), (.int nn), (.int (Int32.ofNat j)), (.int k)]) rfl (by rw [hml]; exact hL) (lenOf pdd_ok rfl) rfl (by show 2 * 0 + _ ≤ _; exact Nat.le_of_eq rfl) (hb hby hd)
  exact ⟨T', ⟨L', c', s', P', Od.ext E, Va.ext E, hR.safe Va.lt Sf⟩, st⟩
theorem own_p0 {p : Program} {l : Launch} {e : Env} {s : State} {m : MethodId} {args : Array Value} {below : List Frame} {meth : Method} {c : Code} {Z : State} {a0 : Array Value} {n0 cb sb : Nat} {h0 : Heap} {G1 : Int32} {G3 : Value} {T : State} {a : Addr} {ka : ClassId} {nn b w d : Int32} {jq : Nat} (hx : p.tables.exec = Jvm.exec) (hw : ∀ d ∈ tables_1, d.before a0 Z = true) (hEL : EW Z a0 EL) (rG3 : G3.isRef = true) (P5 : ¬ G1 = 0) (O2 : Sta Z Z.heap "java/lang/String" "COMPACT_STRINGS" "Z" (.int G1)) (O4 : Sta Z Z.heap "jdk/internal/util/Preconditions" "SIOOBE_FORMATTER" "Ljava/util/function/BiFunction;" G3) (hby : c.code = code) (hml : c.maxLocals = 15) (ga : n0 ≤ a) (hcb : cb ≤ 5) (hsb : sb ≤ 242) (i0 i1 i2 i3 i4 i9 : Int32) (u12 u13 u14 : Slot) (P : own_L Z p l e s m args below meth c n0 h0 cb sb a ka nn (own_cont 0 (Int32.ofNat jq) b w d) T) :
    ∃ T', own_L Z p l e s m args below meth c n0 h0 cb sb a ka nn (own_cont 1 (Int32.ofNat jq) b w d) T' ∧ ∀ target, Steps p.tables e below (T'.setTop (mkF m 101 #[.val (.int i0), .val (.int i1), .val (.int i2), .val (.int i3), .val (.int i4), .val (.int nn), .val (.int (Int32.ofNat jq)), .val (.int b), .val (.int w), .val (.int i9), .val (.int d), .val (.ref a), u12, u13, u14] [])) target → Steps p.tables e below (T.setTop (mkF m 87 #[.val (.int i0), .val (.int i1), .val (.int i2), .val (.int i3), .val (.int i4), .val (.int nn), .val (.int (Int32.ofNat jq)), .val (.int b), .val (.int w), .val (.int i9), .val (.int d), .val (.ref a), u12, u13, u14] [])) target := by
  obtain ⟨T', P', st⟩ := own_putcall hx hw hEL rG3 P5 O2 O4 hby hml ga hcb hsb 0 (by decide) P 98 #[.val (.int i0), .val (.int i1), .val (.int i2), .val (.int i3), .val (.int i4), .val (.int nn), .val (.int (Int32.ofNat jq)), .val (.int b), .val (.int w), .val (.int i9), .val (.int d), .val (.ref a), u12, u13, u14] rfl at_98 (own_cont 1 (Int32.ofNat jq) b w d) rfl
  obtain ⟨_, _, _, ⟨X0, -⟩, -⟩ := P
  refine ⟨T', P', fun target kt => ?_⟩
  show Steps p.tables e below (T.setTop (mkF m 87 #[.val (.int i0), .val (.int i1), .val (.int i2), .val (.int i3), .val (.int i4), .val (.int nn), .val (.int (Int32.ofNat jq)), .val (.int b), .val (.int w), .val (.int i9), .val (.int d), .val (.ref a), u12, u13, u14] [])) _
  refine XS.aload X0.here hx rfl (hb hby at_87) rfl rfl ?_
  show Steps p.tables e below (T.setTop (mkF m 89 #[.val (.int i0), .val (.int i1), .val (.int i2), .val (.int i3), .val (.int i4), .val (.int nn), .val (.int (Int32.ofNat jq)), .val (.int b), .val (.int w), .val (.int i9), .val (.int d), .val (.ref a), u12, u13, u14] [(.ref a)])) _
  refine XS.iconst X0.here hx rfl (hb hby at_89) ?_
  show Steps p.tables e below (T.setTop (mkF m 90 #[.val (.int i0), .val (.int i1), .val (.int i2), .val (.int i3), .val (.int i4), .val (.int nn), .val (.int (Int32.ofNat jq)), .val (.int b), .val (.int w), .val (.int i9), .val (.int d), .val (.ref a), u12, u13, u14] [(.int (Int32.ofNat 0)), (.ref a)])) _
  refine XS.iload X0.here hx rfl (hb hby at_90) rfl ?_
  show Steps p.tables e below (T.setTop (mkF m 92 #[.val (.int i0), .val (.int i1), .val (.int i2), .val (.int i3), .val (.int i4), .val (.int nn), .val (.int (Int32.ofNat jq)), .val (.int b), .val (.int w), .val (.int i9), .val (.int d), .val (.ref a), u12, u13, u14] [(.int (Int32.ofNat jq)), (.int (Int32.ofNat 0)), (.ref a)])) _
  refine XS.iload X0.here hx rfl (hb hby at_92) rfl ?_
  show Steps p.tables e below (T.setTop (mkF m 94 #[.val (.int i0), .val (.int i1), .val (.int i2), .val (.int i3), .val (.int i4), .val (.int nn), .val (.int (Int32.ofNat jq)), .val (.int b), .val (.int w), .val (.int i9), .val (.int d), .val (.ref a), u12, u13, u14] [(.int b), (.int (Int32.ofNat jq)), (.int (Int32.ofNat 0)), (.ref a)])) _
  refine XS.iload X0.here hx rfl (hb hby at_94) rfl ?_
  show Steps p.tables e below (T.setTop (mkF m 96 #[.val (.int i0), .val (.int i1), .val (.int i2), .val (.int i3), .val (.int i4), .val (.int nn), .val (.int (Int32.ofNat jq)), .val (.int b), .val (.int w), .val (.int i9), .val (.int d), .val (.ref a), u12, u13, u14] [(.int w), (.int b), (.int (Int32.ofNat jq)), (.int (Int32.ofNat 0)), (.ref a)])) _
  refine XS.iload X0.here hx rfl (hb hby at_96) rfl ?_
  show Steps p.tables e below (T.setTop (mkF m 98 #[.val (.int i0), .val (.int i1), .val (.int i2), .val (.int i3), .val (.int i4), .val (.int nn), .val (.int (Int32.ofNat jq)), .val (.int b), .val (.int w), .val (.int i9), .val (.int d), .val (.ref a), u12, u13, u14] [(.int d), (.int w), (.int b), (.int (Int32.ofNat jq)), (.int (Int32.ofNat 0)), (.ref a)])) _
  exact st.trans kt
theorem own_p1 {p : Program} {l : Launch} {e : Env} {s : State} {m : MethodId} {args : Array Value} {below : List Frame} {meth : Method} {c : Code} {Z : State} {a0 : Array Value} {n0 cb sb : Nat} {h0 : Heap} {G1 : Int32} {G3 : Value} {T : State} {a : Addr} {ka : ClassId} {nn b w d : Int32} {jq : Nat} (hx : p.tables.exec = Jvm.exec) (hw : ∀ d ∈ tables_1, d.before a0 Z = true) (hEL : EW Z a0 EL) (rG3 : G3.isRef = true) (P5 : ¬ G1 = 0) (O2 : Sta Z Z.heap "java/lang/String" "COMPACT_STRINGS" "Z" (.int G1)) (O4 : Sta Z Z.heap "jdk/internal/util/Preconditions" "SIOOBE_FORMATTER" "Ljava/util/function/BiFunction;" G3) (hby : c.code = code) (hml : c.maxLocals = 15) (ga : n0 ≤ a) (hcb : cb ≤ 5) (hsb : sb ≤ 242) (i0 i1 i2 i3 i4 i9 : Int32) (u12 u13 u14 : Slot) (P : own_L Z p l e s m args below meth c n0 h0 cb sb a ka nn (own_cont 1 (Int32.ofNat jq) b w d) T) :
    ∃ T', own_L Z p l e s m args below meth c n0 h0 cb sb a ka nn (own_cont 2 (Int32.ofNat jq) b w d) T' ∧ ∀ target, Steps p.tables e below (T'.setTop (mkF m 115 #[.val (.int i0), .val (.int i1), .val (.int i2), .val (.int i3), .val (.int i4), .val (.int nn), .val (.int (Int32.ofNat jq)), .val (.int b), .val (.int w), .val (.int i9), .val (.int d), .val (.ref a), u12, u13, u14] [])) target → Steps p.tables e below (T.setTop (mkF m 101 #[.val (.int i0), .val (.int i1), .val (.int i2), .val (.int i3), .val (.int i4), .val (.int nn), .val (.int (Int32.ofNat jq)), .val (.int b), .val (.int w), .val (.int i9), .val (.int d), .val (.ref a), u12, u13, u14] [])) target := by
  obtain ⟨T', P', st⟩ := own_putcall hx hw hEL rG3 P5 O2 O4 hby hml ga hcb hsb 1 (by decide) P 112 #[.val (.int i0), .val (.int i1), .val (.int i2), .val (.int i3), .val (.int i4), .val (.int nn), .val (.int (Int32.ofNat jq)), .val (.int b), .val (.int w), .val (.int i9), .val (.int d), .val (.ref a), u12, u13, u14] rfl at_112 (own_cont 2 (Int32.ofNat jq) b w d) rfl
  obtain ⟨_, _, _, ⟨X0, -⟩, -⟩ := P
  refine ⟨T', P', fun target kt => ?_⟩
  show Steps p.tables e below (T.setTop (mkF m 101 #[.val (.int i0), .val (.int i1), .val (.int i2), .val (.int i3), .val (.int i4), .val (.int nn), .val (.int (Int32.ofNat jq)), .val (.int b), .val (.int w), .val (.int i9), .val (.int d), .val (.ref a), u12, u13, u14] [])) _
  refine XS.aload X0.here hx rfl (hb hby at_101) rfl rfl ?_
  show Steps p.tables e below (T.setTop (mkF m 103 #[.val (.int i0), .val (.int i1), .val (.int i2), .val (.int i3), .val (.int i4), .val (.int nn), .val (.int (Int32.ofNat jq)), .val (.int b), .val (.int w), .val (.int i9), .val (.int d), .val (.ref a), u12, u13, u14] [(.ref a)])) _
  refine XS.iconst X0.here hx rfl (hb hby at_103) ?_
  show Steps p.tables e below (T.setTop (mkF m 104 #[.val (.int i0), .val (.int i1), .val (.int i2), .val (.int i3), .val (.int i4), .val (.int nn), .val (.int (Int32.ofNat jq)), .val (.int b), .val (.int w), .val (.int i9), .val (.int d), .val (.ref a), u12, u13, u14] [(.int (Int32.ofNat 1)), (.ref a)])) _
  refine XS.iload X0.here hx rfl (hb hby at_104) rfl ?_
  show Steps p.tables e below (T.setTop (mkF m 106 #[.val (.int i0), .val (.int i1), .val (.int i2), .val (.int i3), .val (.int i4), .val (.int nn), .val (.int (Int32.ofNat jq)), .val (.int b), .val (.int w), .val (.int i9), .val (.int d), .val (.ref a), u12, u13, u14] [(.int (Int32.ofNat jq)), (.int (Int32.ofNat 1)), (.ref a)])) _
  refine XS.iload X0.here hx rfl (hb hby at_106) rfl ?_
  show Steps p.tables e below (T.setTop (mkF m 108 #[.val (.int i0), .val (.int i1), .val (.int i2), .val (.int i3), .val (.int i4), .val (.int nn), .val (.int (Int32.ofNat jq)), .val (.int b), .val (.int w), .val (.int i9), .val (.int d), .val (.ref a), u12, u13, u14] [(.int b), (.int (Int32.ofNat jq)), (.int (Int32.ofNat 1)), (.ref a)])) _
  refine XS.iload X0.here hx rfl (hb hby at_108) rfl ?_
  show Steps p.tables e below (T.setTop (mkF m 110 #[.val (.int i0), .val (.int i1), .val (.int i2), .val (.int i3), .val (.int i4), .val (.int nn), .val (.int (Int32.ofNat jq)), .val (.int b), .val (.int w), .val (.int i9), .val (.int d), .val (.ref a), u12, u13, u14] [(.int w), (.int b), (.int (Int32.ofNat jq)), (.int (Int32.ofNat 1)), (.ref a)])) _
  refine XS.iload X0.here hx rfl (hb hby at_110) rfl ?_
  show Steps p.tables e below (T.setTop (mkF m 112 #[.val (.int i0), .val (.int i1), .val (.int i2), .val (.int i3), .val (.int i4), .val (.int nn), .val (.int (Int32.ofNat jq)), .val (.int b), .val (.int w), .val (.int i9), .val (.int d), .val (.ref a), u12, u13, u14] [(.int d), (.int w), (.int b), (.int (Int32.ofNat jq)), (.int (Int32.ofNat 1)), (.ref a)])) _
  exact st.trans kt
theorem own_p2 {p : Program} {l : Launch} {e : Env} {s : State} {m : MethodId} {args : Array Value} {below : List Frame} {meth : Method} {c : Code} {Z : State} {a0 : Array Value} {n0 cb sb : Nat} {h0 : Heap} {G1 : Int32} {G3 : Value} {T : State} {a : Addr} {ka : ClassId} {nn b w d : Int32} {jq : Nat} (hx : p.tables.exec = Jvm.exec) (hw : ∀ d ∈ tables_1, d.before a0 Z = true) (hEL : EW Z a0 EL) (rG3 : G3.isRef = true) (P5 : ¬ G1 = 0) (O2 : Sta Z Z.heap "java/lang/String" "COMPACT_STRINGS" "Z" (.int G1)) (O4 : Sta Z Z.heap "jdk/internal/util/Preconditions" "SIOOBE_FORMATTER" "Ljava/util/function/BiFunction;" G3) (hby : c.code = code) (hml : c.maxLocals = 15) (ga : n0 ≤ a) (hcb : cb ≤ 5) (hsb : sb ≤ 242) (i0 i1 i2 i3 i4 i9 : Int32) (u12 u13 u14 : Slot) (P : own_L Z p l e s m args below meth c n0 h0 cb sb a ka nn (own_cont 2 (Int32.ofNat jq) b w d) T) :
    ∃ T', own_L Z p l e s m args below meth c n0 h0 cb sb a ka nn (own_cont 3 (Int32.ofNat jq) b w d) T' ∧ ∀ target, Steps p.tables e below (T'.setTop (mkF m 129 #[.val (.int i0), .val (.int i1), .val (.int i2), .val (.int i3), .val (.int i4), .val (.int nn), .val (.int (Int32.ofNat jq)), .val (.int b), .val (.int w), .val (.int i9), .val (.int d), .val (.ref a), u12, u13, u14] [])) target → Steps p.tables e below (T.setTop (mkF m 115 #[.val (.int i0), .val (.int i1), .val (.int i2), .val (.int i3), .val (.int i4), .val (.int nn), .val (.int (Int32.ofNat jq)), .val (.int b), .val (.int w), .val (.int i9), .val (.int d), .val (.ref a), u12, u13, u14] [])) target := by
  obtain ⟨T', P', st⟩ := own_putcall hx hw hEL rG3 P5 O2 O4 hby hml ga hcb hsb 2 (by decide) P 126 #[.val (.int i0), .val (.int i1), .val (.int i2), .val (.int i3), .val (.int i4), .val (.int nn), .val (.int (Int32.ofNat jq)), .val (.int b), .val (.int w), .val (.int i9), .val (.int d), .val (.ref a), u12, u13, u14] rfl at_126 (own_cont 3 (Int32.ofNat jq) b w d) rfl
  obtain ⟨_, _, _, ⟨X0, -⟩, -⟩ := P
  refine ⟨T', P', fun target kt => ?_⟩
  show Steps p.tables e below (T.setTop (mkF m 115 #[.val (.int i0), .val (.int i1), .val (.int i2), .val (.int i3), .val (.int i4), .val (.int nn), .val (.int (Int32.ofNat jq)), .val (.int b), .val (.int w), .val (.int i9), .val (.int d), .val (.ref a), u12, u13, u14] [])) _
  refine XS.aload X0.here hx rfl (hb hby at_115) rfl rfl ?_
  show Steps p.tables e below (T.setTop (mkF m 117 #[.val (.int i0), .val (.int i1), .val (.int i2), .val (.int i3), .val (.int i4), .val (.int nn), .val (.int (Int32.ofNat jq)), .val (.int b), .val (.int w), .val (.int i9), .val (.int d), .val (.ref a), u12, u13, u14] [(.ref a)])) _
  refine XS.iconst X0.here hx rfl (hb hby at_117) ?_
  show Steps p.tables e below (T.setTop (mkF m 118 #[.val (.int i0), .val (.int i1), .val (.int i2), .val (.int i3), .val (.int i4), .val (.int nn), .val (.int (Int32.ofNat jq)), .val (.int b), .val (.int w), .val (.int i9), .val (.int d), .val (.ref a), u12, u13, u14] [(.int (Int32.ofNat 2)), (.ref a)])) _
  refine XS.iload X0.here hx rfl (hb hby at_118) rfl ?_
  show Steps p.tables e below (T.setTop (mkF m 120 #[.val (.int i0), .val (.int i1), .val (.int i2), .val (.int i3), .val (.int i4), .val (.int nn), .val (.int (Int32.ofNat jq)), .val (.int b), .val (.int w), .val (.int i9), .val (.int d), .val (.ref a), u12, u13, u14] [(.int (Int32.ofNat jq)), (.int (Int32.ofNat 2)), (.ref a)])) _
  refine XS.iload X0.here hx rfl (hb hby at_120) rfl ?_
  show Steps p.tables e below (T.setTop (mkF m 122 #[.val (.int i0), .val (.int i1), .val (.int i2), .val (.int i3), .val (.int i4), .val (.int nn), .val (.int (Int32.ofNat jq)), .val (.int b), .val (.int w), .val (.int i9), .val (.int d), .val (.ref a), u12, u13, u14] [(.int b), (.int (Int32.ofNat jq)), (.int (Int32.ofNat 2)), (.ref a)])) _
  refine XS.iload X0.here hx rfl (hb hby at_122) rfl ?_
  show Steps p.tables e below (T.setTop (mkF m 124 #[.val (.int i0), .val (.int i1), .val (.int i2), .val (.int i3), .val (.int i4), .val (.int nn), .val (.int (Int32.ofNat jq)), .val (.int b), .val (.int w), .val (.int i9), .val (.int d), .val (.ref a), u12, u13, u14] [(.int w), (.int b), (.int (Int32.ofNat jq)), (.int (Int32.ofNat 2)), (.ref a)])) _
  refine XS.iload X0.here hx rfl (hb hby at_124) rfl ?_
  show Steps p.tables e below (T.setTop (mkF m 126 #[.val (.int i0), .val (.int i1), .val (.int i2), .val (.int i3), .val (.int i4), .val (.int nn), .val (.int (Int32.ofNat jq)), .val (.int b), .val (.int w), .val (.int i9), .val (.int d), .val (.ref a), u12, u13, u14] [(.int d), (.int w), (.int b), (.int (Int32.ofNat jq)), (.int (Int32.ofNat 2)), (.ref a)])) _
  exact st.trans kt
theorem own_p3 {p : Program} {l : Launch} {e : Env} {s : State} {m : MethodId} {args : Array Value} {below : List Frame} {meth : Method} {c : Code} {Z : State} {a0 : Array Value} {n0 cb sb : Nat} {h0 : Heap} {G1 : Int32} {G3 : Value} {T : State} {a : Addr} {ka : ClassId} {nn b w d : Int32} {jq : Nat} (hx : p.tables.exec = Jvm.exec) (hw : ∀ d ∈ tables_1, d.before a0 Z = true) (hEL : EW Z a0 EL) (rG3 : G3.isRef = true) (P5 : ¬ G1 = 0) (O2 : Sta Z Z.heap "java/lang/String" "COMPACT_STRINGS" "Z" (.int G1)) (O4 : Sta Z Z.heap "jdk/internal/util/Preconditions" "SIOOBE_FORMATTER" "Ljava/util/function/BiFunction;" G3) (hby : c.code = code) (hml : c.maxLocals = 15) (ga : n0 ≤ a) (hcb : cb ≤ 5) (hsb : sb ≤ 242) (i0 i1 i2 i3 i4 i9 : Int32) (u12 u13 u14 : Slot) (P : own_L Z p l e s m args below meth c n0 h0 cb sb a ka nn (own_cont 3 (Int32.ofNat jq) b w d) T) :
    ∃ T', own_L Z p l e s m args below meth c n0 h0 cb sb a ka nn (own_cont 4 (Int32.ofNat jq) b w d) T' ∧ ∀ target, Steps p.tables e below (T'.setTop (mkF m 143 #[.val (.int i0), .val (.int i1), .val (.int i2), .val (.int i3), .val (.int i4), .val (.int nn), .val (.int (Int32.ofNat jq)), .val (.int b), .val (.int w), .val (.int i9), .val (.int d), .val (.ref a), u12, u13, u14] [])) target → Steps p.tables e below (T.setTop (mkF m 129 #[.val (.int i0), .val (.int i1), .val (.int i2), .val (.int i3), .val (.int i4), .val (.int nn), .val (.int (Int32.ofNat jq)), .val (.int b), .val (.int w), .val (.int i9), .val (.int d), .val (.ref a), u12, u13, u14] [])) target := by
  obtain ⟨T', P', st⟩ := own_putcall hx hw hEL rG3 P5 O2 O4 hby hml ga hcb hsb 3 (by decide) P 140 #[.val (.int i0), .val (.int i1), .val (.int i2), .val (.int i3), .val (.int i4), .val (.int nn), .val (.int (Int32.ofNat jq)), .val (.int b), .val (.int w), .val (.int i9), .val (.int d), .val (.ref a), u12, u13, u14] rfl at_140 (own_cont 4 (Int32.ofNat jq) b w d) rfl
  obtain ⟨_, _, _, ⟨X0, -⟩, -⟩ := P
  refine ⟨T', P', fun target kt => ?_⟩
  show Steps p.tables e below (T.setTop (mkF m 129 #[.val (.int i0), .val (.int i1), .val (.int i2), .val (.int i3), .val (.int i4), .val (.int nn), .val (.int (Int32.ofNat jq)), .val (.int b), .val (.int w), .val (.int i9), .val (.int d), .val (.ref a), u12, u13, u14] [])) _
  refine XS.aload X0.here hx rfl (hb hby at_129) rfl rfl ?_
  show Steps p.tables e below (T.setTop (mkF m 131 #[.val (.int i0), .val (.int i1), .val (.int i2), .val (.int i3), .val (.int i4), .val (.int nn), .val (.int (Int32.ofNat jq)), .val (.int b), .val (.int w), .val (.int i9), .val (.int d), .val (.ref a), u12, u13, u14] [(.ref a)])) _
  refine XS.iconst X0.here hx rfl (hb hby at_131) ?_
  show Steps p.tables e below (T.setTop (mkF m 132 #[.val (.int i0), .val (.int i1), .val (.int i2), .val (.int i3), .val (.int i4), .val (.int nn), .val (.int (Int32.ofNat jq)), .val (.int b), .val (.int w), .val (.int i9), .val (.int d), .val (.ref a), u12, u13, u14] [(.int (Int32.ofNat 3)), (.ref a)])) _
  refine XS.iload X0.here hx rfl (hb hby at_132) rfl ?_
  show Steps p.tables e below (T.setTop (mkF m 134 #[.val (.int i0), .val (.int i1), .val (.int i2), .val (.int i3), .val (.int i4), .val (.int nn), .val (.int (Int32.ofNat jq)), .val (.int b), .val (.int w), .val (.int i9), .val (.int d), .val (.ref a), u12, u13, u14] [(.int (Int32.ofNat jq)), (.int (Int32.ofNat 3)), (.ref a)])) _
  refine XS.iload X0.here hx rfl (hb hby at_134) rfl ?_
  show Steps p.tables e below (T.setTop (mkF m 136 #[.val (.int i0), .val (.int i1), .val (.int i2), .val (.int i3), .val (.int i4), .val (.int nn), .val (.int (Int32.ofNat jq)), .val (.int b), .val (.int w), .val (.int i9), .val (.int d), .val (.ref a), u12, u13, u14] [(.int b), (.int (Int32.ofNat jq)), (.int (Int32.ofNat 3)), (.ref a)])) _
  refine XS.iload X0.here hx rfl (hb hby at_136) rfl ?_
  show Steps p.tables e below (T.setTop (mkF m 138 #[.val (.int i0), .val (.int i1), .val (.int i2), .val (.int i3), .val (.int i4), .val (.int nn), .val (.int (Int32.ofNat jq)), .val (.int b), .val (.int w), .val (.int i9), .val (.int d), .val (.ref a), u12, u13, u14] [(.int w), (.int b), (.int (Int32.ofNat jq)), (.int (Int32.ofNat 3)), (.ref a)])) _
  refine XS.iload X0.here hx rfl (hb hby at_138) rfl ?_
  show Steps p.tables e below (T.setTop (mkF m 140 #[.val (.int i0), .val (.int i1), .val (.int i2), .val (.int i3), .val (.int i4), .val (.int nn), .val (.int (Int32.ofNat jq)), .val (.int b), .val (.int w), .val (.int i9), .val (.int d), .val (.ref a), u12, u13, u14] [(.int d), (.int w), (.int b), (.int (Int32.ofNat jq)), (.int (Int32.ofNat 3)), (.ref a)])) _
  exact st.trans kt
theorem own_p4 {p : Program} {l : Launch} {e : Env} {s : State} {m : MethodId} {args : Array Value} {below : List Frame} {meth : Method} {c : Code} {Z : State} {a0 : Array Value} {n0 cb sb : Nat} {h0 : Heap} {G1 : Int32} {G3 : Value} {T : State} {a : Addr} {ka : ClassId} {nn b w d : Int32} {jq : Nat} (hx : p.tables.exec = Jvm.exec) (hw : ∀ d ∈ tables_1, d.before a0 Z = true) (hEL : EW Z a0 EL) (rG3 : G3.isRef = true) (P5 : ¬ G1 = 0) (O2 : Sta Z Z.heap "java/lang/String" "COMPACT_STRINGS" "Z" (.int G1)) (O4 : Sta Z Z.heap "jdk/internal/util/Preconditions" "SIOOBE_FORMATTER" "Ljava/util/function/BiFunction;" G3) (hby : c.code = code) (hml : c.maxLocals = 15) (ga : n0 ≤ a) (hcb : cb ≤ 5) (hsb : sb ≤ 242) (i0 i1 i2 i3 i4 i9 : Int32) (u12 u13 u14 : Slot) (P : own_L Z p l e s m args below meth c n0 h0 cb sb a ka nn (own_cont 4 (Int32.ofNat jq) b w d) T) :
    ∃ T', own_L Z p l e s m args below meth c n0 h0 cb sb a ka nn (own_cont 5 (Int32.ofNat jq) b w d) T' ∧ ∀ target, Steps p.tables e below (T'.setTop (mkF m 157 #[.val (.int i0), .val (.int i1), .val (.int i2), .val (.int i3), .val (.int i4), .val (.int nn), .val (.int (Int32.ofNat jq)), .val (.int b), .val (.int w), .val (.int i9), .val (.int d), .val (.ref a), u12, u13, u14] [])) target → Steps p.tables e below (T.setTop (mkF m 143 #[.val (.int i0), .val (.int i1), .val (.int i2), .val (.int i3), .val (.int i4), .val (.int nn), .val (.int (Int32.ofNat jq)), .val (.int b), .val (.int w), .val (.int i9), .val (.int d), .val (.ref a), u12, u13, u14] [])) target := by
  obtain ⟨T', P', st⟩ := own_putcall hx hw hEL rG3 P5 O2 O4 hby hml ga hcb hsb 4 (by decide) P 154 #[.val (.int i0), .val (.int i1), .val (.int i2), .val (.int i3), .val (.int i4), .val (.int nn), .val (.int (Int32.ofNat jq)), .val (.int b), .val (.int w), .val (.int i9), .val (.int d), .val (.ref a), u12, u13, u14] rfl at_154 (own_cont 5 (Int32.ofNat jq) b w d) rfl
  obtain ⟨_, _, _, ⟨X0, -⟩, -⟩ := P
  refine ⟨T', P', fun target kt => ?_⟩
  show Steps p.tables e below (T.setTop (mkF m 143 #[.val (.int i0), .val (.int i1), .val (.int i2), .val (.int i3), .val (.int i4), .val (.int nn), .val (.int (Int32.ofNat jq)), .val (.int b), .val (.int w), .val (.int i9), .val (.int d), .val (.ref a), u12, u13, u14] [])) _
  refine XS.aload X0.here hx rfl (hb hby at_143) rfl rfl ?_
  show Steps p.tables e below (T.setTop (mkF m 145 #[.val (.int i0), .val (.int i1), .val (.int i2), .val (.int i3), .val (.int i4), .val (.int nn), .val (.int (Int32.ofNat jq)), .val (.int b), .val (.int w), .val (.int i9), .val (.int d), .val (.ref a), u12, u13, u14] [(.ref a)])) _
  refine XS.iconst X0.here hx rfl (hb hby at_145) ?_
  show Steps p.tables e below (T.setTop (mkF m 146 #[.val (.int i0), .val (.int i1), .val (.int i2), .val (.int i3), .val (.int i4), .val (.int nn), .val (.int (Int32.ofNat jq)), .val (.int b), .val (.int w), .val (.int i9), .val (.int d), .val (.ref a), u12, u13, u14] [(.int (Int32.ofNat 4)), (.ref a)])) _
  refine XS.iload X0.here hx rfl (hb hby at_146) rfl ?_
  show Steps p.tables e below (T.setTop (mkF m 148 #[.val (.int i0), .val (.int i1), .val (.int i2), .val (.int i3), .val (.int i4), .val (.int nn), .val (.int (Int32.ofNat jq)), .val (.int b), .val (.int w), .val (.int i9), .val (.int d), .val (.ref a), u12, u13, u14] [(.int (Int32.ofNat jq)), (.int (Int32.ofNat 4)), (.ref a)])) _
  refine XS.iload X0.here hx rfl (hb hby at_148) rfl ?_
  show Steps p.tables e below (T.setTop (mkF m 150 #[.val (.int i0), .val (.int i1), .val (.int i2), .val (.int i3), .val (.int i4), .val (.int nn), .val (.int (Int32.ofNat jq)), .val (.int b), .val (.int w), .val (.int i9), .val (.int d), .val (.ref a), u12, u13, u14] [(.int b), (.int (Int32.ofNat jq)), (.int (Int32.ofNat 4)), (.ref a)])) _
  refine XS.iload X0.here hx rfl (hb hby at_150) rfl ?_
  show Steps p.tables e below (T.setTop (mkF m 152 #[.val (.int i0), .val (.int i1), .val (.int i2), .val (.int i3), .val (.int i4), .val (.int nn), .val (.int (Int32.ofNat jq)), .val (.int b), .val (.int w), .val (.int i9), .val (.int d), .val (.ref a), u12, u13, u14] [(.int w), (.int b), (.int (Int32.ofNat jq)), (.int (Int32.ofNat 4)), (.ref a)])) _
  refine XS.iload X0.here hx rfl (hb hby at_152) rfl ?_
  show Steps p.tables e below (T.setTop (mkF m 154 #[.val (.int i0), .val (.int i1), .val (.int i2), .val (.int i3), .val (.int i4), .val (.int nn), .val (.int (Int32.ofNat jq)), .val (.int b), .val (.int w), .val (.int i9), .val (.int d), .val (.ref a), u12, u13, u14] [(.int d), (.int w), (.int b), (.int (Int32.ofNat jq)), (.int (Int32.ofNat 4)), (.ref a)])) _
  exact st.trans kt
theorem own_p5 {p : Program} {l : Launch} {e : Env} {s : State} {m : MethodId} {args : Array Value} {below : List Frame} {meth : Method} {c : Code} {Z : State} {a0 : Array Value} {n0 cb sb : Nat} {h0 : Heap} {G1 : Int32} {G3 : Value} {T : State} {a : Addr} {ka : ClassId} {nn b w d : Int32} {jq : Nat} (hx : p.tables.exec = Jvm.exec) (hw : ∀ d ∈ tables_1, d.before a0 Z = true) (hEL : EW Z a0 EL) (rG3 : G3.isRef = true) (P5 : ¬ G1 = 0) (O2 : Sta Z Z.heap "java/lang/String" "COMPACT_STRINGS" "Z" (.int G1)) (O4 : Sta Z Z.heap "jdk/internal/util/Preconditions" "SIOOBE_FORMATTER" "Ljava/util/function/BiFunction;" G3) (hby : c.code = code) (hml : c.maxLocals = 15) (ga : n0 ≤ a) (hcb : cb ≤ 5) (hsb : sb ≤ 242) (i0 i1 i2 i3 i4 i9 : Int32) (u12 u13 u14 : Slot) (P : own_L Z p l e s m args below meth c n0 h0 cb sb a ka nn (own_cont 5 (Int32.ofNat jq) b w d) T) :
    ∃ T', own_L Z p l e s m args below meth c n0 h0 cb sb a ka nn (own_cont 6 (Int32.ofNat jq) b w d) T' ∧ ∀ target, Steps p.tables e below (T'.setTop (mkF m 171 #[.val (.int i0), .val (.int i1), .val (.int i2), .val (.int i3), .val (.int i4), .val (.int nn), .val (.int (Int32.ofNat jq)), .val (.int b), .val (.int w), .val (.int i9), .val (.int d), .val (.ref a), u12, u13, u14] [])) target → Steps p.tables e below (T.setTop (mkF m 157 #[.val (.int i0), .val (.int i1), .val (.int i2), .val (.int i3), .val (.int i4), .val (.int nn), .val (.int (Int32.ofNat jq)), .val (.int b), .val (.int w), .val (.int i9), .val (.int d), .val (.ref a), u12, u13, u14] [])) target := by
  obtain ⟨T', P', st⟩ := own_putcall hx hw hEL rG3 P5 O2 O4 hby hml ga hcb hsb 5 (by decide) P 168 #[.val (.int i0), .val (.int i1), .val (.int i2), .val (.int i3), .val (.int i4), .val (.int nn), .val (.int (Int32.ofNat jq)), .val (.int b), .val (.int w), .val (.int i9), .val (.int d), .val (.ref a), u12, u13, u14] rfl at_168 (own_cont 6 (Int32.ofNat jq) b w d) rfl
  obtain ⟨_, _, _, ⟨X0, -⟩, -⟩ := P
  refine ⟨T', P', fun target kt => ?_⟩
  show Steps p.tables e below (T.setTop (mkF m 157 #[.val (.int i0), .val (.int i1), .val (.int i2), .val (.int i3), .val (.int i4), .val (.int nn), .val (.int (Int32.ofNat jq)), .val (.int b), .val (.int w), .val (.int i9), .val (.int d), .val (.ref a), u12, u13, u14] [])) _
  refine XS.aload X0.here hx rfl (hb hby at_157) rfl rfl ?_
  show Steps p.tables e below (T.setTop (mkF m 159 #[.val (.int i0), .val (.int i1), .val (.int i2), .val (.int i3), .val (.int i4), .val (.int nn), .val (.int (Int32.ofNat jq)), .val (.int b), .val (.int w), .val (.int i9), .val (.int d), .val (.ref a), u12, u13, u14] [(.ref a)])) _
  refine XS.iconst X0.here hx rfl (hb hby at_159) ?_
  show Steps p.tables e below (T.setTop (mkF m 160 #[.val (.int i0), .val (.int i1), .val (.int i2), .val (.int i3), .val (.int i4), .val (.int nn), .val (.int (Int32.ofNat jq)), .val (.int b), .val (.int w), .val (.int i9), .val (.int d), .val (.ref a), u12, u13, u14] [(.int (Int32.ofNat 5)), (.ref a)])) _
  refine XS.iload X0.here hx rfl (hb hby at_160) rfl ?_
  show Steps p.tables e below (T.setTop (mkF m 162 #[.val (.int i0), .val (.int i1), .val (.int i2), .val (.int i3), .val (.int i4), .val (.int nn), .val (.int (Int32.ofNat jq)), .val (.int b), .val (.int w), .val (.int i9), .val (.int d), .val (.ref a), u12, u13, u14] [(.int (Int32.ofNat jq)), (.int (Int32.ofNat 5)), (.ref a)])) _
  refine XS.iload X0.here hx rfl (hb hby at_162) rfl ?_
  show Steps p.tables e below (T.setTop (mkF m 164 #[.val (.int i0), .val (.int i1), .val (.int i2), .val (.int i3), .val (.int i4), .val (.int nn), .val (.int (Int32.ofNat jq)), .val (.int b), .val (.int w), .val (.int i9), .val (.int d), .val (.ref a), u12, u13, u14] [(.int b), (.int (Int32.ofNat jq)), (.int (Int32.ofNat 5)), (.ref a)])) _
  refine XS.iload X0.here hx rfl (hb hby at_164) rfl ?_
  show Steps p.tables e below (T.setTop (mkF m 166 #[.val (.int i0), .val (.int i1), .val (.int i2), .val (.int i3), .val (.int i4), .val (.int nn), .val (.int (Int32.ofNat jq)), .val (.int b), .val (.int w), .val (.int i9), .val (.int d), .val (.ref a), u12, u13, u14] [(.int w), (.int b), (.int (Int32.ofNat jq)), (.int (Int32.ofNat 5)), (.ref a)])) _
  refine XS.iload X0.here hx rfl (hb hby at_166) rfl ?_
  show Steps p.tables e below (T.setTop (mkF m 168 #[.val (.int i0), .val (.int i1), .val (.int i2), .val (.int i3), .val (.int i4), .val (.int nn), .val (.int (Int32.ofNat jq)), .val (.int b), .val (.int w), .val (.int i9), .val (.int d), .val (.ref a), u12, u13, u14] [(.int d), (.int w), (.int b), (.int (Int32.ofNat jq)), (.int (Int32.ofNat 5)), (.ref a)])) _
  exact st.trans kt
theorem own_p6 {p : Program} {l : Launch} {e : Env} {s : State} {m : MethodId} {args : Array Value} {below : List Frame} {meth : Method} {c : Code} {Z : State} {a0 : Array Value} {n0 cb sb : Nat} {h0 : Heap} {G1 : Int32} {G3 : Value} {T : State} {a : Addr} {ka : ClassId} {nn b w d : Int32} {jq : Nat} (hx : p.tables.exec = Jvm.exec) (hw : ∀ d ∈ tables_1, d.before a0 Z = true) (hEL : EW Z a0 EL) (rG3 : G3.isRef = true) (P5 : ¬ G1 = 0) (O2 : Sta Z Z.heap "java/lang/String" "COMPACT_STRINGS" "Z" (.int G1)) (O4 : Sta Z Z.heap "jdk/internal/util/Preconditions" "SIOOBE_FORMATTER" "Ljava/util/function/BiFunction;" G3) (hby : c.code = code) (hml : c.maxLocals = 15) (ga : n0 ≤ a) (hcb : cb ≤ 5) (hsb : sb ≤ 242) (i0 i1 i2 i3 i4 i9 : Int32) (u12 u13 u14 : Slot) (P : own_L Z p l e s m args below meth c n0 h0 cb sb a ka nn (own_cont 6 (Int32.ofNat jq) b w d) T) :
    ∃ T', own_L Z p l e s m args below meth c n0 h0 cb sb a ka nn (own_cont 7 (Int32.ofNat jq) b w d) T' ∧ ∀ target, Steps p.tables e below (T'.setTop (mkF m 186 #[.val (.int i0), .val (.int i1), .val (.int i2), .val (.int i3), .val (.int i4), .val (.int nn), .val (.int (Int32.ofNat jq)), .val (.int b), .val (.int w), .val (.int i9), .val (.int d), .val (.ref a), u12, u13, u14] [])) target → Steps p.tables e below (T.setTop (mkF m 171 #[.val (.int i0), .val (.int i1), .val (.int i2), .val (.int i3), .val (.int i4), .val (.int nn), .val (.int (Int32.ofNat jq)), .val (.int b), .val (.int w), .val (.int i9), .val (.int d), .val (.ref a), u12, u13, u14] [])) target := by
  obtain ⟨T', P', st⟩ := own_putcall hx hw hEL rG3 P5 O2 O4 hby hml ga hcb hsb 6 (by decide) P 183 #[.val (.int i0), .val (.int i1), .val (.int i2), .val (.int i3), .val (.int i4), .val (.int nn), .val (.int (Int32.ofNat jq)), .val (.int b), .val (.int w), .val (.int i9), .val (.int d), .val (.ref a), u12, u13, u14] rfl at_183 (own_cont 7 (Int32.ofNat jq) b w d) rfl
  obtain ⟨_, _, _, ⟨X0, -⟩, -⟩ := P
  refine ⟨T', P', fun target kt => ?_⟩
  show Steps p.tables e below (T.setTop (mkF m 171 #[.val (.int i0), .val (.int i1), .val (.int i2), .val (.int i3), .val (.int i4), .val (.int nn), .val (.int (Int32.ofNat jq)), .val (.int b), .val (.int w), .val (.int i9), .val (.int d), .val (.ref a), u12, u13, u14] [])) _
  refine XS.aload X0.here hx rfl (hb hby at_171) rfl rfl ?_
  show Steps p.tables e below (T.setTop (mkF m 173 #[.val (.int i0), .val (.int i1), .val (.int i2), .val (.int i3), .val (.int i4), .val (.int nn), .val (.int (Int32.ofNat jq)), .val (.int b), .val (.int w), .val (.int i9), .val (.int d), .val (.ref a), u12, u13, u14] [(.ref a)])) _
  refine XS.bipush X0.here hx rfl (hb hby at_173) ?_
  show Steps p.tables e below (T.setTop (mkF m 175 #[.val (.int i0), .val (.int i1), .val (.int i2), .val (.int i3), .val (.int i4), .val (.int nn), .val (.int (Int32.ofNat jq)), .val (.int b), .val (.int w), .val (.int i9), .val (.int d), .val (.ref a), u12, u13, u14] [(.int (Int32.ofNat 6)), (.ref a)])) _
  refine XS.iload X0.here hx rfl (hb hby at_175) rfl ?_
  show Steps p.tables e below (T.setTop (mkF m 177 #[.val (.int i0), .val (.int i1), .val (.int i2), .val (.int i3), .val (.int i4), .val (.int nn), .val (.int (Int32.ofNat jq)), .val (.int b), .val (.int w), .val (.int i9), .val (.int d), .val (.ref a), u12, u13, u14] [(.int (Int32.ofNat jq)), (.int (Int32.ofNat 6)), (.ref a)])) _
  refine XS.iload X0.here hx rfl (hb hby at_177) rfl ?_
  show Steps p.tables e below (T.setTop (mkF m 179 #[.val (.int i0), .val (.int i1), .val (.int i2), .val (.int i3), .val (.int i4), .val (.int nn), .val (.int (Int32.ofNat jq)), .val (.int b), .val (.int w), .val (.int i9), .val (.int d), .val (.ref a), u12, u13, u14] [(.int b), (.int (Int32.ofNat jq)), (.int (Int32.ofNat 6)), (.ref a)])) _
  refine XS.iload X0.here hx rfl (hb hby at_179) rfl ?_
  show Steps p.tables e below (T.setTop (mkF m 181 #[.val (.int i0), .val (.int i1), .val (.int i2), .val (.int i3), .val (.int i4), .val (.int nn), .val (.int (Int32.ofNat jq)), .val (.int b), .val (.int w), .val (.int i9), .val (.int d), .val (.ref a), u12, u13, u14] [(.int w), (.int b), (.int (Int32.ofNat jq)), (.int (Int32.ofNat 6)), (.ref a)])) _
  refine XS.iload X0.here hx rfl (hb hby at_181) rfl ?_
  show Steps p.tables e below (T.setTop (mkF m 183 #[.val (.int i0), .val (.int i1), .val (.int i2), .val (.int i3), .val (.int i4), .val (.int nn), .val (.int (Int32.ofNat jq)), .val (.int b), .val (.int w), .val (.int i9), .val (.int d), .val (.ref a), u12, u13, u14] [(.int d), (.int w), (.int b), (.int (Int32.ofNat jq)), (.int (Int32.ofNat 6)), (.ref a)])) _
  exact st.trans kt
theorem own_p7 {p : Program} {l : Launch} {e : Env} {s : State} {m : MethodId} {args : Array Value} {below : List Frame} {meth : Method} {c : Code} {Z : State} {a0 : Array Value} {n0 cb sb : Nat} {h0 : Heap} {G1 : Int32} {G3 : Value} {T : State} {a : Addr} {ka : ClassId} {nn b w d : Int32} {jq : Nat} (hx : p.tables.exec = Jvm.exec) (hw : ∀ d ∈ tables_1, d.before a0 Z = true) (hEL : EW Z a0 EL) (rG3 : G3.isRef = true) (P5 : ¬ G1 = 0) (O2 : Sta Z Z.heap "java/lang/String" "COMPACT_STRINGS" "Z" (.int G1)) (O4 : Sta Z Z.heap "jdk/internal/util/Preconditions" "SIOOBE_FORMATTER" "Ljava/util/function/BiFunction;" G3) (hby : c.code = code) (hml : c.maxLocals = 15) (ga : n0 ≤ a) (hcb : cb ≤ 5) (hsb : sb ≤ 242) (i0 i1 i2 i3 i4 i9 : Int32) (u12 u13 u14 : Slot) (P : own_L Z p l e s m args below meth c n0 h0 cb sb a ka nn (own_cont 7 (Int32.ofNat jq) b w d) T) :
    ∃ T', own_L Z p l e s m args below meth c n0 h0 cb sb a ka nn (own_cont 8 (Int32.ofNat jq) b w d) T' ∧ ∀ target, Steps p.tables e below (T'.setTop (mkF m 201 #[.val (.int i0), .val (.int i1), .val (.int i2), .val (.int i3), .val (.int i4), .val (.int nn), .val (.int (Int32.ofNat jq)), .val (.int b), .val (.int w), .val (.int i9), .val (.int d), .val (.ref a), u12, u13, u14] [])) target → Steps p.tables e below (T.setTop (mkF m 186 #[.val (.int i0), .val (.int i1), .val (.int i2), .val (.int i3), .val (.int i4), .val (.int nn), .val (.int (Int32.ofNat jq)), .val (.int b), .val (.int w), .val (.int i9), .val (.int d), .val (.ref a), u12, u13, u14] [])) target := by
  obtain ⟨T', P', st⟩ := own_putcall hx hw hEL rG3 P5 O2 O4 hby hml ga hcb hsb 7 (by decide) P 198 #[.val (.int i0), .val (.int i1), .val (.int i2), .val (.int i3), .val (.int i4), .val (.int nn), .val (.int (Int32.ofNat jq)), .val (.int b), .val (.int w), .val (.int i9), .val (.int d), .val (.ref a), u12, u13, u14] rfl at_198 (own_cont 8 (Int32.ofNat jq) b w d) rfl
  obtain ⟨_, _, _, ⟨X0, -⟩, -⟩ := P
  refine ⟨T', P', fun target kt => ?_⟩
  show Steps p.tables e below (T.setTop (mkF m 186 #[.val (.int i0), .val (.int i1), .val (.int i2), .val (.int i3), .val (.int i4), .val (.int nn), .val (.int (Int32.ofNat jq)), .val (.int b), .val (.int w), .val (.int i9), .val (.int d), .val (.ref a), u12, u13, u14] [])) _
  refine XS.aload X0.here hx rfl (hb hby at_186) rfl rfl ?_
  show Steps p.tables e below (T.setTop (mkF m 188 #[.val (.int i0), .val (.int i1), .val (.int i2), .val (.int i3), .val (.int i4), .val (.int nn), .val (.int (Int32.ofNat jq)), .val (.int b), .val (.int w), .val (.int i9), .val (.int d), .val (.ref a), u12, u13, u14] [(.ref a)])) _
  refine XS.bipush X0.here hx rfl (hb hby at_188) ?_
  show Steps p.tables e below (T.setTop (mkF m 190 #[.val (.int i0), .val (.int i1), .val (.int i2), .val (.int i3), .val (.int i4), .val (.int nn), .val (.int (Int32.ofNat jq)), .val (.int b), .val (.int w), .val (.int i9), .val (.int d), .val (.ref a), u12, u13, u14] [(.int (Int32.ofNat 7)), (.ref a)])) _
  refine XS.iload X0.here hx rfl (hb hby at_190) rfl ?_
  show Steps p.tables e below (T.setTop (mkF m 192 #[.val (.int i0), .val (.int i1), .val (.int i2), .val (.int i3), .val (.int i4), .val (.int nn), .val (.int (Int32.ofNat jq)), .val (.int b), .val (.int w), .val (.int i9), .val (.int d), .val (.ref a), u12, u13, u14] [(.int (Int32.ofNat jq)), (.int (Int32.ofNat 7)), (.ref a)])) _
  refine XS.iload X0.here hx rfl (hb hby at_192) rfl ?_
  show Steps p.tables e below (T.setTop (mkF m 194 #[.val (.int i0), .val (.int i1), .val (.int i2), .val (.int i3), .val (.int i4), .val (.int nn), .val (.int (Int32.ofNat jq)), .val (.int b), .val (.int w), .val (.int i9), .val (.int d), .val (.ref a), u12, u13, u14] [(.int b), (.int (Int32.ofNat jq)), (.int (Int32.ofNat 7)), (.ref a)])) _
  refine XS.iload X0.here hx rfl (hb hby at_194) rfl ?_
  show Steps p.tables e below (T.setTop (mkF m 196 #[.val (.int i0), .val (.int i1), .val (.int i2), .val (.int i3), .val (.int i4), .val (.int nn), .val (.int (Int32.ofNat jq)), .val (.int b), .val (.int w), .val (.int i9), .val (.int d), .val (.ref a), u12, u13, u14] [(.int w), (.int b), (.int (Int32.ofNat jq)), (.int (Int32.ofNat 7)), (.ref a)])) _
  refine XS.iload X0.here hx rfl (hb hby at_196) rfl ?_
  show Steps p.tables e below (T.setTop (mkF m 198 #[.val (.int i0), .val (.int i1), .val (.int i2), .val (.int i3), .val (.int i4), .val (.int nn), .val (.int (Int32.ofNat jq)), .val (.int b), .val (.int w), .val (.int i9), .val (.int d), .val (.ref a), u12, u13, u14] [(.int d), (.int w), (.int b), (.int (Int32.ofNat jq)), (.int (Int32.ofNat 7)), (.ref a)])) _
  exact st.trans kt
theorem own_p8 {p : Program} {l : Launch} {e : Env} {s : State} {m : MethodId} {args : Array Value} {below : List Frame} {meth : Method} {c : Code} {Z : State} {a0 : Array Value} {n0 cb sb : Nat} {h0 : Heap} {G1 : Int32} {G3 : Value} {T : State} {a : Addr} {ka : ClassId} {nn b w d : Int32} {jq : Nat} (hx : p.tables.exec = Jvm.exec) (hw : ∀ d ∈ tables_1, d.before a0 Z = true) (hEL : EW Z a0 EL) (rG3 : G3.isRef = true) (P5 : ¬ G1 = 0) (O2 : Sta Z Z.heap "java/lang/String" "COMPACT_STRINGS" "Z" (.int G1)) (O4 : Sta Z Z.heap "jdk/internal/util/Preconditions" "SIOOBE_FORMATTER" "Ljava/util/function/BiFunction;" G3) (hby : c.code = code) (hml : c.maxLocals = 15) (ga : n0 ≤ a) (hcb : cb ≤ 5) (hsb : sb ≤ 242) (i0 i1 i2 i3 i4 i9 : Int32) (u12 u13 u14 : Slot) (P : own_L Z p l e s m args below meth c n0 h0 cb sb a ka nn (own_cont 8 (Int32.ofNat jq) b w d) T) :
    ∃ T', own_L Z p l e s m args below meth c n0 h0 cb sb a ka nn (own_cont 9 (Int32.ofNat jq) b w d) T' ∧ ∀ target, Steps p.tables e below (T'.setTop (mkF m 216 #[.val (.int i0), .val (.int i1), .val (.int i2), .val (.int i3), .val (.int i4), .val (.int nn), .val (.int (Int32.ofNat jq)), .val (.int b), .val (.int w), .val (.int i9), .val (.int d), .val (.ref a), u12, u13, u14] [])) target → Steps p.tables e below (T.setTop (mkF m 201 #[.val (.int i0), .val (.int i1), .val (.int i2), .val (.int i3), .val (.int i4), .val (.int nn), .val (.int (Int32.ofNat jq)), .val (.int b), .val (.int w), .val (.int i9), .val (.int d), .val (.ref a), u12, u13, u14] [])) target := by
  obtain ⟨T', P', st⟩ := own_putcall hx hw hEL rG3 P5 O2 O4 hby hml ga hcb hsb 8 (by decide) P 213 #[.val (.int i0), .val (.int i1), .val (.int i2), .val (.int i3), .val (.int i4), .val (.int nn), .val (.int (Int32.ofNat jq)), .val (.int b), .val (.int w), .val (.int i9), .val (.int d), .val (.ref a), u12, u13, u14] rfl at_213 (own_cont 9 (Int32.ofNat jq) b w d) rfl
  obtain ⟨_, _, _, ⟨X0, -⟩, -⟩ := P
  refine ⟨T', P', fun target kt => ?_⟩
  show Steps p.tables e below (T.setTop (mkF m 201 #[.val (.int i0), .val (.int i1), .val (.int i2), .val (.int i3), .val (.int i4), .val (.int nn), .val (.int (Int32.ofNat jq)), .val (.int b), .val (.int w), .val (.int i9), .val (.int d), .val (.ref a), u12, u13, u14] [])) _
  refine XS.aload X0.here hx rfl (hb hby at_201) rfl rfl ?_
  show Steps p.tables e below (T.setTop (mkF m 203 #[.val (.int i0), .val (.int i1), .val (.int i2), .val (.int i3), .val (.int i4), .val (.int nn), .val (.int (Int32.ofNat jq)), .val (.int b), .val (.int w), .val (.int i9), .val (.int d), .val (.ref a), u12, u13, u14] [(.ref a)])) _
  refine XS.bipush X0.here hx rfl (hb hby at_203) ?_
  show Steps p.tables e below (T.setTop (mkF m 205 #[.val (.int i0), .val (.int i1), .val (.int i2), .val (.int i3), .val (.int i4), .val (.int nn), .val (.int (Int32.ofNat jq)), .val (.int b), .val (.int w), .val (.int i9), .val (.int d), .val (.ref a), u12, u13, u14] [(.int (Int32.ofNat 8)), (.ref a)])) _
  refine XS.iload X0.here hx rfl (hb hby at_205) rfl ?_
  show Steps p.tables e below (T.setTop (mkF m 207 #[.val (.int i0), .val (.int i1), .val (.int i2), .val (.int i3), .val (.int i4), .val (.int nn), .val (.int (Int32.ofNat jq)), .val (.int b), .val (.int w), .val (.int i9), .val (.int d), .val (.ref a), u12, u13, u14] [(.int (Int32.ofNat jq)), (.int (Int32.ofNat 8)), (.ref a)])) _
  refine XS.iload X0.here hx rfl (hb hby at_207) rfl ?_
  show Steps p.tables e below (T.setTop (mkF m 209 #[.val (.int i0), .val (.int i1), .val (.int i2), .val (.int i3), .val (.int i4), .val (.int nn), .val (.int (Int32.ofNat jq)), .val (.int b), .val (.int w), .val (.int i9), .val (.int d), .val (.ref a), u12, u13, u14] [(.int b), (.int (Int32.ofNat jq)), (.int (Int32.ofNat 8)), (.ref a)])) _
  refine XS.iload X0.here hx rfl (hb hby at_209) rfl ?_
  show Steps p.tables e below (T.setTop (mkF m 211 #[.val (.int i0), .val (.int i1), .val (.int i2), .val (.int i3), .val (.int i4), .val (.int nn), .val (.int (Int32.ofNat jq)), .val (.int b), .val (.int w), .val (.int i9), .val (.int d), .val (.ref a), u12, u13, u14] [(.int w), (.int b), (.int (Int32.ofNat jq)), (.int (Int32.ofNat 8)), (.ref a)])) _
  refine XS.iload X0.here hx rfl (hb hby at_211) rfl ?_
  show Steps p.tables e below (T.setTop (mkF m 213 #[.val (.int i0), .val (.int i1), .val (.int i2), .val (.int i3), .val (.int i4), .val (.int nn), .val (.int (Int32.ofNat jq)), .val (.int b), .val (.int w), .val (.int i9), .val (.int d), .val (.ref a), u12, u13, u14] [(.int d), (.int w), (.int b), (.int (Int32.ofNat jq)), (.int (Int32.ofNat 8)), (.ref a)])) _
  exact st.trans kt
theorem own_p9 {p : Program} {l : Launch} {e : Env} {s : State} {m : MethodId} {args : Array Value} {below : List Frame} {meth : Method} {c : Code} {Z : State} {a0 : Array Value} {n0 cb sb : Nat} {h0 : Heap} {G1 : Int32} {G3 : Value} {T : State} {a : Addr} {ka : ClassId} {nn b w d : Int32} {jq : Nat} (hx : p.tables.exec = Jvm.exec) (hw : ∀ d ∈ tables_1, d.before a0 Z = true) (hEL : EW Z a0 EL) (rG3 : G3.isRef = true) (P5 : ¬ G1 = 0) (O2 : Sta Z Z.heap "java/lang/String" "COMPACT_STRINGS" "Z" (.int G1)) (O4 : Sta Z Z.heap "jdk/internal/util/Preconditions" "SIOOBE_FORMATTER" "Ljava/util/function/BiFunction;" G3) (hby : c.code = code) (hml : c.maxLocals = 15) (ga : n0 ≤ a) (hcb : cb ≤ 5) (hsb : sb ≤ 242) (i0 i1 i2 i3 i4 i9 : Int32) (u12 u13 u14 : Slot) (P : own_L Z p l e s m args below meth c n0 h0 cb sb a ka nn (own_cont 9 (Int32.ofNat jq) b w d) T) :
    ∃ T', own_L Z p l e s m args below meth c n0 h0 cb sb a ka nn (own_cont 10 (Int32.ofNat jq) b w d) T' ∧ ∀ target, Steps p.tables e below (T'.setTop (mkF m 231 #[.val (.int i0), .val (.int i1), .val (.int i2), .val (.int i3), .val (.int i4), .val (.int nn), .val (.int (Int32.ofNat jq)), .val (.int b), .val (.int w), .val (.int i9), .val (.int d), .val (.ref a), u12, u13, u14] [])) target → Steps p.tables e below (T.setTop (mkF m 216 #[.val (.int i0), .val (.int i1), .val (.int i2), .val (.int i3), .val (.int i4), .val (.int nn), .val (.int (Int32.ofNat jq)), .val (.int b), .val (.int w), .val (.int i9), .val (.int d), .val (.ref a), u12, u13, u14] [])) target := by
  obtain ⟨T', P', st⟩ := own_putcall hx hw hEL rG3 P5 O2 O4 hby hml ga hcb hsb 9 (by decide) P 228 #[.val (.int i0), .val (.int i1), .val (.int i2), .val (.int i3), .val (.int i4), .val (.int nn), .val (.int (Int32.ofNat jq)), .val (.int b), .val (.int w), .val (.int i9), .val (.int d), .val (.ref a), u12, u13, u14] rfl at_228 (own_cont 10 (Int32.ofNat jq) b w d) rfl
  obtain ⟨_, _, _, ⟨X0, -⟩, -⟩ := P
  refine ⟨T', P', fun target kt => ?_⟩
  show Steps p.tables e below (T.setTop (mkF m 216 #[.val (.int i0), .val (.int i1), .val (.int i2), .val (.int i3), .val (.int i4), .val (.int nn), .val (.int (Int32.ofNat jq)), .val (.int b), .val (.int w), .val (.int i9), .val (.int d), .val (.ref a), u12, u13, u14] [])) _
  refine XS.aload X0.here hx rfl (hb hby at_216) rfl rfl ?_
  show Steps p.tables e below (T.setTop (mkF m 218 #[.val (.int i0), .val (.int i1), .val (.int i2), .val (.int i3), .val (.int i4), .val (.int nn), .val (.int (Int32.ofNat jq)), .val (.int b), .val (.int w), .val (.int i9), .val (.int d), .val (.ref a), u12, u13, u14] [(.ref a)])) _
  refine XS.bipush X0.here hx rfl (hb hby at_218) ?_
  show Steps p.tables e below (T.setTop (mkF m 220 #[.val (.int i0), .val (.int i1), .val (.int i2), .val (.int i3), .val (.int i4), .val (.int nn), .val (.int (Int32.ofNat jq)), .val (.int b), .val (.int w), .val (.int i9), .val (.int d), .val (.ref a), u12, u13, u14] [(.int (Int32.ofNat 9)), (.ref a)])) _
  refine XS.iload X0.here hx rfl (hb hby at_220) rfl ?_
  show Steps p.tables e below (T.setTop (mkF m 222 #[.val (.int i0), .val (.int i1), .val (.int i2), .val (.int i3), .val (.int i4), .val (.int nn), .val (.int (Int32.ofNat jq)), .val (.int b), .val (.int w), .val (.int i9), .val (.int d), .val (.ref a), u12, u13, u14] [(.int (Int32.ofNat jq)), (.int (Int32.ofNat 9)), (.ref a)])) _
  refine XS.iload X0.here hx rfl (hb hby at_222) rfl ?_
  show Steps p.tables e below (T.setTop (mkF m 224 #[.val (.int i0), .val (.int i1), .val (.int i2), .val (.int i3), .val (.int i4), .val (.int nn), .val (.int (Int32.ofNat jq)), .val (.int b), .val (.int w), .val (.int i9), .val (.int d), .val (.ref a), u12, u13, u14] [(.int b), (.int (Int32.ofNat jq)), (.int (Int32.ofNat 9)), (.ref a)])) _
  refine XS.iload X0.here hx rfl (hb hby at_224) rfl ?_
  show Steps p.tables e below (T.setTop (mkF m 226 #[.val (.int i0), .val (.int i1), .val (.int i2), .val (.int i3), .val (.int i4), .val (.int nn), .val (.int (Int32.ofNat jq)), .val (.int b), .val (.int w), .val (.int i9), .val (.int d), .val (.ref a), u12, u13, u14] [(.int w), (.int b), (.int (Int32.ofNat jq)), (.int (Int32.ofNat 9)), (.ref a)])) _
  refine XS.iload X0.here hx rfl (hb hby at_226) rfl ?_
  show Steps p.tables e below (T.setTop (mkF m 228 #[.val (.int i0), .val (.int i1), .val (.int i2), .val (.int i3), .val (.int i4), .val (.int nn), .val (.int (Int32.ofNat jq)), .val (.int b), .val (.int w), .val (.int i9), .val (.int d), .val (.ref a), u12, u13, u14] [(.int d), (.int w), (.int b), (.int (Int32.ofNat jq)), (.int (Int32.ofNat 9)), (.ref a)])) _
  exact st.trans kt
theorem own_p10 {p : Program} {l : Launch} {e : Env} {s : State} {m : MethodId} {args : Array Value} {below : List Frame} {meth : Method} {c : Code} {Z : State} {a0 : Array Value} {n0 cb sb : Nat} {h0 : Heap} {G1 : Int32} {G3 : Value} {T : State} {a : Addr} {ka : ClassId} {nn b w d : Int32} {jq : Nat} (hx : p.tables.exec = Jvm.exec) (hw : ∀ d ∈ tables_1, d.before a0 Z = true) (hEL : EW Z a0 EL) (rG3 : G3.isRef = true) (P5 : ¬ G1 = 0) (O2 : Sta Z Z.heap "java/lang/String" "COMPACT_STRINGS" "Z" (.int G1)) (O4 : Sta Z Z.heap "jdk/internal/util/Preconditions" "SIOOBE_FORMATTER" "Ljava/util/function/BiFunction;" G3) (hby : c.code = code) (hml : c.maxLocals = 15) (ga : n0 ≤ a) (hcb : cb ≤ 5) (hsb : sb ≤ 242) (i0 i1 i2 i3 i4 i9 : Int32) (u12 u13 u14 : Slot) (P : own_L Z p l e s m args below meth c n0 h0 cb sb a ka nn (own_cont 10 (Int32.ofNat jq) b w d) T) :
    ∃ T', own_L Z p l e s m args below meth c n0 h0 cb sb a ka nn (own_cont 11 (Int32.ofNat jq) b w d) T' ∧ ∀ target, Steps p.tables e below (T'.setTop (mkF m 246 #[.val (.int i0), .val (.int i1), .val (.int i2), .val (.int i3), .val (.int i4), .val (.int nn), .val (.int (Int32.ofNat jq)), .val (.int b), .val (.int w), .val (.int i9), .val (.int d), .val (.ref a), u12, u13, u14] [])) target → Steps p.tables e below (T.setTop (mkF m 231 #[.val (.int i0), .val (.int i1), .val (.int i2), .val (.int i3), .val (.int i4), .val (.int nn), .val (.int (Int32.ofNat jq)), .val (.int b), .val (.int w), .val (.int i9), .val (.int d), .val (.ref a), u12, u13, u14] [])) target := by
  obtain ⟨T', P', st⟩ := own_putcall hx hw hEL rG3 P5 O2 O4 hby hml ga hcb hsb 10 (by decide) P 243 #[.val (.int i0), .val (.int i1), .val (.int i2), .val (.int i3), .val (.int i4), .val (.int nn), .val (.int (Int32.ofNat jq)), .val (.int b), .val (.int w), .val (.int i9), .val (.int d), .val (.ref a), u12, u13, u14] rfl at_243 (own_cont 11 (Int32.ofNat jq) b w d) rfl
  obtain ⟨_, _, _, ⟨X0, -⟩, -⟩ := P
  refine ⟨T', P', fun target kt => ?_⟩
  show Steps p.tables e below (T.setTop (mkF m 231 #[.val (.int i0), .val (.int i1), .val (.int i2), .val (.int i3), .val (.int i4), .val (.int nn), .val (.int (Int32.ofNat jq)), .val (.int b), .val (.int w), .val (.int i9), .val (.int d), .val (.ref a), u12, u13, u14] [])) _
  refine XS.aload X0.here hx rfl (hb hby at_231) rfl rfl ?_
  show Steps p.tables e below (T.setTop (mkF m 233 #[.val (.int i0), .val (.int i1), .val (.int i2), .val (.int i3), .val (.int i4), .val (.int nn), .val (.int (Int32.ofNat jq)), .val (.int b), .val (.int w), .val (.int i9), .val (.int d), .val (.ref a), u12, u13, u14] [(.ref a)])) _
  refine XS.bipush X0.here hx rfl (hb hby at_233) ?_
  show Steps p.tables e below (T.setTop (mkF m 235 #[.val (.int i0), .val (.int i1), .val (.int i2), .val (.int i3), .val (.int i4), .val (.int nn), .val (.int (Int32.ofNat jq)), .val (.int b), .val (.int w), .val (.int i9), .val (.int d), .val (.ref a), u12, u13, u14] [(.int (Int32.ofNat 10)), (.ref a)])) _
  refine XS.iload X0.here hx rfl (hb hby at_235) rfl ?_
  show Steps p.tables e below (T.setTop (mkF m 237 #[.val (.int i0), .val (.int i1), .val (.int i2), .val (.int i3), .val (.int i4), .val (.int nn), .val (.int (Int32.ofNat jq)), .val (.int b), .val (.int w), .val (.int i9), .val (.int d), .val (.ref a), u12, u13, u14] [(.int (Int32.ofNat jq)), (.int (Int32.ofNat 10)), (.ref a)])) _
  refine XS.iload X0.here hx rfl (hb hby at_237) rfl ?_
  show Steps p.tables e below (T.setTop (mkF m 239 #[.val (.int i0), .val (.int i1), .val (.int i2), .val (.int i3), .val (.int i4), .val (.int nn), .val (.int (Int32.ofNat jq)), .val (.int b), .val (.int w), .val (.int i9), .val (.int d), .val (.ref a), u12, u13, u14] [(.int b), (.int (Int32.ofNat jq)), (.int (Int32.ofNat 10)), (.ref a)])) _
  refine XS.iload X0.here hx rfl (hb hby at_239) rfl ?_
  show Steps p.tables e below (T.setTop (mkF m 241 #[.val (.int i0), .val (.int i1), .val (.int i2), .val (.int i3), .val (.int i4), .val (.int nn), .val (.int (Int32.ofNat jq)), .val (.int b), .val (.int w), .val (.int i9), .val (.int d), .val (.ref a), u12, u13, u14] [(.int w), (.int b), (.int (Int32.ofNat jq)), (.int (Int32.ofNat 10)), (.ref a)])) _
  refine XS.iload X0.here hx rfl (hb hby at_241) rfl ?_
  show Steps p.tables e below (T.setTop (mkF m 243 #[.val (.int i0), .val (.int i1), .val (.int i2), .val (.int i3), .val (.int i4), .val (.int nn), .val (.int (Int32.ofNat jq)), .val (.int b), .val (.int w), .val (.int i9), .val (.int d), .val (.ref a), u12, u13, u14] [(.int d), (.int w), (.int b), (.int (Int32.ofNat jq)), (.int (Int32.ofNat 10)), (.ref a)])) _
  exact st.trans kt
theorem own_p11 {p : Program} {l : Launch} {e : Env} {s : State} {m : MethodId} {args : Array Value} {below : List Frame} {meth : Method} {c : Code} {Z : State} {a0 : Array Value} {n0 cb sb : Nat} {h0 : Heap} {G1 : Int32} {G3 : Value} {T : State} {a : Addr} {ka : ClassId} {nn b w d : Int32} {jq : Nat} (hx : p.tables.exec = Jvm.exec) (hw : ∀ d ∈ tables_1, d.before a0 Z = true) (hEL : EW Z a0 EL) (rG3 : G3.isRef = true) (P5 : ¬ G1 = 0) (O2 : Sta Z Z.heap "java/lang/String" "COMPACT_STRINGS" "Z" (.int G1)) (O4 : Sta Z Z.heap "jdk/internal/util/Preconditions" "SIOOBE_FORMATTER" "Ljava/util/function/BiFunction;" G3) (hby : c.code = code) (hml : c.maxLocals = 15) (ga : n0 ≤ a) (hcb : cb ≤ 5) (hsb : sb ≤ 242) (i0 i1 i2 i3 i4 i9 : Int32) (u12 u13 u14 : Slot) (P : own_L Z p l e s m args below meth c n0 h0 cb sb a ka nn (own_cont 11 (Int32.ofNat jq) b w d) T) :
    ∃ T', own_L Z p l e s m args below meth c n0 h0 cb sb a ka nn (own_cont 12 (Int32.ofNat jq) b w d) T' ∧ ∀ target, Steps p.tables e below (T'.setTop (mkF m 261 #[.val (.int i0), .val (.int i1), .val (.int i2), .val (.int i3), .val (.int i4), .val (.int nn), .val (.int (Int32.ofNat jq)), .val (.int b), .val (.int w), .val (.int i9), .val (.int d), .val (.ref a), u12, u13, u14] [])) target → Steps p.tables e below (T.setTop (mkF m 246 #[.val (.int i0), .val (.int i1), .val (.int i2), .val (.int i3), .val (.int i4), .val (.int nn), .val (.int (Int32.ofNat jq)), .val (.int b), .val (.int w), .val (.int i9), .val (.int d), .val (.ref a), u12, u13, u14] [])) target := by
  obtain ⟨T', P', st⟩ := own_putcall hx hw hEL rG3 P5 O2 O4 hby hml ga hcb hsb 11 (by decide) P 258 #[.val (.int i0), .val (.int i1), .val (.int i2), .val (.int i3), .val (.int i4), .val (.int nn), .val (.int (Int32.ofNat jq)), .val (.int b), .val (.int w), .val (.int i9), .val (.int d), .val (.ref a), u12, u13, u14] rfl at_258 (own_cont 12 (Int32.ofNat jq) b w d) rfl
  obtain ⟨_, _, _, ⟨X0, -⟩, -⟩ := P
  refine ⟨T', P', fun target kt => ?_⟩
  show Steps p.tables e below (T.setTop (mkF m 246 #[.val (.int i0), .val (.int i1), .val (.int i2), .val (.int i3), .val (.int i4), .val (.int nn), .val (.int (Int32.ofNat jq)), .val (.int b), .val (.int w), .val (.int i9), .val (.int d), .val (.ref a), u12, u13, u14] [])) _
  refine XS.aload X0.here hx rfl (hb hby at_246) rfl rfl ?_
  show Steps p.tables e below (T.setTop (mkF m 248 #[.val (.int i0), .val (.int i1), .val (.int i2), .val (.int i3), .val (.int i4), .val (.int nn), .val (.int (Int32.ofNat jq)), .val (.int b), .val (.int w), .val (.int i9), .val (.int d), .val (.ref a), u12, u13, u14] [(.ref a)])) _
  refine XS.bipush X0.here hx rfl (hb hby at_248) ?_
  show Steps p.tables e below (T.setTop (mkF m 250 #[.val (.int i0), .val (.int i1), .val (.int i2), .val (.int i3), .val (.int i4), .val (.int nn), .val (.int (Int32.ofNat jq)), .val (.int b), .val (.int w), .val (.int i9), .val (.int d), .val (.ref a), u12, u13, u14] [(.int (Int32.ofNat 11)), (.ref a)])) _
  refine XS.iload X0.here hx rfl (hb hby at_250) rfl ?_
  show Steps p.tables e below (T.setTop (mkF m 252 #[.val (.int i0), .val (.int i1), .val (.int i2), .val (.int i3), .val (.int i4), .val (.int nn), .val (.int (Int32.ofNat jq)), .val (.int b), .val (.int w), .val (.int i9), .val (.int d), .val (.ref a), u12, u13, u14] [(.int (Int32.ofNat jq)), (.int (Int32.ofNat 11)), (.ref a)])) _
  refine XS.iload X0.here hx rfl (hb hby at_252) rfl ?_
  show Steps p.tables e below (T.setTop (mkF m 254 #[.val (.int i0), .val (.int i1), .val (.int i2), .val (.int i3), .val (.int i4), .val (.int nn), .val (.int (Int32.ofNat jq)), .val (.int b), .val (.int w), .val (.int i9), .val (.int d), .val (.ref a), u12, u13, u14] [(.int b), (.int (Int32.ofNat jq)), (.int (Int32.ofNat 11)), (.ref a)])) _
  refine XS.iload X0.here hx rfl (hb hby at_254) rfl ?_
  show Steps p.tables e below (T.setTop (mkF m 256 #[.val (.int i0), .val (.int i1), .val (.int i2), .val (.int i3), .val (.int i4), .val (.int nn), .val (.int (Int32.ofNat jq)), .val (.int b), .val (.int w), .val (.int i9), .val (.int d), .val (.ref a), u12, u13, u14] [(.int w), (.int b), (.int (Int32.ofNat jq)), (.int (Int32.ofNat 11)), (.ref a)])) _
  refine XS.iload X0.here hx rfl (hb hby at_256) rfl ?_
  show Steps p.tables e below (T.setTop (mkF m 258 #[.val (.int i0), .val (.int i1), .val (.int i2), .val (.int i3), .val (.int i4), .val (.int nn), .val (.int (Int32.ofNat jq)), .val (.int b), .val (.int w), .val (.int i9), .val (.int d), .val (.ref a), u12, u13, u14] [(.int d), (.int w), (.int b), (.int (Int32.ofNat jq)), (.int (Int32.ofNat 11)), (.ref a)])) _
  exact st.trans kt
theorem own_p12 {p : Program} {l : Launch} {e : Env} {s : State} {m : MethodId} {args : Array Value} {below : List Frame} {meth : Method} {c : Code} {Z : State} {a0 : Array Value} {n0 cb sb : Nat} {h0 : Heap} {G1 : Int32} {G3 : Value} {T : State} {a : Addr} {ka : ClassId} {nn b w d : Int32} {jq : Nat} (hx : p.tables.exec = Jvm.exec) (hw : ∀ d ∈ tables_1, d.before a0 Z = true) (hEL : EW Z a0 EL) (rG3 : G3.isRef = true) (P5 : ¬ G1 = 0) (O2 : Sta Z Z.heap "java/lang/String" "COMPACT_STRINGS" "Z" (.int G1)) (O4 : Sta Z Z.heap "jdk/internal/util/Preconditions" "SIOOBE_FORMATTER" "Ljava/util/function/BiFunction;" G3) (hby : c.code = code) (hml : c.maxLocals = 15) (ga : n0 ≤ a) (hcb : cb ≤ 5) (hsb : sb ≤ 242) (i0 i1 i2 i3 i4 i9 : Int32) (u12 u13 u14 : Slot) (P : own_L Z p l e s m args below meth c n0 h0 cb sb a ka nn (own_cont 12 (Int32.ofNat jq) b w d) T) :
    ∃ T', own_L Z p l e s m args below meth c n0 h0 cb sb a ka nn (own_cont 13 (Int32.ofNat jq) b w d) T' ∧ ∀ target, Steps p.tables e below (T'.setTop (mkF m 276 #[.val (.int i0), .val (.int i1), .val (.int i2), .val (.int i3), .val (.int i4), .val (.int nn), .val (.int (Int32.ofNat jq)), .val (.int b), .val (.int w), .val (.int i9), .val (.int d), .val (.ref a), u12, u13, u14] [])) target → Steps p.tables e below (T.setTop (mkF m 261 #[.val (.int i0), .val (.int i1), .val (.int i2), .val (.int i3), .val (.int i4), .val (.int nn), .val (.int (Int32.ofNat jq)), .val (.int b), .val (.int w), .val (.int i9), .val (.int d), .val (.ref a), u12, u13, u14] [])) target := by
  obtain ⟨T', P', st⟩ := own_putcall hx hw hEL rG3 P5 O2 O4 hby hml ga hcb hsb 12 (by decide) P 273 #[.val (.int i0), .val (.int i1), .val (.int i2), .val (.int i3), .val (.int i4), .val (.int nn), .val (.int (Int32.ofNat jq)), .val (.int b), .val (.int w), .val (.int i9), .val (.int d), .val (.ref a), u12, u13, u14] rfl at_273 (own_cont 13 (Int32.ofNat jq) b w d) rfl
  obtain ⟨_, _, _, ⟨X0, -⟩, -⟩ := P
  refine ⟨T', P', fun target kt => ?_⟩
  show Steps p.tables e below (T.setTop (mkF m 261 #[.val (.int i0), .val (.int i1), .val (.int i2), .val (.int i3), .val (.int i4), .val (.int nn), .val (.int (Int32.ofNat jq)), .val (.int b), .val (.int w), .val (.int i9), .val (.int d), .val (.ref a), u12, u13, u14] [])) _
  refine XS.aload X0.here hx rfl (hb hby at_261) rfl rfl ?_
  show Steps p.tables e below (T.setTop (mkF m 263 #[.val (.int i0), .val (.int i1), .val (.int i2), .val (.int i3), .val (.int i4), .val (.int nn), .val (.int (Int32.ofNat jq)), .val (.int b), .val (.int w), .val (.int i9), .val (.int d), .val (.ref a), u12, u13, u14] [(.ref a)])) _
  refine XS.bipush X0.here hx rfl (hb hby at_263) ?_
  show Steps p.tables e below (T.setTop (mkF m 265 #[.val (.int i0), .val (.int i1), .val (.int i2), .val (.int i3), .val (.int i4), .val (.int nn), .val (.int (Int32.ofNat jq)), .val (.int b), .val (.int w), .val (.int i9), .val (.int d), .val (.ref a), u12, u13, u14] [(.int (Int32.ofNat 12)), (.ref a)])) _
  refine XS.iload X0.here hx rfl (hb hby at_265) rfl ?_
  show Steps p.tables e below (T.setTop (mkF m 267 #[.val (.int i0), .val (.int i1), .val (.int i2), .val (.int i3), .val (.int i4), .val (.int nn), .val (.int (Int32.ofNat jq)), .val (.int b), .val (.int w), .val (.int i9), .val (.int d), .val (.ref a), u12, u13, u14] [(.int (Int32.ofNat jq)), (.int (Int32.ofNat 12)), (.ref a)])) _
  refine XS.iload X0.here hx rfl (hb hby at_267) rfl ?_
  show Steps p.tables e below (T.setTop (mkF m 269 #[.val (.int i0), .val (.int i1), .val (.int i2), .val (.int i3), .val (.int i4), .val (.int nn), .val (.int (Int32.ofNat jq)), .val (.int b), .val (.int w), .val (.int i9), .val (.int d), .val (.ref a), u12, u13, u14] [(.int b), (.int (Int32.ofNat jq)), (.int (Int32.ofNat 12)), (.ref a)])) _
  refine XS.iload X0.here hx rfl (hb hby at_269) rfl ?_
  show Steps p.tables e below (T.setTop (mkF m 271 #[.val (.int i0), .val (.int i1), .val (.int i2), .val (.int i3), .val (.int i4), .val (.int nn), .val (.int (Int32.ofNat jq)), .val (.int b), .val (.int w), .val (.int i9), .val (.int d), .val (.ref a), u12, u13, u14] [(.int w), (.int b), (.int (Int32.ofNat jq)), (.int (Int32.ofNat 12)), (.ref a)])) _
  refine XS.iload X0.here hx rfl (hb hby at_271) rfl ?_
  show Steps p.tables e below (T.setTop (mkF m 273 #[.val (.int i0), .val (.int i1), .val (.int i2), .val (.int i3), .val (.int i4), .val (.int nn), .val (.int (Int32.ofNat jq)), .val (.int b), .val (.int w), .val (.int i9), .val (.int d), .val (.ref a), u12, u13, u14] [(.int d), (.int w), (.int b), (.int (Int32.ofNat jq)), (.int (Int32.ofNat 12)), (.ref a)])) _
  exact st.trans kt
theorem own_p13 {p : Program} {l : Launch} {e : Env} {s : State} {m : MethodId} {args : Array Value} {below : List Frame} {meth : Method} {c : Code} {Z : State} {a0 : Array Value} {n0 cb sb : Nat} {h0 : Heap} {G1 : Int32} {G3 : Value} {T : State} {a : Addr} {ka : ClassId} {nn b w d : Int32} {jq : Nat} (hx : p.tables.exec = Jvm.exec) (hw : ∀ d ∈ tables_1, d.before a0 Z = true) (hEL : EW Z a0 EL) (rG3 : G3.isRef = true) (P5 : ¬ G1 = 0) (O2 : Sta Z Z.heap "java/lang/String" "COMPACT_STRINGS" "Z" (.int G1)) (O4 : Sta Z Z.heap "jdk/internal/util/Preconditions" "SIOOBE_FORMATTER" "Ljava/util/function/BiFunction;" G3) (hby : c.code = code) (hml : c.maxLocals = 15) (ga : n0 ≤ a) (hcb : cb ≤ 5) (hsb : sb ≤ 242) (i0 i1 i2 i3 i4 i9 : Int32) (u12 u13 u14 : Slot) (P : own_L Z p l e s m args below meth c n0 h0 cb sb a ka nn (own_cont 13 (Int32.ofNat jq) b w d) T) :
    ∃ T', own_L Z p l e s m args below meth c n0 h0 cb sb a ka nn (own_cont 14 (Int32.ofNat jq) b w d) T' ∧ ∀ target, Steps p.tables e below (T'.setTop (mkF m 291 #[.val (.int i0), .val (.int i1), .val (.int i2), .val (.int i3), .val (.int i4), .val (.int nn), .val (.int (Int32.ofNat jq)), .val (.int b), .val (.int w), .val (.int i9), .val (.int d), .val (.ref a), u12, u13, u14] [])) target → Steps p.tables e below (T.setTop (mkF m 276 #[.val (.int i0), .val (.int i1), .val (.int i2), .val (.int i3), .val (.int i4), .val (.int nn), .val (.int (Int32.ofNat jq)), .val (.int b), .val (.int w), .val (.int i9), .val (.int d), .val (.ref a), u12, u13, u14] [])) target := by
  obtain ⟨T', P', st⟩ := own_putcall hx hw hEL rG3 P5 O2 O4 hby hml ga hcb hsb 13 (by decide) P 288 #[.val (.int i0), .val (.int i1), .val (.int i2), .val (.int i3), .val (.int i4), .val (.int nn), .val (.int (Int32.ofNat jq)), .val (.int b), .val (.int w), .val (.int i9), .val (.int d), .val (.ref a), u12, u13, u14] rfl at_288 (own_cont 14 (Int32.ofNat jq) b w d) rfl
  obtain ⟨_, _, _, ⟨X0, -⟩, -⟩ := P
  refine ⟨T', P', fun target kt => ?_⟩
  show Steps p.tables e below (T.setTop (mkF m 276 #[.val (.int i0), .val (.int i1), .val (.int i2), .val (.int i3), .val (.int i4), .val (.int nn), .val (.int (Int32.ofNat jq)), .val (.int b), .val (.int w), .val (.int i9), .val (.int d), .val (.ref a), u12, u13, u14] [])) _
  refine XS.aload X0.here hx rfl (hb hby at_276) rfl rfl ?_
  show Steps p.tables e below (T.setTop (mkF m 278 #[.val (.int i0), .val (.int i1), .val (.int i2), .val (.int i3), .val (.int i4), .val (.int nn), .val (.int (Int32.ofNat jq)), .val (.int b), .val (.int w), .val (.int i9), .val (.int d), .val (.ref a), u12, u13, u14] [(.ref a)])) _
  refine XS.bipush X0.here hx rfl (hb hby at_278) ?_
  show Steps p.tables e below (T.setTop (mkF m 280 #[.val (.int i0), .val (.int i1), .val (.int i2), .val (.int i3), .val (.int i4), .val (.int nn), .val (.int (Int32.ofNat jq)), .val (.int b), .val (.int w), .val (.int i9), .val (.int d), .val (.ref a), u12, u13, u14] [(.int (Int32.ofNat 13)), (.ref a)])) _
  refine XS.iload X0.here hx rfl (hb hby at_280) rfl ?_
  show Steps p.tables e below (T.setTop (mkF m 282 #[.val (.int i0), .val (.int i1), .val (.int i2), .val (.int i3), .val (.int i4), .val (.int nn), .val (.int (Int32.ofNat jq)), .val (.int b), .val (.int w), .val (.int i9), .val (.int d), .val (.ref a), u12, u13, u14] [(.int (Int32.ofNat jq)), (.int (Int32.ofNat 13)), (.ref a)])) _
  refine XS.iload X0.here hx rfl (hb hby at_282) rfl ?_
  show Steps p.tables e below (T.setTop (mkF m 284 #[.val (.int i0), .val (.int i1), .val (.int i2), .val (.int i3), .val (.int i4), .val (.int nn), .val (.int (Int32.ofNat jq)), .val (.int b), .val (.int w), .val (.int i9), .val (.int d), .val (.ref a), u12, u13, u14] [(.int b), (.int (Int32.ofNat jq)), (.int (Int32.ofNat 13)), (.ref a)])) _
  refine XS.iload X0.here hx rfl (hb hby at_284) rfl ?_
  show Steps p.tables e below (T.setTop (mkF m 286 #[.val (.int i0), .val (.int i1), .val (.int i2), .val (.int i3), .val (.int i4), .val (.int nn), .val (.int (Int32.ofNat jq)), .val (.int b), .val (.int w), .val (.int i9), .val (.int d), .val (.ref a), u12, u13, u14] [(.int w), (.int b), (.int (Int32.ofNat jq)), (.int (Int32.ofNat 13)), (.ref a)])) _
  refine XS.iload X0.here hx rfl (hb hby at_286) rfl ?_
  show Steps p.tables e below (T.setTop (mkF m 288 #[.val (.int i0), .val (.int i1), .val (.int i2), .val (.int i3), .val (.int i4), .val (.int nn), .val (.int (Int32.ofNat jq)), .val (.int b), .val (.int w), .val (.int i9), .val (.int d), .val (.ref a), u12, u13, u14] [(.int d), (.int w), (.int b), (.int (Int32.ofNat jq)), (.int (Int32.ofNat 13)), (.ref a)])) _
  exact st.trans kt
theorem own_p14 {p : Program} {l : Launch} {e : Env} {s : State} {m : MethodId} {args : Array Value} {below : List Frame} {meth : Method} {c : Code} {Z : State} {a0 : Array Value} {n0 cb sb : Nat} {h0 : Heap} {G1 : Int32} {G3 : Value} {T : State} {a : Addr} {ka : ClassId} {nn b w d : Int32} {jq : Nat} (hx : p.tables.exec = Jvm.exec) (hw : ∀ d ∈ tables_1, d.before a0 Z = true) (hEL : EW Z a0 EL) (rG3 : G3.isRef = true) (P5 : ¬ G1 = 0) (O2 : Sta Z Z.heap "java/lang/String" "COMPACT_STRINGS" "Z" (.int G1)) (O4 : Sta Z Z.heap "jdk/internal/util/Preconditions" "SIOOBE_FORMATTER" "Ljava/util/function/BiFunction;" G3) (hby : c.code = code) (hml : c.maxLocals = 15) (ga : n0 ≤ a) (hcb : cb ≤ 5) (hsb : sb ≤ 242) (i0 i1 i2 i3 i4 i9 : Int32) (u12 u13 u14 : Slot) (P : own_L Z p l e s m args below meth c n0 h0 cb sb a ka nn (own_cont 14 (Int32.ofNat jq) b w d) T) :
    ∃ T', own_L Z p l e s m args below meth c n0 h0 cb sb a ka nn (own_cont 15 (Int32.ofNat jq) b w d) T' ∧ ∀ target, Steps p.tables e below (T'.setTop (mkF m 306 #[.val (.int i0), .val (.int i1), .val (.int i2), .val (.int i3), .val (.int i4), .val (.int nn), .val (.int (Int32.ofNat jq)), .val (.int b), .val (.int w), .val (.int i9), .val (.int d), .val (.ref a), u12, u13, u14] [])) target → Steps p.tables e below (T.setTop (mkF m 291 #[.val (.int i0), .val (.int i1), .val (.int i2), .val (.int i3), .val (.int i4), .val (.int nn), .val (.int (Int32.ofNat jq)), .val (.int b), .val (.int w), .val (.int i9), .val (.int d), .val (.ref a), u12, u13, u14] [])) target := by
  obtain ⟨T', P', st⟩ := own_putcall hx hw hEL rG3 P5 O2 O4 hby hml ga hcb hsb 14 (by decide) P 303 #[.val (.int i0), .val (.int i1), .val (.int i2), .val (.int i3), .val (.int i4), .val (.int nn), .val (.int (Int32.ofNat jq)), .val (.int b), .val (.int w), .val (.int i9), .val (.int d), .val (.ref a), u12, u13, u14] rfl at_303 (own_cont 15 (Int32.ofNat jq) b w d) rfl
  obtain ⟨_, _, _, ⟨X0, -⟩, -⟩ := P
  refine ⟨T', P', fun target kt => ?_⟩
  show Steps p.tables e below (T.setTop (mkF m 291 #[.val (.int i0), .val (.int i1), .val (.int i2), .val (.int i3), .val (.int i4), .val (.int nn), .val (.int (Int32.ofNat jq)), .val (.int b), .val (.int w), .val (.int i9), .val (.int d), .val (.ref a), u12, u13, u14] [])) _
  refine XS.aload X0.here hx rfl (hb hby at_291) rfl rfl ?_
  show Steps p.tables e below (T.setTop (mkF m 293 #[.val (.int i0), .val (.int i1), .val (.int i2), .val (.int i3), .val (.int i4), .val (.int nn), .val (.int (Int32.ofNat jq)), .val (.int b), .val (.int w), .val (.int i9), .val (.int d), .val (.ref a), u12, u13, u14] [(.ref a)])) _
  refine XS.bipush X0.here hx rfl (hb hby at_293) ?_
  show Steps p.tables e below (T.setTop (mkF m 295 #[.val (.int i0), .val (.int i1), .val (.int i2), .val (.int i3), .val (.int i4), .val (.int nn), .val (.int (Int32.ofNat jq)), .val (.int b), .val (.int w), .val (.int i9), .val (.int d), .val (.ref a), u12, u13, u14] [(.int (Int32.ofNat 14)), (.ref a)])) _
  refine XS.iload X0.here hx rfl (hb hby at_295) rfl ?_
  show Steps p.tables e below (T.setTop (mkF m 297 #[.val (.int i0), .val (.int i1), .val (.int i2), .val (.int i3), .val (.int i4), .val (.int nn), .val (.int (Int32.ofNat jq)), .val (.int b), .val (.int w), .val (.int i9), .val (.int d), .val (.ref a), u12, u13, u14] [(.int (Int32.ofNat jq)), (.int (Int32.ofNat 14)), (.ref a)])) _
  refine XS.iload X0.here hx rfl (hb hby at_297) rfl ?_
  show Steps p.tables e below (T.setTop (mkF m 299 #[.val (.int i0), .val (.int i1), .val (.int i2), .val (.int i3), .val (.int i4), .val (.int nn), .val (.int (Int32.ofNat jq)), .val (.int b), .val (.int w), .val (.int i9), .val (.int d), .val (.ref a), u12, u13, u14] [(.int b), (.int (Int32.ofNat jq)), (.int (Int32.ofNat 14)), (.ref a)])) _
  refine XS.iload X0.here hx rfl (hb hby at_299) rfl ?_
  show Steps p.tables e below (T.setTop (mkF m 301 #[.val (.int i0), .val (.int i1), .val (.int i2), .val (.int i3), .val (.int i4), .val (.int nn), .val (.int (Int32.ofNat jq)), .val (.int b), .val (.int w), .val (.int i9), .val (.int d), .val (.ref a), u12, u13, u14] [(.int w), (.int b), (.int (Int32.ofNat jq)), (.int (Int32.ofNat 14)), (.ref a)])) _
  refine XS.iload X0.here hx rfl (hb hby at_301) rfl ?_
  show Steps p.tables e below (T.setTop (mkF m 303 #[.val (.int i0), .val (.int i1), .val (.int i2), .val (.int i3), .val (.int i4), .val (.int nn), .val (.int (Int32.ofNat jq)), .val (.int b), .val (.int w), .val (.int i9), .val (.int d), .val (.ref a), u12, u13, u14] [(.int d), (.int w), (.int b), (.int (Int32.ofNat jq)), (.int (Int32.ofNat 14)), (.ref a)])) _
  exact st.trans kt
theorem own_p15 {p : Program} {l : Launch} {e : Env} {s : State} {m : MethodId} {args : Array Value} {below : List Frame} {meth : Method} {c : Code} {Z : State} {a0 : Array Value} {n0 cb sb : Nat} {h0 : Heap} {G1 : Int32} {G3 : Value} {T : State} {a : Addr} {ka : ClassId} {nn b w d : Int32} {jq : Nat} (hx : p.tables.exec = Jvm.exec) (hw : ∀ d ∈ tables_1, d.before a0 Z = true) (hEL : EW Z a0 EL) (rG3 : G3.isRef = true) (P5 : ¬ G1 = 0) (O2 : Sta Z Z.heap "java/lang/String" "COMPACT_STRINGS" "Z" (.int G1)) (O4 : Sta Z Z.heap "jdk/internal/util/Preconditions" "SIOOBE_FORMATTER" "Ljava/util/function/BiFunction;" G3) (hby : c.code = code) (hml : c.maxLocals = 15) (ga : n0 ≤ a) (hcb : cb ≤ 5) (hsb : sb ≤ 242) (i0 i1 i2 i3 i4 i9 : Int32) (u12 u13 u14 : Slot) (P : own_L Z p l e s m args below meth c n0 h0 cb sb a ka nn (own_cont 15 (Int32.ofNat jq) b w d) T) :
    ∃ T', own_L Z p l e s m args below meth c n0 h0 cb sb a ka nn (own_cont 16 (Int32.ofNat jq) b w d) T' ∧ ∀ target, Steps p.tables e below (T'.setTop (mkF m 321 #[.val (.int i0), .val (.int i1), .val (.int i2), .val (.int i3), .val (.int i4), .val (.int nn), .val (.int (Int32.ofNat jq)), .val (.int b), .val (.int w), .val (.int i9), .val (.int d), .val (.ref a), u12, u13, u14] [])) target → Steps p.tables e below (T.setTop (mkF m 306 #[.val (.int i0), .val (.int i1), .val (.int i2), .val (.int i3), .val (.int i4), .val (.int nn), .val (.int (Int32.ofNat jq)), .val (.int b), .val (.int w), .val (.int i9), .val (.int d), .val (.ref a), u12, u13, u14] [])) target := by
  obtain ⟨T', P', st⟩ := own_putcall hx hw hEL rG3 P5 O2 O4 hby hml ga hcb hsb 15 (by decide) P 318 #[.val (.int i0), .val (.int i1), .val (.int i2), .val (.int i3), .val (.int i4), .val (.int nn), .val (.int (Int32.ofNat jq)), .val (.int b), .val (.int w), .val (.int i9), .val (.int d), .val (.ref a), u12, u13, u14] rfl at_318 (own_cont 16 (Int32.ofNat jq) b w d) rfl
  obtain ⟨_, _, _, ⟨X0, -⟩, -⟩ := P
  refine ⟨T', P', fun target kt => ?_⟩
  show Steps p.tables e below (T.setTop (mkF m 306 #[.val (.int i0), .val (.int i1), .val (.int i2), .val (.int i3), .val (.int i4), .val (.int nn), .val (.int (Int32.ofNat jq)), .val (.int b), .val (.int w), .val (.int i9), .val (.int d), .val (.ref a), u12, u13, u14] [])) _
  refine XS.aload X0.here hx rfl (hb hby at_306) rfl rfl ?_
  show Steps p.tables e below (T.setTop (mkF m 308 #[.val (.int i0), .val (.int i1), .val (.int i2), .val (.int i3), .val (.int i4), .val (.int nn), .val (.int (Int32.ofNat jq)), .val (.int b), .val (.int w), .val (.int i9), .val (.int d), .val (.ref a), u12, u13, u14] [(.ref a)])) _
  refine XS.bipush X0.here hx rfl (hb hby at_308) ?_
  show Steps p.tables e below (T.setTop (mkF m 310 #[.val (.int i0), .val (.int i1), .val (.int i2), .val (.int i3), .val (.int i4), .val (.int nn), .val (.int (Int32.ofNat jq)), .val (.int b), .val (.int w), .val (.int i9), .val (.int d), .val (.ref a), u12, u13, u14] [(.int (Int32.ofNat 15)), (.ref a)])) _
  refine XS.iload X0.here hx rfl (hb hby at_310) rfl ?_
  show Steps p.tables e below (T.setTop (mkF m 312 #[.val (.int i0), .val (.int i1), .val (.int i2), .val (.int i3), .val (.int i4), .val (.int nn), .val (.int (Int32.ofNat jq)), .val (.int b), .val (.int w), .val (.int i9), .val (.int d), .val (.ref a), u12, u13, u14] [(.int (Int32.ofNat jq)), (.int (Int32.ofNat 15)), (.ref a)])) _
  refine XS.iload X0.here hx rfl (hb hby at_312) rfl ?_
  show Steps p.tables e below (T.setTop (mkF m 314 #[.val (.int i0), .val (.int i1), .val (.int i2), .val (.int i3), .val (.int i4), .val (.int nn), .val (.int (Int32.ofNat jq)), .val (.int b), .val (.int w), .val (.int i9), .val (.int d), .val (.ref a), u12, u13, u14] [(.int b), (.int (Int32.ofNat jq)), (.int (Int32.ofNat 15)), (.ref a)])) _
  refine XS.iload X0.here hx rfl (hb hby at_314) rfl ?_
  show Steps p.tables e below (T.setTop (mkF m 316 #[.val (.int i0), .val (.int i1), .val (.int i2), .val (.int i3), .val (.int i4), .val (.int nn), .val (.int (Int32.ofNat jq)), .val (.int b), .val (.int w), .val (.int i9), .val (.int d), .val (.ref a), u12, u13, u14] [(.int w), (.int b), (.int (Int32.ofNat jq)), (.int (Int32.ofNat 15)), (.ref a)])) _
  refine XS.iload X0.here hx rfl (hb hby at_316) rfl ?_
  show Steps p.tables e below (T.setTop (mkF m 318 #[.val (.int i0), .val (.int i1), .val (.int i2), .val (.int i3), .val (.int i4), .val (.int nn), .val (.int (Int32.ofNat jq)), .val (.int b), .val (.int w), .val (.int i9), .val (.int d), .val (.ref a), u12, u13, u14] [(.int d), (.int w), (.int b), (.int (Int32.ofNat jq)), (.int (Int32.ofNat 15)), (.ref a)])) _
  exact st.trans kt
theorem own_p16 {p : Program} {l : Launch} {e : Env} {s : State} {m : MethodId} {args : Array Value} {below : List Frame} {meth : Method} {c : Code} {Z : State} {a0 : Array Value} {n0 cb sb : Nat} {h0 : Heap} {G1 : Int32} {G3 : Value} {T : State} {a : Addr} {ka : ClassId} {nn b w d : Int32} {jq : Nat} (hx : p.tables.exec = Jvm.exec) (hw : ∀ d ∈ tables_1, d.before a0 Z = true) (hEL : EW Z a0 EL) (rG3 : G3.isRef = true) (P5 : ¬ G1 = 0) (O2 : Sta Z Z.heap "java/lang/String" "COMPACT_STRINGS" "Z" (.int G1)) (O4 : Sta Z Z.heap "jdk/internal/util/Preconditions" "SIOOBE_FORMATTER" "Ljava/util/function/BiFunction;" G3) (hby : c.code = code) (hml : c.maxLocals = 15) (ga : n0 ≤ a) (hcb : cb ≤ 5) (hsb : sb ≤ 242) (i0 i1 i2 i3 i4 i9 : Int32) (u12 u13 u14 : Slot) (P : own_L Z p l e s m args below meth c n0 h0 cb sb a ka nn (own_cont 16 (Int32.ofNat jq) b w d) T) :
    ∃ T', own_L Z p l e s m args below meth c n0 h0 cb sb a ka nn (own_cont 17 (Int32.ofNat jq) b w d) T' ∧ ∀ target, Steps p.tables e below (T'.setTop (mkF m 336 #[.val (.int i0), .val (.int i1), .val (.int i2), .val (.int i3), .val (.int i4), .val (.int nn), .val (.int (Int32.ofNat jq)), .val (.int b), .val (.int w), .val (.int i9), .val (.int d), .val (.ref a), u12, u13, u14] [])) target → Steps p.tables e below (T.setTop (mkF m 321 #[.val (.int i0), .val (.int i1), .val (.int i2), .val (.int i3), .val (.int i4), .val (.int nn), .val (.int (Int32.ofNat jq)), .val (.int b), .val (.int w), .val (.int i9), .val (.int d), .val (.ref a), u12, u13, u14] [])) target := by
  obtain ⟨T', P', st⟩ := own_putcall hx hw hEL rG3 P5 O2 O4 hby hml ga hcb hsb 16 (by decide) P 333 #[.val (.int i0), .val (.int i1), .val (.int i2), .val (.int i3), .val (.int i4), .val (.int nn), .val (.int (Int32.ofNat jq)), .val (.int b), .val (.int w), .val (.int i9), .val (.int d), .val (.ref a), u12, u13, u14] rfl at_333 (own_cont 17 (Int32.ofNat jq) b w d) rfl
  obtain ⟨_, _, _, ⟨X0, -⟩, -⟩ := P
  refine ⟨T', P', fun target kt => ?_⟩
  show Steps p.tables e below (T.setTop (mkF m 321 #[.val (.int i0), .val (.int i1), .val (.int i2), .val (.int i3), .val (.int i4), .val (.int nn), .val (.int (Int32.ofNat jq)), .val (.int b), .val (.int w), .val (.int i9), .val (.int d), .val (.ref a), u12, u13, u14] [])) _
  refine XS.aload X0.here hx rfl (hb hby at_321) rfl rfl ?_
  show Steps p.tables e below (T.setTop (mkF m 323 #[.val (.int i0), .val (.int i1), .val (.int i2), .val (.int i3), .val (.int i4), .val (.int nn), .val (.int (Int32.ofNat jq)), .val (.int b), .val (.int w), .val (.int i9), .val (.int d), .val (.ref a), u12, u13, u14] [(.ref a)])) _
  refine XS.bipush X0.here hx rfl (hb hby at_323) ?_
  show Steps p.tables e below (T.setTop (mkF m 325 #[.val (.int i0), .val (.int i1), .val (.int i2), .val (.int i3), .val (.int i4), .val (.int nn), .val (.int (Int32.ofNat jq)), .val (.int b), .val (.int w), .val (.int i9), .val (.int d), .val (.ref a), u12, u13, u14] [(.int (Int32.ofNat 16)), (.ref a)])) _
  refine XS.iload X0.here hx rfl (hb hby at_325) rfl ?_
  show Steps p.tables e below (T.setTop (mkF m 327 #[.val (.int i0), .val (.int i1), .val (.int i2), .val (.int i3), .val (.int i4), .val (.int nn), .val (.int (Int32.ofNat jq)), .val (.int b), .val (.int w), .val (.int i9), .val (.int d), .val (.ref a), u12, u13, u14] [(.int (Int32.ofNat jq)), (.int (Int32.ofNat 16)), (.ref a)])) _
  refine XS.iload X0.here hx rfl (hb hby at_327) rfl ?_
  show Steps p.tables e below (T.setTop (mkF m 329 #[.val (.int i0), .val (.int i1), .val (.int i2), .val (.int i3), .val (.int i4), .val (.int nn), .val (.int (Int32.ofNat jq)), .val (.int b), .val (.int w), .val (.int i9), .val (.int d), .val (.ref a), u12, u13, u14] [(.int b), (.int (Int32.ofNat jq)), (.int (Int32.ofNat 16)), (.ref a)])) _
  refine XS.iload X0.here hx rfl (hb hby at_329) rfl ?_
  show Steps p.tables e below (T.setTop (mkF m 331 #[.val (.int i0), .val (.int i1), .val (.int i2), .val (.int i3), .val (.int i4), .val (.int nn), .val (.int (Int32.ofNat jq)), .val (.int b), .val (.int w), .val (.int i9), .val (.int d), .val (.ref a), u12, u13, u14] [(.int w), (.int b), (.int (Int32.ofNat jq)), (.int (Int32.ofNat 16)), (.ref a)])) _
  refine XS.iload X0.here hx rfl (hb hby at_331) rfl ?_
  show Steps p.tables e below (T.setTop (mkF m 333 #[.val (.int i0), .val (.int i1), .val (.int i2), .val (.int i3), .val (.int i4), .val (.int nn), .val (.int (Int32.ofNat jq)), .val (.int b), .val (.int w), .val (.int i9), .val (.int d), .val (.ref a), u12, u13, u14] [(.int d), (.int w), (.int b), (.int (Int32.ofNat jq)), (.int (Int32.ofNat 16)), (.ref a)])) _
  exact st.trans kt
theorem own_p17 {p : Program} {l : Launch} {e : Env} {s : State} {m : MethodId} {args : Array Value} {below : List Frame} {meth : Method} {c : Code} {Z : State} {a0 : Array Value} {n0 cb sb : Nat} {h0 : Heap} {G1 : Int32} {G3 : Value} {T : State} {a : Addr} {ka : ClassId} {nn b w d : Int32} {jq : Nat} (hx : p.tables.exec = Jvm.exec) (hw : ∀ d ∈ tables_1, d.before a0 Z = true) (hEL : EW Z a0 EL) (rG3 : G3.isRef = true) (P5 : ¬ G1 = 0) (O2 : Sta Z Z.heap "java/lang/String" "COMPACT_STRINGS" "Z" (.int G1)) (O4 : Sta Z Z.heap "jdk/internal/util/Preconditions" "SIOOBE_FORMATTER" "Ljava/util/function/BiFunction;" G3) (hby : c.code = code) (hml : c.maxLocals = 15) (ga : n0 ≤ a) (hcb : cb ≤ 5) (hsb : sb ≤ 242) (i0 i1 i2 i3 i4 i9 : Int32) (u12 u13 u14 : Slot) (P : own_L Z p l e s m args below meth c n0 h0 cb sb a ka nn (own_cont 17 (Int32.ofNat jq) b w d) T) :
    ∃ T', own_L Z p l e s m args below meth c n0 h0 cb sb a ka nn (own_cont 18 (Int32.ofNat jq) b w d) T' ∧ ∀ target, Steps p.tables e below (T'.setTop (mkF m 351 #[.val (.int i0), .val (.int i1), .val (.int i2), .val (.int i3), .val (.int i4), .val (.int nn), .val (.int (Int32.ofNat jq)), .val (.int b), .val (.int w), .val (.int i9), .val (.int d), .val (.ref a), u12, u13, u14] [])) target → Steps p.tables e below (T.setTop (mkF m 336 #[.val (.int i0), .val (.int i1), .val (.int i2), .val (.int i3), .val (.int i4), .val (.int nn), .val (.int (Int32.ofNat jq)), .val (.int b), .val (.int w), .val (.int i9), .val (.int d), .val (.ref a), u12, u13, u14] [])) target := by
  obtain ⟨T', P', st⟩ := own_putcall hx hw hEL rG3 P5 O2 O4 hby hml ga hcb hsb 17 (by decide) P 348 #[.val (.int i0), .val (.int i1), .val (.int i2), .val (.int i3), .val (.int i4), .val (.int nn), .val (.int (Int32.ofNat jq)), .val (.int b), .val (.int w), .val (.int i9), .val (.int d), .val (.ref a), u12, u13, u14] rfl at_348 (own_cont 18 (Int32.ofNat jq) b w d) rfl
  obtain ⟨_, _, _, ⟨X0, -⟩, -⟩ := P
  refine ⟨T', P', fun target kt => ?_⟩
  show Steps p.tables e below (T.setTop (mkF m 336 #[.val (.int i0), .val (.int i1), .val (.int i2), .val (.int i3), .val (.int i4), .val (.int nn), .val (.int (Int32.ofNat jq)), .val (.int b), .val (.int w), .val (.int i9), .val (.int d), .val (.ref a), u12, u13, u14] [])) _
  refine XS.aload X0.here hx rfl (hb hby at_336) rfl rfl ?_
  show Steps p.tables e below (T.setTop (mkF m 338 #[.val (.int i0), .val (.int i1), .val (.int i2), .val (.int i3), .val (.int i4), .val (.int nn), .val (.int (Int32.ofNat jq)), .val (.int b), .val (.int w), .val (.int i9), .val (.int d), .val (.ref a), u12, u13, u14] [(.ref a)])) _
  refine XS.bipush X0.here hx rfl (hb hby at_338) ?_
  show Steps p.tables e below (T.setTop (mkF m 340 #[.val (.int i0), .val (.int i1), .val (.int i2), .val (.int i3), .val (.int i4), .val (.int nn), .val (.int (Int32.ofNat jq)), .val (.int b), .val (.int w), .val (.int i9), .val (.int d), .val (.ref a), u12, u13, u14] [(.int (Int32.ofNat 17)), (.ref a)])) _
  refine XS.iload X0.here hx rfl (hb hby at_340) rfl ?_
  show Steps p.tables e below (T.setTop (mkF m 342 #[.val (.int i0), .val (.int i1), .val (.int i2), .val (.int i3), .val (.int i4), .val (.int nn), .val (.int (Int32.ofNat jq)), .val (.int b), .val (.int w), .val (.int i9), .val (.int d), .val (.ref a), u12, u13, u14] [(.int (Int32.ofNat jq)), (.int (Int32.ofNat 17)), (.ref a)])) _
  refine XS.iload X0.here hx rfl (hb hby at_342) rfl ?_
  show Steps p.tables e below (T.setTop (mkF m 344 #[.val (.int i0), .val (.int i1), .val (.int i2), .val (.int i3), .val (.int i4), .val (.int nn), .val (.int (Int32.ofNat jq)), .val (.int b), .val (.int w), .val (.int i9), .val (.int d), .val (.ref a), u12, u13, u14] [(.int b), (.int (Int32.ofNat jq)), (.int (Int32.ofNat 17)), (.ref a)])) _
  refine XS.iload X0.here hx rfl (hb hby at_344) rfl ?_
  show Steps p.tables e below (T.setTop (mkF m 346 #[.val (.int i0), .val (.int i1), .val (.int i2), .val (.int i3), .val (.int i4), .val (.int nn), .val (.int (Int32.ofNat jq)), .val (.int b), .val (.int w), .val (.int i9), .val (.int d), .val (.ref a), u12, u13, u14] [(.int w), (.int b), (.int (Int32.ofNat jq)), (.int (Int32.ofNat 17)), (.ref a)])) _
  refine XS.iload X0.here hx rfl (hb hby at_346) rfl ?_
  show Steps p.tables e below (T.setTop (mkF m 348 #[.val (.int i0), .val (.int i1), .val (.int i2), .val (.int i3), .val (.int i4), .val (.int nn), .val (.int (Int32.ofNat jq)), .val (.int b), .val (.int w), .val (.int i9), .val (.int d), .val (.ref a), u12, u13, u14] [(.int d), (.int w), (.int b), (.int (Int32.ofNat jq)), (.int (Int32.ofNat 17)), (.ref a)])) _
  exact st.trans kt
theorem own_p18 {p : Program} {l : Launch} {e : Env} {s : State} {m : MethodId} {args : Array Value} {below : List Frame} {meth : Method} {c : Code} {Z : State} {a0 : Array Value} {n0 cb sb : Nat} {h0 : Heap} {G1 : Int32} {G3 : Value} {T : State} {a : Addr} {ka : ClassId} {nn b w d : Int32} {jq : Nat} (hx : p.tables.exec = Jvm.exec) (hw : ∀ d ∈ tables_1, d.before a0 Z = true) (hEL : EW Z a0 EL) (rG3 : G3.isRef = true) (P5 : ¬ G1 = 0) (O2 : Sta Z Z.heap "java/lang/String" "COMPACT_STRINGS" "Z" (.int G1)) (O4 : Sta Z Z.heap "jdk/internal/util/Preconditions" "SIOOBE_FORMATTER" "Ljava/util/function/BiFunction;" G3) (hby : c.code = code) (hml : c.maxLocals = 15) (ga : n0 ≤ a) (hcb : cb ≤ 5) (hsb : sb ≤ 242) (i0 i1 i2 i3 i4 i9 : Int32) (u12 u13 u14 : Slot) (P : own_L Z p l e s m args below meth c n0 h0 cb sb a ka nn (own_cont 18 (Int32.ofNat jq) b w d) T) :
    ∃ T', own_L Z p l e s m args below meth c n0 h0 cb sb a ka nn (own_cont 19 (Int32.ofNat jq) b w d) T' ∧ ∀ target, Steps p.tables e below (T'.setTop (mkF m 366 #[.val (.int i0), .val (.int i1), .val (.int i2), .val (.int i3), .val (.int i4), .val (.int nn), .val (.int (Int32.ofNat jq)), .val (.int b), .val (.int w), .val (.int i9), .val (.int d), .val (.ref a), u12, u13, u14] [])) target → Steps p.tables e below (T.setTop (mkF m 351 #[.val (.int i0), .val (.int i1), .val (.int i2), .val (.int i3), .val (.int i4), .val (.int nn), .val (.int (Int32.ofNat jq)), .val (.int b), .val (.int w), .val (.int i9), .val (.int d), .val (.ref a), u12, u13, u14] [])) target := by
  obtain ⟨T', P', st⟩ := own_putcall hx hw hEL rG3 P5 O2 O4 hby hml ga hcb hsb 18 (by decide) P 363 #[.val (.int i0), .val (.int i1), .val (.int i2), .val (.int i3), .val (.int i4), .val (.int nn), .val (.int (Int32.ofNat jq)), .val (.int b), .val (.int w), .val (.int i9), .val (.int d), .val (.ref a), u12, u13, u14] rfl at_363 (own_cont 19 (Int32.ofNat jq) b w d) rfl
  obtain ⟨_, _, _, ⟨X0, -⟩, -⟩ := P
  refine ⟨T', P', fun target kt => ?_⟩
  show Steps p.tables e below (T.setTop (mkF m 351 #[.val (.int i0), .val (.int i1), .val (.int i2), .val (.int i3), .val (.int i4), .val (.int nn), .val (.int (Int32.ofNat jq)), .val (.int b), .val (.int w), .val (.int i9), .val (.int d), .val (.ref a), u12, u13, u14] [])) _
  refine XS.aload X0.here hx rfl (hb hby at_351) rfl rfl ?_
  show Steps p.tables e below (T.setTop (mkF m 353 #[.val (.int i0), .val (.int i1), .val (.int i2), .val (.int i3), .val (.int i4), .val (.int nn), .val (.int (Int32.ofNat jq)), .val (.int b), .val (.int w), .val (.int i9), .val (.int d), .val (.ref a), u12, u13, u14] [(.ref a)])) _
  refine XS.bipush X0.here hx rfl (hb hby at_353) ?_
  show Steps p.tables e below (T.setTop (mkF m 355 #[.val (.int i0), .val (.int i1), .val (.int i2), .val (.int i3), .val (.int i4), .val (.int nn), .val (.int (Int32.ofNat jq)), .val (.int b), .val (.int w), .val (.int i9), .val (.int d), .val (.ref a), u12, u13, u14] [(.int (Int32.ofNat 18)), (.ref a)])) _
  refine XS.iload X0.here hx rfl (hb hby at_355) rfl ?_
  show Steps p.tables e below (T.setTop (mkF m 357 #[.val (.int i0), .val (.int i1), .val (.int i2), .val (.int i3), .val (.int i4), .val (.int nn), .val (.int (Int32.ofNat jq)), .val (.int b), .val (.int w), .val (.int i9), .val (.int d), .val (.ref a), u12, u13, u14] [(.int (Int32.ofNat jq)), (.int (Int32.ofNat 18)), (.ref a)])) _
  refine XS.iload X0.here hx rfl (hb hby at_357) rfl ?_
  show Steps p.tables e below (T.setTop (mkF m 359 #[.val (.int i0), .val (.int i1), .val (.int i2), .val (.int i3), .val (.int i4), .val (.int nn), .val (.int (Int32.ofNat jq)), .val (.int b), .val (.int w), .val (.int i9), .val (.int d), .val (.ref a), u12, u13, u14] [(.int b), (.int (Int32.ofNat jq)), (.int (Int32.ofNat 18)), (.ref a)])) _
  refine XS.iload X0.here hx rfl (hb hby at_359) rfl ?_
  show Steps p.tables e below (T.setTop (mkF m 361 #[.val (.int i0), .val (.int i1), .val (.int i2), .val (.int i3), .val (.int i4), .val (.int nn), .val (.int (Int32.ofNat jq)), .val (.int b), .val (.int w), .val (.int i9), .val (.int d), .val (.ref a), u12, u13, u14] [(.int w), (.int b), (.int (Int32.ofNat jq)), (.int (Int32.ofNat 18)), (.ref a)])) _
  refine XS.iload X0.here hx rfl (hb hby at_361) rfl ?_
  show Steps p.tables e below (T.setTop (mkF m 363 #[.val (.int i0), .val (.int i1), .val (.int i2), .val (.int i3), .val (.int i4), .val (.int nn), .val (.int (Int32.ofNat jq)), .val (.int b), .val (.int w), .val (.int i9), .val (.int d), .val (.ref a), u12, u13, u14] [(.int d), (.int w), (.int b), (.int (Int32.ofNat jq)), (.int (Int32.ofNat 18)), (.ref a)])) _
  exact st.trans kt
theorem own_p19 {p : Program} {l : Launch} {e : Env} {s : State} {m : MethodId} {args : Array Value} {below : List Frame} {meth : Method} {c : Code} {Z : State} {a0 : Array Value} {n0 cb sb : Nat} {h0 : Heap} {G1 : Int32} {G3 : Value} {T : State} {a : Addr} {ka : ClassId} {nn b w d : Int32} {jq : Nat} (hx : p.tables.exec = Jvm.exec) (hw : ∀ d ∈ tables_1, d.before a0 Z = true) (hEL : EW Z a0 EL) (rG3 : G3.isRef = true) (P5 : ¬ G1 = 0) (O2 : Sta Z Z.heap "java/lang/String" "COMPACT_STRINGS" "Z" (.int G1)) (O4 : Sta Z Z.heap "jdk/internal/util/Preconditions" "SIOOBE_FORMATTER" "Ljava/util/function/BiFunction;" G3) (hby : c.code = code) (hml : c.maxLocals = 15) (ga : n0 ≤ a) (hcb : cb ≤ 5) (hsb : sb ≤ 242) (i0 i1 i2 i3 i4 i9 : Int32) (u12 u13 u14 : Slot) (P : own_L Z p l e s m args below meth c n0 h0 cb sb a ka nn (own_cont 19 (Int32.ofNat jq) b w d) T) :
    ∃ T', own_L Z p l e s m args below meth c n0 h0 cb sb a ka nn (own_cont 20 (Int32.ofNat jq) b w d) T' ∧ ∀ target, Steps p.tables e below (T'.setTop (mkF m 381 #[.val (.int i0), .val (.int i1), .val (.int i2), .val (.int i3), .val (.int i4), .val (.int nn), .val (.int (Int32.ofNat jq)), .val (.int b), .val (.int w), .val (.int i9), .val (.int d), .val (.ref a), u12, u13, u14] [])) target → Steps p.tables e below (T.setTop (mkF m 366 #[.val (.int i0), .val (.int i1), .val (.int i2), .val (.int i3), .val (.int i4), .val (.int nn), .val (.int (Int32.ofNat jq)), .val (.int b), .val (.int w), .val (.int i9), .val (.int d), .val (.ref a), u12, u13, u14] [])) target := by
  obtain ⟨T', P', st⟩ := own_putcall hx hw hEL rG3 P5 O2 O4 hby hml ga hcb hsb 19 (by decide) P 378 #[.val (.int i0), .val (.int i1), .val (.int i2), .val (.int i3), .val (.int i4), .val (.int nn), .val (.int (Int32.ofNat jq)), .val (.int b), .val (.int w), .val (.int i9), .val (.int d), .val (.ref a), u12, u13, u14] rfl at_378 (own_cont 20 (Int32.ofNat jq) b w d) rfl
  obtain ⟨_, _, _, ⟨X0, -⟩, -⟩ := P
  refine ⟨T', P', fun target kt => ?_⟩
  show Steps p.tables e below (T.setTop (mkF m 366 #[.val (.int i0), .val (.int i1), .val (.int i2), .val (.int i3), .val (.int i4), .val (.int nn), .val (.int (Int32.ofNat jq)), .val (.int b), .val (.int w), .val (.int i9), .val (.int d), .val (.ref a), u12, u13, u14] [])) _
  refine XS.aload X0.here hx rfl (hb hby at_366) rfl rfl ?_
  show Steps p.tables e below (T.setTop (mkF m 368 #[.val (.int i0), .val (.int i1), .val (.int i2), .val (.int i3), .val (.int i4), .val (.int nn), .val (.int (Int32.ofNat jq)), .val (.int b), .val (.int w), .val (.int i9), .val (.int d), .val (.ref a), u12, u13, u14] [(.ref a)])) _
  refine XS.bipush X0.here hx rfl (hb hby at_368) ?_
  show Steps p.tables e below (T.setTop (mkF m 370 #[.val (.int i0), .val (.int i1), .val (.int i2), .val (.int i3), .val (.int i4), .val (.int nn), .val (.int (Int32.ofNat jq)), .val (.int b), .val (.int w), .val (.int i9), .val (.int d), .val (.ref a), u12, u13, u14] [(.int (Int32.ofNat 19)), (.ref a)])) _
  refine XS.iload X0.here hx rfl (hb hby at_370) rfl ?_
  show Steps p.tables e below (T.setTop (mkF m 372 #[.val (.int i0), .val (.int i1), .val (.int i2), .val (.int i3), .val (.int i4), .val (.int nn), .val (.int (Int32.ofNat jq)), .val (.int b), .val (.int w), .val (.int i9), .val (.int d), .val (.ref a), u12, u13, u14] [(.int (Int32.ofNat jq)), (.int (Int32.ofNat 19)), (.ref a)])) _
  refine XS.iload X0.here hx rfl (hb hby at_372) rfl ?_
  show Steps p.tables e below (T.setTop (mkF m 374 #[.val (.int i0), .val (.int i1), .val (.int i2), .val (.int i3), .val (.int i4), .val (.int nn), .val (.int (Int32.ofNat jq)), .val (.int b), .val (.int w), .val (.int i9), .val (.int d), .val (.ref a), u12, u13, u14] [(.int b), (.int (Int32.ofNat jq)), (.int (Int32.ofNat 19)), (.ref a)])) _
  refine XS.iload X0.here hx rfl (hb hby at_374) rfl ?_
  show Steps p.tables e below (T.setTop (mkF m 376 #[.val (.int i0), .val (.int i1), .val (.int i2), .val (.int i3), .val (.int i4), .val (.int nn), .val (.int (Int32.ofNat jq)), .val (.int b), .val (.int w), .val (.int i9), .val (.int d), .val (.ref a), u12, u13, u14] [(.int w), (.int b), (.int (Int32.ofNat jq)), (.int (Int32.ofNat 19)), (.ref a)])) _
  refine XS.iload X0.here hx rfl (hb hby at_376) rfl ?_
  show Steps p.tables e below (T.setTop (mkF m 378 #[.val (.int i0), .val (.int i1), .val (.int i2), .val (.int i3), .val (.int i4), .val (.int nn), .val (.int (Int32.ofNat jq)), .val (.int b), .val (.int w), .val (.int i9), .val (.int d), .val (.ref a), u12, u13, u14] [(.int d), (.int w), (.int b), (.int (Int32.ofNat jq)), (.int (Int32.ofNat 19)), (.ref a)])) _
  exact st.trans kt
theorem own_p20 {p : Program} {l : Launch} {e : Env} {s : State} {m : MethodId} {args : Array Value} {below : List Frame} {meth : Method} {c : Code} {Z : State} {a0 : Array Value} {n0 cb sb : Nat} {h0 : Heap} {G1 : Int32} {G3 : Value} {T : State} {a : Addr} {ka : ClassId} {nn b w d : Int32} {jq : Nat} (hx : p.tables.exec = Jvm.exec) (hw : ∀ d ∈ tables_1, d.before a0 Z = true) (hEL : EW Z a0 EL) (rG3 : G3.isRef = true) (P5 : ¬ G1 = 0) (O2 : Sta Z Z.heap "java/lang/String" "COMPACT_STRINGS" "Z" (.int G1)) (O4 : Sta Z Z.heap "jdk/internal/util/Preconditions" "SIOOBE_FORMATTER" "Ljava/util/function/BiFunction;" G3) (hby : c.code = code) (hml : c.maxLocals = 15) (ga : n0 ≤ a) (hcb : cb ≤ 5) (hsb : sb ≤ 242) (i0 i1 i2 i3 i4 i9 : Int32) (u12 u13 u14 : Slot) (P : own_L Z p l e s m args below meth c n0 h0 cb sb a ka nn (own_cont 20 (Int32.ofNat jq) b w d) T) :
    ∃ T', own_L Z p l e s m args below meth c n0 h0 cb sb a ka nn (own_cont 21 (Int32.ofNat jq) b w d) T' ∧ ∀ target, Steps p.tables e below (T'.setTop (mkF m 396 #[.val (.int i0), .val (.int i1), .val (.int i2), .val (.int i3), .val (.int i4), .val (.int nn), .val (.int (Int32.ofNat jq)), .val (.int b), .val (.int w), .val (.int i9), .val (.int d), .val (.ref a), u12, u13, u14] [])) target → Steps p.tables e below (T.setTop (mkF m 381 #[.val (.int i0), .val (.int i1), .val (.int i2), .val (.int i3), .val (.int i4), .val (.int nn), .val (.int (Int32.ofNat jq)), .val (.int b), .val (.int w), .val (.int i9), .val (.int d), .val (.ref a), u12, u13, u14] [])) target := by
  obtain ⟨T', P', st⟩ := own_putcall hx hw hEL rG3 P5 O2 O4 hby hml ga hcb hsb 20 (by decide) P 393 #[.val (.int i0), .val (.int i1), .val (.int i2), .val (.int i3), .val (.int i4), .val (.int nn), .val (.int (Int32.ofNat jq)), .val (.int b), .val (.int w), .val (.int i9), .val (.int d), .val (.ref a), u12, u13, u14] rfl at_393 (own_cont 21 (Int32.ofNat jq) b w d) rfl
  obtain ⟨_, _, _, ⟨X0, -⟩, -⟩ := P
  refine ⟨T', P', fun target kt => ?_⟩
  show Steps p.tables e below (T.setTop (mkF m 381 #[.val (.int i0), .val (.int i1), .val (.int i2), .val (.int i3), .val (.int i4), .val (.int nn), .val (.int (Int32.ofNat jq)), .val (.int b), .val (.int w), .val (.int i9), .val (.int d), .val (.ref a), u12, u13, u14] [])) _
  refine XS.aload X0.here hx rfl (hb hby at_381) rfl rfl ?_
  show Steps p.tables e below (T.setTop (mkF m 383 #[.val (.int i0), .val (.int i1), .val (.int i2), .val (.int i3), .val (.int i4), .val (.int nn), .val (.int (Int32.ofNat jq)), .val (.int b), .val (.int w), .val (.int i9), .val (.int d), .val (.ref a), u12, u13, u14] [(.ref a)])) _
  refine XS.bipush X0.here hx rfl (hb hby at_383) ?_
  show Steps p.tables e below (T.setTop (mkF m 385 #[.val (.int i0), .val (.int i1), .val (.int i2), .val (.int i3), .val (.int i4), .val (.int nn), .val (.int (Int32.ofNat jq)), .val (.int b), .val (.int w), .val (.int i9), .val (.int d), .val (.ref a), u12, u13, u14] [(.int (Int32.ofNat 20)), (.ref a)])) _
  refine XS.iload X0.here hx rfl (hb hby at_385) rfl ?_
  show Steps p.tables e below (T.setTop (mkF m 387 #[.val (.int i0), .val (.int i1), .val (.int i2), .val (.int i3), .val (.int i4), .val (.int nn), .val (.int (Int32.ofNat jq)), .val (.int b), .val (.int w), .val (.int i9), .val (.int d), .val (.ref a), u12, u13, u14] [(.int (Int32.ofNat jq)), (.int (Int32.ofNat 20)), (.ref a)])) _
  refine XS.iload X0.here hx rfl (hb hby at_387) rfl ?_
  show Steps p.tables e below (T.setTop (mkF m 389 #[.val (.int i0), .val (.int i1), .val (.int i2), .val (.int i3), .val (.int i4), .val (.int nn), .val (.int (Int32.ofNat jq)), .val (.int b), .val (.int w), .val (.int i9), .val (.int d), .val (.ref a), u12, u13, u14] [(.int b), (.int (Int32.ofNat jq)), (.int (Int32.ofNat 20)), (.ref a)])) _
  refine XS.iload X0.here hx rfl (hb hby at_389) rfl ?_
  show Steps p.tables e below (T.setTop (mkF m 391 #[.val (.int i0), .val (.int i1), .val (.int i2), .val (.int i3), .val (.int i4), .val (.int nn), .val (.int (Int32.ofNat jq)), .val (.int b), .val (.int w), .val (.int i9), .val (.int d), .val (.ref a), u12, u13, u14] [(.int w), (.int b), (.int (Int32.ofNat jq)), (.int (Int32.ofNat 20)), (.ref a)])) _
  refine XS.iload X0.here hx rfl (hb hby at_391) rfl ?_
  show Steps p.tables e below (T.setTop (mkF m 393 #[.val (.int i0), .val (.int i1), .val (.int i2), .val (.int i3), .val (.int i4), .val (.int nn), .val (.int (Int32.ofNat jq)), .val (.int b), .val (.int w), .val (.int i9), .val (.int d), .val (.ref a), u12, u13, u14] [(.int d), (.int w), (.int b), (.int (Int32.ofNat jq)), (.int (Int32.ofNat 20)), (.ref a)])) _
  exact st.trans kt
theorem own_p21 {p : Program} {l : Launch} {e : Env} {s : State} {m : MethodId} {args : Array Value} {below : List Frame} {meth : Method} {c : Code} {Z : State} {a0 : Array Value} {n0 cb sb : Nat} {h0 : Heap} {G1 : Int32} {G3 : Value} {T : State} {a : Addr} {ka : ClassId} {nn b w d : Int32} {jq : Nat} (hx : p.tables.exec = Jvm.exec) (hw : ∀ d ∈ tables_1, d.before a0 Z = true) (hEL : EW Z a0 EL) (rG3 : G3.isRef = true) (P5 : ¬ G1 = 0) (O2 : Sta Z Z.heap "java/lang/String" "COMPACT_STRINGS" "Z" (.int G1)) (O4 : Sta Z Z.heap "jdk/internal/util/Preconditions" "SIOOBE_FORMATTER" "Ljava/util/function/BiFunction;" G3) (hby : c.code = code) (hml : c.maxLocals = 15) (ga : n0 ≤ a) (hcb : cb ≤ 5) (hsb : sb ≤ 242) (i0 i1 i2 i3 i4 i9 : Int32) (u12 u13 u14 : Slot) (P : own_L Z p l e s m args below meth c n0 h0 cb sb a ka nn (own_cont 21 (Int32.ofNat jq) b w d) T) :
    ∃ T', own_L Z p l e s m args below meth c n0 h0 cb sb a ka nn (own_cont 22 (Int32.ofNat jq) b w d) T' ∧ ∀ target, Steps p.tables e below (T'.setTop (mkF m 411 #[.val (.int i0), .val (.int i1), .val (.int i2), .val (.int i3), .val (.int i4), .val (.int nn), .val (.int (Int32.ofNat jq)), .val (.int b), .val (.int w), .val (.int i9), .val (.int d), .val (.ref a), u12, u13, u14] [])) target → Steps p.tables e below (T.setTop (mkF m 396 #[.val (.int i0), .val (.int i1), .val (.int i2), .val (.int i3), .val (.int i4), .val (.int nn), .val (.int (Int32.ofNat jq)), .val (.int b), .val (.int w), .val (.int i9), .val (.int d), .val (.ref a), u12, u13, u14] [])) target := by
  obtain ⟨T', P', st⟩ := own_putcall hx hw hEL rG3 P5 O2 O4 hby hml ga hcb hsb 21 (by decide) P 408 #[.val (.int i0), .val (.int i1), .val (.int i2), .val (.int i3), .val (.int i4), .val (.int nn), .val (.int (Int32.ofNat jq)), .val (.int b), .val (.int w), .val (.int i9), .val (.int d), .val (.ref a), u12, u13, u14] rfl at_408 (own_cont 22 (Int32.ofNat jq) b w d) rfl
  obtain ⟨_, _, _, ⟨X0, -⟩, -⟩ := P
  refine ⟨T', P', fun target kt => ?_⟩
  show Steps p.tables e below (T.setTop (mkF m 396 #[.val (.int i0), .val (.int i1), .val (.int i2), .val (.int i3), .val (.int i4), .val (.int nn), .val (.int (Int32.ofNat jq)), .val (.int b), .val (.int w), .val (.int i9), .val (.int d), .val (.ref a), u12, u13, u14] [])) _
  refine XS.aload X0.here hx rfl (hb hby at_396) rfl rfl ?_
  show Steps p.tables e below (T.setTop (mkF m 398 #[.val (.int i0), .val (.int i1), .val (.int i2), .val (.int i3), .val (.int i4), .val (.int nn), .val (.int (Int32.ofNat jq)), .val (.int b), .val (.int w), .val (.int i9), .val (.int d), .val (.ref a), u12, u13, u14] [(.ref a)])) _
  refine XS.bipush X0.here hx rfl (hb hby at_398) ?_
  show Steps p.tables e below (T.setTop (mkF m 400 #[.val (.int i0), .val (.int i1), .val (.int i2), .val (.int i3), .val (.int i4), .val (.int nn), .val (.int (Int32.ofNat jq)), .val (.int b), .val (.int w), .val (.int i9), .val (.int d), .val (.ref a), u12, u13, u14] [(.int (Int32.ofNat 21)), (.ref a)])) _
  refine XS.iload X0.here hx rfl (hb hby at_400) rfl ?_
  show Steps p.tables e below (T.setTop (mkF m 402 #[.val (.int i0), .val (.int i1), .val (.int i2), .val (.int i3), .val (.int i4), .val (.int nn), .val (.int (Int32.ofNat jq)), .val (.int b), .val (.int w), .val (.int i9), .val (.int d), .val (.ref a), u12, u13, u14] [(.int (Int32.ofNat jq)), (.int (Int32.ofNat 21)), (.ref a)])) _
  refine XS.iload X0.here hx rfl (hb hby at_402) rfl ?_
  show Steps p.tables e below (T.setTop (mkF m 404 #[.val (.int i0), .val (.int i1), .val (.int i2), .val (.int i3), .val (.int i4), .val (.int nn), .val (.int (Int32.ofNat jq)), .val (.int b), .val (.int w), .val (.int i9), .val (.int d), .val (.ref a), u12, u13, u14] [(.int b), (.int (Int32.ofNat jq)), (.int (Int32.ofNat 21)), (.ref a)])) _
  refine XS.iload X0.here hx rfl (hb hby at_404) rfl ?_
  show Steps p.tables e below (T.setTop (mkF m 406 #[.val (.int i0), .val (.int i1), .val (.int i2), .val (.int i3), .val (.int i4), .val (.int nn), .val (.int (Int32.ofNat jq)), .val (.int b), .val (.int w), .val (.int i9), .val (.int d), .val (.ref a), u12, u13, u14] [(.int w), (.int b), (.int (Int32.ofNat jq)), (.int (Int32.ofNat 21)), (.ref a)])) _
  refine XS.iload X0.here hx rfl (hb hby at_406) rfl ?_
  show Steps p.tables e below (T.setTop (mkF m 408 #[.val (.int i0), .val (.int i1), .val (.int i2), .val (.int i3), .val (.int i4), .val (.int nn), .val (.int (Int32.ofNat jq)), .val (.int b), .val (.int w), .val (.int i9), .val (.int d), .val (.ref a), u12, u13, u14] [(.int d), (.int w), (.int b), (.int (Int32.ofNat jq)), (.int (Int32.ofNat 21)), (.ref a)])) _
  exact st.trans kt
theorem own_p22 {p : Program} {l : Launch} {e : Env} {s : State} {m : MethodId} {args : Array Value} {below : List Frame} {meth : Method} {c : Code} {Z : State} {a0 : Array Value} {n0 cb sb : Nat} {h0 : Heap} {G1 : Int32} {G3 : Value} {T : State} {a : Addr} {ka : ClassId} {nn b w d : Int32} {jq : Nat} (hx : p.tables.exec = Jvm.exec) (hw : ∀ d ∈ tables_1, d.before a0 Z = true) (hEL : EW Z a0 EL) (rG3 : G3.isRef = true) (P5 : ¬ G1 = 0) (O2 : Sta Z Z.heap "java/lang/String" "COMPACT_STRINGS" "Z" (.int G1)) (O4 : Sta Z Z.heap "jdk/internal/util/Preconditions" "SIOOBE_FORMATTER" "Ljava/util/function/BiFunction;" G3) (hby : c.code = code) (hml : c.maxLocals = 15) (ga : n0 ≤ a) (hcb : cb ≤ 5) (hsb : sb ≤ 242) (i0 i1 i2 i3 i4 i9 : Int32) (u12 u13 u14 : Slot) (P : own_L Z p l e s m args below meth c n0 h0 cb sb a ka nn (own_cont 22 (Int32.ofNat jq) b w d) T) :
    ∃ T', own_L Z p l e s m args below meth c n0 h0 cb sb a ka nn (own_cont 23 (Int32.ofNat jq) b w d) T' ∧ ∀ target, Steps p.tables e below (T'.setTop (mkF m 426 #[.val (.int i0), .val (.int i1), .val (.int i2), .val (.int i3), .val (.int i4), .val (.int nn), .val (.int (Int32.ofNat jq)), .val (.int b), .val (.int w), .val (.int i9), .val (.int d), .val (.ref a), u12, u13, u14] [])) target → Steps p.tables e below (T.setTop (mkF m 411 #[.val (.int i0), .val (.int i1), .val (.int i2), .val (.int i3), .val (.int i4), .val (.int nn), .val (.int (Int32.ofNat jq)), .val (.int b), .val (.int w), .val (.int i9), .val (.int d), .val (.ref a), u12, u13, u14] [])) target := by
  obtain ⟨T', P', st⟩ := own_putcall hx hw hEL rG3 P5 O2 O4 hby hml ga hcb hsb 22 (by decide) P 423 #[.val (.int i0), .val (.int i1), .val (.int i2), .val (.int i3), .val (.int i4), .val (.int nn), .val (.int (Int32.ofNat jq)), .val (.int b), .val (.int w), .val (.int i9), .val (.int d), .val (.ref a), u12, u13, u14] rfl at_423 (own_cont 23 (Int32.ofNat jq) b w d) rfl
  obtain ⟨_, _, _, ⟨X0, -⟩, -⟩ := P
  refine ⟨T', P', fun target kt => ?_⟩
  show Steps p.tables e below (T.setTop (mkF m 411 #[.val (.int i0), .val (.int i1), .val (.int i2), .val (.int i3), .val (.int i4), .val (.int nn), .val (.int (Int32.ofNat jq)), .val (.int b), .val (.int w), .val (.int i9), .val (.int d), .val (.ref a), u12, u13, u14] [])) _
  refine XS.aload X0.here hx rfl (hb hby at_411) rfl rfl ?_
  show Steps p.tables e below (T.setTop (mkF m 413 #[.val (.int i0), .val (.int i1), .val (.int i2), .val (.int i3), .val (.int i4), .val (.int nn), .val (.int (Int32.ofNat jq)), .val (.int b), .val (.int w), .val (.int i9), .val (.int d), .val (.ref a), u12, u13, u14] [(.ref a)])) _
  refine XS.bipush X0.here hx rfl (hb hby at_413) ?_
  show Steps p.tables e below (T.setTop (mkF m 415 #[.val (.int i0), .val (.int i1), .val (.int i2), .val (.int i3), .val (.int i4), .val (.int nn), .val (.int (Int32.ofNat jq)), .val (.int b), .val (.int w), .val (.int i9), .val (.int d), .val (.ref a), u12, u13, u14] [(.int (Int32.ofNat 22)), (.ref a)])) _
  refine XS.iload X0.here hx rfl (hb hby at_415) rfl ?_
  show Steps p.tables e below (T.setTop (mkF m 417 #[.val (.int i0), .val (.int i1), .val (.int i2), .val (.int i3), .val (.int i4), .val (.int nn), .val (.int (Int32.ofNat jq)), .val (.int b), .val (.int w), .val (.int i9), .val (.int d), .val (.ref a), u12, u13, u14] [(.int (Int32.ofNat jq)), (.int (Int32.ofNat 22)), (.ref a)])) _
  refine XS.iload X0.here hx rfl (hb hby at_417) rfl ?_
  show Steps p.tables e below (T.setTop (mkF m 419 #[.val (.int i0), .val (.int i1), .val (.int i2), .val (.int i3), .val (.int i4), .val (.int nn), .val (.int (Int32.ofNat jq)), .val (.int b), .val (.int w), .val (.int i9), .val (.int d), .val (.ref a), u12, u13, u14] [(.int b), (.int (Int32.ofNat jq)), (.int (Int32.ofNat 22)), (.ref a)])) _
  refine XS.iload X0.here hx rfl (hb hby at_419) rfl ?_
  show Steps p.tables e below (T.setTop (mkF m 421 #[.val (.int i0), .val (.int i1), .val (.int i2), .val (.int i3), .val (.int i4), .val (.int nn), .val (.int (Int32.ofNat jq)), .val (.int b), .val (.int w), .val (.int i9), .val (.int d), .val (.ref a), u12, u13, u14] [(.int w), (.int b), (.int (Int32.ofNat jq)), (.int (Int32.ofNat 22)), (.ref a)])) _
  refine XS.iload X0.here hx rfl (hb hby at_421) rfl ?_
  show Steps p.tables e below (T.setTop (mkF m 423 #[.val (.int i0), .val (.int i1), .val (.int i2), .val (.int i3), .val (.int i4), .val (.int nn), .val (.int (Int32.ofNat jq)), .val (.int b), .val (.int w), .val (.int i9), .val (.int d), .val (.ref a), u12, u13, u14] [(.int d), (.int w), (.int b), (.int (Int32.ofNat jq)), (.int (Int32.ofNat 22)), (.ref a)])) _
  exact st.trans kt
theorem own_p23 {p : Program} {l : Launch} {e : Env} {s : State} {m : MethodId} {args : Array Value} {below : List Frame} {meth : Method} {c : Code} {Z : State} {a0 : Array Value} {n0 cb sb : Nat} {h0 : Heap} {G1 : Int32} {G3 : Value} {T : State} {a : Addr} {ka : ClassId} {nn b w d : Int32} {jq : Nat} (hx : p.tables.exec = Jvm.exec) (hw : ∀ d ∈ tables_1, d.before a0 Z = true) (hEL : EW Z a0 EL) (rG3 : G3.isRef = true) (P5 : ¬ G1 = 0) (O2 : Sta Z Z.heap "java/lang/String" "COMPACT_STRINGS" "Z" (.int G1)) (O4 : Sta Z Z.heap "jdk/internal/util/Preconditions" "SIOOBE_FORMATTER" "Ljava/util/function/BiFunction;" G3) (hby : c.code = code) (hml : c.maxLocals = 15) (ga : n0 ≤ a) (hcb : cb ≤ 5) (hsb : sb ≤ 242) (i0 i1 i2 i3 i4 i9 : Int32) (u12 u13 u14 : Slot) (P : own_L Z p l e s m args below meth c n0 h0 cb sb a ka nn (own_cont 23 (Int32.ofNat jq) b w d) T) :
    ∃ T', own_L Z p l e s m args below meth c n0 h0 cb sb a ka nn (own_cont 24 (Int32.ofNat jq) b w d) T' ∧ ∀ target, Steps p.tables e below (T'.setTop (mkF m 441 #[.val (.int i0), .val (.int i1), .val (.int i2), .val (.int i3), .val (.int i4), .val (.int nn), .val (.int (Int32.ofNat jq)), .val (.int b), .val (.int w), .val (.int i9), .val (.int d), .val (.ref a), u12, u13, u14] [])) target → Steps p.tables e below (T.setTop (mkF m 426 #[.val (.int i0), .val (.int i1), .val (.int i2), .val (.int i3), .val (.int i4), .val (.int nn), .val (.int (Int32.ofNat jq)), .val (.int b), .val (.int w), .val (.int i9), .val (.int d), .val (.ref a), u12, u13, u14] [])) target := by
  obtain ⟨T', P', st⟩ := own_putcall hx hw hEL rG3 P5 O2 O4 hby hml ga hcb hsb 23 (by decide) P 438 #[.val (.int i0), .val (.int i1), .val (.int i2), .val (.int i3), .val (.int i4), .val (.int nn), .val (.int (Int32.ofNat jq)), .val (.int b), .val (.int w), .val (.int i9), .val (.int d), .val (.ref a), u12, u13, u14] rfl at_438 (own_cont 24 (Int32.ofNat jq) b w d) rfl
  obtain ⟨_, _, _, ⟨X0, -⟩, -⟩ := P
  refine ⟨T', P', fun target kt => ?_⟩
  show Steps p.tables e below (T.setTop (mkF m 426 #[.val (.int i0), .val (.int i1), .val (.int i2), .val (.int i3), .val (.int i4), .val (.int nn), .val (.int (Int32.ofNat jq)), .val (.int b), .val (.int w), .val (.int i9), .val (.int d), .val (.ref a), u12, u13, u14] [])) _
  refine XS.aload X0.here hx rfl (hb hby at_426) rfl rfl ?_
  show Steps p.tables e below (T.setTop (mkF m 428 #[.val (.int i0), .val (.int i1), .val (.int i2), .val (.int i3), .val (.int i4), .val (.int nn), .val (.int (Int32.ofNat jq)), .val (.int b), .val (.int w), .val (.int i9), .val (.int d), .val (.ref a), u12, u13, u14] [(.ref a)])) _
  refine XS.bipush X0.here hx rfl (hb hby at_428) ?_
  show Steps p.tables e below (T.setTop (mkF m 430 #[.val (.int i0), .val (.int i1), .val (.int i2), .val (.int i3), .val (.int i4), .val (.int nn), .val (.int (Int32.ofNat jq)), .val (.int b), .val (.int w), .val (.int i9), .val (.int d), .val (.ref a), u12, u13, u14] [(.int (Int32.ofNat 23)), (.ref a)])) _
  refine XS.iload X0.here hx rfl (hb hby at_430) rfl ?_
  show Steps p.tables e below (T.setTop (mkF m 432 #[.val (.int i0), .val (.int i1), .val (.int i2), .val (.int i3), .val (.int i4), .val (.int nn), .val (.int (Int32.ofNat jq)), .val (.int b), .val (.int w), .val (.int i9), .val (.int d), .val (.ref a), u12, u13, u14] [(.int (Int32.ofNat jq)), (.int (Int32.ofNat 23)), (.ref a)])) _
  refine XS.iload X0.here hx rfl (hb hby at_432) rfl ?_
  show Steps p.tables e below (T.setTop (mkF m 434 #[.val (.int i0), .val (.int i1), .val (.int i2), .val (.int i3), .val (.int i4), .val (.int nn), .val (.int (Int32.ofNat jq)), .val (.int b), .val (.int w), .val (.int i9), .val (.int d), .val (.ref a), u12, u13, u14] [(.int b), (.int (Int32.ofNat jq)), (.int (Int32.ofNat 23)), (.ref a)])) _
  refine XS.iload X0.here hx rfl (hb hby at_434) rfl ?_
  show Steps p.tables e below (T.setTop (mkF m 436 #[.val (.int i0), .val (.int i1), .val (.int i2), .val (.int i3), .val (.int i4), .val (.int nn), .val (.int (Int32.ofNat jq)), .val (.int b), .val (.int w), .val (.int i9), .val (.int d), .val (.ref a), u12, u13, u14] [(.int w), (.int b), (.int (Int32.ofNat jq)), (.int (Int32.ofNat 23)), (.ref a)])) _
  refine XS.iload X0.here hx rfl (hb hby at_436) rfl ?_
  show Steps p.tables e below (T.setTop (mkF m 438 #[.val (.int i0), .val (.int i1), .val (.int i2), .val (.int i3), .val (.int i4), .val (.int nn), .val (.int (Int32.ofNat jq)), .val (.int b), .val (.int w), .val (.int i9), .val (.int d), .val (.ref a), u12, u13, u14] [(.int d), (.int w), (.int b), (.int (Int32.ofNat jq)), (.int (Int32.ofNat 23)), (.ref a)])) _
  exact st.trans kt
theorem own_p24 {p : Program} {l : Launch} {e : Env} {s : State} {m : MethodId} {args : Array Value} {below : List Frame} {meth : Method} {c : Code} {Z : State} {a0 : Array Value} {n0 cb sb : Nat} {h0 : Heap} {G1 : Int32} {G3 : Value} {T : State} {a : Addr} {ka : ClassId} {nn b w d : Int32} {jq : Nat} (hx : p.tables.exec = Jvm.exec) (hw : ∀ d ∈ tables_1, d.before a0 Z = true) (hEL : EW Z a0 EL) (rG3 : G3.isRef = true) (P5 : ¬ G1 = 0) (O2 : Sta Z Z.heap "java/lang/String" "COMPACT_STRINGS" "Z" (.int G1)) (O4 : Sta Z Z.heap "jdk/internal/util/Preconditions" "SIOOBE_FORMATTER" "Ljava/util/function/BiFunction;" G3) (hby : c.code = code) (hml : c.maxLocals = 15) (ga : n0 ≤ a) (hcb : cb ≤ 5) (hsb : sb ≤ 242) (i0 i1 i2 i3 i4 i9 : Int32) (u12 u13 u14 : Slot) (P : own_L Z p l e s m args below meth c n0 h0 cb sb a ka nn (own_cont 24 (Int32.ofNat jq) b w d) T) :
    ∃ T', own_L Z p l e s m args below meth c n0 h0 cb sb a ka nn (own_cont 25 (Int32.ofNat jq) b w d) T' ∧ ∀ target, Steps p.tables e below (T'.setTop (mkF m 456 #[.val (.int i0), .val (.int i1), .val (.int i2), .val (.int i3), .val (.int i4), .val (.int nn), .val (.int (Int32.ofNat jq)), .val (.int b), .val (.int w), .val (.int i9), .val (.int d), .val (.ref a), u12, u13, u14] [])) target → Steps p.tables e below (T.setTop (mkF m 441 #[.val (.int i0), .val (.int i1), .val (.int i2), .val (.int i3), .val (.int i4), .val (.int nn), .val (.int (Int32.ofNat jq)), .val (.int b), .val (.int w), .val (.int i9), .val (.int d), .val (.ref a), u12, u13, u14] [])) target := by
  obtain ⟨T', P', st⟩ := own_putcall hx hw hEL rG3 P5 O2 O4 hby hml ga hcb hsb 24 (by decide) P 453 #[.val (.int i0), .val (.int i1), .val (.int i2), .val (.int i3), .val (.int i4), .val (.int nn), .val (.int (Int32.ofNat jq)), .val (.int b), .val (.int w), .val (.int i9), .val (.int d), .val (.ref a), u12, u13, u14] rfl at_453 (own_cont 25 (Int32.ofNat jq) b w d) rfl
  obtain ⟨_, _, _, ⟨X0, -⟩, -⟩ := P
  refine ⟨T', P', fun target kt => ?_⟩
  show Steps p.tables e below (T.setTop (mkF m 441 #[.val (.int i0), .val (.int i1), .val (.int i2), .val (.int i3), .val (.int i4), .val (.int nn), .val (.int (Int32.ofNat jq)), .val (.int b), .val (.int w), .val (.int i9), .val (.int d), .val (.ref a), u12, u13, u14] [])) _
  refine XS.aload X0.here hx rfl (hb hby at_441) rfl rfl ?_
  show Steps p.tables e below (T.setTop (mkF m 443 #[.val (.int i0), .val (.int i1), .val (.int i2), .val (.int i3), .val (.int i4), .val (.int nn), .val (.int (Int32.ofNat jq)), .val (.int b), .val (.int w), .val (.int i9), .val (.int d), .val (.ref a), u12, u13, u14] [(.ref a)])) _
  refine XS.bipush X0.here hx rfl (hb hby at_443) ?_
  show Steps p.tables e below (T.setTop (mkF m 445 #[.val (.int i0), .val (.int i1), .val (.int i2), .val (.int i3), .val (.int i4), .val (.int nn), .val (.int (Int32.ofNat jq)), .val (.int b), .val (.int w), .val (.int i9), .val (.int d), .val (.ref a), u12, u13, u14] [(.int (Int32.ofNat 24)), (.ref a)])) _
  refine XS.iload X0.here hx rfl (hb hby at_445) rfl ?_
  show Steps p.tables e below (T.setTop (mkF m 447 #[.val (.int i0), .val (.int i1), .val (.int i2), .val (.int i3), .val (.int i4), .val (.int nn), .val (.int (Int32.ofNat jq)), .val (.int b), .val (.int w), .val (.int i9), .val (.int d), .val (.ref a), u12, u13, u14] [(.int (Int32.ofNat jq)), (.int (Int32.ofNat 24)), (.ref a)])) _
  refine XS.iload X0.here hx rfl (hb hby at_447) rfl ?_
  show Steps p.tables e below (T.setTop (mkF m 449 #[.val (.int i0), .val (.int i1), .val (.int i2), .val (.int i3), .val (.int i4), .val (.int nn), .val (.int (Int32.ofNat jq)), .val (.int b), .val (.int w), .val (.int i9), .val (.int d), .val (.ref a), u12, u13, u14] [(.int b), (.int (Int32.ofNat jq)), (.int (Int32.ofNat 24)), (.ref a)])) _
  refine XS.iload X0.here hx rfl (hb hby at_449) rfl ?_
  show Steps p.tables e below (T.setTop (mkF m 451 #[.val (.int i0), .val (.int i1), .val (.int i2), .val (.int i3), .val (.int i4), .val (.int nn), .val (.int (Int32.ofNat jq)), .val (.int b), .val (.int w), .val (.int i9), .val (.int d), .val (.ref a), u12, u13, u14] [(.int w), (.int b), (.int (Int32.ofNat jq)), (.int (Int32.ofNat 24)), (.ref a)])) _
  refine XS.iload X0.here hx rfl (hb hby at_451) rfl ?_
  show Steps p.tables e below (T.setTop (mkF m 453 #[.val (.int i0), .val (.int i1), .val (.int i2), .val (.int i3), .val (.int i4), .val (.int nn), .val (.int (Int32.ofNat jq)), .val (.int b), .val (.int w), .val (.int i9), .val (.int d), .val (.ref a), u12, u13, u14] [(.int d), (.int w), (.int b), (.int (Int32.ofNat jq)), (.int (Int32.ofNat 24)), (.ref a)])) _
  exact st.trans kt
theorem own_p25 {p : Program} {l : Launch} {e : Env} {s : State} {m : MethodId} {args : Array Value} {below : List Frame} {meth : Method} {c : Code} {Z : State} {a0 : Array Value} {n0 cb sb : Nat} {h0 : Heap} {G1 : Int32} {G3 : Value} {T : State} {a : Addr} {ka : ClassId} {nn b w d : Int32} {jq : Nat} (hx : p.tables.exec = Jvm.exec) (hw : ∀ d ∈ tables_1, d.before a0 Z = true) (hEL : EW Z a0 EL) (rG3 : G3.isRef = true) (P5 : ¬ G1 = 0) (O2 : Sta Z Z.heap "java/lang/String" "COMPACT_STRINGS" "Z" (.int G1)) (O4 : Sta Z Z.heap "jdk/internal/util/Preconditions" "SIOOBE_FORMATTER" "Ljava/util/function/BiFunction;" G3) (hby : c.code = code) (hml : c.maxLocals = 15) (ga : n0 ≤ a) (hcb : cb ≤ 5) (hsb : sb ≤ 242) (i0 i1 i2 i3 i4 i9 : Int32) (u12 u13 u14 : Slot) (P : own_L Z p l e s m args below meth c n0 h0 cb sb a ka nn (own_cont 25 (Int32.ofNat jq) b w d) T) :
    ∃ T', own_L Z p l e s m args below meth c n0 h0 cb sb a ka nn (own_cont 26 (Int32.ofNat jq) b w d) T' ∧ ∀ target, Steps p.tables e below (T'.setTop (mkF m 471 #[.val (.int i0), .val (.int i1), .val (.int i2), .val (.int i3), .val (.int i4), .val (.int nn), .val (.int (Int32.ofNat jq)), .val (.int b), .val (.int w), .val (.int i9), .val (.int d), .val (.ref a), u12, u13, u14] [])) target → Steps p.tables e below (T.setTop (mkF m 456 #[.val (.int i0), .val (.int i1), .val (.int i2), .val (.int i3), .val (.int i4), .val (.int nn), .val (.int (Int32.ofNat jq)), .val (.int b), .val (.int w), .val (.int i9), .val (.int d), .val (.ref a), u12, u13, u14] [])) target := by
  obtain ⟨T', P', st⟩ := own_putcall hx hw hEL rG3 P5 O2 O4 hby hml ga hcb hsb 25 (by decide) P 468 #[.val (.int i0), .val (.int i1), .val (.int i2), .val (.int i3), .val (.int i4), .val (.int nn), .val (.int (Int32.ofNat jq)), .val (.int b), .val (.int w), .val (.int i9), .val (.int d), .val (.ref a), u12, u13, u14] rfl at_468 (own_cont 26 (Int32.ofNat jq) b w d) rfl
  obtain ⟨_, _, _, ⟨X0, -⟩, -⟩ := P
  refine ⟨T', P', fun target kt => ?_⟩
  show Steps p.tables e below (T.setTop (mkF m 456 #[.val (.int i0), .val (.int i1), .val (.int i2), .val (.int i3), .val (.int i4), .val (.int nn), .val (.int (Int32.ofNat jq)), .val (.int b), .val (.int w), .val (.int i9), .val (.int d), .val (.ref a), u12, u13, u14] [])) _
  refine XS.aload X0.here hx rfl (hb hby at_456) rfl rfl ?_
  show Steps p.tables e below (T.setTop (mkF m 458 #[.val (.int i0), .val (.int i1), .val (.int i2), .val (.int i3), .val (.int i4), .val (.int nn), .val (.int (Int32.ofNat jq)), .val (.int b), .val (.int w), .val (.int i9), .val (.int d), .val (.ref a), u12, u13, u14] [(.ref a)])) _
  refine XS.bipush X0.here hx rfl (hb hby at_458) ?_
  show Steps p.tables e below (T.setTop (mkF m 460 #[.val (.int i0), .val (.int i1), .val (.int i2), .val (.int i3), .val (.int i4), .val (.int nn), .val (.int (Int32.ofNat jq)), .val (.int b), .val (.int w), .val (.int i9), .val (.int d), .val (.ref a), u12, u13, u14] [(.int (Int32.ofNat 25)), (.ref a)])) _
  refine XS.iload X0.here hx rfl (hb hby at_460) rfl ?_
  show Steps p.tables e below (T.setTop (mkF m 462 #[.val (.int i0), .val (.int i1), .val (.int i2), .val (.int i3), .val (.int i4), .val (.int nn), .val (.int (Int32.ofNat jq)), .val (.int b), .val (.int w), .val (.int i9), .val (.int d), .val (.ref a), u12, u13, u14] [(.int (Int32.ofNat jq)), (.int (Int32.ofNat 25)), (.ref a)])) _
  refine XS.iload X0.here hx rfl (hb hby at_462) rfl ?_
  show Steps p.tables e below (T.setTop (mkF m 464 #[.val (.int i0), .val (.int i1), .val (.int i2), .val (.int i3), .val (.int i4), .val (.int nn), .val (.int (Int32.ofNat jq)), .val (.int b), .val (.int w), .val (.int i9), .val (.int d), .val (.ref a), u12, u13, u14] [(.int b), (.int (Int32.ofNat jq)), (.int (Int32.ofNat 25)), (.ref a)])) _
  refine XS.iload X0.here hx rfl (hb hby at_464) rfl ?_
  show Steps p.tables e below (T.setTop (mkF m 466 #[.val (.int i0), .val (.int i1), .val (.int i2), .val (.int i3), .val (.int i4), .val (.int nn), .val (.int (Int32.ofNat jq)), .val (.int b), .val (.int w), .val (.int i9), .val (.int d), .val (.ref a), u12, u13, u14] [(.int w), (.int b), (.int (Int32.ofNat jq)), (.int (Int32.ofNat 25)), (.ref a)])) _
  refine XS.iload X0.here hx rfl (hb hby at_466) rfl ?_
  show Steps p.tables e below (T.setTop (mkF m 468 #[.val (.int i0), .val (.int i1), .val (.int i2), .val (.int i3), .val (.int i4), .val (.int nn), .val (.int (Int32.ofNat jq)), .val (.int b), .val (.int w), .val (.int i9), .val (.int d), .val (.ref a), u12, u13, u14] [(.int d), (.int w), (.int b), (.int (Int32.ofNat jq)), (.int (Int32.ofNat 25)), (.ref a)])) _
  exact st.trans kt
theorem own_half1 {p : Program} {l : Launch} {e : Env} {s : State} {m : MethodId} {args : Array Value} {below : List Frame} {meth : Method} {c : Code} {Z : State} {a0 : Array Value} {n0 cb sb : Nat} {h0 : Heap} {G1 : Int32} {G3 : Value} {T : State} {a : Addr} {ka : ClassId} {nn b w d : Int32} {jq : Nat} (hx : p.tables.exec = Jvm.exec) (hw : ∀ d ∈ tables_1, d.before a0 Z = true) (hEL : EW Z a0 EL) (rG3 : G3.isRef = true) (P5 : ¬ G1 = 0) (O2 : Sta Z Z.heap "java/lang/String" "COMPACT_STRINGS" "Z" (.int G1)) (O4 : Sta Z Z.heap "jdk/internal/util/Preconditions" "SIOOBE_FORMATTER" "Ljava/util/function/BiFunction;" G3) (hby : c.code = code) (hml : c.maxLocals = 15) (ga : n0 ≤ a) (hcb : cb ≤ 5) (hsb : sb ≤ 242) (i0 i1 i2 i3 i4 i9 : Int32) (u12 u13 u14 : Slot) (hjq : jq < 26) {vs : List Value} (P : own_L Z p l e s m args below meth c n0 h0 cb sb a ka nn vs T) :
    ∃ T', own_L Z p l e s m args below meth c n0 h0 cb sb a ka nn vs T' ∧ ∀ target, Steps p.tables e below (T'.setTop (mkF m 514 #[.val (.int i0), .val (.int i1), .val (.int i2), .val (.int i3), .val (.int i4), .val (.int nn), .val (.int (Int32.ofNat jq)), .val (.int b), .val (.int w), .val (.int i9), .val (.int d), .val (.ref a), u12, u13, u14] [(.int (own_one 1 jq nn b w d))])) target → Steps p.tables e below (T.setTop (mkF m 471 #[.val (.int i0), .val (.int i1), .val (.int i2), .val (.int i3), .val (.int i4), .val (.int nn), .val (.int (Int32.ofNat jq)), .val (.int b), .val (.int w), .val (.int i9), .val (.int d), .val (.ref a), u12, u13, u14] [])) target := by
  obtain ⟨T1, P1, st1⟩ := own_okcall hx hw hEL rG3 P5 O2 O4 hby hml ga hcb hsb P 1 24 (by decide) 484 #[.val (.int i0), .val (.int i1), .val (.int i2), .val (.int i3), .val (.int i4), .val (.int nn), .val (.int (Int32.ofNat jq)), .val (.int b), .val (.int w), .val (.int i9), .val (.int d), .val (.ref a), u12, u13, u14] rfl at_484
  have pre1 : ∀ target, Steps p.tables e below (T1.setTop (mkF m 487 #[.val (.int i0), .val (.int i1), .val (.int i2), .val (.int i3), .val (.int i4), .val (.int nn), .val (.int (Int32.ofNat jq)), .val (.int b), .val (.int w), .val (.int i9), .val (.int d), .val (.ref a), u12, u13, u14] [(.int (own_ok 1 24 nn (Int32.ofNat jq) b w d))])) target → Steps p.tables e below (T.setTop (mkF m 471 #[.val (.int i0), .val (.int i1), .val (.int i2), .val (.int i3), .val (.int i4), .val (.int nn), .val (.int (Int32.ofNat jq)), .val (.int b), .val (.int w), .val (.int i9), .val (.int d), .val (.ref a), u12, u13, u14] [])) target := fun target kt => by
    obtain ⟨_, _, _, ⟨X0, _⟩, _⟩ := id P
    show Steps p.tables e below (T.setTop (mkF m 471 #[.val (.int i0), .val (.int i1), .val (.int i2), .val (.int i3), .val (.int i4), .val (.int nn), .val (.int (Int32.ofNat jq)), .val (.int b), .val (.int w), .val (.int i9), .val (.int d), .val (.ref a), u12, u13, u14] [])) _
    refine XS.iconst X0.here hx rfl (hb hby at_471) ?_
    show Steps p.tables e below (T.setTop (mkF m 472 #[.val (.int i0), .val (.int i1), .val (.int i2), .val (.int i3), .val (.int i4), .val (.int nn), .val (.int (Int32.ofNat jq)), .val (.int b), .val (.int w), .val (.int i9), .val (.int d), .val (.ref a), u12, u13, u14] [(.int (1 : Int32))])) _
    refine XS.bipush X0.here hx rfl (hb hby at_472) ?_
    show Steps p.tables e below (T.setTop (mkF m 474 #[.val (.int i0), .val (.int i1), .val (.int i2), .val (.int i3), .val (.int i4), .val (.int nn), .val (.int (Int32.ofNat jq)), .val (.int b), .val (.int w), .val (.int i9), .val (.int d), .val (.ref a), u12, u13, u14] [(.int (Int32.ofNat 24)), (.int (1 : Int32))])) _
    refine XS.iload X0.here hx rfl (hb hby at_474) rfl ?_
    show Steps p.tables e below (T.setTop (mkF m 476 #[.val (.int i0), .val (.int i1), .val (.int i2), .val (.int i3), .val (.int i4), .val (.int nn), .val (.int (Int32.ofNat jq)), .val (.int b), .val (.int w), .val (.int i9), .val (.int d), .val (.ref a), u12, u13, u14] [(.int nn), (.int (Int32.ofNat 24)), (.int (1 : Int32))])) _
    refine XS.iload X0.here hx rfl (hb hby at_476) rfl ?_
    show Steps p.tables e below (T.setTop (mkF m 478 #[.val (.int i0), .val (.int i1), .val (.int i2), .val (.int i3), .val (.int i4), .val (.int nn), .val (.int (Int32.ofNat jq)), .val (.int b), .val (.int w), .val (.int i9), .val (.int d), .val (.ref a), u12, u13, u14] [(.int (Int32.ofNat jq)), (.int nn), (.int (Int32.ofNat 24)), (.int (1 : Int32))])) _
    refine XS.iload X0.here hx rfl (hb hby at_478) rfl ?_
    show Steps p.tables e below (T.setTop (mkF m 480 #[.val (.int i0), .val (.int i1), .val (.int i2), .val (.int i3), .val (.int i4), .val (.int nn), .val (.int (Int32.ofNat jq)), .val (.int b), .val (.int w), .val (.int i9), .val (.int d), .val (.ref a), u12, u13, u14] [(.int b), (.int (Int32.ofNat jq)), (.int nn), (.int (Int32.ofNat 24)), (.int (1 : Int32))])) _
    refine XS.iload X0.here hx rfl (hb hby at_480) rfl ?_
    show Steps p.tables e below (T.setTop (mkF m 482 #[.val (.int i0), .val (.int i1), .val (.int i2), .val (.int i3), .val (.int i4), .val (.int nn), .val (.int (Int32.ofNat jq)), .val (.int b), .val (.int w), .val (.int i9), .val (.int d), .val (.ref a), u12, u13, u14] [(.int w), (.int b), (.int (Int32.ofNat jq)), (.int nn), (.int (Int32.ofNat 24)), (.int (1 : Int32))])) _
    refine XS.iload X0.here hx rfl (hb hby at_482) rfl ?_
    show Steps p.tables e below (T.setTop (mkF m 484 #[.val (.int i0), .val (.int i1), .val (.int i2), .val (.int i3), .val (.int i4), .val (.int nn), .val (.int (Int32.ofNat jq)), .val (.int b), .val (.int w), .val (.int i9), .val (.int d), .val (.ref a), u12, u13, u14] [(.int d), (.int w), (.int b), (.int (Int32.ofNat jq)), (.int nn), (.int (Int32.ofNat 24)), (.int (1 : Int32))])) _
    exact st1.trans kt
  unfold own_one
  by_cases h1 : (own_ok 1 24 nn (Int32.ofNat jq) b w d) = 0
  · rw [if_pos h1]
    obtain ⟨_, _, _, ⟨X1, -⟩, -⟩ := id P1
    refine ⟨T1, P1, fun target kt => pre1 _ ?_⟩
    show Steps p.tables e below (T1.setTop (mkF m 487 #[.val (.int i0), .val (.int i1), .val (.int i2), .val (.int i3), .val (.int i4), .val (.int nn), .val (.int (Int32.ofNat jq)), .val (.int b), .val (.int w), .val (.int i9), .val (.int d), .val (.ref a), u12, u13, u14] [(.int (own_ok 1 24 nn (Int32.ofNat jq) b w d))])) _
    refine XS.ifYes X1.here hx rfl (pc0 := 487) (pc' := 513) rfl (hb hby at_487) rfl ((if0 _ _).trans (teq h1).1) (by decide) (by decide) ?_
    show Steps p.tables e below (T1.setTop (mkF m 513 #[.val (.int i0), .val (.int i1), .val (.int i2), .val (.int i3), .val (.int i4), .val (.int nn), .val (.int (Int32.ofNat jq)), .val (.int b), .val (.int w), .val (.int i9), .val (.int d), .val (.ref a), u12, u13, u14] [])) _
    refine XS.iconst X1.here hx rfl (hb hby at_513) ?_
    exact kt
  · rw [if_neg h1]
    obtain ⟨T2, P2, st2⟩ := own_okcall hx hw hEL rG3 P5 O2 O4 hby hml ga hcb hsb P1 1 jq hjq 503 #[.val (.int i0), .val (.int i1), .val (.int i2), .val (.int i3), .val (.int i4), .val (.int nn), .val (.int (Int32.ofNat jq)), .val (.int b), .val (.int w), .val (.int i9), .val (.int d), .val (.ref a), u12, u13, u14] rfl at_503
    obtain ⟨_, _, _, ⟨X2, -⟩, -⟩ := id P2
    obtain ⟨_, _, _, ⟨X1, -⟩, -⟩ := id P1
    have pre2 : ∀ target, Steps p.tables e below (T2.setTop (mkF m 506 #[.val (.int i0), .val (.int i1), .val (.int i2), .val (.int i3), .val (.int i4), .val (.int nn), .val (.int (Int32.ofNat jq)), .val (.int b), .val (.int w), .val (.int i9), .val (.int d), .val (.ref a), u12, u13, u14] [(.int (own_ok 1 jq nn (Int32.ofNat jq) b w d))])) target → Steps p.tables e below (T.setTop (mkF m 471 #[.val (.int i0), .val (.int i1), .val (.int i2), .val (.int i3), .val (.int i4), .val (.int nn), .val (.int (Int32.ofNat jq)), .val (.int b), .val (.int w), .val (.int i9), .val (.int d), .val (.ref a), u12, u13, u14] [])) target := fun target kt => by
      refine pre1 _ ?_
      show Steps p.tables e below (T1.setTop (mkF m 487 #[.val (.int i0), .val (.int i1), .val (.int i2), .val (.int i3), .val (.int i4), .val (.int nn), .val (.int (Int32.ofNat jq)), .val (.int b), .val (.int w), .val (.int i9), .val (.int d), .val (.ref a), u12, u13, u14] [(.int (own_ok 1 24 nn (Int32.ofNat jq) b w d))])) _
      refine XS.ifNo X1.here hx rfl (hb hby at_487) rfl ((if0 _ _).trans (feq h1).1) ?_
      show Steps p.tables e below (T1.setTop (mkF m 490 #[.val (.int i0), .val (.int i1), .val (.int i2), .val (.int i3), .val (.int i4), .val (.int nn), .val (.int (Int32.ofNat jq)), .val (.int b), .val (.int w), .val (.int i9), .val (.int d), .val (.ref a), u12, u13, u14] [])) _
      refine XS.iconst X1.here hx rfl (hb hby at_490) ?_
      show Steps p.tables e below (T1.setTop (mkF m 491 #[.val (.int i0), .val (.int i1), .val (.int i2), .val (.int i3), .val (.int i4), .val (.int nn), .val (.int (Int32.ofNat jq)), .val (.int b), .val (.int w), .val (.int i9), .val (.int d), .val (.ref a), u12, u13, u14] [(.int (1 : Int32))])) _
      refine XS.iload X1.here hx rfl (hb hby at_491) rfl ?_
      show Steps p.tables e below (T1.setTop (mkF m 493 #[.val (.int i0), .val (.int i1), .val (.int i2), .val (.int i3), .val (.int i4), .val (.int nn), .val (.int (Int32.ofNat jq)), .val (.int b), .val (.int w), .val (.int i9), .val (.int d), .val (.ref a), u12, u13, u14] [(.int (Int32.ofNat jq)), (.int (1 : Int32))])) _
      refine XS.iload X1.here hx rfl (hb hby at_493) rfl ?_
      show Steps p.tables e below (T1.setTop (mkF m 495 #[.val (.int i0), .val (.int i1), .val (.int i2), .val (.int i3), .val (.int i4), .val (.int nn), .val (.int (Int32.ofNat jq)), .val (.int b), .val (.int w), .val (.int i9), .val (.int d), .val (.ref a), u12, u13, u14] [(.int nn), (.int (Int32.ofNat jq)), (.int (1 : Int32))])) _
      refine XS.iload X1.here hx rfl (hb hby at_495) rfl ?_
      show Steps p.tables e below (T1.setTop (mkF m 497 #[.val (.int i0), .val (.int i1), .val (.int i2), .val (.int i3), .val (.int i4), .val (.int nn), .val (.int (Int32.ofNat jq)), .val (.int b), .val (.int w), .val (.int i9), .val (.int d), .val (.ref a), u12, u13, u14] [(.int (Int32.ofNat jq)), (.int nn), (.int (Int32.ofNat jq)), (.int (1 : Int32))])) _
      refine XS.iload X1.here hx rfl (hb hby at_497) rfl ?_
      show Steps p.tables e below (T1.setTop (mkF m 499 #[.val (.int i0), .val (.int i1), .val (.int i2), .val (.int i3), .val (.int i4), .val (.int nn), .val (.int (Int32.ofNat jq)), .val (.int b), .val (.int w), .val (.int i9), .val (.int d), .val (.ref a), u12, u13, u14] [(.int b), (.int (Int32.ofNat jq)), (.int nn), (.int (Int32.ofNat jq)), (.int (1 : Int32))])) _
      refine XS.iload X1.here hx rfl (hb hby at_499) rfl ?_
      show Steps p.tables e below (T1.setTop (mkF m 501 #[.val (.int i0), .val (.int i1), .val (.int i2), .val (.int i3), .val (.int i4), .val (.int nn), .val (.int (Int32.ofNat jq)), .val (.int b), .val (.int w), .val (.int i9), .val (.int d), .val (.ref a), u12, u13, u14] [(.int w), (.int b), (.int (Int32.ofNat jq)), (.int nn), (.int (Int32.ofNat jq)), (.int (1 : Int32))])) _
      refine XS.iload X1.here hx rfl (hb hby at_501) rfl ?_
      show Steps p.tables e below (T1.setTop (mkF m 503 #[.val (.int i0), .val (.int i1), .val (.int i2), .val (.int i3), .val (.int i4), .val (.int nn), .val (.int (Int32.ofNat jq)), .val (.int b), .val (.int w), .val (.int i9), .val (.int d), .val (.ref a), u12, u13, u14] [(.int d), (.int w), (.int b), (.int (Int32.ofNat jq)), (.int nn), (.int (Int32.ofNat jq)), (.int (1 : Int32))])) _
      exact st2.trans kt
    by_cases h2 : (own_ok 1 jq nn (Int32.ofNat jq) b w d) = 0
    · rw [if_pos h2]
      refine ⟨T2, P2, fun target kt => pre2 _ ?_⟩
      show Steps p.tables e below (T2.setTop (mkF m 506 #[.val (.int i0), .val (.int i1), .val (.int i2), .val (.int i3), .val (.int i4), .val (.int nn), .val (.int (Int32.ofNat jq)), .val (.int b), .val (.int w), .val (.int i9), .val (.int d), .val (.ref a), u12, u13, u14] [(.int (own_ok 1 jq nn (Int32.ofNat jq) b w d))])) _
      refine XS.ifYes X2.here hx rfl (pc0 := 506) (pc' := 513) rfl (hb hby at_506) rfl ((if0 _ _).trans (teq h2).1) (by decide) (by decide) ?_
      show Steps p.tables e below (T2.setTop (mkF m 513 #[.val (.int i0), .val (.int i1), .val (.int i2), .val (.int i3), .val (.int i4), .val (.int nn), .val (.int (Int32.ofNat jq)), .val (.int b), .val (.int w), .val (.int i9), .val (.int d), .val (.ref a), u12, u13, u14] [])) _
      refine XS.iconst X2.here hx rfl (hb hby at_513) ?_
      exact kt
    · rw [if_neg h2]
      refine ⟨T2, P2, fun target kt => pre2 _ ?_⟩
      show Steps p.tables e below (T2.setTop (mkF m 506 #[.val (.int i0), .val (.int i1), .val (.int i2), .val (.int i3), .val (.int i4), .val (.int nn), .val (.int (Int32.ofNat jq)), .val (.int b), .val (.int w), .val (.int i9), .val (.int d), .val (.ref a), u12, u13, u14] [(.int (own_ok 1 jq nn (Int32.ofNat jq) b w d))])) _
      refine XS.ifNo X2.here hx rfl (hb hby at_506) rfl ((if0 _ _).trans (feq h2).1) ?_
      show Steps p.tables e below (T2.setTop (mkF m 509 #[.val (.int i0), .val (.int i1), .val (.int i2), .val (.int i3), .val (.int i4), .val (.int nn), .val (.int (Int32.ofNat jq)), .val (.int b), .val (.int w), .val (.int i9), .val (.int d), .val (.ref a), u12, u13, u14] [])) _
      refine XS.iconst X2.here hx rfl (hb hby at_509) ?_
      show Steps p.tables e below (T2.setTop (mkF m 510 #[.val (.int i0), .val (.int i1), .val (.int i2), .val (.int i3), .val (.int i4), .val (.int nn), .val (.int (Int32.ofNat jq)), .val (.int b), .val (.int w), .val (.int i9), .val (.int d), .val (.ref a), u12, u13, u14] [(.int (1 : Int32))])) _
      refine XS.goto X2.here hx rfl (pc0 := 510) (pc' := 514) rfl (hb hby at_510) (by decide) (by decide) ?_
      exact kt
theorem own_half2 {p : Program} {l : Launch} {e : Env} {s : State} {m : MethodId} {args : Array Value} {below : List Frame} {meth : Method} {c : Code} {Z : State} {a0 : Array Value} {n0 cb sb : Nat} {h0 : Heap} {G1 : Int32} {G3 : Value} {T : State} {a : Addr} {ka : ClassId} {nn b w d : Int32} {jq : Nat} (hx : p.tables.exec = Jvm.exec) (hw : ∀ d ∈ tables_1, d.before a0 Z = true) (hEL : EW Z a0 EL) (rG3 : G3.isRef = true) (P5 : ¬ G1 = 0) (O2 : Sta Z Z.heap "java/lang/String" "COMPACT_STRINGS" "Z" (.int G1)) (O4 : Sta Z Z.heap "jdk/internal/util/Preconditions" "SIOOBE_FORMATTER" "Ljava/util/function/BiFunction;" G3) (hby : c.code = code) (hml : c.maxLocals = 15) (ga : n0 ≤ a) (hcb : cb ≤ 5) (hsb : sb ≤ 242) (i0 i1 i2 i3 i4 i9 : Int32) (u12 u13 u14 : Slot) (hjq : jq < 26) {vs : List Value} (P : own_L Z p l e s m args below meth c n0 h0 cb sb a ka nn vs T) :
    ∃ T', own_L Z p l e s m args below meth c n0 h0 cb sb a ka nn vs T' ∧ ∀ target, Steps p.tables e below (T'.setTop (mkF m 559 #[.val (.int i0), .val (.int i1), .val (.int i2), .val (.int i3), .val (.int i4), .val (.int nn), .val (.int (Int32.ofNat jq)), .val (.int b), .val (.int w), .val (.int i9), .val (.int d), .val (.ref a), u12, u13, u14] [(.int (own_one 2 jq nn b w d))])) target → Steps p.tables e below (T.setTop (mkF m 516 #[.val (.int i0), .val (.int i1), .val (.int i2), .val (.int i3), .val (.int i4), .val (.int nn), .val (.int (Int32.ofNat jq)), .val (.int b), .val (.int w), .val (.int i9), .val (.int d), .val (.ref a), u12, u13, u14] [])) target := by
  obtain ⟨T1, P1, st1⟩ := own_okcall hx hw hEL rG3 P5 O2 O4 hby hml ga hcb hsb P 2 24 (by decide) 529 #[.val (.int i0), .val (.int i1), .val (.int i2), .val (.int i3), .val (.int i4), .val (.int nn), .val (.int (Int32.ofNat jq)), .val (.int b), .val (.int w), .val (.int i9), .val (.int d), .val (.ref a), u12, u13, u14] rfl at_529
  have pre1 : ∀ target, Steps p.tables e below (T1.setTop (mkF m 532 #[.val (.int i0), .val (.int i1), .val (.int i2), .val (.int i3), .val (.int i4), .val (.int nn), .val (.int (Int32.ofNat jq)), .val (.int b), .val (.int w), .val (.int i9), .val (.int d), .val (.ref a), u12, u13, u14] [(.int (own_ok 2 24 nn (Int32.ofNat jq) b w d))])) target → Steps p.tables e below (T.setTop (mkF m 516 #[.val (.int i0), .val (.int i1), .val (.int i2), .val (.int i3), .val (.int i4), .val (.int nn), .val (.int (Int32.ofNat jq)), .val (.int b), .val (.int w), .val (.int i9), .val (.int d), .val (.ref a), u12, u13, u14] [])) target := fun target kt => by
    obtain ⟨_, _, _, ⟨X0, _⟩, _⟩ := id P
    show Steps p.tables e below (T.setTop (mkF m 516 #[.val (.int i0), .val (.int i1), .val (.int i2), .val (.int i3), .val (.int i4), .val (.int nn), .val (.int (Int32.ofNat jq)), .val (.int b), .val (.int w), .val (.int i9), .val (.int d), .val (.ref a), u12, u13, u14] [])) _
    refine XS.iconst X0.here hx rfl (hb hby at_516) ?_
    show Steps p.tables e below (T.setTop (mkF m 517 #[.val (.int i0), .val (.int i1), .val (.int i2), .val (.int i3), .val (.int i4), .val (.int nn), .val (.int (Int32.ofNat jq)), .val (.int b), .val (.int w), .val (.int i9), .val (.int d), .val (.ref a), u12, u13, u14] [(.int (2 : Int32))])) _
    refine XS.bipush X0.here hx rfl (hb hby at_517) ?_
    show Steps p.tables e below (T.setTop (mkF m 519 #[.val (.int i0), .val (.int i1), .val (.int i2), .val (.int i3), .val (.int i4), .val (.int nn), .val (.int (Int32.ofNat jq)), .val (.int b), .val (.int w), .val (.int i9), .val (.int d), .val (.ref a), u12, u13, u14] [(.int (Int32.ofNat 24)), (.int (2 : Int32))])) _
    refine XS.iload X0.here hx rfl (hb hby at_519) rfl ?_
    show Steps p.tables e below (T.setTop (mkF m 521 #[.val (.int i0), .val (.int i1), .val (.int i2), .val (.int i3), .val (.int i4), .val (.int nn), .val (.int (Int32.ofNat jq)), .val (.int b), .val (.int w), .val (.int i9), .val (.int d), .val (.ref a), u12, u13, u14] [(.int nn), (.int (Int32.ofNat 24)), (.int (2 : Int32))])) _
    refine XS.iload X0.here hx rfl (hb hby at_521) rfl ?_
    show Steps p.tables e below (T.setTop (mkF m 523 #[.val (.int i0), .val (.int i1), .val (.int i2), .val (.int i3), .val (.int i4), .val (.int nn), .val (.int (Int32.ofNat jq)), .val (.int b), .val (.int w), .val (.int i9), .val (.int d), .val (.ref a), u12, u13, u14] [(.int (Int32.ofNat jq)), (.int nn), (.int (Int32.ofNat 24)), (.int (2 : Int32))])) _
    refine XS.iload X0.here hx rfl (hb hby at_523) rfl ?_
    show Steps p.tables e below (T.setTop (mkF m 525 #[.val (.int i0), .val (.int i1), .val (.int i2), .val (.int i3), .val (.int i4), .val (.int nn), .val (.int (Int32.ofNat jq)), .val (.int b), .val (.int w), .val (.int i9), .val (.int d), .val (.ref a), u12, u13, u14] [(.int b), (.int (Int32.ofNat jq)), (.int nn), (.int (Int32.ofNat 24)), (.int (2 : Int32))])) _
    refine XS.iload X0.here hx rfl (hb hby at_525) rfl ?_
    show Steps p.tables e below (T.setTop (mkF m 527 #[.val (.int i0), .val (.int i1), .val (.int i2), .val (.int i3), .val (.int i4), .val (.int nn), .val (.int (Int32.ofNat jq)), .val (.int b), .val (.int w), .val (.int i9), .val (.int d), .val (.ref a), u12, u13, u14] [(.int w), (.int b), (.int (Int32.ofNat jq)), (.int nn), (.int (Int32.ofNat 24)), (.int (2 : Int32))])) _
    refine XS.iload X0.here hx rfl (hb hby at_527) rfl ?_
    show Steps p.tables e below (T.setTop (mkF m 529 #[.val (.int i0), .val (.int i1), .val (.int i2), .val (.int i3), .val (.int i4), .val (.int nn), .val (.int (Int32.ofNat jq)), .val (.int b), .val (.int w), .val (.int i9), .val (.int d), .val (.ref a), u12, u13, u14] [(.int d), (.int w), (.int b), (.int (Int32.ofNat jq)), (.int nn), (.int (Int32.ofNat 24)), (.int (2 : Int32))])) _
    exact st1.trans kt
  unfold own_one
  by_cases h1 : (own_ok 2 24 nn (Int32.ofNat jq) b w d) = 0
  · rw [if_pos h1]
    obtain ⟨_, _, _, ⟨X1, -⟩, -⟩ := id P1
    refine ⟨T1, P1, fun target kt => pre1 _ ?_⟩
    show Steps p.tables e below (T1.setTop (mkF m 532 #[.val (.int i0), .val (.int i1), .val (.int i2), .val (.int i3), .val (.int i4), .val (.int nn), .val (.int (Int32.ofNat jq)), .val (.int b), .val (.int w), .val (.int i9), .val (.int d), .val (.ref a), u12, u13, u14] [(.int (own_ok 2 24 nn (Int32.ofNat jq) b w d))])) _
    refine XS.ifYes X1.here hx rfl (pc0 := 532) (pc' := 558) rfl (hb hby at_532) rfl ((if0 _ _).trans (teq h1).1) (by decide) (by decide) ?_
    show Steps p.tables e below (T1.setTop (mkF m 558 #[.val (.int i0), .val (.int i1), .val (.int i2), .val (.int i3), .val (.int i4), .val (.int nn), .val (.int (Int32.ofNat jq)), .val (.int b), .val (.int w), .val (.int i9), .val (.int d), .val (.ref a), u12, u13, u14] [])) _
    refine XS.iconst X1.here hx rfl (hb hby at_558) ?_
    exact kt
  · rw [if_neg h1]
    obtain ⟨T2, P2, st2⟩ := own_okcall hx hw hEL rG3 P5 O2 O4 hby hml ga hcb hsb P1 2 jq hjq 548 #[.val (.int i0), .val (.int i1), .val (.int i2), .val (.int i3), .val (.int i4), .val (.int nn), .val (.int (Int32.ofNat jq)), .val (.int b), .val (.int w), .val (.int i9), .val (.int d), .val (.ref a), u12, u13, u14] rfl at_548
    obtain ⟨_, _, _, ⟨X2, -⟩, -⟩ := id P2
    obtain ⟨_, _, _, ⟨X1, -⟩, -⟩ := id P1
    have pre2 : ∀ target, Steps p.tables e below (T2.setTop (mkF m 551 #[.val (.int i0), .val (.int i1), .val (.int i2), .val (.int i3), .val (.int i4), .val (.int nn), .val (.int (Int32.ofNat jq)), .val (.int b), .val (.int w), .val (.int i9), .val (.int d), .val (.ref a), u12, u13, u14] [(.int (own_ok 2 jq nn (Int32.ofNat jq) b w d))])) target → Steps p.tables e below (T.setTop (mkF m 516 #[.val (.int i0), .val (.int i1), .val (.int i2), .val (.int i3), .val (.int i4), .val (.int nn), .val (.int (Int32.ofNat jq)), .val (.int b), .val (.int w), .val (.int i9), .val (.int d), .val (.ref a), u12, u13, u14] [])) target := fun target kt => by
      refine pre1 _ ?_
      show Steps p.tables e below (T1.setTop (mkF m 532 #[.val (.int i0), .val (.int i1), .val (.int i2), .val (.int i3), .val (.int i4), .val (.int nn), .val (.int (Int32.ofNat jq)), .val (.int b), .val (.int w), .val (.int i9), .val (.int d), .val (.ref a), u12, u13, u14] [(.int (own_ok 2 24 nn (Int32.ofNat jq) b w d))])) _
      refine XS.ifNo X1.here hx rfl (hb hby at_532) rfl ((if0 _ _).trans (feq h1).1) ?_
      show Steps p.tables e below (T1.setTop (mkF m 535 #[.val (.int i0), .val (.int i1), .val (.int i2), .val (.int i3), .val (.int i4), .val (.int nn), .val (.int (Int32.ofNat jq)), .val (.int b), .val (.int w), .val (.int i9), .val (.int d), .val (.ref a), u12, u13, u14] [])) _
      refine XS.iconst X1.here hx rfl (hb hby at_535) ?_
      show Steps p.tables e below (T1.setTop (mkF m 536 #[.val (.int i0), .val (.int i1), .val (.int i2), .val (.int i3), .val (.int i4), .val (.int nn), .val (.int (Int32.ofNat jq)), .val (.int b), .val (.int w), .val (.int i9), .val (.int d), .val (.ref a), u12, u13, u14] [(.int (2 : Int32))])) _
      refine XS.iload X1.here hx rfl (hb hby at_536) rfl ?_
      show Steps p.tables e below (T1.setTop (mkF m 538 #[.val (.int i0), .val (.int i1), .val (.int i2), .val (.int i3), .val (.int i4), .val (.int nn), .val (.int (Int32.ofNat jq)), .val (.int b), .val (.int w), .val (.int i9), .val (.int d), .val (.ref a), u12, u13, u14] [(.int (Int32.ofNat jq)), (.int (2 : Int32))])) _
      refine XS.iload X1.here hx rfl (hb hby at_538) rfl ?_
      show Steps p.tables e below (T1.setTop (mkF m 540 #[.val (.int i0), .val (.int i1), .val (.int i2), .val (.int i3), .val (.int i4), .val (.int nn), .val (.int (Int32.ofNat jq)), .val (.int b), .val (.int w), .val (.int i9), .val (.int d), .val (.ref a), u12, u13, u14] [(.int nn), (.int (Int32.ofNat jq)), (.int (2 : Int32))])) _
      refine XS.iload X1.here hx rfl (hb hby at_540) rfl ?_
      show Steps p.tables e below (T1.setTop (mkF m 542 #[.val (.int i0), .val (.int i1), .val (.int i2), .val (.int i3), .val (.int i4), .val (.int nn), .val (.int (Int32.ofNat jq)), .val (.int b), .val (.int w), .val (.int i9), .val (.int d), .val (.ref a), u12, u13, u14] [(.int (Int32.ofNat jq)), (.int nn), (.int (Int32.ofNat jq)), (.int (2 : Int32))])) _
      refine XS.iload X1.here hx rfl (hb hby at_542) rfl ?_
      show Steps p.tables e below (T1.setTop (mkF m 544 #[.val (.int i0), .val (.int i1), .val (.int i2), .val (.int i3), .val (.int i4), .val (.int nn), .val (.int (Int32.ofNat jq)), .val (.int b), .val (.int w), .val (.int i9), .val (.int d), .val (.ref a), u12, u13, u14] [(.int b), (.int (Int32.ofNat jq)), (.int nn), (.int (Int32.ofNat jq)), (.int (2 : Int32))])) _
      refine XS.iload X1.here hx rfl (hb hby at_544) rfl ?_
      show Steps p.tables e below (T1.setTop (mkF m 546 #[.val (.int i0), .val (.int i1), .val (.int i2), .val (.int i3), .val (.int i4), .val (.int nn), .val (.int (Int32.ofNat jq)), .val (.int b), .val (.int w), .val (.int i9), .val (.int d), .val (.ref a), u12, u13, u14] [(.int w), (.int b), (.int (Int32.ofNat jq)), (.int nn), (.int (Int32.ofNat jq)), (.int (2 : Int32))])) _
      refine XS.iload X1.here hx rfl (hb hby at_546) rfl ?_
      show Steps p.tables e below (T1.setTop (mkF m 548 #[.val (.int i0), .val (.int i1), .val (.int i2), .val (.int i3), .val (.int i4), .val (.int nn), .val (.int (Int32.ofNat jq)), .val (.int b), .val (.int w), .val (.int i9), .val (.int d), .val (.ref a), u12, u13, u14] [(.int d), (.int w), (.int b), (.int (Int32.ofNat jq)), (.int nn), (.int (Int32.ofNat jq)), (.int (2 : Int32))])) _
      exact st2.trans kt
    by_cases h2 : (own_ok 2 jq nn (Int32.ofNat jq) b w d) = 0
    · rw [if_pos h2]
      refine ⟨T2, P2, fun target kt => pre2 _ ?_⟩
      show Steps p.tables e below (T2.setTop (mkF m 551 #[.val (.int i0), .val (.int i1), .val (.int i2), .val (.int i3), .val (.int i4), .val (.int nn), .val (.int (Int32.ofNat jq)), .val (.int b), .val (.int w), .val (.int i9), .val (.int d), .val (.ref a), u12, u13, u14] [(.int (own_ok 2 jq nn (Int32.ofNat jq) b w d))])) _
      refine XS.ifYes X2.here hx rfl (pc0 := 551) (pc' := 558) rfl (hb hby at_551) rfl ((if0 _ _).trans (teq h2).1) (by decide) (by decide) ?_
      show Steps p.tables e below (T2.setTop (mkF m 558 #[.val (.int i0), .val (.int i1), .val (.int i2), .val (.int i3), .val (.int i4), .val (.int nn), .val (.int (Int32.ofNat jq)), .val (.int b), .val (.int w), .val (.int i9), .val (.int d), .val (.ref a), u12, u13, u14] [])) _
      refine XS.iconst X2.here hx rfl (hb hby at_558) ?_
      exact kt
    · rw [if_neg h2]
      refine ⟨T2, P2, fun target kt => pre2 _ ?_⟩
      show Steps p.tables e below (T2.setTop (mkF m 551 #[.val (.int i0), .val (.int i1), .val (.int i2), .val (.int i3), .val (.int i4), .val (.int nn), .val (.int (Int32.ofNat jq)), .val (.int b), .val (.int w), .val (.int i9), .val (.int d), .val (.ref a), u12, u13, u14] [(.int (own_ok 2 jq nn (Int32.ofNat jq) b w d))])) _
      refine XS.ifNo X2.here hx rfl (hb hby at_551) rfl ((if0 _ _).trans (feq h2).1) ?_
      show Steps p.tables e below (T2.setTop (mkF m 554 #[.val (.int i0), .val (.int i1), .val (.int i2), .val (.int i3), .val (.int i4), .val (.int nn), .val (.int (Int32.ofNat jq)), .val (.int b), .val (.int w), .val (.int i9), .val (.int d), .val (.ref a), u12, u13, u14] [])) _
      refine XS.iconst X2.here hx rfl (hb hby at_554) ?_
      show Steps p.tables e below (T2.setTop (mkF m 555 #[.val (.int i0), .val (.int i1), .val (.int i2), .val (.int i3), .val (.int i4), .val (.int nn), .val (.int (Int32.ofNat jq)), .val (.int b), .val (.int w), .val (.int i9), .val (.int d), .val (.ref a), u12, u13, u14] [(.int (1 : Int32))])) _
      refine XS.goto X2.here hx rfl (pc0 := 555) (pc' := 559) rfl (hb hby at_555) (by decide) (by decide) ?_
      exact kt
theorem own_mod (x y : Int32) : x - (x / y) * y = x % y := by
  apply Int32.toInt_inj.mp
  have h1 := Int32.le_toInt (x % y)
  have h2 := Int32.toInt_lt (x % y)
  rw [Int32.toInt_sub, Int32.toInt_mul, Int32.toInt_div, Int.bmod_mul_bmod, Int.sub_bmod_bmod, Int.mul_comm (x.toInt.tdiv y.toInt), ← Int.tmod_def, ← Int32.toInt_mod]
  exact Int.bmod_eq_of_le_mul_two (by omega) (by omega)
theorem own_r27 (x : Int32) : ∃ k, k < 27 ∧ ((x &&& (2147483647 : Int32)) - ((x &&& (2147483647 : Int32)) / (27 : Int32)) * (27 : Int32)) = Int32.ofNat k := by
  have a := c_mask x 2147483647 31 (by decide) (by decide)
  rw [show ((2 ^ 31 : Nat) : Int) = 2147483648 from rfl] at a
  have b := (c_irem (x &&& (2147483647 : Int32)) 27 27 rfl).1 (by omega)
  have e2 : ∀ j, j < 27 → (Int32.ofNat j).toInt = (j : Int) := by decide +kernel
  refine ⟨((x &&& (2147483647 : Int32)).toInt % 27).toNat, by omega, Int32.toInt_inj.mp ?_⟩
  rw [own_mod, b, e2 _ (by omega)]; omega
theorem own_r26 (x : Int32) : ∃ k, k < 26 ∧ ((x &&& (2147483647 : Int32)) - ((x &&& (2147483647 : Int32)) / (26 : Int32)) * (26 : Int32)) = Int32.ofNat k := by
  have a := c_mask x 2147483647 31 (by decide) (by decide)
  rw [show ((2 ^ 31 : Nat) : Int) = 2147483648 from rfl] at a
  have b := (c_irem (x &&& (2147483647 : Int32)) 26 26 rfl).1 (by omega)
  have e2 : ∀ j, j < 27 → (Int32.ofNat j).toInt = (j : Int) := by decide +kernel
  refine ⟨((x &&& (2147483647 : Int32)).toInt % 26).toNat, by omega, Int32.toInt_inj.mp ?_⟩
  rw [own_mod, b, e2 _ (by omega)]; omega
theorem own_n27 : ∀ k, k < 27 → ¬ (Int32.ofNat k < 0) ∧ (Int32.ofNat k).toNatClampNeg ≤ 26 := by decide +kernel
theorem pdd_t : parseMethodDescriptor "([B)Z" = some ⟨[(.array .byte)], some .boolean⟩ := by decide +kernel
theorem eff_0 (m : MethodId) (x0 x1 x2 x3 x4 : Int32) : entryFrame m #[(.int x0), (.int x1), (.int x2), (.int x3), (.int x4)] maxLocals = mkF m 0 #[.val (.int x0), .val (.int x1), .val (.int x2), .val (.int x3), .val (.int x4), .unset, .unset, .unset, .unset, .unset, .unset, .unset, .unset, .unset, .unset] [] := by first | (simp [entryFrame, mkF, argsToLocals, Value.category, maxLocals]; done) | rfl
set_option maxRecDepth 65536 in
theorem own_puts {p : Program} {l : Launch} {e : Env} {s : State} {m : MethodId} {args : Array Value} {below : List Frame} {meth : Method} {c : Code} {Z : State} {a0 : Array Value} {n0 cb sb : Nat} {h0 : Heap} {G1 : Int32} {G3 : Value} {T : State} {a : Addr} {ka : ClassId} {nn b w d : Int32} {jq : Nat} (hx : p.tables.exec = Jvm.exec) (hw : ∀ d ∈ tables_1, d.before a0 Z = true) (hEL : EW Z a0 EL) (rG3 : G3.isRef = true) (P5 : ¬ G1 = 0) (O2 : Sta Z Z.heap "java/lang/String" "COMPACT_STRINGS" "Z" (.int G1)) (O4 : Sta Z Z.heap "jdk/internal/util/Preconditions" "SIOOBE_FORMATTER" "Ljava/util/function/BiFunction;" G3) (hby : c.code = code) (hml : c.maxLocals = 15) (ga : n0 ≤ a) (hcb : cb ≤ 5) (hsb : sb ≤ 242) (i0 i1 i2 i3 i4 i9 : Int32) (u12 u13 u14 : Slot) (PP1 : own_L Z p l e s m args below meth c n0 h0 cb sb a ka nn (own_cont 0 (Int32.ofNat jq) b w d) T) :
    ∃ T', own_L Z p l e s m args below meth c n0 h0 cb sb a ka nn (own_cont 26 (Int32.ofNat jq) b w d) T' ∧ ∀ target, Steps p.tables e below (T'.setTop (mkF m 471 #[.val (.int i0), .val (.int i1), .val (.int i2), .val (.int i3), .val (.int i4), .val (.int nn), .val (.int (Int32.ofNat jq)), .val (.int b), .val (.int w), .val (.int i9), .val (.int d), .val (.ref a), u12, u13, u14] [])) target → Steps p.tables e below (T.setTop (mkF m 87 #[.val (.int i0), .val (.int i1), .val (.int i2), .val (.int i3), .val (.int i4), .val (.int nn), .val (.int (Int32.ofNat jq)), .val (.int b), .val (.int w), .val (.int i9), .val (.int d), .val (.ref a), u12, u13, u14] [])) target := by
  obtain ⟨T2, PP2, st2⟩ := own_p0 hx hw hEL rG3 P5 O2 O4 hby hml ga hcb hsb i0 i1 i2 i3 i4 i9 u12 u13 u14 PP1
  obtain ⟨T3, PP3, st3⟩ := own_p1 hx hw hEL rG3 P5 O2 O4 hby hml ga hcb hsb i0 i1 i2 i3 i4 i9 u12 u13 u14 PP2
  obtain ⟨T4, PP4, st4⟩ := own_p2 hx hw hEL rG3 P5 O2 O4 hby hml ga hcb hsb i0 i1 i2 i3 i4 i9 u12 u13 u14 PP3
  obtain ⟨T5, PP5, st5⟩ := own_p3 hx hw hEL rG3 P5 O2 O4 hby hml ga hcb hsb i0 i1 i2 i3 i4 i9 u12 u13 u14 PP4
  obtain ⟨T6, PP6, st6⟩ := own_p4 hx hw hEL rG3 P5 O2 O4 hby hml ga hcb hsb i0 i1 i2 i3 i4 i9 u12 u13 u14 PP5
  obtain ⟨T7, PP7, st7⟩ := own_p5 hx hw hEL rG3 P5 O2 O4 hby hml ga hcb hsb i0 i1 i2 i3 i4 i9 u12 u13 u14 PP6
  obtain ⟨T8, PP8, st8⟩ := own_p6 hx hw hEL rG3 P5 O2 O4 hby hml ga hcb hsb i0 i1 i2 i3 i4 i9 u12 u13 u14 PP7
  obtain ⟨T9, PP9, st9⟩ := own_p7 hx hw hEL rG3 P5 O2 O4 hby hml ga hcb hsb i0 i1 i2 i3 i4 i9 u12 u13 u14 PP8
  obtain ⟨T10, PP10, st10⟩ := own_p8 hx hw hEL rG3 P5 O2 O4 hby hml ga hcb hsb i0 i1 i2 i3 i4 i9 u12 u13 u14 PP9
  obtain ⟨T11, PP11, st11⟩ := own_p9 hx hw hEL rG3 P5 O2 O4 hby hml ga hcb hsb i0 i1 i2 i3 i4 i9 u12 u13 u14 PP10
  obtain ⟨T12, PP12, st12⟩ := own_p10 hx hw hEL rG3 P5 O2 O4 hby hml ga hcb hsb i0 i1 i2 i3 i4 i9 u12 u13 u14 PP11
  obtain ⟨T13, PP13, st13⟩ := own_p11 hx hw hEL rG3 P5 O2 O4 hby hml ga hcb hsb i0 i1 i2 i3 i4 i9 u12 u13 u14 PP12
  obtain ⟨T14, PP14, st14⟩ := own_p12 hx hw hEL rG3 P5 O2 O4 hby hml ga hcb hsb i0 i1 i2 i3 i4 i9 u12 u13 u14 PP13
  obtain ⟨T15, PP15, st15⟩ := own_p13 hx hw hEL rG3 P5 O2 O4 hby hml ga hcb hsb i0 i1 i2 i3 i4 i9 u12 u13 u14 PP14
  obtain ⟨T16, PP16, st16⟩ := own_p14 hx hw hEL rG3 P5 O2 O4 hby hml ga hcb hsb i0 i1 i2 i3 i4 i9 u12 u13 u14 PP15
  obtain ⟨T17, PP17, st17⟩ := own_p15 hx hw hEL rG3 P5 O2 O4 hby hml ga hcb hsb i0 i1 i2 i3 i4 i9 u12 u13 u14 PP16
  obtain ⟨T18, PP18, st18⟩ := own_p16 hx hw hEL rG3 P5 O2 O4 hby hml ga hcb hsb i0 i1 i2 i3 i4 i9 u12 u13 u14 PP17
  obtain ⟨T19, PP19, st19⟩ := own_p17 hx hw hEL rG3 P5 O2 O4 hby hml ga hcb hsb i0 i1 i2 i3 i4 i9 u12 u13 u14 PP18
  obtain ⟨T20, PP20, st20⟩ := own_p18 hx hw hEL rG3 P5 O2 O4 hby hml ga hcb hsb i0 i1 i2 i3 i4 i9 u12 u13 u14 PP19
  obtain ⟨T21, PP21, st21⟩ := own_p19 hx hw hEL rG3 P5 O2 O4 hby hml ga hcb hsb i0 i1 i2 i3 i4 i9 u12 u13 u14 PP20
  obtain ⟨T22, PP22, st22⟩ := own_p20 hx hw hEL rG3 P5 O2 O4 hby hml ga hcb hsb i0 i1 i2 i3 i4 i9 u12 u13 u14 PP21
  obtain ⟨T23, PP23, st23⟩ := own_p21 hx hw hEL rG3 P5 O2 O4 hby hml ga hcb hsb i0 i1 i2 i3 i4 i9 u12 u13 u14 PP22
  obtain ⟨T24, PP24, st24⟩ := own_p22 hx hw hEL rG3 P5 O2 O4 hby hml ga hcb hsb i0 i1 i2 i3 i4 i9 u12 u13 u14 PP23
  obtain ⟨T25, PP25, st25⟩ := own_p23 hx hw hEL rG3 P5 O2 O4 hby hml ga hcb hsb i0 i1 i2 i3 i4 i9 u12 u13 u14 PP24
  obtain ⟨T26, PP26, st26⟩ := own_p24 hx hw hEL rG3 P5 O2 O4 hby hml ga hcb hsb i0 i1 i2 i3 i4 i9 u12 u13 u14 PP25
  obtain ⟨T27, PP27, st27⟩ := own_p25 hx hw hEL rG3 P5 O2 O4 hby hml ga hcb hsb i0 i1 i2 i3 i4 i9 u12 u13 u14 PP26
  exact ⟨T27, PP27, fun target kt => st2 _ ( st3 _ ( st4 _ ( st5 _ ( st6 _ ( st7 _ ( st8 _ ( st9 _ ( st10 _ ( st11 _ ( st12 _ ( st13 _ ( st14 _ ( st15 _ ( st16 _ ( st17 _ ( st18 _ ( st19 _ ( st20 _ ( st21 _ ( st22 _ ( st23 _ ( st24 _ ( st25 _ ( st26 _ (st27 _ kt)))))))))))))))))))))))))⟩
set_option maxRecDepth 65536 in
set_option maxHeartbeats 4000000 in
theorem own_end {p : Program} {l : Launch} {e : Env} {s : State} {m : MethodId} {args : Array Value} {below : List Frame} {meth : Method} {c : Code} {Z : State} {a0 : Array Value} {n0 cb sb : Nat} {h0 : Heap} {G1 : Int32} {G3 : Value} {T : State} {a : Addr} {ka : ClassId} {nn b w d : Int32} {jq : Nat} (hx : p.tables.exec = Jvm.exec) (hw : ∀ d ∈ tables_1, d.before a0 Z = true) (hEL : EW Z a0 EL) (rG3 : G3.isRef = true) (P5 : ¬ G1 = 0) (O2 : Sta Z Z.heap "java/lang/String" "COMPACT_STRINGS" "Z" (.int G1)) (O4 : Sta Z Z.heap "jdk/internal/util/Preconditions" "SIOOBE_FORMATTER" "Ljava/util/function/BiFunction;" G3) (hby : c.code = code) (hml : c.maxLocals = 15) (ga : n0 ≤ a) (hcb : cb ≤ 5) (hsb : sb ≤ 242) (i0 i1 i2 i3 i4 i9 : Int32) (hjq : jq < 26) (Nl : ¬ nn < 0) (n26 : nn.toNatClampNeg ≤ 26) (w1 : Addr) (kv : ClassId) (f1 f2 d1 d2 : Addr) (ch1 ch2 : Cell) (S_V : Sta Z Z.heap "com/example/vigilant_ledger/vigilantledger/journal/JournalFormat" "$VALUES" "[Lcom/example/vigilant_ledger/vigilantledger/journal/JournalFormat;" (.ref w1)) (FV : Arv Z Z.heap w1 kv (.object "com/example/vigilant_ledger/vigilantledger/journal/JournalFormat") 2 [.ref f1, .ref f2] .null) (EV : Exa Z Z.heap w1 "[Lcom/example/vigilant_ledger/vigilantledger/journal/JournalFormat;") (F1 : Fld Z Z.heap f1 "com/example/vigilant_ledger/vigilantledger/journal/JournalFormat" "header" "[B" (.ref d1)) (Ad1 : Arr Z Z.heap d1 ch1 .byte) (Sd1 : ch1.slots.size = 26) (Hd1 : ∀ i, i < 26 → ch1.slots[i]? = some (.int (own_y1 i))) (F2 : Fld Z Z.heap f2 "com/example/vigilant_ledger/vigilantledger/journal/JournalFormat" "header" "[B" (.ref d2)) (Ad2 : Arr Z Z.heap d2 ch2 .byte) (Sd2 : ch2.slots.size = 26) (Hd2 : ∀ i, i < 26 → ch2.slots[i]? = some (.int (own_y2 i))) (Bret : meth.sig.returnType = some .boolean) (hlk : meth.locks = false) (P0 : own_L Z p l e s m args below meth c n0 h0 cb sb a ka nn (own_cont 26 (Int32.ofNat jq) b w d) T) :
    ∃ (U : State) (L : List Loc) (k n : Nat), U.status = .running ∧ Ended U below (.returned (some (.int 1))) ∧ Fr n0 L ∧ k ≤ 16 ∧ n ≤ 2176 ∧ ReturnedEndW s (.returned (some (.int 1))) U L k n ∧ Steps p.tables e below (T.setTop (mkF m 471 #[.val (.int i0), .val (.int i1), .val (.int i2), .val (.int i3), .val (.int i4), .val (.int nn), .val (.int (Int32.ofNat jq)), .val (.int b), .val (.int w), .val (.int i9), .val (.int d), .val (.ref a), .unset, .unset, .unset] [])) U := by
  obtain ⟨T1, P1, st1⟩ := own_half1 hx hw hEL rG3 P5 O2 O4 hby hml ga hcb hsb i0 i1 i2 i3 i4 i9 .unset .unset .unset hjq P0
  obtain ⟨T2, P2, st2⟩ := own_half2 hx hw hEL rG3 P5 O2 O4 hby hml ga hcb hsb i0 i1 i2 i3 i4 i9 (.val (.int (own_one 1 jq nn b w d))) .unset .unset hjq P1
  obtain ⟨_, _, _, ⟨X1, _⟩, _⟩ := id P1
  obtain ⟨locs, cells, slots, ⟨X2, N2, hS2, hZ2, hown2, hC2, b1, b2⟩, Od, Va, Sf⟩ := P2
  obtain ⟨cl, Ar, -, Sl, -, Hl, -⟩ := id Va
  have hX : ∀ i, i < nn.toNatClampNeg → cl.slots[i]? = some (.int ((fun i => own_at i (Int32.ofNat jq) b w d) i)) := fun i hi => by
    rw [Hl i (by rw [Sl]; exact hi), own_cont_get _ _ _ _ i (by omega)]
  have E := Od.2
  obtain ⟨_, _, ⟨T3, L3, k3, n3⟩, -, X3, ⟨Lc3, hQ3, l3, y3, z3⟩, st3⟩ := Jvm.LawKit.callS X2 hx (y := (⟨"com/example/vigilant_ledger/vigilantledger/journal/JournalFormat", "isTornHeader", "([B)Z"⟩ : MethodName)) hown2 (mvT (s := s.setVm T2.vm) hZ2 (hw _ (List.mem_of_getElem? (i := 9) rfl))) (mvT (s := s.setVm T2.vm) hZ2 (hw _ (List.mem_of_getElem? (i := 10) rfl))) (mvT (s := s.setVm T2.vm) hZ2 (hw _ (List.mem_of_getElem? (i := 11) rfl))) (mvT (s := s.setVm T2.vm) hZ2 (hw _ (List.mem_of_getElem? (i := 12) rfl))) (by decide) (backOf (W := 0) (rm3 l Z a0 hw [] a cl nn (fun i => own_at i (Int32.ofNat jq) b w d) w1 kv f1 f2 d1 d2 ch1 ch2 T2.heap n0 Ar Sl Nl n26 hX (S_V.ext E) (FV.ext E) (EV.ext E) (F1.ext E) (Ad1.ext E) Sd1 Hd1 (F2.ext E) (Ad2.ext E) Sd2 Hd2) hZ2 (hw _ (List.mem_of_getElem? (i := 12) rfl)) (hw _ (List.mem_of_getElem? (i := 11) rfl)) (by decide) (by decide)) (g := (mkF m 580 #[.val (.int i0), .val (.int i1), .val (.int i2), .val (.int i3), .val (.int i4), .val (.int nn), .val (.int (Int32.ofNat jq)), .val (.int b), .val (.int w), .val (.int i9), .val (.int d), .val (.ref a), .val (.int (own_one 1 jq nn b w d)), .val (.int (own_one 2 jq nn b w d)), .val (.int (own_exp jq nn b w d))] [(.ref a)])) rfl (by rw [hml]; rfl) (argsL := [(.ref a)]) (rest := []) (lenOf pdd_t rfl) rfl (by show 2 * 0 + _ ≤ _; exact Nat.le_of_eq rfl) (hb hby at_580) (fun _ _ => ⟨rfl, rfl, (show cells + 1 ≤ 16 by omega), (show slots + 2 ≤ 2176 by omega)⟩)
  dsimp only [Pt.U, Pt.locs, Pt.cells, Pt.slots] at X3 l3 y3 z3 st3 hQ3
  obtain ⟨rfl, N3q, E3⟩ := hQ3
  rw [own_law jq hjq nn b w d Nl n26] at st3
  have y3' : k3 = cells + 1 := y3
  have z3' : n3 = slots + 2 := z3
  obtain ⟨fs, hr, hrun, hended, hend⟩ := X3.leaveW hS2 E3.1 (v := some (.int 1)) (fun h => by rw [Bret] at h; cases h) hlk
  refine ⟨_, _, _, _, hrun, hended, by rw [l3]; exact Fr.app N2 N3q, by omega, by omega, hend, ?_⟩
  refine st1 _ ?_
  show Steps p.tables e below (T1.setTop (mkF m 514 #[.val (.int i0), .val (.int i1), .val (.int i2), .val (.int i3), .val (.int i4), .val (.int nn), .val (.int (Int32.ofNat jq)), .val (.int b), .val (.int w), .val (.int i9), .val (.int d), .val (.ref a), .unset, .unset, .unset] [(.int (own_one 1 jq nn b w d))])) _
  refine XS.istore X1.here hx rfl (hb hby at_514) rfl (l' := #[.val (.int i0), .val (.int i1), .val (.int i2), .val (.int i3), .val (.int i4), .val (.int nn), .val (.int (Int32.ofNat jq)), .val (.int b), .val (.int w), .val (.int i9), .val (.int d), .val (.ref a), .val (.int (own_one 1 jq nn b w d)), .unset, .unset]) rfl ?_
  show Steps p.tables e below (T1.setTop (mkF m 516 #[.val (.int i0), .val (.int i1), .val (.int i2), .val (.int i3), .val (.int i4), .val (.int nn), .val (.int (Int32.ofNat jq)), .val (.int b), .val (.int w), .val (.int i9), .val (.int d), .val (.ref a), .val (.int (own_one 1 jq nn b w d)), .unset, .unset] [])) _
  refine st2 _ ?_
  show Steps p.tables e below (T2.setTop (mkF m 559 #[.val (.int i0), .val (.int i1), .val (.int i2), .val (.int i3), .val (.int i4), .val (.int nn), .val (.int (Int32.ofNat jq)), .val (.int b), .val (.int w), .val (.int i9), .val (.int d), .val (.ref a), .val (.int (own_one 1 jq nn b w d)), .unset, .unset] [(.int (own_one 2 jq nn b w d))])) _
  refine XS.istore X2.here hx rfl (hb hby at_559) rfl (l' := #[.val (.int i0), .val (.int i1), .val (.int i2), .val (.int i3), .val (.int i4), .val (.int nn), .val (.int (Int32.ofNat jq)), .val (.int b), .val (.int w), .val (.int i9), .val (.int d), .val (.ref a), .val (.int (own_one 1 jq nn b w d)), .val (.int (own_one 2 jq nn b w d)), .unset]) rfl ?_
  show Steps p.tables e below (T2.setTop (mkF m 561 #[.val (.int i0), .val (.int i1), .val (.int i2), .val (.int i3), .val (.int i4), .val (.int nn), .val (.int (Int32.ofNat jq)), .val (.int b), .val (.int w), .val (.int i9), .val (.int d), .val (.ref a), .val (.int (own_one 1 jq nn b w d)), .val (.int (own_one 2 jq nn b w d)), .unset] [])) _
  have hmid : ∀ target, Steps p.tables e below (T2.setTop (mkF m 576 #[.val (.int i0), .val (.int i1), .val (.int i2), .val (.int i3), .val (.int i4), .val (.int nn), .val (.int (Int32.ofNat jq)), .val (.int b), .val (.int w), .val (.int i9), .val (.int d), .val (.ref a), .val (.int (own_one 1 jq nn b w d)), .val (.int (own_one 2 jq nn b w d)), .unset] [(.int (own_exp jq nn b w d))])) target → Steps p.tables e below (T2.setTop (mkF m 561 #[.val (.int i0), .val (.int i1), .val (.int i2), .val (.int i3), .val (.int i4), .val (.int nn), .val (.int (Int32.ofNat jq)), .val (.int b), .val (.int w), .val (.int i9), .val (.int d), .val (.ref a), .val (.int (own_one 1 jq nn b w d)), .val (.int (own_one 2 jq nn b w d)), .unset] [])) target := fun target kt => by
    unfold own_exp at kt
    by_cases h1 : own_one 1 jq nn b w d = 0
    · rw [if_pos h1] at kt
      by_cases h2 : own_one 2 jq nn b w d = 0
      · rw [if_pos h2] at kt
        show Steps p.tables e below (T2.setTop (mkF m 561 #[.val (.int i0), .val (.int i1), .val (.int i2), .val (.int i3), .val (.int i4), .val (.int nn), .val (.int (Int32.ofNat jq)), .val (.int b), .val (.int w), .val (.int i9), .val (.int d), .val (.ref a), .val (.int (own_one 1 jq nn b w d)), .val (.int (own_one 2 jq nn b w d)), .unset] [])) _
        refine XS.iload X2.here hx rfl (hb hby at_561) rfl ?_
        show Steps p.tables e below (T2.setTop (mkF m 563 #[.val (.int i0), .val (.int i1), .val (.int i2), .val (.int i3), .val (.int i4), .val (.int nn), .val (.int (Int32.ofNat jq)), .val (.int b), .val (.int w), .val (.int i9), .val (.int d), .val (.ref a), .val (.int (own_one 1 jq nn b w d)), .val (.int (own_one 2 jq nn b w d)), .unset] [(.int (own_one 1 jq nn b w d))])) _
        refine XS.ifNo X2.here hx rfl (hb hby at_563) rfl ((if0 _ _).trans (teq h1).2) ?_
        show Steps p.tables e below (T2.setTop (mkF m 566 #[.val (.int i0), .val (.int i1), .val (.int i2), .val (.int i3), .val (.int i4), .val (.int nn), .val (.int (Int32.ofNat jq)), .val (.int b), .val (.int w), .val (.int i9), .val (.int d), .val (.ref a), .val (.int (own_one 1 jq nn b w d)), .val (.int (own_one 2 jq nn b w d)), .unset] [])) _
        refine XS.iload X2.here hx rfl (hb hby at_566) rfl ?_
        show Steps p.tables e below (T2.setTop (mkF m 568 #[.val (.int i0), .val (.int i1), .val (.int i2), .val (.int i3), .val (.int i4), .val (.int nn), .val (.int (Int32.ofNat jq)), .val (.int b), .val (.int w), .val (.int i9), .val (.int d), .val (.ref a), .val (.int (own_one 1 jq nn b w d)), .val (.int (own_one 2 jq nn b w d)), .unset] [(.int (own_one 2 jq nn b w d))])) _
        refine XS.ifYes X2.here hx rfl (pc0 := 568) (pc' := 575) rfl (hb hby at_568) rfl ((if0 _ _).trans (teq h2).1) (by decide) (by decide) ?_
        show Steps p.tables e below (T2.setTop (mkF m 575 #[.val (.int i0), .val (.int i1), .val (.int i2), .val (.int i3), .val (.int i4), .val (.int nn), .val (.int (Int32.ofNat jq)), .val (.int b), .val (.int w), .val (.int i9), .val (.int d), .val (.ref a), .val (.int (own_one 1 jq nn b w d)), .val (.int (own_one 2 jq nn b w d)), .unset] [])) _
        refine XS.iconst X2.here hx rfl (hb hby at_575) ?_
        show Steps p.tables e below (T2.setTop (mkF m 576 #[.val (.int i0), .val (.int i1), .val (.int i2), .val (.int i3), .val (.int i4), .val (.int nn), .val (.int (Int32.ofNat jq)), .val (.int b), .val (.int w), .val (.int i9), .val (.int d), .val (.ref a), .val (.int (own_one 1 jq nn b w d)), .val (.int (own_one 2 jq nn b w d)), .unset] [(.int (0 : Int32))])) _
        exact kt
      · rw [if_neg h2] at kt
        show Steps p.tables e below (T2.setTop (mkF m 561 #[.val (.int i0), .val (.int i1), .val (.int i2), .val (.int i3), .val (.int i4), .val (.int nn), .val (.int (Int32.ofNat jq)), .val (.int b), .val (.int w), .val (.int i9), .val (.int d), .val (.ref a), .val (.int (own_one 1 jq nn b w d)), .val (.int (own_one 2 jq nn b w d)), .unset] [])) _
        refine XS.iload X2.here hx rfl (hb hby at_561) rfl ?_
        show Steps p.tables e below (T2.setTop (mkF m 563 #[.val (.int i0), .val (.int i1), .val (.int i2), .val (.int i3), .val (.int i4), .val (.int nn), .val (.int (Int32.ofNat jq)), .val (.int b), .val (.int w), .val (.int i9), .val (.int d), .val (.ref a), .val (.int (own_one 1 jq nn b w d)), .val (.int (own_one 2 jq nn b w d)), .unset] [(.int (own_one 1 jq nn b w d))])) _
        refine XS.ifNo X2.here hx rfl (hb hby at_563) rfl ((if0 _ _).trans (teq h1).2) ?_
        show Steps p.tables e below (T2.setTop (mkF m 566 #[.val (.int i0), .val (.int i1), .val (.int i2), .val (.int i3), .val (.int i4), .val (.int nn), .val (.int (Int32.ofNat jq)), .val (.int b), .val (.int w), .val (.int i9), .val (.int d), .val (.ref a), .val (.int (own_one 1 jq nn b w d)), .val (.int (own_one 2 jq nn b w d)), .unset] [])) _
        refine XS.iload X2.here hx rfl (hb hby at_566) rfl ?_
        show Steps p.tables e below (T2.setTop (mkF m 568 #[.val (.int i0), .val (.int i1), .val (.int i2), .val (.int i3), .val (.int i4), .val (.int nn), .val (.int (Int32.ofNat jq)), .val (.int b), .val (.int w), .val (.int i9), .val (.int d), .val (.ref a), .val (.int (own_one 1 jq nn b w d)), .val (.int (own_one 2 jq nn b w d)), .unset] [(.int (own_one 2 jq nn b w d))])) _
        refine XS.ifNo X2.here hx rfl (hb hby at_568) rfl ((if0 _ _).trans (feq h2).1) ?_
        show Steps p.tables e below (T2.setTop (mkF m 571 #[.val (.int i0), .val (.int i1), .val (.int i2), .val (.int i3), .val (.int i4), .val (.int nn), .val (.int (Int32.ofNat jq)), .val (.int b), .val (.int w), .val (.int i9), .val (.int d), .val (.ref a), .val (.int (own_one 1 jq nn b w d)), .val (.int (own_one 2 jq nn b w d)), .unset] [])) _
        refine XS.iconst X2.here hx rfl (hb hby at_571) ?_
        show Steps p.tables e below (T2.setTop (mkF m 572 #[.val (.int i0), .val (.int i1), .val (.int i2), .val (.int i3), .val (.int i4), .val (.int nn), .val (.int (Int32.ofNat jq)), .val (.int b), .val (.int w), .val (.int i9), .val (.int d), .val (.ref a), .val (.int (own_one 1 jq nn b w d)), .val (.int (own_one 2 jq nn b w d)), .unset] [(.int (1 : Int32))])) _
        refine XS.goto X2.here hx rfl (pc0 := 572) (pc' := 576) rfl (hb hby at_572) (by decide) (by decide) ?_
        show Steps p.tables e below (T2.setTop (mkF m 576 #[.val (.int i0), .val (.int i1), .val (.int i2), .val (.int i3), .val (.int i4), .val (.int nn), .val (.int (Int32.ofNat jq)), .val (.int b), .val (.int w), .val (.int i9), .val (.int d), .val (.ref a), .val (.int (own_one 1 jq nn b w d)), .val (.int (own_one 2 jq nn b w d)), .unset] [(.int (1 : Int32))])) _
        exact kt
    · rw [if_neg h1] at kt
      show Steps p.tables e below (T2.setTop (mkF m 561 #[.val (.int i0), .val (.int i1), .val (.int i2), .val (.int i3), .val (.int i4), .val (.int nn), .val (.int (Int32.ofNat jq)), .val (.int b), .val (.int w), .val (.int i9), .val (.int d), .val (.ref a), .val (.int (own_one 1 jq nn b w d)), .val (.int (own_one 2 jq nn b w d)), .unset] [])) _
      refine XS.iload X2.here hx rfl (hb hby at_561) rfl ?_
      show Steps p.tables e below (T2.setTop (mkF m 563 #[.val (.int i0), .val (.int i1), .val (.int i2), .val (.int i3), .val (.int i4), .val (.int nn), .val (.int (Int32.ofNat jq)), .val (.int b), .val (.int w), .val (.int i9), .val (.int d), .val (.ref a), .val (.int (own_one 1 jq nn b w d)), .val (.int (own_one 2 jq nn b w d)), .unset] [(.int (own_one 1 jq nn b w d))])) _
      refine XS.ifYes X2.here hx rfl (pc0 := 563) (pc' := 571) rfl (hb hby at_563) rfl ((if0 _ _).trans (feq h1).2) (by decide) (by decide) ?_
      show Steps p.tables e below (T2.setTop (mkF m 571 #[.val (.int i0), .val (.int i1), .val (.int i2), .val (.int i3), .val (.int i4), .val (.int nn), .val (.int (Int32.ofNat jq)), .val (.int b), .val (.int w), .val (.int i9), .val (.int d), .val (.ref a), .val (.int (own_one 1 jq nn b w d)), .val (.int (own_one 2 jq nn b w d)), .unset] [])) _
      refine XS.iconst X2.here hx rfl (hb hby at_571) ?_
      show Steps p.tables e below (T2.setTop (mkF m 572 #[.val (.int i0), .val (.int i1), .val (.int i2), .val (.int i3), .val (.int i4), .val (.int nn), .val (.int (Int32.ofNat jq)), .val (.int b), .val (.int w), .val (.int i9), .val (.int d), .val (.ref a), .val (.int (own_one 1 jq nn b w d)), .val (.int (own_one 2 jq nn b w d)), .unset] [(.int (1 : Int32))])) _
      refine XS.goto X2.here hx rfl (pc0 := 572) (pc' := 576) rfl (hb hby at_572) (by decide) (by decide) ?_
      show Steps p.tables e below (T2.setTop (mkF m 576 #[.val (.int i0), .val (.int i1), .val (.int i2), .val (.int i3), .val (.int i4), .val (.int nn), .val (.int (Int32.ofNat jq)), .val (.int b), .val (.int w), .val (.int i9), .val (.int d), .val (.ref a), .val (.int (own_one 1 jq nn b w d)), .val (.int (own_one 2 jq nn b w d)), .unset] [(.int (1 : Int32))])) _
      exact kt
  refine hmid _ ?_
  show Steps p.tables e below (T2.setTop (mkF m 576 #[.val (.int i0), .val (.int i1), .val (.int i2), .val (.int i3), .val (.int i4), .val (.int nn), .val (.int (Int32.ofNat jq)), .val (.int b), .val (.int w), .val (.int i9), .val (.int d), .val (.ref a), .val (.int (own_one 1 jq nn b w d)), .val (.int (own_one 2 jq nn b w d)), .unset] [(.int (own_exp jq nn b w d))])) _
  refine XS.istore X2.here hx rfl (hb hby at_576) rfl (l' := #[.val (.int i0), .val (.int i1), .val (.int i2), .val (.int i3), .val (.int i4), .val (.int nn), .val (.int (Int32.ofNat jq)), .val (.int b), .val (.int w), .val (.int i9), .val (.int d), .val (.ref a), .val (.int (own_one 1 jq nn b w d)), .val (.int (own_one 2 jq nn b w d)), .val (.int (own_exp jq nn b w d))]) rfl ?_
  show Steps p.tables e below (T2.setTop (mkF m 578 #[.val (.int i0), .val (.int i1), .val (.int i2), .val (.int i3), .val (.int i4), .val (.int nn), .val (.int (Int32.ofNat jq)), .val (.int b), .val (.int w), .val (.int i9), .val (.int d), .val (.ref a), .val (.int (own_one 1 jq nn b w d)), .val (.int (own_one 2 jq nn b w d)), .val (.int (own_exp jq nn b w d))] [])) _
  refine XS.aload X2.here hx rfl (hb hby at_578) rfl rfl ?_
  show Steps p.tables e below (T2.setTop (mkF m 580 #[.val (.int i0), .val (.int i1), .val (.int i2), .val (.int i3), .val (.int i4), .val (.int nn), .val (.int (Int32.ofNat jq)), .val (.int b), .val (.int w), .val (.int i9), .val (.int d), .val (.ref a), .val (.int (own_one 1 jq nn b w d)), .val (.int (own_one 2 jq nn b w d)), .val (.int (own_exp jq nn b w d))] [(.ref a)])) _
  refine st3 _ ?_
  show Steps p.tables e below (T3.setTop (mkF m 583 #[.val (.int i0), .val (.int i1), .val (.int i2), .val (.int i3), .val (.int i4), .val (.int nn), .val (.int (Int32.ofNat jq)), .val (.int b), .val (.int w), .val (.int i9), .val (.int d), .val (.ref a), .val (.int (own_one 1 jq nn b w d)), .val (.int (own_one 2 jq nn b w d)), .val (.int (own_exp jq nn b w d))] [(.int (own_exp jq nn b w d))])) _
  refine XS.iload X3.here hx rfl (hb hby at_583) rfl ?_
  show Steps p.tables e below (T3.setTop (mkF m 585 #[.val (.int i0), .val (.int i1), .val (.int i2), .val (.int i3), .val (.int i4), .val (.int nn), .val (.int (Int32.ofNat jq)), .val (.int b), .val (.int w), .val (.int i9), .val (.int d), .val (.ref a), .val (.int (own_one 1 jq nn b w d)), .val (.int (own_one 2 jq nn b w d)), .val (.int (own_exp jq nn b w d))] [(.int (own_exp jq nn b w d)), (.int (own_exp jq nn b w d))])) _
  refine XS.icmpNo X3.here hx rfl (hb hby at_585) rfl (teq rfl).2 ?_
  show Steps p.tables e below (T3.setTop (mkF m 588 #[.val (.int i0), .val (.int i1), .val (.int i2), .val (.int i3), .val (.int i4), .val (.int nn), .val (.int (Int32.ofNat jq)), .val (.int b), .val (.int w), .val (.int i9), .val (.int d), .val (.ref a), .val (.int (own_one 1 jq nn b w d)), .val (.int (own_one 2 jq nn b w d)), .val (.int (own_exp jq nn b w d))] [])) _
  refine XS.iconst X3.here hx rfl (hb hby at_588) ?_
  show Steps p.tables e below (T3.setTop (mkF m 589 #[.val (.int i0), .val (.int i1), .val (.int i2), .val (.int i3), .val (.int i4), .val (.int nn), .val (.int (Int32.ofNat jq)), .val (.int b), .val (.int w), .val (.int i9), .val (.int d), .val (.ref a), .val (.int (own_one 1 jq nn b w d)), .val (.int (own_one 2 jq nn b w d)), .val (.int (own_exp jq nn b w d))] [(.int (1 : Int32))])) _
  refine XS.goto X3.here hx rfl (pc0 := 589) (pc' := 593) rfl (hb hby at_589) (by decide) (by decide) ?_
  show Steps p.tables e below (T3.setTop (mkF m 593 #[.val (.int i0), .val (.int i1), .val (.int i2), .val (.int i3), .val (.int i4), .val (.int nn), .val (.int (Int32.ofNat jq)), .val (.int b), .val (.int w), .val (.int i9), .val (.int d), .val (.ref a), .val (.int (own_one 1 jq nn b w d)), .val (.int (own_one 2 jq nn b w d)), .val (.int (own_exp jq nn b w d))] [(.int (1 : Int32))])) _
  exact retN X3 hx (t := .boolean) Bret (by simp) (hb hby at_593) hr
set_option maxRecDepth 65536 in
set_option maxHeartbeats 4000000 in
theorem rm0 (l : Launch) (Z : State) (a0 : Array Value) (hw : ∀ d ∈ tables_1, d.before a0 Z = true) (hEL : EW Z a0 EL) (ws : List Jvm.Cond) (i0 i1 i2 i3 i4 : Int32) (G1 : Int32) (G3 : Value) (rG3 : G3.isRef = true) (P5 : ¬ G1 = 0) (O2 : Sta Z Z.heap "java/lang/String" "COMPACT_STRINGS" "Z" (.int G1)) (O4 : Sta Z Z.heap "jdk/internal/util/Preconditions" "SIOOBE_FORMATTER" "Ljava/util/function/BiFunction;" G3) (w1 : Addr) (kv : ClassId) (f1 f2 d1 d2 : Addr) (ch1 ch2 : Cell) (S_V : Sta Z Z.heap "com/example/vigilant_ledger/vigilantledger/journal/JournalFormat" "$VALUES" "[Lcom/example/vigilant_ledger/vigilantledger/journal/JournalFormat;" (.ref w1)) (FV : Arv Z Z.heap w1 kv (.object "com/example/vigilant_ledger/vigilantledger/journal/JournalFormat") 2 [.ref f1, .ref f2] .null) (EV : Exa Z Z.heap w1 "[Lcom/example/vigilant_ledger/vigilantledger/journal/JournalFormat;") (F1 : Fld Z Z.heap f1 "com/example/vigilant_ledger/vigilantledger/journal/JournalFormat" "header" "[B" (.ref d1)) (Ad1 : Arr Z Z.heap d1 ch1 .byte) (Sd1 : ch1.slots.size = 26) (Hd1 : ∀ i, i < 26 → ch1.slots[i]? = some (.int (own_y1 i))) (F2 : Fld Z Z.heap f2 "com/example/vigilant_ledger/vigilantledger/journal/JournalFormat" "header" "[B" (.ref d2)) (Ad2 : Arr Z Z.heap d2 ch2 .byte) (Sd2 : ch2.slots.size = 26) (Hd2 : ∀ i, i < 26 → ch2.slots[i]? = some (.int (own_y2 i))) :
    MetFree l x (head1 (Jvm.Cond.code x code maxLocals ret :: ws) room_1) (fun a U => a = #[(.int i0), (.int i1), (.int i2), (.int i3), (.int i4)] ∧ Z.Warmed39 U.vm ∧ U.heap = Z.heap ∧ CHv Z EL U.vm Z.heap) (fun _ _ _ _ _ => True) (fun _ U o U' => ∃ v L k n, o = .returned v ∧ v = some (.int 1) ∧ Fr Z.heap.size L ∧ k ≤ 16 ∧ n ≤ 2176 ∧ ReturnedEndW U o U' L k n) := by
  refine MetFree.of_bodySF (plainFor_of_name pnn) hisR ?_
  intro p e s m args below meth c s₁ Bd hml0 hP hK
  obtain ⟨rfl, hZ, hh, hCH⟩ := hP
  have hx := Bd.exec
  have hby := Bd.bytes
  have hml : c.maxLocals = 15 := hml0
  have hown : s.vm.findClass OWN = some m.cls := findClass_of_methodNamed Bd.named
  have X0 : Stand p l e room_1 s m #[(.int i0), (.int i1), (.int i2), (.int i3), (.int i4)] below meth c s₁ [] 0 0 := Stand.of_body Bd
  have e0 : s₁.heap = s.heap := by rw [Bd.state]; rfl
  have pre0 : ∀ t, Steps p.tables e below (s₁.setTop (mkF m 0 #[.val (.int i0), .val (.int i1), .val (.int i2), .val (.int i3), .val (.int i4), .unset, .unset, .unset, .unset, .unset, .unset, .unset, .unset, .unset, .unset] [])) t → Steps p.tables e below (s₁.setTop (entryFrame m #[(.int i0), (.int i1), (.int i2), (.int i3), (.int i4)] maxLocals)) t := fun t k => castTop (eff_0 m i0 i1 i2 i3 i4) k
  have P0 := own_start (n0 := Z.heap.size) X0 e0 hZ hown hEL (by rw [hh]; exact hCH)
  obtain ⟨Xa, Na, hSa, hZa, howna, hCa, ba1, ba2⟩ := P0
  obtain ⟨kn, hkn, en⟩ := own_r27 i0
  obtain ⟨jq, hjq, eq⟩ := own_r26 i1
  obtain ⟨T1, X1, e1, st1⟩ := seg0_0_37 i0 i1 i2 i3 i4 .unset .unset .unset .unset .unset .unset .unset .unset .unset .unset Xa hx hZa hw hby hml howna rfl One.u One.u One.u One.u One.u
  rw [en, eq] at st1
  obtain ⟨T2, X2, e2, st2⟩ := seg0_37_81 (.val (.int i0)) (.val (.int i1)) (.val (.int i2)) (.val (.int i3)) i4 (.val (.int (Int32.ofNat kn))) (.val (.int (Int32.ofNat jq))) (.val (.int (i2.toInt8.toInt32))) (.val (.int ((i3 &&& (2147483647 : Int32)) - ((i3 &&& (2147483647 : Int32)) / (27 : Int32)) * (27 : Int32)))) (i4 &&& (3 : Int32)) .unset .unset .unset .unset .unset X1 hx hZa hw hby hml howna e1 One.u
  obtain ⟨Nl, n26⟩ := own_n27 kn hkn
  obtain ⟨T3, h3, cA, X3, e3, E3, A3, st3⟩ := newP X2 hx hZa (hw _ (List.mem_of_getElem? (i := 1) rfl)) e2 (g := mkF m 83 #[.val (.int i0), .val (.int i1), .val (.int i2), .val (.int i3), .val (.int i4), .val (.int (Int32.ofNat kn)), .val (.int (Int32.ofNat jq)), .val (.int (i2.toInt8.toInt32)), .val (.int ((i3 &&& (2147483647 : Int32)) - ((i3 &&& (2147483647 : Int32)) / (27 : Int32)) * (27 : Int32))), .val (.int (i4 &&& (3 : Int32))), .val (.int (own_s0_37_10 i4 (i4 &&& (3 : Int32)))), .unset, .unset, .unset, .unset] [(.int (Int32.ofNat kn))]) rfl (hb hby at_83) rfl Nl (cap := 26) n26 (by decide) (by decide) (by decide)
  subst e3
  have V3 := (Arv.new A3 Nl).pad (own_cont_zero (Int32.ofNat jq) (i2.toInt8.toInt32) ((i3 &&& (2147483647 : Int32)) - ((i3 &&& (2147483647 : Int32)) / (27 : Int32)) * (27 : Int32)) (own_s0_37_10 i4 (i4 &&& (3 : Int32))))
  have q4 := own_phi_le Z s.vm
  have Rt := CHv.at X3 hZa hEL (hCa.1.ext E3)
  have S3 := Rt.safe V3.lt (Safe.ext E3 hCa.1 (Safe.new (Nat.le_refl _)))
  have hs : s₁.heap = Z.heap := e0.trans hh
  have P3 : own_L Z p l e s m #[(.int i0), (.int i1), (.int i2), (.int i3), (.int i4)] below meth c Z.heap.size s.heap (own_phi Z s.vm + 1) (54 * own_phi Z s.vm + 26) s₁.heap.size cA (Int32.ofNat kn) (own_cont 0 (Int32.ofNat jq) (i2.toInt8.toInt32) ((i3 &&& (2147483647 : Int32)) - ((i3 &&& (2147483647 : Int32)) / (27 : Int32)) * (27 : Int32)) (own_s0_37_10 i4 (i4 &&& (3 : Int32)))) T3 :=
    ⟨_, _, _, own_pack (vm0 := s₁.vm) (k0 := s₁.heap.size) X3 Na hSa E3.1 hZa howna hEL (hCa.trans (CHr.ext E3 hCa.1)) (by omega) (by omega), ⟨rfl, by rw [← hs]; exact E3⟩, V3, S3⟩
  have ga : Z.heap.size ≤ s₁.heap.size := by rw [hs]; exact Nat.le_refl _
  obtain ⟨T4, P4, st4⟩ := own_puts hx hw hEL rG3 P5 O2 O4 hby hml ga (by omega) (by omega) i0 i1 i2 i3 i4 (i4 &&& (3 : Int32)) .unset .unset .unset P3
  obtain ⟨U, L, k, n, hrun, hended, N, hk, hn, hend, st5⟩ := own_end hx hw hEL rG3 P5 O2 O4 hby hml ga (by omega) (by omega) i0 i1 i2 i3 i4 (i4 &&& (3 : Int32)) hjq Nl n26 w1 kv f1 f2 d1 d2 ch1 ch2 S_V FV EV F1 Ad1 Sd1 Hd1 F2 Ad2 Sd2 Hd2 Bd.returns (BodyLoose.notSynchronized Bd) P4
  refine ⟨_, _, pre0 _ ?_, hrun, hended, _, _, _, _, rfl, rfl, N, hk, hn, hend⟩
  refine st1 _ (st2 _ ?_)
  show Steps p.tables e below (T2.setTop (mkF m 81 #[.val (.int i0), .val (.int i1), .val (.int i2), .val (.int i3), .val (.int i4), .val (.int (Int32.ofNat kn)), .val (.int (Int32.ofNat jq)), .val (.int (i2.toInt8.toInt32)), .val (.int ((i3 &&& (2147483647 : Int32)) - ((i3 &&& (2147483647 : Int32)) / (27 : Int32)) * (27 : Int32))), .val (.int (i4 &&& (3 : Int32))), .val (.int (own_s0_37_10 i4 (i4 &&& (3 : Int32)))), .unset, .unset, .unset, .unset] [])) _
  refine XS.iload X2.here hx rfl (hb hby at_81) rfl ?_
  show Steps p.tables e below (T2.setTop (mkF m 83 #[.val (.int i0), .val (.int i1), .val (.int i2), .val (.int i3), .val (.int i4), .val (.int (Int32.ofNat kn)), .val (.int (Int32.ofNat jq)), .val (.int (i2.toInt8.toInt32)), .val (.int ((i3 &&& (2147483647 : Int32)) - ((i3 &&& (2147483647 : Int32)) / (27 : Int32)) * (27 : Int32))), .val (.int (i4 &&& (3 : Int32))), .val (.int (own_s0_37_10 i4 (i4 &&& (3 : Int32)))), .unset, .unset, .unset, .unset] [(.int (Int32.ofNat kn))])) _
  refine st3 _ ?_
  show Steps p.tables e below (T3.setTop (mkF m 85 #[.val (.int i0), .val (.int i1), .val (.int i2), .val (.int i3), .val (.int i4), .val (.int (Int32.ofNat kn)), .val (.int (Int32.ofNat jq)), .val (.int (i2.toInt8.toInt32)), .val (.int ((i3 &&& (2147483647 : Int32)) - ((i3 &&& (2147483647 : Int32)) / (27 : Int32)) * (27 : Int32))), .val (.int (i4 &&& (3 : Int32))), .val (.int (own_s0_37_10 i4 (i4 &&& (3 : Int32)))), .unset, .unset, .unset, .unset] [(.ref s₁.heap.size)])) _
  refine XS.astore X3.here hx rfl (hb hby at_85) rfl rfl (l' := #[.val (.int i0), .val (.int i1), .val (.int i2), .val (.int i3), .val (.int i4), .val (.int (Int32.ofNat kn)), .val (.int (Int32.ofNat jq)), .val (.int (i2.toInt8.toInt32)), .val (.int ((i3 &&& (2147483647 : Int32)) - ((i3 &&& (2147483647 : Int32)) / (27 : Int32)) * (27 : Int32))), .val (.int (i4 &&& (3 : Int32))), .val (.int (own_s0_37_10 i4 (i4 &&& (3 : Int32)))), .val (.ref s₁.heap.size), .unset, .unset, .unset]) rfl ?_
  show Steps p.tables e below (T3.setTop (mkF m 87 #[.val (.int i0), .val (.int i1), .val (.int i2), .val (.int i3), .val (.int i4), .val (.int (Int32.ofNat kn)), .val (.int (Int32.ofNat jq)), .val (.int (i2.toInt8.toInt32)), .val (.int ((i3 &&& (2147483647 : Int32)) - ((i3 &&& (2147483647 : Int32)) / (27 : Int32)) * (27 : Int32))), .val (.int (i4 &&& (3 : Int32))), .val (.int (own_s0_37_10 i4 (i4 &&& (3 : Int32)))), .val (.ref s₁.heap.size), .unset, .unset, .unset] [])) _
  exact st4 _ st5
theorem own_eqi {t : Term} {k : Int32} {args : Array Value} {first s : State} {o : Option Outcome} {idx : List Nat} (h : (Cond.eq t (.int k)).value args first o s idx = some true) : t.eval args first o idx s = some (.int k) := by
  simp only [Cond.value, Term.eval] at h
  cases ht : t.eval args first o idx s with
  | none => simp [ht] at h
  | some x => cases x <;> simp [ht] at h ⊢ <;> exact h
theorem own_lenq {args : Array Value} {s : State} {t : Term} {a : Addr} {cl : Cell} {z : Int32} (ht : t.eval args s none [] s = some (.ref a)) (ha : s.arrayAt? a = some cl) (h : (Term.length t).eval args s none [] s = some (.int z)) : cl.slots.size < 2 ^ 31 ∧ cl.slots.size.toInt32 = z := by
  simpa [Term.eval, ht, ha] using h
theorem own_26 {cl : Cell} (q : cl.slots.size < 2 ^ 31 ∧ cl.slots.size.toInt32 = 26) : cl.slots.size = 26 := by
  have e := congrArg Int32.toInt q.2
  have r : cl.slots.size.toInt32.toInt = cl.slots.size := Int32.toInt_ofNat_of_lt q.1
  rw [r] at e
  have z : (26 : Int32).toInt = 26 := rfl
  omega
theorem own_el {args : Array Value} {s : State} {t : Term} {a : Addr} {cl : Cell} {j v : Int32} (ht : t.eval args s none [] s = some (.ref a)) (hc : s.heap[a]? = some cl) (h : (Cond.eq (.elem t (.int j)) (.int v)).value args s none s [] = some true) (k : Nat) (hk : j.toNatClampNeg = k) : cl.slots[k]? = some (.int v) := by
  subst hk; exact (elem_in (own_eqi h) ht (Term.int_eval j) hc).2
theorem own_map (cs : List Int32) (i : Nat) (h : i < cs.length) : (cs.map Value.int).getD i .null = .int (cs.getD i 0) := by
  simp only [List.getD_eq_getElem?_getD, List.getElem?_map]
  rw [List.getElem?_eq_getElem h]; rfl
set_option maxRecDepth 65536 in
set_option maxHeartbeats 4000000 in
theorem comes_1 {Post : Tables → Env → Array Value → State → Outcome → State → Prop} (hpost : ∀ tb e args s v u, (limb_1_1.after args s (.returned v) u = true ∧ limb_1_2.after args s (.returned v) u = true ∧ True) → FramedW s (.returned v) u (Jvm.fieldLocs frame_1_writes args s ++ Jvm.arrayLocs frame_1_arrays args s ++ Jvm.staticLocs frame_1_statics s) 16 2176 → Post tb e args s (.returned v) u) :
    ArmFor flags0 classFile x code maxLocals ret World_1 tables_1 room_1 Calls_1 rest_1 Pre_1 Post := by
  intro l hfl _ _ p e ha hc hk s m args below hf hA hF happ hP
  obtain ⟨hcalls, hrest, hpre⟩ := hP
  obtain ⟨-, -, -, hnamed, -, -, -, hat⟩ := (Spec.applies_iff hf).mp happ
  obtain ⟨hg, hn⟩ := and_e (Cond.before_iff.mp (show (Jvm.Cond.and given_1 narrow_1).before args s = true from hpre))
  obtain ⟨g0, g1⟩ := and_e hg
  obtain ⟨g2, g3⟩ := and_e g1
  obtain ⟨g4, g5⟩ := and_e g3
  obtain ⟨g6, g7⟩ := and_e g5
  obtain ⟨g8, g9⟩ := and_e g7
  obtain ⟨w0, w1, w2, w3, w4, rfl⟩ : ∃ w0 w1 w2 w3 w4 : Value, args = #[w0, w1, w2, w3, w4] := by
    have hs : args.size = 5 := by simpa [Cond.value, given_1] using g0
    obtain ⟨L⟩ := args
    match L, hs with
    | [w0, w1, w2, w3, w4], _ => exact ⟨w0, w1, w2, w3, w4, rfl⟩
  have hw := fun d (hd : d ∈ tables_1) => atoms_spec (ws := Jvm.Cond.code x code maxLocals ret :: tables_1) hat d (List.mem_cons_of_mem _ hd)
  have hfit : Fit s := fun {y c} hc i hi => by
    obtain ⟨ha, rfl⟩ := Array.getElem?_eq_some_iff.mp hc
    have q := List.all_eq_true.mp ((Array.all_eq_true_iff_forall_mem.mp hF) _ (Array.getElem_mem ha)) i (List.mem_range.mpr hi)
    simpa [Array.getElem?_eq_getElem hi] using q
  obtain ⟨hsets, hown0⟩ := atoms_of _ (rest_1_c_eq ▸ (show rest_1_c.before _ s = true from hrest))
  obtain ⟨i0, ei0⟩ := is_v g2
  obtain rfl : w0 = (.int i0) := Option.some.inj ei0
  obtain ⟨i1, ei1⟩ := is_v g4
  obtain rfl : w1 = (.int i1) := Option.some.inj ei1
  obtain ⟨i2, ei2⟩ := is_v g6
  obtain rfl : w2 = (.int i2) := Option.some.inj ei2
  obtain ⟨i3, ei3⟩ := is_v g8
  obtain rfl : w3 = (.int i3) := Option.some.inj ei3
  obtain ⟨i4, ei4⟩ := is_v g9
  obtain rfl : w4 = (.int i4) := Option.some.inj ei4
  have m3 := not_v (Cond.before_iff.mp (hsets _ (List.mem_of_getElem? (i := 2) rfl)))
  obtain ⟨iG, eG⟩ := is_v (Cond.before_iff.mp (hsets _ (List.mem_of_getElem? (i := 1) rfl)))
  have O2 := Sta.start eG (Or.inl (hsets _ (List.mem_of_getElem? (i := 0) rfl)))
  have P5 : ¬ iG = 0 := fun q => by
    rw [Cond.eq_ints eG (Term.int_eval 0)] at m3
    simp [q] at m3
  obtain ⟨G3, eF, rG3⟩ := isR_v (Cond.before_iff.mp (hsets _ (List.mem_of_getElem? (i := 8) rfl)))
  have O4 := Sta.start eF (Or.inl (hsets _ (List.mem_of_getElem? (i := 7) rfl)))
  have hEL : EW s _ EL := EW.cons (hw _ (List.mem_of_getElem? (i := 34) rfl)) (by decide) (EW.cons (hw _ (List.mem_of_getElem? (i := 69) rfl)) (by decide) EW.nil)
  have hCH : CHv s EL s.vm s.heap := CHv.start hEL (fun p hp => hcalls.1 p hp) (hsets _ (List.mem_of_getElem? (i := 2) rfl)) (hw _ (List.mem_of_getElem? (i := 1) rfl)) (hw _ (List.mem_of_getElem? (i := 36) rfl))
  obtain ⟨n1, r1⟩ := and_e hn
  obtain ⟨n2, r2⟩ := and_e r1
  obtain ⟨n3, r3⟩ := and_e r2
  obtain ⟨n4, r4⟩ := and_e r3
  obtain ⟨n5, r5⟩ := and_e r4
  obtain ⟨n6, r6⟩ := and_e r5
  obtain ⟨n7, r7⟩ := and_e r6
  obtain ⟨n8, r8⟩ := and_e r7
  obtain ⟨n9, r9⟩ := and_e r8
  obtain ⟨n10, r10⟩ := and_e r9
  obtain ⟨n11, r11⟩ := and_e r10
  obtain ⟨n12, r12⟩ := and_e r11
  obtain ⟨n13, r13⟩ := and_e r12
  obtain ⟨n14, r14⟩ := and_e r13
  obtain ⟨n15, r15⟩ := and_e r14
  obtain ⟨n16, r16⟩ := and_e r15
  obtain ⟨n17, r17⟩ := and_e r16
  obtain ⟨n18, r18⟩ := and_e r17
  obtain ⟨n19, r19⟩ := and_e r18
  obtain ⟨n20, r20⟩ := and_e r19
  obtain ⟨n21, r21⟩ := and_e r20
  obtain ⟨n22, r22⟩ := and_e r21
  obtain ⟨n23, r23⟩ := and_e r22
  obtain ⟨n24, r24⟩ := and_e r23
  obtain ⟨n25, r25⟩ := and_e r24
  obtain ⟨n26, r26⟩ := and_e r25
  obtain ⟨n27, r27⟩ := and_e r26
  obtain ⟨n28, r28⟩ := and_e r27
  obtain ⟨n29, r29⟩ := and_e r28
  obtain ⟨n30, r30⟩ := and_e r29
  obtain ⟨n31, r31⟩ := and_e r30
  obtain ⟨n32, r32⟩ := and_e r31
  obtain ⟨n33, r33⟩ := and_e r32
  obtain ⟨n34, r34⟩ := and_e r33
  obtain ⟨n35, r35⟩ := and_e r34
  obtain ⟨n36, r36⟩ := and_e r35
  obtain ⟨n37, r37⟩ := and_e r36
  obtain ⟨n38, r38⟩ := and_e r37
  obtain ⟨n39, r39⟩ := and_e r38
  obtain ⟨n40, r40⟩ := and_e r39
  obtain ⟨n41, r41⟩ := and_e r40
  obtain ⟨n42, r42⟩ := and_e r41
  obtain ⟨n43, r43⟩ := and_e r42
  obtain ⟨n44, r44⟩ := and_e r43
  obtain ⟨n45, r45⟩ := and_e r44
  obtain ⟨n46, r46⟩ := and_e r45
  obtain ⟨n47, r47⟩ := and_e r46
  obtain ⟨n48, r48⟩ := and_e r47
  obtain ⟨n49, r49⟩ := and_e r48
  obtain ⟨n50, r50⟩ := and_e r49
  obtain ⟨n51, r51⟩ := and_e r50
  obtain ⟨n52, r52⟩ := and_e r51
  obtain ⟨n53, r53⟩ := and_e r52
  obtain ⟨n54, r54⟩ := and_e r53
  obtain ⟨n55, r55⟩ := and_e r54
  obtain ⟨n56, r56⟩ := and_e r55
  obtain ⟨n57, r57⟩ := and_e r56
  obtain ⟨n58, r58⟩ := and_e r57
  obtain ⟨n59, r59⟩ := and_e r58
  obtain ⟨n60, n61⟩ := and_e r59
  obtain ⟨aV, eV⟩ := exa_v n2
  obtain ⟨clV, ArV⟩ := Arr.start eV n1
  have S_V := Sta.start eV (Or.inr ⟨(hw _ (List.mem_of_getElem? (i := 11) rfl)), (hw _ (List.mem_of_getElem? (i := 17) rfl))⟩)
  have EV := Exa.start eV n2
  have qV := own_lenq eV (Arr.fin (State.Warmed39.refl s).alike ArV) (own_eqi n3)
  obtain ⟨f1, ef1⟩ := exa_v n4
  obtain ⟨f2, ef2⟩ := exa_v n5
  have FV := Arv.start (dv := .null) (vs := [.ref f1, .ref f2]) hfit ArV qV.1 qV.2 (by decide) rfl ⟨(elem_in ef1 eV (Term.int_eval 0) ArV.1).2, (elem_in ef2 eV (Term.int_eval 1) ArV.1).2, trivial⟩
  obtain ⟨d1, ed1⟩ := arr_v n6
  obtain ⟨ch1, Ad1⟩ := Arr.start ed1 n6
  have ee1 := ed1
  rw [fld_at ef1] at ee1
  have F1 := Fld.start ee1
  have Sd1 := own_26 (own_lenq ed1 (Arr.fin (State.Warmed39.refl s).alike Ad1) (own_eqi n7))
  have HL1 : HasL ch1 0 (own_cs1.map Value.int) := ⟨own_el ed1 Ad1.1 n10 0 (by decide), own_el ed1 Ad1.1 n11 1 (by decide), own_el ed1 Ad1.1 n12 2 (by decide), own_el ed1 Ad1.1 n13 3 (by decide), own_el ed1 Ad1.1 n14 4 (by decide), own_el ed1 Ad1.1 n15 5 (by decide), own_el ed1 Ad1.1 n16 6 (by decide), own_el ed1 Ad1.1 n17 7 (by decide), own_el ed1 Ad1.1 n18 8 (by decide), own_el ed1 Ad1.1 n19 9 (by decide), own_el ed1 Ad1.1 n20 10 (by decide), own_el ed1 Ad1.1 n21 11 (by decide), own_el ed1 Ad1.1 n22 12 (by decide), own_el ed1 Ad1.1 n23 13 (by decide), own_el ed1 Ad1.1 n24 14 (by decide), own_el ed1 Ad1.1 n25 15 (by decide), own_el ed1 Ad1.1 n26 16 (by decide), own_el ed1 Ad1.1 n27 17 (by decide), own_el ed1 Ad1.1 n28 18 (by decide), own_el ed1 Ad1.1 n29 19 (by decide), own_el ed1 Ad1.1 n30 20 (by decide), own_el ed1 Ad1.1 n31 21 (by decide), own_el ed1 Ad1.1 n32 22 (by decide), own_el ed1 Ad1.1 n33 23 (by decide), own_el ed1 Ad1.1 n34 24 (by decide), own_el ed1 Ad1.1 n35 25 (by decide), trivial⟩
  have Hd1 : ∀ i, i < 26 → ch1.slots[i]? = some (.int (own_y1 i)) := fun i hi => by
    have q := HasL.at (dv := .null) _ 0 HL1 i (by rw [List.length_map]; exact hi)
    rw [Nat.zero_add, own_map own_cs1 i hi] at q; exact q
  obtain ⟨d2, ed2⟩ := arr_v n8
  obtain ⟨ch2, Ad2⟩ := Arr.start ed2 n8
  have ee2 := ed2
  rw [fld_at ef2] at ee2
  have F2 := Fld.start ee2
  have Sd2 := own_26 (own_lenq ed2 (Arr.fin (State.Warmed39.refl s).alike Ad2) (own_eqi n9))
  have HL2 : HasL ch2 0 (own_cs2.map Value.int) := ⟨own_el ed2 Ad2.1 n36 0 (by decide), own_el ed2 Ad2.1 n37 1 (by decide), own_el ed2 Ad2.1 n38 2 (by decide), own_el ed2 Ad2.1 n39 3 (by decide), own_el ed2 Ad2.1 n40 4 (by decide), own_el ed2 Ad2.1 n41 5 (by decide), own_el ed2 Ad2.1 n42 6 (by decide), own_el ed2 Ad2.1 n43 7 (by decide), own_el ed2 Ad2.1 n44 8 (by decide), own_el ed2 Ad2.1 n45 9 (by decide), own_el ed2 Ad2.1 n46 10 (by decide), own_el ed2 Ad2.1 n47 11 (by decide), own_el ed2 Ad2.1 n48 12 (by decide), own_el ed2 Ad2.1 n49 13 (by decide), own_el ed2 Ad2.1 n50 14 (by decide), own_el ed2 Ad2.1 n51 15 (by decide), own_el ed2 Ad2.1 n52 16 (by decide), own_el ed2 Ad2.1 n53 17 (by decide), own_el ed2 Ad2.1 n54 18 (by decide), own_el ed2 Ad2.1 n55 19 (by decide), own_el ed2 Ad2.1 n56 20 (by decide), own_el ed2 Ad2.1 n57 21 (by decide), own_el ed2 Ad2.1 n58 22 (by decide), own_el ed2 Ad2.1 n59 23 (by decide), own_el ed2 Ad2.1 n60 24 (by decide), own_el ed2 Ad2.1 n61 25 (by decide), trivial⟩
  have Hd2 : ∀ i, i < 26 → ch2.slots[i]? = some (.int (own_y2 i)) := fun i hi => by
    have q := HasL.at (dv := .null) _ 0 HL2 i (by rw [List.length_map]; exact hi)
    rw [Nat.zero_add, own_map own_cs2 i hi] at q; exact q
  obtain ⟨n, o, h1, h2, h3, _, L, k, nn, rfl, rfl, N, hk', hn', hq⟩ := rm0 l s _ hw hEL tables_1 i0 i1 i2 i3 i4 iG G3 rG3 P5 O2 O4 aV _ f1 f2 d1 d2 ch1 ch2 S_V FV EV F1 Ad1 Sd1 Hd1 F2 Ad2 Sd2 Hd2 p e ha hc hk s m _ below hf ((Spec.applies_iff_loose hf).mp happ).1 ⟨rfl, State.Warmed39.refl s, rfl, hCH⟩ trivial
  refine ⟨n, _, h1, h2, h3, hpost _ _ _ _ _ _ ⟨Cond.after_iff.mpr rfl, Cond.after_iff.mpr (eq_i res_at (Term.int_eval (1)) rfl), trivial⟩ ⟨hq.1, hq.2.1, hq.2.2.1, (hq.2.2.2.sift fun y hy => Or.inr (N y hy)).mono hk' hn'⟩⟩
theorem main_1_1 : Claimed_1_1 := comes_1 fun _ _ _ _ _ _ h hF => ⟨h.1, hF⟩
theorem main_1_2 : Claimed_1_2 := comes_1 fun _ _ _ _ _ _ h hF => ⟨h.2.1, hF⟩
end Jvm.Pilot.@@N@@
namespace Jvm.Pilot.@@N@@
open Jvm Jvm.ClassFile Sem Op Lib Jvm.Free Jvm.Stand Jvm.Pilot.@@N@@.Jvm.D
/-! MADE BY PROGRAM (witnessworld.py) out of the Statement's table words and the real class files: 21 classes; the members and pool entries that the words name. The judged class is class 1, her method 5. -/
namespace start1
open Jvm.ClassFile
def u (s : String) : CpInfo := .utf8 (stringToUtf16 s)
/-- a pool by its gaps: so many unusable entries, then the entry; so many at the end -/
def gap : Nat → List CpInfo → List CpInfo
  | 0, r => r
  | n + 1, r => .unusable :: gap n r
def poolList (es : List (Nat × CpInfo)) (last : Nat) : List CpInfo := es.foldr (fun e r => gap e.1 (e.2 :: r)) (gap last [])
def pool (es : List (Nat × CpInfo)) (last : Nat) : Array CpInfo := ⟨poolList es last⟩
def fileOf (pool : Array CpInfo) (this : Nat) (attrs : Array Attribute := #[]) (ms : Array MethodInfo := #[]) (fl : Nat := 33) (sup : Nat := 0) (ifs : Array Nat := #[]) (fds : Array FieldInfo := #[]) : ClassFile where
  minorVersion := 0
  majorVersion := 65
  constantPool := pool
  accessFlags := fl
  thisClass := this
  superClass := sup
  interfaces := ifs
  fields := fds
  methods := ms
  attributes := attrs
def plain (name : String) (sup : Option ClassId) : Class where
  name := name
  kind := .ordinary
  loader := none
  accessFlags := 33
  super := sup
  interfaces := #[]
  cf := none
  fields := #[]
  methods := #[]
  instanceTypes := #[]
  staticTypes := #[]
  resolved := #[]
  callSites := []
  init := .initialized
  statics := none
  mirror := none

def pool0 : Array CpInfo := pool [(5, u "<init>"), (0, u "()V"), (1, .class_ 10), (1, u "java/lang/Object"), (85, u "clone"), (0, u "()Ljava/lang/Object;")] 26

def k0m0 : Method := { name := "<init>", desc := "()V", sig := { parameters := [], returnType := none }, accessFlags := 1, code := none }
def k0m1 : Method := { name := "clone", desc := "()Ljava/lang/Object;", sig := { parameters := [], returnType := some (.object "java/lang/Object") }, accessFlags := 260, code := none }
/-- java/lang/Object -/
def k0 : Class := { plain "java/lang/Object" none with
  accessFlags := 33
  interfaces := #[]
  cf := some (fileOf pool0 8 #[] #[{ accessFlags := 1, nameIndex := 5, descriptorIndex := 6, attributes := #[] }, { accessFlags := 260, nameIndex := 96, descriptorIndex := 97, attributes := #[] }] 33 0 #[] #[])
  fields := #[]
  methods := #[k0m0, k0m1]
  instanceTypes := #[]
  staticTypes := #[]
  resolved := Array.replicate 124 none
  statics := none }

def pool1 : Array CpInfo := pool [(2, .class_ 4), (1, u "java/lang/Object"), (0, u "<init>"), (0, u "()V"), (0, .string 8), (0, u "vigilant-ledger journal 1\n"), (0, .methodref 10 11), (0, .class_ 12), (0, .nameAndType 13 14), (0, u "java/lang/String"), (0, u "charAt"), (0, u "(I)C"), (0, .string 16), (0, u "vigilant-ledger journal 2\n"), (0, .methodref 18 19), (0, .class_ 20), (0, .nameAndType 21 22), (0, u "com/example/vigilant_ledger/vigilantledger/journal/JournalFormatIsTornHeaderPinLaw"), (0, u "h"), (0, u "(II)C"), (0, .methodref 18 24), (0, .nameAndType 25 26), (0, u "at"), (0, u "(IIBIB)B"), (0, .integer 2147483647), (0, .methodref 18 29), (0, .nameAndType 30 31), (0, u "put"), (0, u "([BIIBIB)V"), (0, .methodref 18 33), (0, .nameAndType 34 35), (0, u "ok"), (0, u "(IIIIBIB)Z"), (0, .methodref 37 38), (0, .class_ 39), (0, .nameAndType 40 41), (0, u "com/example/vigilant_ledger/vigilantledger/journal/JournalFormat"), (0, u "isTornHeader"), (0, u "([B)Z"), (3, u "law"), (0, u "(IIIII)Z")] 4

def k1m0 : Method := { name := "<init>", desc := "()V", sig := { parameters := [], returnType := none }, accessFlags := 1, code := none }
def k1c1 : Code := { maxStack := 2, maxLocals := 2, code := method_2_code, exceptionTable := #[], attributes := #[] }
def k1m1 : Method := { name := "h", desc := "(II)C", sig := { parameters := [.int, .int], returnType := some .char }, accessFlags := 10, code := some k1c1 }
def k1c2 : Code := { maxStack := 2, maxLocals := 5, code := method_3_code, exceptionTable := #[], attributes := #[] }
def k1m2 : Method := { name := "at", desc := "(IIBIB)B", sig := { parameters := [.int, .int, .byte, .int, .byte], returnType := some .byte }, accessFlags := 10, code := some k1c2 }
def k1c3 : Code := { maxStack := 7, maxLocals := 6, code := method_4_code, exceptionTable := #[], attributes := #[] }
def k1m3 : Method := { name := "put", desc := "([BIIBIB)V", sig := { parameters := [(.array .byte), .int, .int, .byte, .int, .byte], returnType := none }, accessFlags := 10, code := some k1c3 }
def k1c4 : Code := { maxStack := 5, maxLocals := 8, code := method_5_code, exceptionTable := #[], attributes := #[] }
def k1m4 : Method := { name := "ok", desc := "(IIIIBIB)Z", sig := { parameters := [.int, .int, .int, .int, .byte, .int, .byte], returnType := some .boolean }, accessFlags := 10, code := some k1c4 }
def k1c5 : Code := { maxStack := 7, maxLocals := 15, code := code, exceptionTable := #[], attributes := #[] }
def k1m5 : Method := { name := "law", desc := "(IIIII)Z", sig := { parameters := [.int, .int, .int, .int, .int], returnType := some .boolean }, accessFlags := 9, code := some k1c5 }
/-- com/example/vigilant_ledger/vigilantledger/journal/JournalFormatIsTornHeaderPinLaw -/
def k1 : Class := { plain "com/example/vigilant_ledger/vigilantledger/journal/JournalFormatIsTornHeaderPinLaw" (some 0) with
  accessFlags := 49
  interfaces := #[]
  cf := some (fileOf pool1 18 #[] #[{ accessFlags := 1, nameIndex := 5, descriptorIndex := 6, attributes := #[] }, { accessFlags := 10, nameIndex := 21, descriptorIndex := 22, attributes := #[] }, { accessFlags := 10, nameIndex := 25, descriptorIndex := 26, attributes := #[] }, { accessFlags := 10, nameIndex := 30, descriptorIndex := 31, attributes := #[] }, { accessFlags := 10, nameIndex := 34, descriptorIndex := 35, attributes := #[] }, { accessFlags := 9, nameIndex := 45, descriptorIndex := 46, attributes := #[] }] 49 2 #[] #[])
  fields := #[]
  methods := #[k1m0, k1m1, k1m2, k1m3, k1m4, k1m5]
  instanceTypes := #[]
  staticTypes := #[]
  resolved := Array.replicate 51 none
  statics := none }

def pool2 : Array CpInfo := pool [(1, .class_ 2), (0, u "java/lang/constant/Constable"), (0, .class_ 4), (0, u "java/lang/Object")] 6

/-- java/lang/constant/Constable -/
def k2 : Class := { plain "java/lang/constant/Constable" (some 0) with
  accessFlags := 1537
  interfaces := #[]
  cf := some (fileOf pool2 1 #[] #[] 1537 3 #[] #[])
  fields := #[]
  methods := #[]
  instanceTypes := #[]
  staticTypes := #[]
  resolved := Array.replicate 11 none
  statics := none }

def pool3 : Array CpInfo := pool [(1, .class_ 2), (0, u "java/lang/Comparable"), (0, .class_ 4), (0, u "java/lang/Object")] 7

/-- java/lang/Comparable -/
def k3 : Class := { plain "java/lang/Comparable" (some 0) with
  accessFlags := 1537
  interfaces := #[]
  cf := some (fileOf pool3 1 #[] #[] 1537 3 #[] #[])
  fields := #[]
  methods := #[]
  instanceTypes := #[]
  staticTypes := #[]
  resolved := Array.replicate 12 none
  statics := none }

def pool4 : Array CpInfo := pool [(1, .class_ 2), (0, u "java/io/Serializable"), (0, .class_ 4), (0, u "java/lang/Object")] 2

/-- java/io/Serializable -/
def k4 : Class := { plain "java/io/Serializable" (some 0) with
  accessFlags := 1537
  interfaces := #[]
  cf := some (fileOf pool4 1 #[] #[] 1537 3 #[] #[])
  fields := #[]
  methods := #[]
  instanceTypes := #[]
  staticTypes := #[]
  resolved := Array.replicate 7 none
  statics := none }

def pool5 : Array CpInfo := pool [(2, .class_ 4), (1, u "java/lang/Enum"), (0, u "name"), (0, u "Ljava/lang/String;"), (2, u "ordinal"), (0, u "I"), (1, .class_ 14), (1, u "java/lang/Object"), (4, u "hash"), (86, .class_ 108), (1, u "java/lang/Enum$EnumDesc"), (2, .class_ 112), (0, u "java/lang/constant/Constable"), (0, .class_ 114), (0, u "java/lang/Comparable"), (0, .class_ 116), (0, u "java/io/Serializable")] 87

/-- java/lang/Enum -/
def k5 : Class := { plain "java/lang/Enum" (some 0) with
  accessFlags := 1057
  interfaces := #[2, 3, 4]
  cf := some (fileOf pool5 2 #[.nestMembers #[106]] #[] 1057 12 #[111, 113, 115] #[{ accessFlags := 18, nameIndex := 5, descriptorIndex := 6, attributes := #[] }, { accessFlags := 18, nameIndex := 9, descriptorIndex := 10, attributes := #[] }, { accessFlags := 2, nameIndex := 19, descriptorIndex := 10, attributes := #[] }])
  fields := #[{ name := "name", type := (.object "java/lang/String"), accessFlags := 18, slot := 0, constantValue := 0 }, { name := "ordinal", type := .int, accessFlags := 18, slot := 1, constantValue := 0 }, { name := "hash", type := .int, accessFlags := 2, slot := 2, constantValue := 0 }]
  methods := #[]
  instanceTypes := #[(.object "java/lang/String"), .int, .int]
  staticTypes := #[]
  resolved := Array.replicate 204 none
  statics := none }

def pool6 : Array CpInfo := pool [(1, .class_ 2), (0, u "com/example/vigilant_ledger/vigilantledger/journal/JournalFormat"), (2, u "ONE"), (0, u "Lcom/example/vigilant_ledger/vigilantledger/journal/JournalFormat;"), (2, u "TWO"), (0, .fieldref 1 11), (0, .nameAndType 12 13), (0, u "$VALUES"), (0, u "[Lcom/example/vigilant_ledger/vigilantledger/journal/JournalFormat;"), (0, .methodref 15 16), (0, .class_ 13), (0, .nameAndType 17 18), (0, u "clone"), (0, u "()Ljava/lang/Object;"), (1, .class_ 22), (1, u "java/lang/Enum"), (18, .fieldref 1 42), (0, .nameAndType 43 44), (0, u "header"), (0, u "[B"), (2, u "headBytes"), (0, u "I"), (2, u "marksForces"), (0, u "Z"), (0, .methodref 1 54), (0, .nameAndType 55 56), (0, u "values"), (0, u "()[Lcom/example/vigilant_ledger/vigilantledger/journal/JournalFormat;"), (56, .class_ 114), (0, u "com/example/vigilant_ledger/vigilantledger/journal/JournalFormat$1"), (6, .class_ 122), (0, u "com/example/vigilant_ledger/vigilantledger/journal/JournalFormat$2"), (9, u "CURRENT"), (0, u "MAX_PAYLOAD_BYTES"), (1, u "HEADER_BYTES"), (1, u "MARK_BODY_BYTES"), (1, u "MARK_BIT"), (1, u "BAD_LENGTH"), (0, u "Ljava/lang/String;"), (12, u "isTornHeader"), (0, u "([B)Z"), (16, .class_ 174), (0, u "com/example/vigilant_ledger/vigilantledger/journal/JournalFormat$FrameHead")] 17

def k6c0 : Code := { maxStack := 1, maxLocals := 0, code := prog_19_method_1_code, exceptionTable := #[], attributes := #[] }
def k6m0 : Method := { name := "values", desc := "()[Lcom/example/vigilant_ledger/vigilantledger/journal/JournalFormat;", sig := { parameters := [], returnType := some (.array (.object "com/example/vigilant_ledger/vigilantledger/journal/JournalFormat")) }, accessFlags := 9, code := some k6c0 }
def k6c1 : Code := { maxStack := 3, maxLocals := 8, code := prog_19_method_5_code, exceptionTable := #[], attributes := #[] }
def k6m1 : Method := { name := "isTornHeader", desc := "([B)Z", sig := { parameters := [(.array .byte)], returnType := some .boolean }, accessFlags := 8, code := some k6c1 }
/-- com/example/vigilant_ledger/vigilantledger/journal/JournalFormat -/
def k6 : Class := { plain "com/example/vigilant_ledger/vigilantledger/journal/JournalFormat" (some 5) with
  accessFlags := 17440
  interfaces := #[]
  cf := some (fileOf pool6 1 #[.nestMembers #[173, 121, 113]] #[{ accessFlags := 9, nameIndex := 55, descriptorIndex := 56, attributes := #[] }, { accessFlags := 8, nameIndex := 155, descriptorIndex := 156, attributes := #[] }] 17440 20 #[] #[{ accessFlags := 16409, nameIndex := 5, descriptorIndex := 6, attributes := #[] }, { accessFlags := 16409, nameIndex := 9, descriptorIndex := 6, attributes := #[] }, { accessFlags := 24, nameIndex := 132, descriptorIndex := 6, attributes := #[] }, { accessFlags := 24, nameIndex := 133, descriptorIndex := 48, attributes := #[] }, { accessFlags := 24, nameIndex := 135, descriptorIndex := 48, attributes := #[] }, { accessFlags := 24, nameIndex := 137, descriptorIndex := 48, attributes := #[] }, { accessFlags := 26, nameIndex := 139, descriptorIndex := 48, attributes := #[] }, { accessFlags := 26, nameIndex := 141, descriptorIndex := 142, attributes := #[] }, { accessFlags := 18, nameIndex := 43, descriptorIndex := 44, attributes := #[] }, { accessFlags := 18, nameIndex := 47, descriptorIndex := 48, attributes := #[] }, { accessFlags := 18, nameIndex := 51, descriptorIndex := 52, attributes := #[] }, { accessFlags := 4122, nameIndex := 12, descriptorIndex := 13, attributes := #[] }])
  fields := #[{ name := "ONE", type := (.object "com/example/vigilant_ledger/vigilantledger/journal/JournalFormat"), accessFlags := 16409, slot := 0, constantValue := 0 }, { name := "TWO", type := (.object "com/example/vigilant_ledger/vigilantledger/journal/JournalFormat"), accessFlags := 16409, slot := 1, constantValue := 0 }, { name := "CURRENT", type := (.object "com/example/vigilant_ledger/vigilantledger/journal/JournalFormat"), accessFlags := 24, slot := 2, constantValue := 0 }, { name := "MAX_PAYLOAD_BYTES", type := .int, accessFlags := 24, slot := 3, constantValue := 0 }, { name := "HEADER_BYTES", type := .int, accessFlags := 24, slot := 4, constantValue := 0 }, { name := "MARK_BODY_BYTES", type := .int, accessFlags := 24, slot := 5, constantValue := 0 }, { name := "MARK_BIT", type := .int, accessFlags := 26, slot := 6, constantValue := 0 }, { name := "BAD_LENGTH", type := (.object "java/lang/String"), accessFlags := 26, slot := 7, constantValue := 0 }, { name := "header", type := (.array .byte), accessFlags := 18, slot := 3, constantValue := 0 }, { name := "headBytes", type := .int, accessFlags := 18, slot := 4, constantValue := 0 }, { name := "marksForces", type := .boolean, accessFlags := 18, slot := 5, constantValue := 0 }, { name := "$VALUES", type := (.array (.object "com/example/vigilant_ledger/vigilantledger/journal/JournalFormat")), accessFlags := 4122, slot := 8, constantValue := 0 }]
  methods := #[k6m0, k6m1]
  instanceTypes := #[(.object "java/lang/String"), .int, .int, (.array .byte), .int, .boolean]
  staticTypes := #[(.object "com/example/vigilant_ledger/vigilantledger/journal/JournalFormat"), (.object "com/example/vigilant_ledger/vigilantledger/journal/JournalFormat"), (.object "com/example/vigilant_ledger/vigilantledger/journal/JournalFormat"), .int, .int, .int, .int, (.object "java/lang/String"), (.array (.object "com/example/vigilant_ledger/vigilantledger/journal/JournalFormat"))]
  resolved := Array.replicate 192 none
  statics := some 0 }

def pool7 : Array CpInfo := pool [(1, .class_ 2), (0, u "java/lang/Cloneable"), (0, .class_ 4), (0, u "java/lang/Object")] 2

/-- java/lang/Cloneable -/
def k7 : Class := { plain "java/lang/Cloneable" (some 0) with
  accessFlags := 1537
  interfaces := #[]
  cf := some (fileOf pool7 1 #[] #[] 1537 3 #[] #[])
  fields := #[]
  methods := #[]
  instanceTypes := #[]
  staticTypes := #[]
  resolved := Array.replicate 7 none
  statics := none }

def pool8 : Array CpInfo := pool [(2, .class_ 4), (1, u "java/lang/CharSequence"), (42, .class_ 48), (0, u "java/lang/CharSequence$1CodePointIterator"), (10, .class_ 60), (0, u "java/lang/CharSequence$1CharIterator"), (5, .class_ 67), (0, u "java/lang/Object")] 63

/-- java/lang/CharSequence -/
def k8 : Class := { plain "java/lang/CharSequence" (some 0) with
  accessFlags := 1537
  interfaces := #[]
  cf := some (fileOf pool8 2 #[.nestMembers #[47, 59]] #[] 1537 66 #[] #[])
  fields := #[]
  methods := #[]
  instanceTypes := #[]
  staticTypes := #[]
  resolved := Array.replicate 131 none
  statics := none }

def pool9 : Array CpInfo := pool [(1, .class_ 2), (0, u "java/lang/constant/ConstantDesc"), (0, .class_ 4), (0, u "java/lang/Object")] 32

/-- java/lang/constant/ConstantDesc -/
def k9 : Class := { plain "java/lang/constant/ConstantDesc" (some 0) with
  accessFlags := 1537
  interfaces := #[]
  cf := some (fileOf pool9 1 #[] #[] 1537 3 #[] #[])
  fields := #[]
  methods := #[]
  instanceTypes := #[]
  staticTypes := #[]
  resolved := Array.replicate 37 none
  statics := none }

def pool10 : Array CpInfo := pool [(2, .class_ 4), (1, u "java/lang/Object"), (0, u "<init>"), (0, u "()V"), (2, .fieldref 10 11), (0, .class_ 12), (0, .nameAndType 13 14), (0, u "java/lang/String"), (0, u "value"), (0, u "[B"), (0, .fieldref 10 16), (0, .nameAndType 17 18), (0, u "coder"), (0, u "B"), (2, u "hash"), (0, u "I"), (2, u "hashIsZero"), (0, u "Z"), (11, .fieldref 10 39), (0, .nameAndType 40 26), (0, u "COMPACT_STRINGS"), (66, .class_ 109), (1, u "java/lang/StringLatin1"), (32, u "()Z"), (220, u "([BI)C"), (27, u "(II)V"), (35, u "(I)C"), (64, .methodref 10 493), (0, .nameAndType 494 142), (0, u "isLatin1"), (0, .methodref 107 496), (0, .nameAndType 497 363), (0, u "charAt"), (3, u "checkIndex"), (73, .class_ 576), (0, u "java/lang/CharSequence"), (22, u "CASE_INSENSITIVE_ORDER"), (0, u "Ljava/util/Comparator;"), (452, .fieldref 1054 1055), (0, .class_ 1056), (0, .nameAndType 1057 1058), (0, u "jdk/internal/util/Preconditions"), (0, u "SIOOBE_FORMATTER"), (0, u "Ljava/util/function/BiFunction;"), (0, .methodref 1054 1060), (0, .nameAndType 501 1061), (0, u "(IILjava/util/function/BiFunction;)I"), (39, u "serialPersistentFields"), (0, u "[Ljava/io/ObjectStreamField;"), (0, .class_ 1104), (0, u "java/lang/String$CaseInsensitiveComparator"), (1, .class_ 1107), (0, u "java/io/Serializable"), (0, .class_ 1109), (0, u "java/lang/Comparable"), (0, .class_ 1111), (0, u "java/lang/constant/Constable"), (0, .class_ 1113), (0, u "java/lang/constant/ConstantDesc"), (2, u "serialVersionUID"), (0, u "J"), (3, u "REPL"), (0, u "C"), (2, u "LATIN1"), (1, u "UTF16")] 323

def k10m0 : Method := { name := "<init>", desc := "()V", sig := { parameters := [], returnType := none }, accessFlags := 1, code := none }
def k10c1 : Code := { maxStack := 2, maxLocals := 2, code := jdk_42_method_56_code, exceptionTable := #[], attributes := #[] }
def k10m1 : Method := { name := "charAt", desc := "(I)C", sig := { parameters := [.int], returnType := some .char }, accessFlags := 1, code := some k10c1 }
def k10c2 : Code := { maxStack := 1, maxLocals := 1, code := jdk_42_method_154_code, exceptionTable := #[], attributes := #[] }
def k10m2 : Method := { name := "isLatin1", desc := "()Z", sig := { parameters := [], returnType := some .boolean }, accessFlags := 0, code := some k10c2 }
def k10c3 : Code := { maxStack := 3, maxLocals := 2, code := jdk_42_method_155_code, exceptionTable := #[], attributes := #[] }
def k10m3 : Method := { name := "checkIndex", desc := "(II)V", sig := { parameters := [.int, .int], returnType := none }, accessFlags := 8, code := some k10c3 }
/-- java/lang/String -/
def k10 : Class := { plain "java/lang/String" (some 0) with
  accessFlags := 49
  interfaces := #[4, 3, 8, 2, 9]
  cf := some (fileOf pool10 10 #[.nestMembers #[1103]] #[{ accessFlags := 1, nameIndex := 5, descriptorIndex := 6, attributes := #[] }, { accessFlags := 1, nameIndex := 497, descriptorIndex := 427, attributes := #[] }, { accessFlags := 0, nameIndex := 494, descriptorIndex := 142, attributes := #[] }, { accessFlags := 8, nameIndex := 501, descriptorIndex := 391, attributes := #[] }] 49 2 #[1106, 1108, 575, 1110, 1112] #[{ accessFlags := 18, nameIndex := 13, descriptorIndex := 14, attributes := #[] }, { accessFlags := 18, nameIndex := 17, descriptorIndex := 18, attributes := #[] }, { accessFlags := 2, nameIndex := 21, descriptorIndex := 22, attributes := #[] }, { accessFlags := 2, nameIndex := 25, descriptorIndex := 26, attributes := #[] }, { accessFlags := 26, nameIndex := 1116, descriptorIndex := 1117, attributes := #[] }, { accessFlags := 24, nameIndex := 40, descriptorIndex := 26, attributes := #[] }, { accessFlags := 26, nameIndex := 1101, descriptorIndex := 1102, attributes := #[] }, { accessFlags := 26, nameIndex := 1121, descriptorIndex := 1122, attributes := #[] }, { accessFlags := 25, nameIndex := 599, descriptorIndex := 600, attributes := #[] }, { accessFlags := 24, nameIndex := 1125, descriptorIndex := 18, attributes := #[] }, { accessFlags := 24, nameIndex := 1127, descriptorIndex := 18, attributes := #[] }])
  fields := #[{ name := "value", type := (.array .byte), accessFlags := 18, slot := 0, constantValue := 0 }, { name := "coder", type := .byte, accessFlags := 18, slot := 1, constantValue := 0 }, { name := "hash", type := .int, accessFlags := 2, slot := 2, constantValue := 0 }, { name := "hashIsZero", type := .boolean, accessFlags := 2, slot := 3, constantValue := 0 }, { name := "serialVersionUID", type := .long, accessFlags := 26, slot := 0, constantValue := 0 }, { name := "COMPACT_STRINGS", type := .boolean, accessFlags := 24, slot := 1, constantValue := 0 }, { name := "serialPersistentFields", type := (.array (.object "java/io/ObjectStreamField")), accessFlags := 26, slot := 2, constantValue := 0 }, { name := "REPL", type := .char, accessFlags := 26, slot := 3, constantValue := 0 }, { name := "CASE_INSENSITIVE_ORDER", type := (.object "java/util/Comparator"), accessFlags := 25, slot := 4, constantValue := 0 }, { name := "LATIN1", type := .byte, accessFlags := 24, slot := 5, constantValue := 0 }, { name := "UTF16", type := .byte, accessFlags := 24, slot := 6, constantValue := 0 }]
  methods := #[k10m0, k10m1, k10m2, k10m3]
  instanceTypes := #[(.array .byte), .byte, .int, .boolean]
  staticTypes := #[.long, .boolean, (.array (.object "java/io/ObjectStreamField")), .char, (.object "java/util/Comparator"), .byte, .byte]
  resolved := Array.replicate 1451 none
  statics := some 1 }

def pool11 : Array CpInfo := pool [(1, .class_ 2), (0, u "java/lang/String"), (1, .class_ 6), (1, u "java/lang/Object"), (0, u "<init>"), (0, u "()V"), (0, .methodref 1 10), (0, .nameAndType 11 12), (0, u "checkIndex"), (0, u "(II)V"), (1, .class_ 16), (1, u "java/lang/StringLatin1"), (36, u "([BI)C"), (67, u "$assertionsDisabled"), (0, u "Z"), (98, .class_ 223), (1, u "java/lang/StringLatin1$LinesSpliterator"), (28, u "charAt"), (137, .class_ 391), (0, u "java/lang/StringLatin1$CharsSpliterator")] 3

def k11m0 : Method := { name := "<init>", desc := "()V", sig := { parameters := [], returnType := none }, accessFlags := 0, code := none }
def k11c1 : Code := { maxStack := 2, maxLocals := 2, code := jdk_43_method_2_code, exceptionTable := #[], attributes := #[] }
def k11m1 : Method := { name := "charAt", desc := "([BI)C", sig := { parameters := [(.array .byte), .int], returnType := some .char }, accessFlags := 9, code := some k11c1 }
/-- java/lang/StringLatin1 -/
def k11 : Class := { plain "java/lang/StringLatin1" (some 0) with
  accessFlags := 48
  interfaces := #[]
  cf := some (fileOf pool11 14 #[.nestMembers #[390, 221]] #[{ accessFlags := 0, nameIndex := 7, descriptorIndex := 8, attributes := #[] }, { accessFlags := 9, nameIndex := 252, descriptorIndex := 53, attributes := #[] }] 48 4 #[] #[{ accessFlags := 4120, nameIndex := 121, descriptorIndex := 122, attributes := #[] }])
  fields := #[{ name := "$assertionsDisabled", type := .boolean, accessFlags := 4120, slot := 0, constantValue := 0 }]
  methods := #[k11m0, k11m1]
  instanceTypes := #[]
  staticTypes := #[.boolean]
  resolved := Array.replicate 395 none
  statics := none }

def pool12 : Array CpInfo := pool [(2, .class_ 4), (1, u "java/lang/Object"), (0, u "<init>"), (0, u "()V"), (17, .class_ 26), (1, u "jdk/internal/util/Preconditions"), (6, u "checkIndex"), (21, .class_ 56), (0, u "jdk/internal/util/Preconditions$4"), (57, .class_ 115), (0, u "jdk/internal/util/Preconditions$1"), (7, u "SIOOBE_FORMATTER"), (0, u "Ljava/util/function/BiFunction;"), (0, .class_ 126), (0, u "jdk/internal/util/Preconditions$2"), (3, u "AIOOBE_FORMATTER"), (0, .class_ 132), (0, u "jdk/internal/util/Preconditions$3"), (3, u "IOOBE_FORMATTER"), (41, u "(IILjava/util/function/BiFunction;)I")] 15

def k12m0 : Method := { name := "<init>", desc := "()V", sig := { parameters := [], returnType := none }, accessFlags := 1, code := none }
def k12c1 : Code := { maxStack := 3, maxLocals := 3, code := jdk_41_method_11_code, exceptionTable := #[], attributes := #[] }
def k12m1 : Method := { name := "checkIndex", desc := "(IILjava/util/function/BiFunction;)I", sig := { parameters := [.int, .int, (.object "java/util/function/BiFunction")], returnType := some .int }, accessFlags := 9, code := some k12c1 }
/-- jdk/internal/util/Preconditions -/
def k12 : Class := { plain "jdk/internal/util/Preconditions" (some 0) with
  accessFlags := 33
  interfaces := #[]
  cf := some (fileOf pool12 24 #[.nestMembers #[55, 131, 125, 114]] #[{ accessFlags := 1, nameIndex := 5, descriptorIndex := 6, attributes := #[] }, { accessFlags := 9, nameIndex := 33, descriptorIndex := 178, attributes := #[] }] 33 2 #[] #[{ accessFlags := 25, nameIndex := 123, descriptorIndex := 124, attributes := #[] }, { accessFlags := 25, nameIndex := 130, descriptorIndex := 124, attributes := #[] }, { accessFlags := 25, nameIndex := 136, descriptorIndex := 124, attributes := #[] }])
  fields := #[{ name := "SIOOBE_FORMATTER", type := (.object "java/util/function/BiFunction"), accessFlags := 25, slot := 0, constantValue := 0 }, { name := "AIOOBE_FORMATTER", type := (.object "java/util/function/BiFunction"), accessFlags := 25, slot := 1, constantValue := 0 }, { name := "IOOBE_FORMATTER", type := (.object "java/util/function/BiFunction"), accessFlags := 25, slot := 2, constantValue := 0 }]
  methods := #[k12m0, k12m1]
  instanceTypes := #[]
  staticTypes := #[(.object "java/util/function/BiFunction"), (.object "java/util/function/BiFunction"), (.object "java/util/function/BiFunction")]
  resolved := Array.replicate 194 none
  statics := some 2 }

def pool13 : Array CpInfo := pool [(1, .class_ 2), (0, u "com/example/vigilant_ledger/vigilantledger/journal/JournalFormat"), (11, .class_ 16), (1, u "com/example/vigilant_ledger/vigilantledger/journal/JournalFormat$1")] 26

/-- com/example/vigilant_ledger/vigilantledger/journal/JournalFormat$1 -/
def k13 : Class := { plain "com/example/vigilant_ledger/vigilantledger/journal/JournalFormat$1" (some 6) with
  accessFlags := 16432
  interfaces := #[]
  cf := some (fileOf pool13 14 #[.nestHost 1] #[] 16432 1 #[] #[])
  fields := #[]
  methods := #[]
  instanceTypes := #[(.object "java/lang/String"), .int, .int, (.array .byte), .int, .boolean]
  staticTypes := #[]
  resolved := Array.replicate 43 none
  statics := none }

def pool14 : Array CpInfo := pool [(1, .class_ 2), (0, u "com/example/vigilant_ledger/vigilantledger/journal/JournalFormat"), (21, .class_ 26), (1, u "com/example/vigilant_ledger/vigilantledger/journal/JournalFormat$2")] 57

/-- com/example/vigilant_ledger/vigilantledger/journal/JournalFormat$2 -/
def k14 : Class := { plain "com/example/vigilant_ledger/vigilantledger/journal/JournalFormat$2" (some 6) with
  accessFlags := 16432
  interfaces := #[]
  cf := some (fileOf pool14 24 #[.nestHost 1] #[] 16432 1 #[] #[])
  fields := #[]
  methods := #[]
  instanceTypes := #[(.object "java/lang/String"), .int, .int, (.array .byte), .int, .boolean]
  staticTypes := #[]
  resolved := Array.replicate 84 none
  statics := none }

def pool15 : Array CpInfo := pool [(9, u "<init>"), (6, .class_ 18), (1, u "java/lang/Object"), (0, u "()V"), (1, .class_ 23), (1, u "jdk/internal/util/ArraysSupport"), (0, u "LOG2_ARRAY_LONG_INDEX_SCALE"), (0, u "I"), (2, u "U"), (0, u "Ljdk/internal/misc/Unsafe;"), (8, u "BIG_ENDIAN"), (0, u "Z"), (8, u "LOG2_BYTE_BIT_SIZE"), (4, u "LOG2_ARRAY_INT_INDEX_SCALE"), (54, u "JLA"), (0, u "Ljdk/internal/access/JavaLangAccess;"), (11, u "LOG2_ARRAY_BOOLEAN_INDEX_SCALE"), (9, u "LOG2_ARRAY_BYTE_INDEX_SCALE"), (5, u "LOG2_ARRAY_CHAR_INDEX_SCALE"), (5, u "LOG2_ARRAY_SHORT_INDEX_SCALE"), (18, u "LOG2_ARRAY_FLOAT_INDEX_SCALE"), (24, u "LOG2_ARRAY_DOUBLE_INDEX_SCALE"), (89, u "T_BOOLEAN"), (2, u "T_CHAR"), (1, u "T_FLOAT"), (1, u "T_DOUBLE"), (1, u "T_BYTE"), (1, u "T_SHORT"), (1, u "T_INT"), (1, u "T_LONG"), (1, u "SOFT_MAX_ARRAY_LENGTH")] 83

def k15m0 : Method := { name := "<init>", desc := "()V", sig := { parameters := [], returnType := none }, accessFlags := 2, code := none }
/-- jdk/internal/util/ArraysSupport -/
def k15 : Class := { plain "jdk/internal/util/ArraysSupport" (some 0) with
  accessFlags := 33
  interfaces := #[]
  cf := some (fileOf pool15 21 #[] #[{ accessFlags := 2, nameIndex := 9, descriptorIndex := 19, attributes := #[] }] 33 16 #[] #[{ accessFlags := 24, nameIndex := 28, descriptorIndex := 29, attributes := #[] }, { accessFlags := 26, nameIndex := 38, descriptorIndex := 39, attributes := #[] }, { accessFlags := 25, nameIndex := 121, descriptorIndex := 25, attributes := #[] }, { accessFlags := 25, nameIndex := 131, descriptorIndex := 25, attributes := #[] }, { accessFlags := 25, nameIndex := 137, descriptorIndex := 25, attributes := #[] }, { accessFlags := 25, nameIndex := 143, descriptorIndex := 25, attributes := #[] }, { accessFlags := 25, nameIndex := 53, descriptorIndex := 25, attributes := #[] }, { accessFlags := 25, nameIndex := 24, descriptorIndex := 25, attributes := #[] }, { accessFlags := 25, nameIndex := 162, descriptorIndex := 25, attributes := #[] }, { accessFlags := 25, nameIndex := 187, descriptorIndex := 25, attributes := #[] }, { accessFlags := 26, nameIndex := 48, descriptorIndex := 25, attributes := #[] }, { accessFlags := 25, nameIndex := 277, descriptorIndex := 25, attributes := #[] }, { accessFlags := 25, nameIndex := 280, descriptorIndex := 25, attributes := #[] }, { accessFlags := 25, nameIndex := 282, descriptorIndex := 25, attributes := #[] }, { accessFlags := 25, nameIndex := 284, descriptorIndex := 25, attributes := #[] }, { accessFlags := 25, nameIndex := 286, descriptorIndex := 25, attributes := #[] }, { accessFlags := 25, nameIndex := 288, descriptorIndex := 25, attributes := #[] }, { accessFlags := 25, nameIndex := 290, descriptorIndex := 25, attributes := #[] }, { accessFlags := 25, nameIndex := 292, descriptorIndex := 25, attributes := #[] }, { accessFlags := 26, nameIndex := 108, descriptorIndex := 109, attributes := #[] }, { accessFlags := 25, nameIndex := 294, descriptorIndex := 25, attributes := #[] }])
  fields := #[{ name := "U", type := (.object "jdk/internal/misc/Unsafe"), accessFlags := 24, slot := 0, constantValue := 0 }, { name := "BIG_ENDIAN", type := .boolean, accessFlags := 26, slot := 1, constantValue := 0 }, { name := "LOG2_ARRAY_BOOLEAN_INDEX_SCALE", type := .int, accessFlags := 25, slot := 2, constantValue := 0 }, { name := "LOG2_ARRAY_BYTE_INDEX_SCALE", type := .int, accessFlags := 25, slot := 3, constantValue := 0 }, { name := "LOG2_ARRAY_CHAR_INDEX_SCALE", type := .int, accessFlags := 25, slot := 4, constantValue := 0 }, { name := "LOG2_ARRAY_SHORT_INDEX_SCALE", type := .int, accessFlags := 25, slot := 5, constantValue := 0 }, { name := "LOG2_ARRAY_INT_INDEX_SCALE", type := .int, accessFlags := 25, slot := 6, constantValue := 0 }, { name := "LOG2_ARRAY_LONG_INDEX_SCALE", type := .int, accessFlags := 25, slot := 7, constantValue := 0 }, { name := "LOG2_ARRAY_FLOAT_INDEX_SCALE", type := .int, accessFlags := 25, slot := 8, constantValue := 0 }, { name := "LOG2_ARRAY_DOUBLE_INDEX_SCALE", type := .int, accessFlags := 25, slot := 9, constantValue := 0 }, { name := "LOG2_BYTE_BIT_SIZE", type := .int, accessFlags := 26, slot := 10, constantValue := 0 }, { name := "T_BOOLEAN", type := .int, accessFlags := 25, slot := 11, constantValue := 0 }, { name := "T_CHAR", type := .int, accessFlags := 25, slot := 12, constantValue := 0 }, { name := "T_FLOAT", type := .int, accessFlags := 25, slot := 13, constantValue := 0 }, { name := "T_DOUBLE", type := .int, accessFlags := 25, slot := 14, constantValue := 0 }, { name := "T_BYTE", type := .int, accessFlags := 25, slot := 15, constantValue := 0 }, { name := "T_SHORT", type := .int, accessFlags := 25, slot := 16, constantValue := 0 }, { name := "T_INT", type := .int, accessFlags := 25, slot := 17, constantValue := 0 }, { name := "T_LONG", type := .int, accessFlags := 25, slot := 18, constantValue := 0 }, { name := "JLA", type := (.object "jdk/internal/access/JavaLangAccess"), accessFlags := 26, slot := 19, constantValue := 0 }, { name := "SOFT_MAX_ARRAY_LENGTH", type := .int, accessFlags := 25, slot := 20, constantValue := 0 }]
  methods := #[k15m0]
  instanceTypes := #[]
  staticTypes := #[(.object "jdk/internal/misc/Unsafe"), .boolean, .int, .int, .int, .int, .int, .int, .int, .int, .int, .int, .int, .int, .int, .int, .int, .int, .int, (.object "jdk/internal/access/JavaLangAccess"), .int]
  resolved := Array.replicate 378 none
  statics := none }

/-- the primitive byte -/
def k16 : Class := { plain "byte" none with kind := .primitive 'B', accessFlags := 0x411 }
/-- [B -/
def k17 : Class := { plain "[B" (some 0) with kind := .array 16 .byte, interfaces := #[7, 4], accessFlags := 1041 }

/-- the primitive int -/
def k18 : Class := { plain "int" none with kind := .primitive 'I', accessFlags := 0x411 }
/-- [I -/
def k19 : Class := { plain "[I" (some 0) with kind := .array 18 .int, interfaces := #[7, 4], accessFlags := 1041 }

/-- [Lcom/example/vigilant_ledger/vigilantledger/journal/JournalFormat; -/
def k20 : Class := { plain "[Lcom/example/vigilant_ledger/vigilantledger/journal/JournalFormat;" (some 0) with kind := .array 6 (.object "com/example/vigilant_ledger/vigilantledger/journal/JournalFormat"), interfaces := #[7, 4], accessFlags := 1041 }

def heap : Heap := #[{ cls := 6, slots := #[.null, .null, .null, .int 0, .int 0, .int 0, .int 0, .null, .ref 7], vm := .statics 6 },
  { cls := 10, slots := #[.long 0, .int 1, .null, .int 0, .null, .int 0, .int 0], vm := .statics 10 },
  { cls := 12, slots := #[.null, .null, .null], vm := .statics 12 },
  { cls := 17, slots := #[.int 118, .int 105, .int 103, .int 105, .int 108, .int 97, .int 110, .int 116, .int 45, .int 108, .int 101, .int 100, .int 103, .int 101, .int 114, .int 32, .int 106, .int 111, .int 117, .int 114, .int 110, .int 97, .int 108, .int 32, .int 49, .int 10], vm := .none },
  { cls := 17, slots := #[.int 118, .int 105, .int 103, .int 105, .int 108, .int 97, .int 110, .int 116, .int 45, .int 108, .int 101, .int 100, .int 103, .int 101, .int 114, .int 32, .int 106, .int 111, .int 117, .int 114, .int 110, .int 97, .int 108, .int 32, .int 50, .int 10], vm := .none },
  { cls := 13, slots := #[.null, .int 0, .int 0, .ref 3, .int 0, .int 0], vm := .none },
  { cls := 14, slots := #[.null, .int 1, .int 0, .ref 4, .int 0, .int 0], vm := .none },
  { cls := 20, slots := #[.ref 5, .ref 6], vm := .none }]
def classes : Array Class := #[k0, k1, k2, k3, k4, k5, k6, k7, k8, k9, k10, k11, k12, k13, k14, k15, k16, k17, k18, k19, k20]
def interned : List (Array UInt16 × Addr) := []
def slotsUsed : Nat := 85
def theMethod : MethodId := ⟨1, 5⟩
def args0 : Array Value := #[.int 5, .int 6, .int 7, .int 8, .int 9]
def aboutOver (below : List Frame) : State where
  vm := { classes := classes, interned := interned.toArray }
  heap := heap
  slotsUsed := slotsUsed
  threads := #[{ frames := .invoking theMethod args0 :: below }]
def below0 : List Frame := [.native { method := ⟨0, 0⟩, args := #[] }]
def about1 : State := aboutOver below0
def p0 : Program := .bare "" "" ""
def e0 : Env := launch0.env 0 0 0
theorem w_frames : about1.frames = Frame.invoking theMethod args0 :: below0 := rfl
set_option maxRecDepth 65536 in
theorem w_args : argsFit about1.vm theMethod args0 = true := by decide +kernel
set_option maxRecDepth 65536 in
theorem w_heap : heapFits about1 = true := by decide +kernel
set_option maxRecDepth 65536 in
theorem w_runnable : about1.curStatus? = some .runnable := by decide +kernel
set_option maxRecDepth 65536 in
theorem w_alone : about1.alone = true := by decide +kernel
set_option maxRecDepth 65536 in
theorem w_named : about1.methodNamed? x = some theMethod := by decide +kernel
set_option maxRecDepth 65536 in
theorem w_hears : about1.hears theMethod below0 = true := by decide +kernel
set_option maxRecDepth 65536 in
theorem w_ripe : about1.ripe theMethod args0 below0 = true := by decide +kernel
theorem w_running : about1.status = .running := rfl
set_option maxRecDepth 65536 in
theorem w_room : about1.hasRoom e0.platform room_1 = true :=
  launch0.hasRoom_least _ room_1 (by decide +kernel) (by decide +kernel) (by decide +kernel) (by decide +kernel) (by decide +kernel) (by decide +kernel)
theorem allAtoms_all (ts : List Jvm.Cond) (a : Array Jvm.Value) (st : Jvm.State) : (allAtoms ts).before a st = ts.all (fun c => c.before a st) := by
  induction ts with
  | nil => rfl
  | cons c t ih =>
    show (Jvm.Cond.and c (allAtoms t)).before a st = _
    rw [Jvm.Cond.before_and, ih, List.all_cons]
def words1 : List Jvm.Cond := Jvm.Cond.code x code maxLocals ret :: tables_1
/-- a 'code' word, met by the world's own term for the bytes: nothing is compared byte by byte -/
theorem code_word {y : MethodName} {bytes : ByteArray} {mx : Nat} {rt : Option FieldType} {a : Array Value} {s : State} {m : MethodId} {meth : Method} {c : Code} (h1 : s.methodNamed? y = some m) (h2 : s.vm.method? m = some meth) (h3 : meth.code = some c) (h4 : c.code = bytes)
    (h5 : (c.maxLocals == mx && c.exceptionTable.isEmpty && decide (c.maxStack ≤ mostOperands) && decide (meth.sig.returnType = rt) && !meth.locks && decide (parseMethodDescriptor y.desc = some meth.sig)) = true) : (Jvm.Cond.code y bytes mx rt).before a s = true := by
  simp only [Bool.and_eq_true, beq_iff_eq, Bool.not_eq_true', decide_eq_true_eq] at h5
  obtain ⟨⟨⟨⟨⟨g1, g2⟩, g3⟩, g4⟩, g5⟩, g6⟩ := h5
  simp [Cond.before, Cond.holds, Cond.value, h1, h2, h3, h4, g1, g2, g3, g4, g5, g6]
def isCode : Jvm.Cond → Bool
  | .code _ _ _ _ => true
  | _ => false
theorem all_split {L : List Jvm.Cond} {P : Jvm.Cond → Bool} (h1 : L.all (fun c => isCode c || P c) = true) (h2 : ∀ c ∈ L.filter isCode, P c = true) : L.all P = true := by
  refine List.all_eq_true.mpr fun c hc => ?_
  have h := List.all_eq_true.mp h1 c hc
  rcases Bool.eq_false_or_eq_true (isCode c) with hi | hi
  · exact h2 c (List.mem_filter.mpr ⟨hc, hi⟩)
  · simpa [hi] using h
set_option maxRecDepth 65536 in
theorem w_c0 : (Jvm.Cond.code x code maxLocals ret).before args0 about1 = true := code_word (m := ⟨1, 5⟩) (meth := k1m5) (c := k1c5) (by decide +kernel) rfl rfl rfl (by decide +kernel)
set_option maxRecDepth 65536 in
theorem w_c1 : (Jvm.Cond.code ({ cls := "com/example/vigilant_ledger/vigilantledger/journal/JournalFormatIsTornHeaderPinLaw", name := "put", desc := "([BIIBIB)V" } : Jvm.MethodName) method_4_code (6 : Nat) (Option.none : Option Jvm.ClassFile.FieldType)).before args0 about1 = true := code_word (m := ⟨1, 3⟩) (meth := k1m3) (c := k1c3) (by decide +kernel) rfl rfl rfl (by decide +kernel)
set_option maxRecDepth 65536 in
theorem w_c2 : (Jvm.Cond.code ({ cls := "com/example/vigilant_ledger/vigilantledger/journal/JournalFormatIsTornHeaderPinLaw", name := "ok", desc := "(IIIIBIB)Z" } : Jvm.MethodName) method_5_code (8 : Nat) (Option.some Jvm.ClassFile.FieldType.boolean)).before args0 about1 = true := code_word (m := ⟨1, 4⟩) (meth := k1m4) (c := k1c4) (by decide +kernel) rfl rfl rfl (by decide +kernel)
set_option maxRecDepth 65536 in
theorem w_c3 : (Jvm.Cond.code ({ cls := "com/example/vigilant_ledger/vigilantledger/journal/JournalFormat", name := "isTornHeader", desc := "([B)Z" } : Jvm.MethodName) prog_19_method_5_code (8 : Nat) (Option.some Jvm.ClassFile.FieldType.boolean)).before args0 about1 = true := code_word (m := ⟨6, 1⟩) (meth := k6m1) (c := k6c1) (by decide +kernel) rfl rfl rfl (by decide +kernel)
set_option maxRecDepth 65536 in
theorem w_c4 : (Jvm.Cond.code ({ cls := "com/example/vigilant_ledger/vigilantledger/journal/JournalFormat", name := "values", desc := "()[Lcom/example/vigilant_ledger/vigilantledger/journal/JournalFormat;" } : Jvm.MethodName) prog_19_method_1_code (0 : Nat) (Option.some (Jvm.ClassFile.FieldType.array (Jvm.ClassFile.FieldType.object "com/example/vigilant_ledger/vigilantledger/journal/JournalFormat")))).before args0 about1 = true := code_word (m := ⟨6, 0⟩) (meth := k6m0) (c := k6c0) (by decide +kernel) rfl rfl rfl (by decide +kernel)
set_option maxRecDepth 65536 in
theorem w_c5 : (Jvm.Cond.code ({ cls := "com/example/vigilant_ledger/vigilantledger/journal/JournalFormatIsTornHeaderPinLaw", name := "at", desc := "(IIBIB)B" } : Jvm.MethodName) method_3_code (5 : Nat) (Option.some Jvm.ClassFile.FieldType.byte)).before args0 about1 = true := code_word (m := ⟨1, 2⟩) (meth := k1m2) (c := k1c2) (by decide +kernel) rfl rfl rfl (by decide +kernel)
set_option maxRecDepth 65536 in
theorem w_c6 : (Jvm.Cond.code ({ cls := "com/example/vigilant_ledger/vigilantledger/journal/JournalFormatIsTornHeaderPinLaw", name := "h", desc := "(II)C" } : Jvm.MethodName) method_2_code (2 : Nat) (Option.some Jvm.ClassFile.FieldType.char)).before args0 about1 = true := code_word (m := ⟨1, 1⟩) (meth := k1m1) (c := k1c1) (by decide +kernel) rfl rfl rfl (by decide +kernel)
set_option maxRecDepth 65536 in
theorem w_c7 : (Jvm.Cond.code ({ cls := "java/lang/String", name := "charAt", desc := "(I)C" } : Jvm.MethodName) jdk_42_method_56_code (2 : Nat) (Option.some Jvm.ClassFile.FieldType.char)).before args0 about1 = true := code_word (m := ⟨10, 1⟩) (meth := k10m1) (c := k10c1) (by decide +kernel) rfl rfl rfl (by decide +kernel)
set_option maxRecDepth 65536 in
theorem w_c8 : (Jvm.Cond.code ({ cls := "java/lang/String", name := "isLatin1", desc := "()Z" } : Jvm.MethodName) jdk_42_method_154_code (1 : Nat) (Option.some Jvm.ClassFile.FieldType.boolean)).before args0 about1 = true := code_word (m := ⟨10, 2⟩) (meth := k10m2) (c := k10c2) (by decide +kernel) rfl rfl rfl (by decide +kernel)
set_option maxRecDepth 65536 in
theorem w_c9 : (Jvm.Cond.code ({ cls := "java/lang/StringLatin1", name := "charAt", desc := "([BI)C" } : Jvm.MethodName) jdk_43_method_2_code (2 : Nat) (Option.some Jvm.ClassFile.FieldType.char)).before args0 about1 = true := code_word (m := ⟨11, 1⟩) (meth := k11m1) (c := k11c1) (by decide +kernel) rfl rfl rfl (by decide +kernel)
set_option maxRecDepth 65536 in
theorem w_c10 : (Jvm.Cond.code ({ cls := "java/lang/String", name := "checkIndex", desc := "(II)V" } : Jvm.MethodName) jdk_42_method_155_code (2 : Nat) (Option.none : Option Jvm.ClassFile.FieldType)).before args0 about1 = true := code_word (m := ⟨10, 3⟩) (meth := k10m3) (c := k10c3) (by decide +kernel) rfl rfl rfl (by decide +kernel)
set_option maxRecDepth 65536 in
theorem w_c11 : (Jvm.Cond.code ({ cls := "jdk/internal/util/Preconditions", name := "checkIndex", desc := "(IILjava/util/function/BiFunction;)I" } : Jvm.MethodName) jdk_41_method_11_code (3 : Nat) (Option.some Jvm.ClassFile.FieldType.int)).before args0 about1 = true := code_word (m := ⟨12, 1⟩) (meth := k12m1) (c := k12c1) (by decide +kernel) rfl rfl rfl (by decide +kernel)
def codes1 : List Jvm.Cond := [Jvm.Cond.code x code maxLocals ret, Jvm.Cond.code ({ cls := "com/example/vigilant_ledger/vigilantledger/journal/JournalFormatIsTornHeaderPinLaw", name := "put", desc := "([BIIBIB)V" } : Jvm.MethodName) method_4_code (6 : Nat) (Option.none : Option Jvm.ClassFile.FieldType), Jvm.Cond.code ({ cls := "com/example/vigilant_ledger/vigilantledger/journal/JournalFormatIsTornHeaderPinLaw", name := "ok", desc := "(IIIIBIB)Z" } : Jvm.MethodName) method_5_code (8 : Nat) (Option.some Jvm.ClassFile.FieldType.boolean), Jvm.Cond.code ({ cls := "com/example/vigilant_ledger/vigilantledger/journal/JournalFormat", name := "isTornHeader", desc := "([B)Z" } : Jvm.MethodName) prog_19_method_5_code (8 : Nat) (Option.some Jvm.ClassFile.FieldType.boolean), Jvm.Cond.code ({ cls := "com/example/vigilant_ledger/vigilantledger/journal/JournalFormat", name := "values", desc := "()[Lcom/example/vigilant_ledger/vigilantledger/journal/JournalFormat;" } : Jvm.MethodName) prog_19_method_1_code (0 : Nat) (Option.some (Jvm.ClassFile.FieldType.array (Jvm.ClassFile.FieldType.object "com/example/vigilant_ledger/vigilantledger/journal/JournalFormat"))), Jvm.Cond.code ({ cls := "com/example/vigilant_ledger/vigilantledger/journal/JournalFormatIsTornHeaderPinLaw", name := "at", desc := "(IIBIB)B" } : Jvm.MethodName) method_3_code (5 : Nat) (Option.some Jvm.ClassFile.FieldType.byte), Jvm.Cond.code ({ cls := "com/example/vigilant_ledger/vigilantledger/journal/JournalFormatIsTornHeaderPinLaw", name := "h", desc := "(II)C" } : Jvm.MethodName) method_2_code (2 : Nat) (Option.some Jvm.ClassFile.FieldType.char), Jvm.Cond.code ({ cls := "java/lang/String", name := "charAt", desc := "(I)C" } : Jvm.MethodName) jdk_42_method_56_code (2 : Nat) (Option.some Jvm.ClassFile.FieldType.char), Jvm.Cond.code ({ cls := "java/lang/String", name := "isLatin1", desc := "()Z" } : Jvm.MethodName) jdk_42_method_154_code (1 : Nat) (Option.some Jvm.ClassFile.FieldType.boolean), Jvm.Cond.code ({ cls := "java/lang/StringLatin1", name := "charAt", desc := "([BI)C" } : Jvm.MethodName) jdk_43_method_2_code (2 : Nat) (Option.some Jvm.ClassFile.FieldType.char), Jvm.Cond.code ({ cls := "java/lang/String", name := "checkIndex", desc := "(II)V" } : Jvm.MethodName) jdk_42_method_155_code (2 : Nat) (Option.none : Option Jvm.ClassFile.FieldType), Jvm.Cond.code ({ cls := "jdk/internal/util/Preconditions", name := "checkIndex", desc := "(IILjava/util/function/BiFunction;)I" } : Jvm.MethodName) jdk_41_method_11_code (3 : Nat) (Option.some Jvm.ClassFile.FieldType.int)]
set_option maxRecDepth 65536 in
theorem codes_eq : words1.filter isCode = codes1 := rfl
theorem w_codes : ∀ c ∈ words1.filter isCode, c.before args0 about1 = true := by
  rw [codes_eq]
  intro c hc
  simp only [codes1, List.mem_cons, List.not_mem_nil, or_false] at hc
  rcases hc with rfl | rfl | rfl | rfl | rfl | rfl | rfl | rfl | rfl | rfl | rfl | rfl
  · exact w_c0
  · exact w_c1
  · exact w_c2
  · exact w_c3
  · exact w_c4
  · exact w_c5
  · exact w_c6
  · exact w_c7
  · exact w_c8
  · exact w_c9
  · exact w_c10
  · exact w_c11
set_option maxRecDepth 65536 in
theorem w_t1 : (words1.take 24).all (fun c => isCode c || c.before args0 about1) = true := by decide +kernel
set_option maxRecDepth 65536 in
theorem w_t2 : ((words1.drop 24).take 24).all (fun c => isCode c || c.before args0 about1) = true := by decide +kernel
set_option maxRecDepth 65536 in
theorem w_t3 : ((words1.drop 24).drop 24).all (fun c => isCode c || c.before args0 about1) = true := by decide +kernel
theorem w_tables : (allAtoms (Jvm.Cond.code x code maxLocals ret :: tables_1)).before args0 about1 = true := by
  rw [allAtoms_all]
  show words1.all (fun c => c.before args0 about1) = true
  refine all_split ?_ w_codes
  rw [← List.take_append_drop 24 words1, List.all_append, w_t1, ← List.take_append_drop 24 (words1.drop 24), List.all_append, w_t2, w_t3]
  rfl
set_option maxRecDepth 65536 in
theorem w_rest : rest_1_c.before args0 about1 = true := by decide +kernel
set_option maxRecDepth 65536 in
theorem w_case : (Jvm.Cond.and given_1 narrow_1).before args0 about1 = true := by decide +kernel
set_option maxRecDepth 65536 in
theorem w_consts : constsHeld consts_1 about1 := Jvm.Lit.constsHeldB_iff.mp (by decide +kernel)
theorem w_applies : (headSpec (Jvm.Cond.code x code maxLocals ret :: tables_1) room_1).applies x e0.platform about1 = true :=
  (Spec.applies_iff w_frames).mpr ⟨w_running, w_runnable, w_alone, w_named, w_hears, w_ripe, w_room, w_tables⟩
theorem atStart : AtStart classFile x code maxLocals ret World_1 tables_1 room_1 Calls_1 rest_1 Pre_1 launch0 p0 e0 about1 theMethod args0 below0 :=
  ⟨lists_1, trivial, launch0.admits_env _ _ _, launch0.least_env, fairChoices_fair.cas, fairChoices_fair.clock, w_frames, w_args, w_heap, w_applies, ⟨w_consts, trivial⟩, w_rest, w_case⟩
end start1
theorem witness_1 : WitnessClaimed_1 := ⟨start1.p0, start1.e0, start1.about1, start1.theMethod, start1.args0, start1.below0, start1.atStart⟩
end Jvm.Pilot.@@N@@
