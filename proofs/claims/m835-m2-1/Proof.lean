import JvmDerived
import JvmDerived.Pilot.@@N@@Statement
import JvmDerived.Pilot.@@N@@Code
set_option linter.unusedVariables false
set_option linter.unusedSimpArgs false
@@BLOCK:LamKit.lean.txt@@
namespace Jvm.Own
open Sem ClassFile Op Lib Bundle Jvm.Stand Jvm.Free Jvm.LawKit Jvm.RoadKit
/-- the run from V comes to an end of which Φ holds -/
def Go (p : Program) (e : Env) (below : List Frame) (Φ : Outcome → State → Prop) (V : State) : Prop :=
  ∃ s₂ o, Steps p.tables e below V s₂ ∧ s₂.status = .running ∧ Ended s₂ below o ∧ Φ o s₂
/-- the end of a walk that interns nothing -/
def EndP (s : State) (Q : Option Value → Heap → List Loc → Prop) (C S : Nat) (o : Outcome) (U : State) : Prop :=
  ∃ v L, o = .returned v ∧ Q v U.heap L ∧ FrameEnd s o U L C S
/-- the end of a walk that may intern constants of EL -/
def EndH (Z : State) (EL : List (String × Nat)) (s : State) (Q : Option Value → Heap → List Loc → Prop) (C S : Nat) (o : Outcome) (U : State) : Prop :=
  ∃ v L, o = .returned v ∧ Q v U.heap L ∧ CHr Z EL s.vm s.heap U.vm U.heap ∧ ReturnedEndW s o U L C S
/-- what such a walk bears along -/
def HW (Z : State) (EL : List (String × Nat)) (s : State) (vm : Vm) (h : Heap) : Prop :=
  (∃ k0, s.Since vm k0 ∧ k0 ≤ h.size) ∧ CHr Z EL s.vm s.heap vm h
section G
variable {p : Program} {l : Launch} {e : Env} {R : Room} {s : State} {m : MethodId} {args : Array Value} {below : List Frame} {meth : Method} {c : Code} {T : State} {locs : List Loc} {cells slots : Nat}
  {Φ : Outcome → State → Prop} {V V' : State} {Z : State} {a0 : Array Value} {h h' : Heap} {EL : List (String × Nat)} {vm : Vm} {Q : Option Value → Heap → List Loc → Prop} {C S : Nat}
theorem Go.st (k : ∀ target, Steps p.tables e below V' target → Steps p.tables e below V target) (g : Go p e below Φ V') : Go p e below Φ V := by
  obtain ⟨s₂, o, h1, h2⟩ := g
  exact ⟨s₂, o, k _ h1, h2⟩
theorem Go.tr (k : Steps p.tables e below V V') (g : Go p e below Φ V') : Go p e below Φ V := by
  obtain ⟨s₂, o, h1, h2⟩ := g
  exact ⟨s₂, o, k.trans h1, h2⟩
theorem HW.ext (H : HW Z EL s vm h) (E : Ext h h') : HW Z EL s vm h' := by
  obtain ⟨⟨k0, h1, h2⟩, h3⟩ := H
  exact ⟨⟨k0, h1, Nat.le_trans h2 E.1⟩, h3.trans (CHr.ext E h3.1)⟩
theorem HW.wr (H : HW Z EL s vm h) {a : Addr} {sl : Nat} {v : Value} (W : Wr h h' a sl v) (S : Safe Z EL vm h a) : HW Z EL s vm h' := by
  obtain ⟨⟨k0, h1, h2⟩, h3⟩ := H
  exact ⟨⟨k0, h1, by rw [W.size]; exact h2⟩, h3.trans (CHr.wr W S h3.1)⟩
theorem HW.keep (H : HW Z EL s vm h) {ws : List Addr} (K : Keep h h' ws) (S : ∀ x ∈ ws, Safe Z EL vm h x) : HW Z EL s vm h' := by
  obtain ⟨⟨k0, h1, h2⟩, h3⟩ := H
  exact ⟨⟨k0, h1, Nat.le_trans h2 K.1⟩, h3.trans (CHr.keep K S h3.1)⟩
theorem keepE (K : Keep h h' []) : Ext h h' := ⟨K.1, fun a c q => K.2.1 a c q (fun z => nomatch z)⟩
theorem extK (E : Ext h h') : Keep h h' [] := (Keep.refl h []).ext E
/-- a String under construction, its value still null, is no booked one -/
theorem Safe.blank {x : Addr} (hal : Z.vm.Alike vm) (E : Exa Z h x "java/lang/String") (F : Fld Z h x "java/lang/String" "value" "[B" .null) : Safe Z EL vm h x := by
  rintro ⟨p, hp, u, a, hb, q, hq, F0, hy⟩
  obtain ⟨cS, ⟨⟨s1, s2, s3, ⟨cv, kv, iv, s4, s4'⟩, ⟨cc, kc, ic, s5, s5'⟩, s6, s7, s8, s9, s10, s11, s12, s13, s14, s15, s16⟩, hfS, hcS⟩, ⟨kS, k1, k2, k3⟩, hB, hbyt⟩ := F0
  rcases hy with rfl | rfl
  · obtain ⟨kv', z4⟩ := ff_back (U := Wst Z vm h) hal s4
    obtain ⟨cell, cf, k, i, f, f1, f2, f3, f4, f5, f6, f7⟩ := F
    cases f2.symm.trans z4
    have s1 : h[q.sa]? = some q.sC := s1
    cases f1.symm.trans s1
    have := f7.symm.trans s8
    simp at this
  · obtain ⟨cell, k, e1, e2, e3, e4, e5⟩ := E
    have s10 : h[q.sd]? = some q.SA := s10
    cases e1.symm.trans s10
    have hB : vm.findClass "[B" = some q.SA.cls := hB
    have hBZ : Z.vm.findClass "[B" = some q.SA.cls := by rw [← hal.findClass]; exact hB
    exact absurd (ids_ne e2 hBZ (by decide) rfl) (fun z => z)
/-- the contract of a body that interns nothing, from its walk -/
theorem openP {y : MethodName} {bytes : ByteArray} {maxL : Nat} {ret : Option FieldType} {ws : List Cond} {rm : Room} {as' : Array Value} (hp : plainFor y = true)
    (body : ∀ (p : Program) (e : Env) (s : State) (m : MethodId) (below : List Frame) (meth : Method) (c : Code) (T : State), p.tables.exec = Jvm.exec → c.code = bytes → c.maxLocals = maxL → meth.sig.returnType = ret → meth.locks = false → meth.name = y.name →
      Z.Warmed39 s.vm → s.vm.findClass y.cls = some m.cls → Stand p l e rm s m as' below meth c T [] 0 0 → T.heap = h → Go p e below (EndP s Q rm.cells rm.slots) (T.setTop (entryFrame m as' maxL))) :
    MetFree l y (head1 (Cond.code y bytes maxL ret :: ws) rm) (fun a U => a = as' ∧ Z.Warmed39 U.vm ∧ U.heap = h) (fun _ _ _ _ _ => True) (fun _ U o U' => ∃ v L, o = .returned v ∧ Q v U'.heap L ∧ FrameEnd U o U' L rm.cells rm.slots) := by
  refine MetFree.of_bodySF hp hisR ?_
  intro p e s m args below meth c s₁ Bd hml0 hP hK
  obtain ⟨rfl, hZ, hh⟩ := hP
  exact body p e s m below meth c s₁ Bd.exec Bd.bytes hml0 Bd.returns (BodyLoose.notSynchronized Bd) (name_of_methodNamed Bd.named Bd.method).1 hZ (findClass_of_methodNamed Bd.named) (Stand.of_body Bd) (by rw [← hh, Bd.state]; rfl)
/-- the contract of a body that may intern -/
theorem openH {y : MethodName} {bytes : ByteArray} {maxL : Nat} {ret : Option FieldType} {ws : List Cond} {rm : Room} {as' : Array Value} (hp : plainFor y = true)
    (body : ∀ (p : Program) (e : Env) (s : State) (m : MethodId) (below : List Frame) (meth : Method) (c : Code) (T : State) (vm : Vm), p.tables.exec = Jvm.exec → c.code = bytes → c.maxLocals = maxL → meth.sig.returnType = ret → meth.locks = false → meth.name = y.name →
      Z.Warmed39 vm → vm.findClass y.cls = some m.cls → Stand p l e rm (s.setVm vm) m as' below meth c T [] 0 0 → T.heap = h → HW Z EL s vm h → Go p e below (EndH Z EL s Q rm.cells rm.slots) (T.setTop (entryFrame m as' maxL))) :
    MetFree l y (head1 (Cond.code y bytes maxL ret :: ws) rm) (fun a U => a = as' ∧ Z.Warmed39 U.vm ∧ U.heap = h ∧ CHv Z EL U.vm h) (fun _ _ _ _ _ => True)
      (fun _ U o U' => ∃ v L, o = .returned v ∧ Q v U'.heap L ∧ CHr Z EL U.vm U.heap U'.vm U'.heap ∧ ReturnedEndW U o U' L rm.cells rm.slots) := by
  refine MetFree.of_bodySF hp hisR ?_
  intro p e s m args below meth c s₁ Bd hml0 hP hK
  obtain ⟨rfl, hZ, hh, hC⟩ := hP
  have hH : HW Z EL s s.vm h := ⟨⟨0, (State.WarmedH.refl s).since 0, Nat.zero_le _⟩, by rw [hh]; exact CHr.refl hC⟩
  exact body p e s m below meth c s₁ s.vm Bd.exec Bd.bytes hml0 Bd.returns (BodyLoose.notSynchronized Bd) (name_of_methodNamed Bd.named Bd.method).1 hZ (findClass_of_methodNamed Bd.named) (Stand.of_body Bd) (by rw [← hh, Bd.state]; rfl) hH
/-- a value is returned -/
theorem Go.ret (X : Stand p l e R s m args below meth c T locs cells slots) (hx : p.tables.exec = Jvm.exec) (hlk : meth.locks = false) (hT : T.heap = h) {pc : Nat} {Ls : Array Slot} {w : Value} {t : FieldType} {i : Instr} {rest : List Value} (hret : meth.sig.returnType = some t) (hn : narrow t w = w)
    (hi : (i = .ireturn ∧ (t = .int ∨ t = .boolean ∨ t = .byte ∨ t = .char ∨ t = .short) ∧ ∃ z, w = .int z) ∨ (i = .lreturn ∧ t = .long ∧ ∃ z, w = .long z) ∨ (i = .dreturn ∧ t = .double ∧ ∃ z, w = .double z) ∨ (i = .freturn ∧ t = .float ∧ ∃ z, w = .float z) ∨ (i = .areturn ∧ t.isReference = true ∧ w.isRef = true))
    (hd : decode c.code pc = .ok (i, 1)) (hc : cells ≤ C) (hs : slots ≤ S) (hQ : Q (some w) h locs) : Go p e below (EndP s Q C S) (T.setTop (mkF m pc Ls (w :: rest))) := by
  obtain ⟨fs, hr, hrun, hended, hW, hsame⟩ := X.leave (v := some w) (fun h => by rw [hret] at h; cases h) hlk
  refine ⟨_, _, retOut X hx hret hn hi hd hr, hrun, hended, _, _, rfl, ?_, ⟨_, rfl⟩, hW, hsame.mono hc hs⟩
  show Q (some w) T.heap locs
  rw [hT]; exact hQ
theorem Go.retV (X : Stand p l e R s m args below meth c T locs cells slots) (hx : p.tables.exec = Jvm.exec) (hlk : meth.locks = false) (hT : T.heap = h) {pc : Nat} {Ls : Array Slot} (hret : meth.sig.returnType = none)
    (hd : decode c.code pc = .ok (.return_, 1)) (hc : cells ≤ C) (hs : slots ≤ S) (hQ : Q none h locs) : Go p e below (EndP s Q C S) (T.setTop (mkF m pc Ls [])) := by
  obtain ⟨fs, hr, hrun, hended, hW, hsame⟩ := X.leave (v := none) (fun _ => rfl) hlk
  refine ⟨_, _, X.returnOut hx hret hd hr, hrun, hended, _, _, rfl, ?_, ⟨_, rfl⟩, hW, hsame.mono hc hs⟩
  show Q none T.heap locs
  rw [hT]; exact hQ
theorem endW_mono {o : Outcome} {U : State} {L : List Loc} {k n : Nat} (q : ReturnedEndW s o U L k n) (hc : k ≤ C) (hs : n ≤ S) : ReturnedEndW s o U L C S := ⟨q.1, q.2.1, q.2.2.1, q.2.2.2.mono hc hs⟩
theorem Go.retH (hEL : EW Z a0 EL) (H : HW Z EL s vm h) (hZ : Z.Warmed39 vm) (X : Stand p l e R (s.setVm vm) m args below meth c T locs cells slots) (hx : p.tables.exec = Jvm.exec) (hlk : meth.locks = false) (hT : T.heap = h) {pc : Nat} {Ls : Array Slot} {w : Value} {t : FieldType} {i : Instr} {rest : List Value} (hret : meth.sig.returnType = some t) (hn : narrow t w = w)
    (hi : (i = .ireturn ∧ (t = .int ∨ t = .boolean ∨ t = .byte ∨ t = .char ∨ t = .short) ∧ ∃ z, w = .int z) ∨ (i = .lreturn ∧ t = .long ∧ ∃ z, w = .long z) ∨ (i = .dreturn ∧ t = .double ∧ ∃ z, w = .double z) ∨ (i = .freturn ∧ t = .float ∧ ∃ z, w = .float z) ∨ (i = .areturn ∧ t.isReference = true ∧ w.isRef = true))
    (hd : decode c.code pc = .ok (i, 1)) (hc : cells ≤ C) (hs : slots ≤ S) (hQ : Q (some w) h locs) : Go p e below (EndH Z EL s Q C S) (T.setTop (mkF m pc Ls (w :: rest))) := by
  obtain ⟨⟨k0, h1, h2⟩, h3⟩ := H
  obtain ⟨fs, hr, hrun, hended, hE⟩ := X.leaveW h1 (by rw [hT]; exact h2) (v := some w) (fun h => by rw [hret] at h; cases h) hlk
  refine ⟨_, _, retOut X hx hret hn hi hd hr, hrun, hended, _, _, rfl, ?_, ?_, endW_mono hE hc hs⟩
  · show Q (some w) T.heap locs
    rw [hT]; exact hQ
  · show CHr Z EL s.vm s.heap T.vm T.heap
    rw [hT]; exact h3.trans (CHv.at X hZ hEL h3.1)
theorem Go.retVH (hEL : EW Z a0 EL) (H : HW Z EL s vm h) (hZ : Z.Warmed39 vm) (X : Stand p l e R (s.setVm vm) m args below meth c T locs cells slots) (hx : p.tables.exec = Jvm.exec) (hlk : meth.locks = false) (hT : T.heap = h) {pc : Nat} {Ls : Array Slot} (hret : meth.sig.returnType = none)
    (hd : decode c.code pc = .ok (.return_, 1)) (hc : cells ≤ C) (hs : slots ≤ S) (hQ : Q none h locs) : Go p e below (EndH Z EL s Q C S) (T.setTop (mkF m pc Ls [])) := by
  obtain ⟨⟨k0, h1, h2⟩, h3⟩ := H
  obtain ⟨fs, hr, hrun, hended, hE⟩ := X.leaveW h1 (by rw [hT]; exact h2) (v := none) (fun _ => rfl) hlk
  refine ⟨_, _, X.returnOut hx hret hd hr, hrun, hended, _, _, rfl, ?_, ?_, endW_mono hE hc hs⟩
  · show Q none T.heap locs
    rw [hT]; exact hQ
  · show CHr Z EL s.vm s.heap T.vm T.heap
    rw [hT]; exact h3.trans (CHv.at X hZ hEL h3.1)
theorem riI {z : Int32} {t : FieldType} (ht : t = .int ∨ t = .boolean ∨ t = .byte ∨ t = .char ∨ t = .short) : ((Instr.ireturn = .ireturn ∧ (t = .int ∨ t = .boolean ∨ t = .byte ∨ t = .char ∨ t = .short) ∧ ∃ z', Value.int z = .int z') ∨ (Instr.ireturn = .lreturn ∧ t = .long ∧ ∃ z', Value.int z = .long z') ∨ (Instr.ireturn = .dreturn ∧ t = .double ∧ ∃ z', Value.int z = .double z') ∨ (Instr.ireturn = .freturn ∧ t = .float ∧ ∃ z', Value.int z = .float z') ∨ (Instr.ireturn = .areturn ∧ t.isReference = true ∧ (Value.int z).isRef = true)) := Or.inl ⟨rfl, ht, z, rfl⟩
theorem riA {w : Value} {t : FieldType} (ht : t.isReference = true) (hw : w.isRef = true) : ((Instr.areturn = .ireturn ∧ (t = .int ∨ t = .boolean ∨ t = .byte ∨ t = .char ∨ t = .short) ∧ ∃ z', w = .int z') ∨ (Instr.areturn = .lreturn ∧ t = .long ∧ ∃ z', w = .long z') ∨ (Instr.areturn = .dreturn ∧ t = .double ∧ ∃ z', w = .double z') ∨ (Instr.areturn = .freturn ∧ t = .float ∧ ∃ z', w = .float z') ∨ (Instr.areturn = .areturn ∧ t.isReference = true ∧ w.isRef = true)) := Or.inr (Or.inr (Or.inr (Or.inr ⟨rfl, ht, hw⟩)))
/-- the shape that every payer here has -/
abbrev PB (l : Launch) (R : Room) (p : Program) (e : Env) (below : List Frame) (s : State) (args : Array Value) (y : MethodName) (W : Nat) (as' : Array Value) (h : Heap) (ck sk : Nat) (Q : Option Value → Heap → List Loc → Prop) : Prop :=
  Back l R p e below s args y 3 W (fun A a => a = as' ∧ A.U.heap = h ∧ A.cells + ck ≤ R.cells ∧ A.slots + sk ≤ R.slots) (fun A _ v B => ∃ L, Q v B.U.heap L ∧ B.locs = A.locs ++ L ∧ B.cells = A.cells + ck ∧ B.slots = A.slots + sk)
variable {own : String} {index W ck sk pc : Nat} {y : MethodName} {bytes : ByteArray} {maxL : Nat} {ret : Option FieldType} {Ls : Array Slot} {argsL rest st : List Value} {ps : List FieldType} {rr : Option FieldType} {a : Addr}
/-- invokestatic of a callee that interns nothing -/
theorem Go.callP (X : Stand p l e R s m args below meth c T locs cells slots) (hx : p.tables.exec = Jvm.exec) (hZ : Z.Warmed39 s.vm) (hown : s.vm.findClass own = some m.cls) (hml : c.maxLocals = Ls.size) (hT : T.heap = h)
    (w1 : (Cond.methodLink own index y).before a0 Z = true) (w2 : (Cond.static y).before a0 Z = true) (w3 : (Cond.initialized y.cls).before a0 Z = true) (w4 : (Cond.code y bytes maxL ret).before a0 Z = true) (hy : y.cls ≠ "java/lang/invoke/MethodHandle" ∧ y.cls ≠ "java/lang/invoke/VarHandle")
    (hpd : parseMethodDescriptor y.desc = some ⟨ps, rr⟩) (hlen : argsL.length = ps.length) (hst : st = argsL.reverse ++ rest) (hW : (rest.map fun v => v.category).sum ≤ W) (hd : decode c.code pc = .ok (.invokestatic index, 3))
    (hB : PB l R p e below s args y W argsL.toArray h ck sk Q) (hc : cells + ck ≤ R.cells) (hs : slots + sk ≤ R.slots)
    (k : ∀ (v : Option Value) (T' : State) (h' : Heap) (L : List Loc), T'.heap = h' → Q v h' L → Stand p l e R s m args below meth c T' (locs ++ L) (cells + ck) (slots + sk) → Go p e below Φ (T'.setTop (mkF m (pc + 3) Ls (v.toList ++ rest)))) :
    Go p e below Φ (T.setTop (mkF m pc Ls st)) := by
  subst hst
  obtain ⟨v, vm₁, ⟨T', L', k', n'⟩, -, X', ⟨L, hQ, l', y', z'⟩, st⟩ := Jvm.LawKit.callS X hx (y := y) hown (mvT hZ w1) (mvT hZ w2) (mvT hZ w3) (mvT hZ w4) hy hB (g := mkF m pc Ls (argsL.reverse ++ rest)) rfl hml.symm (argsL := argsL) (rest := rest) (lenOf hpd hlen) rfl (by show 2 * 0 + _ ≤ _; omega) hd (fun _ _ => ⟨rfl, hT, hc, hs⟩)
  dsimp only [Pt.U, Pt.locs, Pt.cells, Pt.slots] at X' l' y' z' st hQ
  subst l' y' z'
  exact Go.st st (k v T' _ L rfl hQ X')
/-- invokespecial of a constructor that interns nothing -/
theorem Go.specP (X : Stand p l e R s m args below meth c T locs cells slots) (hx : p.tables.exec = Jvm.exec) (hZ : Z.Warmed39 s.vm) (hown : s.vm.findClass own = some m.cls) (hml : c.maxLocals = Ls.size) (hT : T.heap = h) (hy1 : y.name = "<init>")
    (w1 : (Cond.methodLink own index y).before a0 Z = true) (w2 : (Cond.instanceMethod y).before a0 Z = true) (w4 : (Cond.code y bytes maxL none).before a0 Z = true) (hy : y.cls ≠ "java/lang/invoke/MethodHandle" ∧ y.cls ≠ "java/lang/invoke/VarHandle")
    (hpd : parseMethodDescriptor y.desc = some ⟨ps, rr⟩) (hlen : argsL.length = ps.length) (hst : st = argsL.reverse ++ .ref a :: rest) (hW : (rest.map fun v => v.category).sum ≤ W) (hd : decode c.code pc = .ok (.invokespecial index, 3))
    (hB : PB l R p e below s args y W (.ref a :: argsL).toArray h ck sk Q) (hc : cells + ck ≤ R.cells) (hs : slots + sk ≤ R.slots)
    (k : ∀ (v : Option Value) (T' : State) (h' : Heap) (L : List Loc), T'.heap = h' → Q v h' L → Stand p l e R s m args below meth c T' (locs ++ L) (cells + ck) (slots + sk) → Go p e below Φ (T'.setTop (mkF m (pc + 3) Ls (v.toList ++ rest)))) :
    Go p e below Φ (T.setTop (mkF m pc Ls st)) := by
  subst hst
  obtain ⟨v, vm₁, ⟨T', L', k', n'⟩, -, X', ⟨L, hQ, l', y', z'⟩, st⟩ := X.specialBack hx (y := y) hy1 hown (mvT hZ w1) (mvT hZ w2) (mvT hZ w4) hy hB (g := mkF m pc Ls (argsL.reverse ++ .ref a :: rest)) rfl hml.symm (Steps.refl _) (a := a) (argsL := argsL) (rest := rest) (lenOf hpd hlen) rfl (by show 2 * 0 + _ ≤ _; omega) hd (fun _ _ => ⟨rfl, hT, hc, hs⟩)
  dsimp only [Pt.U, Pt.locs, Pt.cells, Pt.slots] at X' l' y' z' st hQ
  subst l' y' z'
  exact Go.tr st (k v T' _ L rfl hQ X')
/-- invokevirtual of a callee that interns nothing, on an object exactly of class K -/
theorem Go.virtP {K : String} {z : MethodName} (X : Stand p l e R s m args below meth c T locs cells slots) (hx : p.tables.exec = Jvm.exec) (hZ : Z.Warmed39 s.vm) (hown : s.vm.findClass own = some m.cls) (hml : c.maxLocals = Ls.size) (hT : T.heap = h) (E : Exa Z h a K)
    (w1 : (Cond.methodLink own index y).before a0 Z = true) (w2 : (Cond.declares y).before a0 Z = true) (w3 : (Cond.selects K y z).before a0 Z = true) (w4 : (Cond.instanceMethod z).before a0 Z = true) (hy : y.cls ≠ "java/lang/invoke/MethodHandle" ∧ y.cls ≠ "java/lang/invoke/VarHandle")
    (hpd : parseMethodDescriptor y.desc = some ⟨ps, rr⟩) (hlen : argsL.length = ps.length) (hst : st = argsL.reverse ++ .ref a :: rest) (hW : (rest.map fun v => v.category).sum ≤ W) (hd : decode c.code pc = .ok (.invokevirtual index, 3))
    (hnf : NotFace s y)
    (hB : PB l R p e below s args z W (.ref a :: argsL).toArray h ck sk Q) (hc : cells + ck ≤ R.cells) (hs : slots + sk ≤ R.slots)
    (k : ∀ (v : Option Value) (T' : State) (h' : Heap) (L : List Loc), T'.heap = h' → Q v h' L → Stand p l e R s m args below meth c T' (locs ++ L) (cells + ck) (slots + sk) → Go p e below Φ (T'.setTop (mkF m (pc + 3) Ls (v.toList ++ rest)))) :
    Go p e below Φ (T.setTop (mkF m pc Ls st)) := by
  subst hst
  obtain ⟨cq, kq, qa, qb, qc⟩ := isOf (s := s) (T := T) hZ hT E
  obtain ⟨v, vm₁, ⟨T', L', k', n'⟩, -, X', ⟨L, hQ, l', y', z'⟩, st⟩ := X.virtualBack hx (y := y) (z := z) hown (mvT hZ w1) (mvT hZ w2) hnf (mvT hZ w3) (mvT hZ w4) hy hB qa qc (g := mkF m pc Ls (argsL.reverse ++ .ref a :: rest)) rfl hml.symm (Steps.refl _) (argsL := argsL) (rest := rest) (lenOf hpd hlen) rfl (by show 2 * 0 + _ ≤ _; omega) hd (fun _ _ => ⟨rfl, hT, hc, hs⟩)
  dsimp only [Pt.U, Pt.locs, Pt.cells, Pt.slots] at X' l' y' z' st hQ
  subst l' y' z'
  exact Go.tr st (k v T' _ L rfl hQ X')
/-- the shape of a payer that may intern -/
abbrev PBH (Z : State) (EL : List (String × Nat)) (l : Launch) (R : Room) (p : Program) (e : Env) (below : List Frame) (s : State) (vm : Vm) (args : Array Value) (y : MethodName) (W : Nat) (as' : Array Value) (h : Heap) (ck sk : Nat) (Q : Option Value → Heap → List Loc → Prop) : Prop :=
  BackS l R p e below (s.setVm vm) args y 3 W (fun A a => a = as' ∧ A.U.heap = h ∧ A.cells + ck ≤ R.cells ∧ A.slots + sk ≤ R.slots) (fun A _ v B => ∃ L, Q v B.U.heap L ∧ B.locs = A.locs ++ L ∧ B.cells = A.cells + ck ∧ B.slots = A.slots + sk ∧ CHr Z EL vm h B.U.vm B.U.heap)
theorem HW.call (H : HW Z EL s vm h) (hT : T.heap = h) {U : State} (h1 : (s.setVm vm).Since U.vm U.heap.size) (h2 : T.heap.size ≤ U.heap.size) (h3 : CHr Z EL vm h U.vm U.heap) : HW Z EL s U.vm U.heap := by
  obtain ⟨⟨k0, g1, g2⟩, g3⟩ := H
  exact ⟨⟨_, g1.trans h1 (Nat.le_trans g2 (by rw [← hT]; exact h2)), Nat.le_refl _⟩, g3.trans h3⟩
/-- invokestatic of a callee that may intern -/
theorem Go.callH (H : HW Z EL s vm h) (X : Stand p l e R (s.setVm vm) m args below meth c T locs cells slots) (hx : p.tables.exec = Jvm.exec) (hZ : Z.Warmed39 vm) (hown : vm.findClass own = some m.cls) (hml : c.maxLocals = Ls.size) (hT : T.heap = h)
    (w1 : (Cond.methodLink own index y).before a0 Z = true) (w2 : (Cond.static y).before a0 Z = true) (w3 : (Cond.initialized y.cls).before a0 Z = true) (w4 : (Cond.code y bytes maxL ret).before a0 Z = true) (hy : y.cls ≠ "java/lang/invoke/MethodHandle" ∧ y.cls ≠ "java/lang/invoke/VarHandle")
    (hpd : parseMethodDescriptor y.desc = some ⟨ps, rr⟩) (hlen : argsL.length = ps.length) (hst : st = argsL.reverse ++ rest) (hW : (rest.map fun v => v.category).sum ≤ W) (hd : decode c.code pc = .ok (.invokestatic index, 3))
    (hB : PBH Z EL l R p e below s vm args y W argsL.toArray h ck sk Q) (hc : cells + ck ≤ R.cells) (hs : slots + sk ≤ R.slots)
    (k : ∀ (v : Option Value) (T' : State) (h' : Heap) (L : List Loc) (vm' : Vm), T'.heap = h' → Q v h' L → Z.Warmed39 vm' → vm'.findClass own = some m.cls → HW Z EL s vm' h' → CHr Z EL vm h vm' h' → Stand p l e R (s.setVm vm') m args below meth c T' (locs ++ L) (cells + ck) (slots + sk) → Go p e below Φ (T'.setTop (mkF m (pc + 3) Ls (v.toList ++ rest)))) :
    Go p e below Φ (T.setTop (mkF m pc Ls st)) := by
  subst hst
  obtain ⟨v, vm₁, ⟨T', L', k', n'⟩, -, X', hS', hG', ⟨L, hQ, l', y', z', hR⟩, st⟩ := callSS X hx (y := y) hown (mvT (s := s.setVm vm) hZ w1) (mvT (s := s.setVm vm) hZ w2) (mvT (s := s.setVm vm) hZ w3) (mvT (s := s.setVm vm) hZ w4) hy hB (g := mkF m pc Ls (argsL.reverse ++ rest)) rfl hml.symm (argsL := argsL) (rest := rest) (lenOf hpd hlen) rfl (by show 2 * 0 + _ ≤ _; omega) hd (fun _ _ => ⟨rfl, hT, hc, hs⟩)
  dsimp only [Pt.U, Pt.locs, Pt.cells, Pt.slots] at X' l' y' z' st hQ hS' hG' hR
  subst l' y' z'
  have hW' : Z.Warmed39 T'.vm := State.Warmed39.trans (t := s.setVm vm) hZ hS'.1
  exact Go.tr st (k v T' _ L T'.vm rfl hQ hW' ((hS'.1.alike.findClass _ _).trans hown) (H.call hT hS' hG' hR) hR X')
/-- invokespecial of a constructor that may intern -/
theorem Go.specH (H : HW Z EL s vm h) (X : Stand p l e R (s.setVm vm) m args below meth c T locs cells slots) (hx : p.tables.exec = Jvm.exec) (hZ : Z.Warmed39 vm) (hown : vm.findClass own = some m.cls) (hml : c.maxLocals = Ls.size) (hT : T.heap = h) (hy1 : y.name = "<init>")
    (w1 : (Cond.methodLink own index y).before a0 Z = true) (w2 : (Cond.instanceMethod y).before a0 Z = true) (w4 : (Cond.code y bytes maxL none).before a0 Z = true) (hy : y.cls ≠ "java/lang/invoke/MethodHandle" ∧ y.cls ≠ "java/lang/invoke/VarHandle")
    (hpd : parseMethodDescriptor y.desc = some ⟨ps, rr⟩) (hlen : argsL.length = ps.length) (hst : st = argsL.reverse ++ .ref a :: rest) (hW : (rest.map fun v => v.category).sum ≤ W) (hd : decode c.code pc = .ok (.invokespecial index, 3))
    (hB : PBH Z EL l R p e below s vm args y W (.ref a :: argsL).toArray h ck sk Q) (hc : cells + ck ≤ R.cells) (hs : slots + sk ≤ R.slots)
    (k : ∀ (v : Option Value) (T' : State) (h' : Heap) (L : List Loc) (vm' : Vm), T'.heap = h' → Q v h' L → Z.Warmed39 vm' → vm'.findClass own = some m.cls → HW Z EL s vm' h' → CHr Z EL vm h vm' h' → Stand p l e R (s.setVm vm') m args below meth c T' (locs ++ L) (cells + ck) (slots + sk) → Go p e below Φ (T'.setTop (mkF m (pc + 3) Ls (v.toList ++ rest)))) :
    Go p e below Φ (T.setTop (mkF m pc Ls st)) := by
  subst hst
  obtain ⟨v, vm₁, ⟨T', L', k', n'⟩, -, X', hS', hG', ⟨L, hQ, l', y', z', hR⟩, st⟩ := X.specialBackS hx (y := y) hy1 hown (mvT (s := s.setVm vm) hZ w1) (mvT (s := s.setVm vm) hZ w2) (mvT (s := s.setVm vm) hZ w4) hy hB (g := mkF m pc Ls (argsL.reverse ++ .ref a :: rest)) rfl hml.symm (Steps.refl _) (a := a) (argsL := argsL) (rest := rest) (lenOf hpd hlen) rfl (by show 2 * 0 + _ ≤ _; omega) hd (fun _ _ => ⟨rfl, hT, hc, hs⟩)
  dsimp only [Pt.U, Pt.locs, Pt.cells, Pt.slots] at X' l' y' z' st hQ hS' hG' hR
  subst l' y' z'
  have hW' : Z.Warmed39 T'.vm := State.Warmed39.trans (t := s.setVm vm) hZ hS'.1
  exact Go.tr st (k v T' _ L T'.vm rfl hQ hW' ((hS'.1.alike.findClass _ _).trans hown) (H.call hT hS' hG' hR) hR X')
/-- what a body leaves that answers w and touches nothing -/
abbrev QV (w : Value) (h0 : Heap) (v : Option Value) (h : Heap) (L : List Loc) : Prop := v = some w ∧ L = [] ∧ h = h0
/-- invokestatic of such a body -/
theorem Go.callV {w : Value} (X : Stand p l e R s m args below meth c T locs cells slots) (hx : p.tables.exec = Jvm.exec) (hZ : Z.Warmed39 s.vm) (hown : s.vm.findClass own = some m.cls) (hml : c.maxLocals = Ls.size) (hT : T.heap = h)
    (w1 : (Cond.methodLink own index y).before a0 Z = true) (w2 : (Cond.static y).before a0 Z = true) (w3 : (Cond.initialized y.cls).before a0 Z = true) (w4 : (Cond.code y bytes maxL ret).before a0 Z = true) (hy : y.cls ≠ "java/lang/invoke/MethodHandle" ∧ y.cls ≠ "java/lang/invoke/VarHandle")
    (hpd : parseMethodDescriptor y.desc = some ⟨ps, rr⟩) (hlen : argsL.length = ps.length) (hst : st = argsL.reverse ++ rest) (hW : (rest.map fun v => v.category).sum ≤ W) (hd : decode c.code pc = .ok (.invokestatic index, 3))
    (hB : PB l R p e below s args y W argsL.toArray h 0 0 (QV w h)) (hc : cells ≤ R.cells) (hs : slots ≤ R.slots)
    (k : ∀ (T' : State), T'.heap = h → Stand p l e R s m args below meth c T' locs cells slots → Go p e below Φ (T'.setTop (mkF m (pc + 3) Ls (w :: rest)))) :
    Go p e below Φ (T.setTop (mkF m pc Ls st)) := by
  refine Go.callP X hx hZ hown hml hT w1 w2 w3 w4 hy hpd hlen hst hW hd hB hc hs ?_
  rintro v T' h' L hT' ⟨rfl, rfl, rfl⟩ X'
  rw [List.append_nil] at X'
  exact k T' hT' X'
/-- invokevirtual of such a body -/
theorem Go.virtV {K : String} {z : MethodName} {w : Value} (X : Stand p l e R s m args below meth c T locs cells slots) (hx : p.tables.exec = Jvm.exec) (hZ : Z.Warmed39 s.vm) (hown : s.vm.findClass own = some m.cls) (hml : c.maxLocals = Ls.size) (hT : T.heap = h) (E : Exa Z h a K)
    (w1 : (Cond.methodLink own index y).before a0 Z = true) (w2 : (Cond.declares y).before a0 Z = true) (w3 : (Cond.selects K y z).before a0 Z = true) (w4 : (Cond.instanceMethod z).before a0 Z = true) (hy : y.cls ≠ "java/lang/invoke/MethodHandle" ∧ y.cls ≠ "java/lang/invoke/VarHandle")
    (hpd : parseMethodDescriptor y.desc = some ⟨ps, rr⟩) (hlen : argsL.length = ps.length) (hst : st = argsL.reverse ++ .ref a :: rest) (hW : (rest.map fun v => v.category).sum ≤ W) (hd : decode c.code pc = .ok (.invokevirtual index, 3))
    (hnf : NotFace s y)
    (hB : PB l R p e below s args z W (.ref a :: argsL).toArray h 0 0 (QV w h)) (hc : cells ≤ R.cells) (hs : slots ≤ R.slots)
    (k : ∀ (T' : State), T'.heap = h → Stand p l e R s m args below meth c T' locs cells slots → Go p e below Φ (T'.setTop (mkF m (pc + 3) Ls (w :: rest)))) :
    Go p e below Φ (T.setTop (mkF m pc Ls st)) := by
  refine Go.virtP X hx hZ hown hml hT E w1 w2 w3 w4 hy hpd hlen hst hW hd hnf hB hc hs ?_
  rintro v T' h' L hT' ⟨rfl, rfl, rfl⟩ X'
  rw [List.append_nil] at X'
  exact k T' hT' X'
/-- ldc of a String constant of EL, its text read -/
theorem Go.ldcS (H : HW Z EL s vm h) (X : Stand p l e R (s.setVm vm) m args below meth c T locs cells slots) (hx : p.tables.exec = Jvm.exec) (hZ : Z.Warmed39 vm) (hown : vm.findClass own = some m.cls) (hT : T.heap = h) {text : String}
    (w : (Cond.stringLink own index text).before a0 Z = true) (wS : ∀ a ∈ Bundle.stringAtoms, a.before a0 Z = true) (hEL : EW Z a0 EL) (hmem : (own, index) ∈ EL) {vs : List Value} {z : Int32}
    (ht : (∀ c ∈ text.toList, c.toNat < 256) ∧ text.toList.map (fun c => Value.int (Jvm.Lit.byteI c.toNat.toUInt16)) = vs) (hz : ¬ z < 0) (hl : z.toNatClampNeg = vs.length) (hd : decode c.code pc = .ok (.ldc index, 2)) {n : Nat} (hn : 4 * text.toList.length ≤ n) (hbig : n ≤ 536870912) (hc : cells + 2 ≤ R.cells) (hl' : slots + (n + 4) ≤ R.slots)
    (k : ∀ (a : Addr) (T' : State) (h' : Heap) (vm' : Vm) (b : Addr) (kb : ClassId), T'.heap = h' → Ext h h' → Z.Warmed39 vm' → vm'.findClass own = some m.cls → HW Z EL s vm' h' → CHr Z EL vm h vm' h' →
      Exa Z h' a "java/lang/String" → Fld Z h' a "java/lang/String" "coder" "B" (.int 0) → Fld Z h' a "java/lang/String" "value" "[B" (.ref b) → Arv Z h' b kb .byte z vs (.int 0) → Stand p l e R (s.setVm vm') m args below meth c T' locs (cells + 2) (slots + (n + 4)) → Go p e below Φ (T'.setTop (mkF m (pc + 2) Ls (.ref a :: st)))) :
    Go p e below Φ (T.setTop (mkF m pc Ls st)) := by
  obtain ⟨⟨k0, g1, g2⟩, g3⟩ := H
  obtain ⟨a, T', h', k1, b, kb, X', hT', E', hS', hk', hZ', hown', LE, LC, LV, LA, -, -, hR, -, -, st'⟩ := ldcCH X hx hZ hown w wS hT g1 g2 hEL hmem g3.1 ht hz hl (g := mkF m pc Ls st) rfl hd hn hbig hc hl'
  exact Go.st st' (k a T' h' T'.vm b kb hT' E' hZ' hown' ⟨⟨k1, hS', hk'⟩, g3.trans hR⟩ hR LE LC LV LA X')
/-- roads that meet: what differs becomes a variable -/
theorem own_cutT {h : Heap} (X : Stand p l e R s m args below meth c T locs cells slots) (hT : T.heap = h) (F : Int32 → JFrame) (a : Int32)
    (K : ∀ (v : Int32) (T' : State), v = a → T'.heap = h → Stand p l e R s m args below meth c T' locs cells slots → Go p e below Φ (T'.setTop (F v)))
    (g : (∀ (v : Int32) (T' : State), v = a → T'.heap = h → Stand p l e R s m args below meth c T' locs cells slots → Go p e below Φ (T'.setTop (F v))) → Go p e below Φ V) : Go p e below Φ V := g K
/-! arrays, by natural indices -/
theorem own_int {n : Nat} (h : n < 2147483648) : (Int32.ofNat n).toInt = n := Int32.toInt_ofNat_small h
theorem own_clamp {n : Nat} (h : n < 2147483648) : (Int32.ofNat n).toNatClampNeg = n := by
  rw [Int32.toNatClampNeg, own_int h]; rfl
theorem own_nn {n : Nat} (h : n < 2147483648) : ¬ Int32.ofNat n < 0 := by
  rw [Int32.lt_iff_toInt_lt, own_int h]; show ¬ (n : Int) < 0; omega
theorem own_lt {a b : Nat} (ha : a < 2147483648) (hb : b < 2147483648) : Int32.ofNat a < Int32.ofNat b ↔ a < b := by
  rw [Int32.lt_iff_toInt_lt, own_int ha, own_int hb]; omega
theorem own_eqN {a b : Nat} (ha : a < 2147483648) (hb : b < 2147483648) : Int32.ofNat a = Int32.ofNat b ↔ a = b := by
  rw [← Int32.toInt_inj, own_int ha, own_int hb]; omega
theorem own_succ (n : Nat) : Int32.ofNat n + (1 : Int32) = Int32.ofNat (n + 1) := by
  show _ + Int32.ofNat 1 = _
  rw [← Int32.ofNat_add]
theorem own_dbl {n : Nat} (h : 2 * n < 2147483648) : Int32.ofNat n <<< ((1 : Int32) &&& 31) = Int32.ofNat (2 * n) := by
  rw [shlm (x := Int32.ofNat n) (k := 1) (m := 2) (by decide)]
  show _ * Int32.ofNat 2 = _
  rw [← Int32.ofNat_mul, Nat.mul_comm]
variable {k : ClassId} {N : Int32} {vs : List Value} {dv : Value} {ty : FieldType} {i : Nat} {w : Value}
theorem Go.caloadN (X : Stand p l e R s m args below meth c T locs cells slots) (hx : p.tables.exec = Jvm.exec) (hZ : Z.Warmed39 s.vm) (hT : T.heap = h) (F : Arv Z h a k .char N vs dv) (hi : i < N.toNatClampNeg) (hi2 : i < 2147483648) (hv : vs.getD i dv = w) (hd : decode c.code pc = .ok (.caload, 1))
    (g : Go p e below Φ (T.setTop (mkF m (pc + 1) Ls (w :: rest)))) : Go p e below Φ (T.setTop (mkF m pc Ls (.int (Int32.ofNat i) :: .ref a :: rest))) := by
  obtain ⟨cl, A, -, S0, M0, H0, U0⟩ := F
  have hin : ¬ (Int32.ofNat i < 0 ∨ cl.slots.size ≤ (Int32.ofNat i).toNatClampNeg) := by
    rw [own_clamp hi2, S0]; rintro (q | q)
    · exact own_nn hi2 q
    · omega
  have hat : cl.slots[(Int32.ofNat i).toNatClampNeg]? = some w := H0.at hin (by rw [own_clamp hi2]; exact hv)
  exact Go.st (fun t kk => X.caload hx (j := Int32.ofNat i) (v := w) (by rw [hT]; exact A.1) (State.isArrayOf_alike hZ.alike A.2.1) A.2.2 hin hat (g := mkF m pc Ls (.int (Int32.ofNat i) :: .ref a :: rest)) rfl rfl hd t kk) g
theorem Go.baloadN (X : Stand p l e R s m args below meth c T locs cells slots) (hx : p.tables.exec = Jvm.exec) (hZ : Z.Warmed39 s.vm) (hT : T.heap = h) (F : Arv Z h a k .byte N vs dv) (hi : i < N.toNatClampNeg) (hi2 : i < 2147483648) (hv : vs.getD i dv = w) (hd : decode c.code pc = .ok (.baload, 1))
    (g : Go p e below Φ (T.setTop (mkF m (pc + 1) Ls (w :: rest)))) : Go p e below Φ (T.setTop (mkF m pc Ls (.int (Int32.ofNat i) :: .ref a :: rest))) := by
  obtain ⟨cl, A, -, S0, M0, H0, U0⟩ := F
  have hin : ¬ (Int32.ofNat i < 0 ∨ cl.slots.size ≤ (Int32.ofNat i).toNatClampNeg) := by
    rw [own_clamp hi2, S0]; rintro (q | q)
    · exact own_nn hi2 q
    · omega
  have hat : cl.slots[(Int32.ofNat i).toNatClampNeg]? = some w := H0.at hin (by rw [own_clamp hi2]; exact hv)
  exact Go.st (fun t kk => X.baloadBytes hx (j := Int32.ofNat i) (v := w) (by rw [hT]; exact A.1) (State.isArrayOf_alike hZ.alike A.2.1) A.2.2 hin hat (g := mkF m pc Ls (.int (Int32.ofNat i) :: .ref a :: rest)) rfl rfl hd t kk) g
theorem Go.alen (X : Stand p l e R s m args below meth c T locs cells slots) (hx : p.tables.exec = Jvm.exec) (hZ : Z.Warmed39 s.vm) (hT : T.heap = h) (F : Arv Z h a k ty N vs dv) (hd : decode c.code pc = .ok (.arraylength, 1))
    (g : Go p e below Φ (T.setTop (mkF m (pc + 1) Ls (.int N :: rest)))) : Go p e below Φ (T.setTop (mkF m pc Ls (.ref a :: rest))) := by
  obtain ⟨cl, A, -, S0, M0, H0, U0⟩ := F
  refine Go.st (fun t kk => X.arraylength hx (by rw [hT]; exact A.1) (State.isArrayOf_alike hZ.alike A.2.1) (g := mkF m pc Ls (.ref a :: rest)) rfl rfl hd t kk) ?_
  rw [len_of S0 M0]; exact g
theorem own_getD_set (vs : List Value) (i : Nat) (x dv : Value) (h : i < vs.length) : ∀ j, (vs.set i x).getD j dv = if j = i then x else vs.getD j dv := fun j => by
  simp only [List.getD_eq_getElem?_getD, List.getElem?_set]
  by_cases q : i = j
  · subst q; simp [h]
  · rw [if_neg q, if_neg (fun z => q z.symm)]
/-- bastore at a natural index -/
theorem Go.stBN {x : Int32} (X : Stand p l e R s m args below meth c T locs cells slots) (hx : p.tables.exec = Jvm.exec) (hZ : Z.Warmed39 s.vm) (hT : T.heap = h) (F : Arv Z h a k .byte N vs dv) (hi : i < N.toNatClampNeg) (hi2 : i < 2147483648) (hl : i < vs.length) (hd : decode c.code pc = .ok (.bastore, 1))
    (g : ∀ (T' : State) (h' : Heap), T'.heap = h' → Wr h h' a i (.int x.toInt8.toInt32) → Arv Z h' a k .byte N (vs.set i (.int x.toInt8.toInt32)) dv → Stand p l e R s m args below meth c T' (locs ++ [⟨a, i⟩]) cells slots → Go p e below Φ (T'.setTop (mkF m (pc + 1) Ls rest))) :
    Go p e below Φ (T.setTop (mkF m pc Ls (.int x :: .int (Int32.ofNat i) :: .ref a :: rest))) := by
  obtain ⟨cl, A, q0, S0, M0, H0, U0⟩ := F
  have hin : ¬ (Int32.ofNat i < 0 ∨ cl.slots.size ≤ (Int32.ofNat i).toNatClampNeg) := by
    rw [own_clamp hi2, S0]; rintro (q | q)
    · exact own_nn hi2 q
    · omega
  obtain ⟨T', h', X', hT', W', st⟩ := stB X hx hZ hT A (j := Int32.ofNat i) hin (g := mkF m pc Ls (.int x :: .int (Int32.ofNat i) :: .ref a :: rest)) rfl rfl hd
  have V' := Arv.set A q0 S0 M0 H0 U0 (fits_nar_byte x) W' i (own_clamp hi2) hl
  rw [own_clamp hi2] at W' X'
  exact Go.st st (g T' h' hT' W' V' X')
/-- castore at a natural index -/
theorem Go.stCN {x : Int32} (X : Stand p l e R s m args below meth c T locs cells slots) (hx : p.tables.exec = Jvm.exec) (hZ : Z.Warmed39 s.vm) (hT : T.heap = h) (F : Arv Z h a k .char N vs dv) (hi : i < N.toNatClampNeg) (hi2 : i < 2147483648) (hl : i < vs.length) (hd : decode c.code pc = .ok (.castore, 1))
    (g : ∀ (T' : State) (h' : Heap), T'.heap = h' → Wr h h' a i (.int (nar .char x)) → Arv Z h' a k .char N (vs.set i (.int (nar .char x))) dv → Stand p l e R s m args below meth c T' (locs ++ [⟨a, i⟩]) cells slots → Go p e below Φ (T'.setTop (mkF m (pc + 1) Ls rest))) :
    Go p e below Φ (T.setTop (mkF m pc Ls (.int x :: .int (Int32.ofNat i) :: .ref a :: rest))) := by
  obtain ⟨cl, A, q0, S0, M0, H0, U0⟩ := F
  have hin : ¬ (Int32.ofNat i < 0 ∨ cl.slots.size ≤ (Int32.ofNat i).toNatClampNeg) := by
    rw [own_clamp hi2, S0]; rintro (q | q)
    · exact own_nn hi2 q
    · omega
  obtain ⟨T', h', X', hT', W', st⟩ := stC X hx hZ hT A (j := Int32.ofNat i) hin (g := mkF m pc Ls (.int x :: .int (Int32.ofNat i) :: .ref a :: rest)) rfl rfl hd
  have V' := Arv.set A q0 S0 M0 H0 U0 (fits_nar_char x) W' i (own_clamp hi2) hl
  rw [own_clamp hi2] at W' X'
  exact Go.st st (g T' h' hT' W' V' X')
/-- newarray of n components -/
theorem Go.newA {aty : ArrayType} {n cap : Nat} (X : Stand p l e R s m args below meth c T locs cells slots) (hx : p.tables.exec = Jvm.exec) (hZ : Z.Warmed39 s.vm) (hT : T.heap = h) (w : (Cond.arrayClass (newarray.typeOf aty)).before a0 Z = true) (hd : decode c.code pc = .ok (.newarray aty, 2))
    (hn : n < 2147483648) (hcap : n ≤ cap) (hb : cap * 8 ≤ 536870912) (hc : cells + 1 ≤ R.cells) (hl : slots + cap ≤ R.slots)
    (g : ∀ (b : Addr) (T' : State) (h' : Heap) (kb : ClassId), b = h.size → T'.heap = h' → Ext h h' → Arv Z h' b kb (newarray.typeOf aty) (Int32.ofNat n) [] (defaultValue (newarray.typeOf aty)) → Stand p l e R s m args below meth c T' locs (cells + 1) (slots + cap) → Go p e below Φ (T'.setTop (mkF m (pc + 2) Ls (.ref b :: rest)))) :
    Go p e below Φ (T.setTop (mkF m pc Ls (.int (Int32.ofNat n) :: rest))) := by
  obtain ⟨T', h', kb, X', hT', E', A', st⟩ := newP X hx hZ w hT (g := mkF m pc Ls (.int (Int32.ofNat n) :: rest)) rfl hd rfl (own_nn hn) (cap := cap) (by rw [own_clamp hn]; exact hcap) hb hc hl
  exact Go.st st (g _ T' h' kb rfl hT' E' (Arv.new A' (own_nn hn)) X')
end G
end Jvm.Own
namespace Jvm.Pilot.@@N@@
open Jvm Jvm.ClassFile Sem Op Lib Jvm.Free Jvm.Stand Jvm.LawKit Jvm.RoadKit Bundle Jvm.Own Jvm.Pilot.@@N@@.Jvm.D
def QU (h0 : Heap) (v : Option Value) (h : Heap) (L : List Loc) : Prop := v = none ∧ L = [] ∧ h = h0
theorem own_le {Z : State} {n0 : Nat} {h : Heap} (O : Old Z n0 h) : n0 ≤ h.size := O.1 ▸ O.2.1
section E
variable {p : Program} {l : Launch} {e : Env} {R : Room} {s : State} {m : MethodId} {args : Array Value} {below : List Frame} {meth : Method} {c : Code} {T : State} {locs : List Loc} {cells slots : Nat} {Φ : Outcome → State → Prop} {Z : State} {a0 : Array Value} {h : Heap}
theorem own_getR (X : Stand p l e R s m args below meth c T locs cells slots) (hx : p.tables.exec = Jvm.exec) (hZ : Z.Warmed39 s.vm) {own O n d : String} {index : Nat} (hown : s.vm.findClass own = some m.cls) (w : (Cond.fieldRef own index O n d).before a0 Z = true)
    (eT : T.heap = h) {a : Addr} {v : Value} (F : Fld Z h a O n d v) {g : JFrame} (hg : g.method = m) {rest : List Value} (hs : g.stack = .ref a :: rest) (hd : decode c.code g.pc = .ok (.getfield index, 3)) (target : State)
    (hrest : Steps p.tables e below (T.setTop { g with pc := g.pc + 3, stack := v :: rest }) target) : Steps p.tables e below (T.setTop g) target := by
  obtain ⟨cell, cf, k, i, f, h1, h2, h3, h4, -, -, h7⟩ := F
  have hZT : Z.Warmed39 T.vm := State.Warmed39.trans (t := s) hZ X.warmed.wide
  have w' := Cond.fieldRef_warmed39 hZT w
  have hcur : (Z.setVm T.vm).vm.findClass own = some m.cls := (X.warmed.alike.findClass _ _).trans hown
  obtain ⟨cf', k', i', f', e1, hr⟩ := Cond.fieldRef_spec (s := Z.setVm T.vm) hcur w'
  obtain ⟨k2, hi, -⟩ := State.fieldFound?_setVm (s := Z) hZT.alike h2
  cases e1.symm.trans hi
  subst hg
  jvm_step X.here [hx, hd, getfield.wp_ready (e := e) (s := T) (f := g) X.here.top hr h3 hs (show T.heap[a]? = some cell by rw [eT]; exact h1) h4 h7]
  exact hrest
theorem Go.aaloadN {k : ClassId} {N : Int32} {vs : List Value} {dv w : Value} {ty : FieldType} {i pc : Nat} {Ls : Array Slot} {rest : List Value} {a : Addr} (X : Stand p l e R s m args below meth c T locs cells slots) (hx : p.tables.exec = Jvm.exec) (hZ : Z.Warmed39 s.vm) (hT : T.heap = h) (F : Arv Z h a k ty N vs dv) (hty : ty.isReference = true) (hi : i < N.toNatClampNeg) (hi2 : i < 2147483648) (hv : vs.getD i dv = w) (hd : decode c.code pc = .ok (.aaload, 1))
    (g : Go p e below Φ (T.setTop (mkF m (pc + 1) Ls (w :: rest)))) : Go p e below Φ (T.setTop (mkF m pc Ls (.int (Int32.ofNat i) :: .ref a :: rest))) := by
  obtain ⟨cl, A, -, S0, M0, H0, U0⟩ := F
  have hin : ¬ (Int32.ofNat i < 0 ∨ cl.slots.size ≤ (Int32.ofNat i).toNatClampNeg) := by
    rw [own_clamp hi2, S0]; rintro (q | q)
    · exact own_nn hi2 q
    · omega
  have hat : cl.slots[(Int32.ofNat i).toNatClampNeg]? = some w := H0.at hin (by rw [own_clamp hi2]; exact hv)
  exact Go.st (fun t kk => X.aaload hx (j := Int32.ofNat i) (v := w) (by rw [hT]; exact A.1) (State.isArrayOf_alike hZ.alike A.2.1) hty A.2.2 hin hat (g := mkF m pc Ls (.int (Int32.ofNat i) :: .ref a :: rest)) rfl rfl hd t kk) g
theorem own_eqr {Z : State} {args : Array Value} {X F : Term} {idx : List Nat} {y : Addr} (hF : F.eval args Z none idx Z = some (.ref y)) (h : (Cond.eq X F).value args Z none Z idx = some true) : X.eval args Z none idx Z = some (.ref y) := by
  simp only [Cond.value, hF] at h
  cases hx : X.eval args Z none idx Z with
  | none => simp [hx] at h
  | some v => cases v <;> simp [hx] at h ⊢ <;> exact h
theorem own_len31 {t : Term} {args : Array Value} {first s : State} {o : Option Outcome} {idx : List Nat} {x : Addr} {cl : Cell} {z : Int32} (ht : t.eval args first o idx s = some (.ref x)) (ha : s.arrayAt? x = some cl) (h : (Term.length t).eval args first o idx s = some (.int z)) : cl.slots.size < 2 ^ 31 ∧ cl.slots.size.toInt32 = z := by
  by_cases hl : cl.slots.size < 2 ^ 31
  · have q := (len_f (first := first) (o := o) ht ha hl).symm.trans h
    exact ⟨hl, Value.int.inj (Option.some.inj q)⟩
  · simp [Term.eval, ht, ha, hl] at h
end E
def Cch (Z : State) (av : Addr) (cl : Cell) : Prop := Sta Z Z.heap "java/lang/Integer$IntegerCache" "high" "I" (.int 127) ∧ Sta Z Z.heap "java/lang/Integer$IntegerCache" "cache" "[Ljava/lang/Integer;" (.ref av) ∧ Bxs Z av cl "java/lang/Integer" "I" (256 : Int32) (fun j => .int (j - 128))
theorem own_c256 {y : Int32} (h1 : ¬ y < (-128 : Int32)) (h2 : ¬ (127 : Int32) < y) : ¬ (y + 128 < 0) ∧ (y + (128 : Int32)).toNatClampNeg < 256 := by
  have e1 : (-128 : Int32).toInt = -128 := by decide
  have e2 : (127 : Int32).toInt = 127 := by decide
  have e3 : (128 : Int32).toInt = 128 := by decide
  have q := c_iadd y 128
  have r := rng32 (y + 128)
  rw [Int32.lt_iff_toInt_lt, e1] at h1; rw [Int32.lt_iff_toInt_lt, e2] at h2; rw [e3] at q
  constructor
  · rw [Int32.lt_iff_toInt_lt]; show ¬ _ < (0 : Int); omega
  · rw [Int32.toNatClampNeg]; omega
theorem own_back (y : Int32) : y + 128 - 128 = y := by simp
theorem d24_0 : decode jdk_18_method_1_code 0 = .ok (.aload_n 0, 1) := by decide +kernel
theorem d24_1 : decode jdk_18_method_1_code 1 = .ok (.invokespecial 1, 3) := by decide +kernel
theorem d24_4 : decode jdk_18_method_1_code 4 = .ok (.return_, 1) := by decide +kernel
theorem pn_0 : plainFor (⟨"java/lang/Number", "<init>", "()V"⟩ : MethodName) = true := by first | exact plainFor_of_name (by first | (simp [plainName, overriddenIn]; done) | decide +kernel) | decide +kernel
theorem ef_A_1 (m : MethodId) (y0 : Addr) : entryFrame m #[(.ref y0)] 1 = mkF m 0 #[.val (.ref y0)] [] := by first | (simp [entryFrame, mkF, argsToLocals, Value.category]; done) | rfl
set_option maxRecDepth 65536 in
set_option maxHeartbeats 40000000 in
theorem met_num (l : Launch) (Z : State) (a0 : Array Value) (hw : ∀ d ∈ tables_1, d.before a0 Z = true) (ws : List Jvm.Cond) (x : Addr) (h0 : Heap)  :
    MetFree l (⟨"java/lang/Number", "<init>", "()V"⟩ : MethodName) (head1 (Jvm.Cond.code (⟨"java/lang/Number", "<init>", "()V"⟩ : MethodName) jdk_18_method_1_code 1 none :: ws) ({ frames := 1, cells := 0, slots := 0, locals := 12 } : Room)) (fun aa U => aa = #[(.ref x)] ∧ Z.Warmed39 U.vm ∧ U.heap = h0) (fun _ _ _ _ _ => True) (fun _ U o U' => ∃ v L, o = .returned v ∧ QU h0 v U'.heap L ∧ FrameEnd U o U' L ({ frames := 1, cells := 0, slots := 0, locals := 12 } : Room).cells ({ frames := 1, cells := 0, slots := 0, locals := 12 } : Room).slots) := by
  refine openP (y := (⟨"java/lang/Number", "<init>", "()V"⟩ : MethodName)) pn_0 ?_
  intro p e s m below meth c T hx hby hml hret hlk hnm hZ hown X hT 
  refine Go.st (fun _ k => castTop (ef_A_1 m x) k) ?_
  show Go p e below _ (T.setTop (mkF m 0 #[.val (.ref x)] []))
  refine Go.st (fun _ k => XS.aloadN X.here hx rfl (hb hby d24_0) rfl rfl k) ?_
  show Go p e below _ (T.setTop (mkF m 1 #[.val (.ref x)] [(.ref x)]))
  obtain ⟨T, X, hT, st⟩ := initO X hx hZ hown (hw _ (List.mem_of_getElem? (i := 158) rfl)) (hw _ (List.mem_of_getElem? (i := 26) rfl)) (hw _ (List.mem_of_getElem? (i := 27) rfl)) hT (g := (mkF m 1 #[.val (.ref x)] [(.ref x)])) rfl (by rw [hml]; rfl) rfl (hb hby d24_1) (by decide) (W := 0) (by show 2 * 0 + _ ≤ _; exact Nat.le_of_ble_eq_true rfl) (by decide)
  refine Go.st st ?_
  show Go p e below _ (T.setTop (mkF m 4 #[.val (.ref x)] []))
  refine Go.retV X hx hlk hT hret (hb hby d24_4) (by decide) (by decide) ?_
  exact ⟨rfl, rfl, rfl⟩
theorem d4_0 : decode jdk_22_method_1_code 0 = .ok (.aload_n 0, 1) := by decide +kernel
theorem d4_1 : decode jdk_22_method_1_code 1 = .ok (.invokespecial 1, 3) := by decide +kernel
theorem d4_4 : decode jdk_22_method_1_code 4 = .ok (.return_, 1) := by decide +kernel
theorem pn_1 : plainFor (⟨"java/util/AbstractCollection", "<init>", "()V"⟩ : MethodName) = true := by first | exact plainFor_of_name (by first | (simp [plainName, overriddenIn]; done) | decide +kernel) | decide +kernel
set_option maxRecDepth 65536 in
set_option maxHeartbeats 40000000 in
theorem met_abc (l : Launch) (Z : State) (a0 : Array Value) (hw : ∀ d ∈ tables_1, d.before a0 Z = true) (ws : List Jvm.Cond) (x : Addr) (h0 : Heap)  :
    MetFree l (⟨"java/util/AbstractCollection", "<init>", "()V"⟩ : MethodName) (head1 (Jvm.Cond.code (⟨"java/util/AbstractCollection", "<init>", "()V"⟩ : MethodName) jdk_22_method_1_code 1 none :: ws) ({ frames := 1, cells := 0, slots := 0, locals := 12 } : Room)) (fun aa U => aa = #[(.ref x)] ∧ Z.Warmed39 U.vm ∧ U.heap = h0) (fun _ _ _ _ _ => True) (fun _ U o U' => ∃ v L, o = .returned v ∧ QU h0 v U'.heap L ∧ FrameEnd U o U' L ({ frames := 1, cells := 0, slots := 0, locals := 12 } : Room).cells ({ frames := 1, cells := 0, slots := 0, locals := 12 } : Room).slots) := by
  refine openP (y := (⟨"java/util/AbstractCollection", "<init>", "()V"⟩ : MethodName)) pn_1 ?_
  intro p e s m below meth c T hx hby hml hret hlk hnm hZ hown X hT 
  refine Go.st (fun _ k => castTop (ef_A_1 m x) k) ?_
  show Go p e below _ (T.setTop (mkF m 0 #[.val (.ref x)] []))
  refine Go.st (fun _ k => XS.aloadN X.here hx rfl (hb hby d4_0) rfl rfl k) ?_
  show Go p e below _ (T.setTop (mkF m 1 #[.val (.ref x)] [(.ref x)]))
  obtain ⟨T, X, hT, st⟩ := initO X hx hZ hown (hw _ (List.mem_of_getElem? (i := 25) rfl)) (hw _ (List.mem_of_getElem? (i := 26) rfl)) (hw _ (List.mem_of_getElem? (i := 27) rfl)) hT (g := (mkF m 1 #[.val (.ref x)] [(.ref x)])) rfl (by rw [hml]; rfl) rfl (hb hby d4_1) (by decide) (W := 0) (by show 2 * 0 + _ ≤ _; exact Nat.le_of_ble_eq_true rfl) (by decide)
  refine Go.st st ?_
  show Go p e below _ (T.setTop (mkF m 4 #[.val (.ref x)] []))
  refine Go.retV X hx hlk hT hret (hb hby d4_4) (by decide) (by decide) ?_
  exact ⟨rfl, rfl, rfl⟩
theorem d15_0 : decode jdk_30_method_1_code 0 = .ok (.aload_n 0, 1) := by decide +kernel
theorem d15_1 : decode jdk_30_method_1_code 1 = .ok (.invokespecial 1, 3) := by decide +kernel
theorem d15_4 : decode jdk_30_method_1_code 4 = .ok (.return_, 1) := by decide +kernel
theorem pn_2 : plainFor (⟨"java/lang/Record", "<init>", "()V"⟩ : MethodName) = true := by first | exact plainFor_of_name (by first | (simp [plainName, overriddenIn]; done) | decide +kernel) | decide +kernel
set_option maxRecDepth 65536 in
set_option maxHeartbeats 40000000 in
theorem met_rec (l : Launch) (Z : State) (a0 : Array Value) (hw : ∀ d ∈ tables_1, d.before a0 Z = true) (ws : List Jvm.Cond) (x : Addr) (h0 : Heap)  :
    MetFree l (⟨"java/lang/Record", "<init>", "()V"⟩ : MethodName) (head1 (Jvm.Cond.code (⟨"java/lang/Record", "<init>", "()V"⟩ : MethodName) jdk_30_method_1_code 1 none :: ws) ({ frames := 1, cells := 0, slots := 0, locals := 12 } : Room)) (fun aa U => aa = #[(.ref x)] ∧ Z.Warmed39 U.vm ∧ U.heap = h0) (fun _ _ _ _ _ => True) (fun _ U o U' => ∃ v L, o = .returned v ∧ QU h0 v U'.heap L ∧ FrameEnd U o U' L ({ frames := 1, cells := 0, slots := 0, locals := 12 } : Room).cells ({ frames := 1, cells := 0, slots := 0, locals := 12 } : Room).slots) := by
  refine openP (y := (⟨"java/lang/Record", "<init>", "()V"⟩ : MethodName)) pn_2 ?_
  intro p e s m below meth c T hx hby hml hret hlk hnm hZ hown X hT 
  refine Go.st (fun _ k => castTop (ef_A_1 m x) k) ?_
  show Go p e below _ (T.setTop (mkF m 0 #[.val (.ref x)] []))
  refine Go.st (fun _ k => XS.aloadN X.here hx rfl (hb hby d15_0) rfl rfl k) ?_
  show Go p e below _ (T.setTop (mkF m 1 #[.val (.ref x)] [(.ref x)]))
  obtain ⟨T, X, hT, st⟩ := initO X hx hZ hown (hw _ (List.mem_of_getElem? (i := 93) rfl)) (hw _ (List.mem_of_getElem? (i := 26) rfl)) (hw _ (List.mem_of_getElem? (i := 27) rfl)) hT (g := (mkF m 1 #[.val (.ref x)] [(.ref x)])) rfl (by rw [hml]; rfl) rfl (hb hby d15_1) (by decide) (W := 0) (by show 2 * 0 + _ ≤ _; exact Nat.le_of_ble_eq_true rfl) (by decide)
  refine Go.st st ?_
  show Go p e below _ (T.setTop (mkF m 4 #[.val (.ref x)] []))
  refine Go.retV X hx hlk hT hret (hb hby d15_4) (by decide) (by decide) ?_
  exact ⟨rfl, rfl, rfl⟩
theorem pd_0 : parseMethodDescriptor "()V" = some ⟨[], none⟩ := by decide +kernel
def QIi (Z : State) (x : Addr) (y : Int32) (n0 : Nat) (h0 : Heap) (v : Option Value) (h : Heap) (L : List Loc) : Prop := v = none ∧ Fr n0 L ∧ Keep h0 h [x] ∧ Exa Z h x "java/lang/Integer" ∧ Fld Z h x "java/lang/Integer" "value" "I" (.int y)
theorem d23_0 : decode jdk_33_method_23_code 0 = .ok (.aload_n 0, 1) := by decide +kernel
theorem d23_1 : decode jdk_33_method_23_code 1 = .ok (.invokespecial 202, 3) := by decide +kernel
theorem d23_4 : decode jdk_33_method_23_code 4 = .ok (.aload_n 0, 1) := by decide +kernel
theorem d23_5 : decode jdk_33_method_23_code 5 = .ok (.iload_n 1, 1) := by decide +kernel
theorem d23_6 : decode jdk_33_method_23_code 6 = .ok (.putfield 205, 3) := by decide +kernel
theorem d23_9 : decode jdk_33_method_23_code 9 = .ok (.return_, 1) := by decide +kernel
theorem pn_3 : plainFor (⟨"java/lang/Integer", "<init>", "(I)V"⟩ : MethodName) = true := by first | exact plainFor_of_name (by first | (simp [plainName, overriddenIn]; done) | decide +kernel) | decide +kernel
theorem ef_AI_2 (m : MethodId) (y0 : Addr) (y1 : Int32) : entryFrame m #[(.ref y0), (.int y1)] 2 = mkF m 0 #[.val (.ref y0), .val (.int y1)] [] := by first | (simp [entryFrame, mkF, argsToLocals, Value.category]; done) | rfl
set_option maxRecDepth 65536 in
set_option maxHeartbeats 40000000 in
theorem met_ii (l : Launch) (Z : State) (a0 : Array Value) (hw : ∀ d ∈ tables_1, d.before a0 Z = true) (ws : List Jvm.Cond) (n0 : Nat) (x : Addr) (y : Int32) (h0 : Heap) (ge_x : n0 ≤ x) (A_x : Exa Z h0 x "java/lang/Integer") (F_x_value : Fld Z h0 x "java/lang/Integer" "value" "I" (.int (0 : Int32))) :
    MetFree l (⟨"java/lang/Integer", "<init>", "(I)V"⟩ : MethodName) (head1 (Jvm.Cond.code (⟨"java/lang/Integer", "<init>", "(I)V"⟩ : MethodName) jdk_33_method_23_code 2 none :: ws) ({ frames := 2, cells := 0, slots := 0, locals := 24 } : Room)) (fun aa U => aa = #[(.ref x), (.int y)] ∧ Z.Warmed39 U.vm ∧ U.heap = h0) (fun _ _ _ _ _ => True) (fun _ U o U' => ∃ v L, o = .returned v ∧ QIi Z x y n0 h0 v U'.heap L ∧ FrameEnd U o U' L ({ frames := 2, cells := 0, slots := 0, locals := 24 } : Room).cells ({ frames := 2, cells := 0, slots := 0, locals := 24 } : Room).slots) := by
  refine openP (y := (⟨"java/lang/Integer", "<init>", "(I)V"⟩ : MethodName)) pn_3 ?_
  intro p e s m below meth c T hx hby hml hret hlk hnm hZ hown X hT 
  refine Go.st (fun _ k => castTop (ef_AI_2 m x y) k) ?_
  show Go p e below _ (T.setTop (mkF m 0 #[.val (.ref x), .val (.int y)] []))
  have N := Fr.nil n0
  refine Go.st (fun _ k => XS.aloadN X.here hx rfl (hb hby d23_0) rfl rfl k) ?_
  show Go p e below _ (T.setTop (mkF m 1 #[.val (.ref x), .val (.int y)] [(.ref x)]))
  refine Go.specP (argsL := []) (rest := []) (W := 0) (ck := 0) (sk := 0) X hx hZ hown (hml.trans rfl) hT rfl (hw _ (List.mem_of_getElem? (i := 152) rfl)) (hw _ (List.mem_of_getElem? (i := 153) rfl)) (hw _ (List.mem_of_getElem? (i := 157) rfl)) (by decide) pd_0 rfl rfl (Nat.le_of_ble_eq_true rfl) (hb hby d23_1) (backOf (W := 0) (met_num l Z a0 hw [] x _) hZ (hw _ (List.mem_of_getElem? (i := 157) rfl)) (hw _ (List.mem_of_getElem? (i := 156) rfl)) (by decide) (by decide)) (by decide) (by decide) ?_
  intro v T hq L hT hQ X
  obtain ⟨rfl, rfl, hq0⟩ := hQ
  rw [hq0] at hT
  rw [List.append_nil] at X
  show Go p e below _ (T.setTop (mkF m 4 #[.val (.ref x), .val (.int y)] []))
  refine Go.st (fun _ k => XS.aloadN X.here hx rfl (hb hby d23_4) rfl rfl k) ?_
  show Go p e below _ (T.setTop (mkF m 5 #[.val (.ref x), .val (.int y)] [(.ref x)]))
  refine Go.st (fun _ k => XS.iloadN X.here hx rfl (hb hby d23_5) rfl k) ?_
  show Go p e below _ (T.setTop (mkF m 6 #[.val (.ref x), .val (.int y)] [(.int y), (.ref x)]))
  obtain ⟨T, h1, X, hT, Wr0, st⟩ := putF X hx hZ hown (host := "") (Or.inl (hw _ (List.mem_of_getElem? (i := 145) rfl))) Via.refl hT F_x_value A_x (Or.inr ⟨(hw _ (List.mem_of_getElem? (i := 146) rfl)), rfl, hnm⟩) (hw _ (List.mem_of_getElem? (i := 148) rfl)) (ty := .int) (by decide) rfl rfl (g := (mkF m 6 #[.val (.ref x), .val (.int y)] [(.int y), (.ref x)])) rfl rfl (hb hby d23_6)
  refine Go.st st ?_
  have N := Fr.snoc X N ge_x
  have A_x := A_x.wr Wr0
  have F_x_value := F_x_value.same Wr0
  have KB := (Keep.refl h0 [x]).wr Wr0 (Or.inl (List.mem_of_getElem? (i := 0) rfl))
  show Go p e below _ (T.setTop (mkF m 9 #[.val (.ref x), .val (.int y)] []))
  refine Go.retV X hx hlk hT hret (hb hby d23_9) (by decide) (by decide) ?_
  exact ⟨rfl, N, KB, A_x, F_x_value⟩
theorem pd_1 : parseMethodDescriptor "(I)V" = some ⟨[.int], none⟩ := by decide +kernel
def QIn (Z : State) (y : Int32) (n0 : Nat) (h0 : Heap) (v : Option Value) (h : Heap) (L : List Loc) : Prop := ∃ x, v = some (.ref x) ∧ Fr n0 L ∧ Ext h0 h ∧ Exa Z h x "java/lang/Integer" ∧ Fld Z h x "java/lang/Integer" "value" "I" (.int y)
theorem d1_0 : decode jdk_33_method_22_code 0 = .ok (.iload_n 0, 1) := by decide +kernel
theorem d1_1 : decode jdk_33_method_22_code 1 = .ok (.bipush (-128), 2) := by decide +kernel
theorem d1_3 : decode jdk_33_method_22_code 3 = .ok (.if_icmp .lt 20, 3) := by decide +kernel
theorem d1_6 : decode jdk_33_method_22_code 6 = .ok (.iload_n 0, 1) := by decide +kernel
theorem d1_7 : decode jdk_33_method_22_code 7 = .ok (.getstatic 191, 3) := by decide +kernel
theorem d1_10 : decode jdk_33_method_22_code 10 = .ok (.if_icmp .gt 13, 3) := by decide +kernel
theorem d1_13 : decode jdk_33_method_22_code 13 = .ok (.getstatic 195, 3) := by decide +kernel
theorem d1_16 : decode jdk_33_method_22_code 16 = .ok (.iload_n 0, 1) := by decide +kernel
theorem d1_17 : decode jdk_33_method_22_code 17 = .ok (.sipush 128, 3) := by decide +kernel
theorem d1_20 : decode jdk_33_method_22_code 20 = .ok (.iadd, 1) := by decide +kernel
theorem d1_21 : decode jdk_33_method_22_code 21 = .ok (.aaload, 1) := by decide +kernel
theorem d1_22 : decode jdk_33_method_22_code 22 = .ok (.areturn, 1) := by decide +kernel
theorem d1_23 : decode jdk_33_method_22_code 23 = .ok (.new 1, 3) := by decide +kernel
theorem d1_26 : decode jdk_33_method_22_code 26 = .ok (.dup, 1) := by decide +kernel
theorem d1_27 : decode jdk_33_method_22_code 27 = .ok (.iload_n 0, 1) := by decide +kernel
theorem d1_28 : decode jdk_33_method_22_code 28 = .ok (.invokespecial 199, 3) := by decide +kernel
theorem d1_31 : decode jdk_33_method_22_code 31 = .ok (.areturn, 1) := by decide +kernel
theorem pn_4 : plainFor (⟨"java/lang/Integer", "valueOf", "(I)Ljava/lang/Integer;"⟩ : MethodName) = true := by first | exact plainFor_of_name (by first | (simp [plainName, overriddenIn]; done) | decide +kernel) | decide +kernel
theorem ef_I_1 (m : MethodId) (y0 : Int32) : entryFrame m #[(.int y0)] 1 = mkF m 0 #[.val (.int y0)] [] := by first | (simp [entryFrame, mkF, argsToLocals, Value.category]; done) | rfl
set_option maxRecDepth 65536 in
set_option maxHeartbeats 40000000 in
theorem met_vi (l : Launch) (Z : State) (a0 : Array Value) (hw : ∀ d ∈ tables_1, d.before a0 Z = true) (ws : List Jvm.Cond) (n0 : Nat) (y : Int32) {av : Addr} {cl : Cell} (h0 : Heap) (O : Old Z n0 h0) (Cc : Cch Z av cl) :
    MetFree l (⟨"java/lang/Integer", "valueOf", "(I)Ljava/lang/Integer;"⟩ : MethodName) (head1 (Jvm.Cond.code (⟨"java/lang/Integer", "valueOf", "(I)Ljava/lang/Integer;"⟩ : MethodName) jdk_33_method_22_code 1 (some (.object "java/lang/Integer")) :: ws) ({ frames := 3, cells := 1, slots := 1, locals := 38 } : Room)) (fun aa U => aa = #[(.int y)] ∧ Z.Warmed39 U.vm ∧ U.heap = h0) (fun _ _ _ _ _ => True) (fun _ U o U' => ∃ v L, o = .returned v ∧ QIn Z y n0 h0 v U'.heap L ∧ FrameEnd U o U' L ({ frames := 3, cells := 1, slots := 1, locals := 38 } : Room).cells ({ frames := 3, cells := 1, slots := 1, locals := 38 } : Room).slots) := by
  refine openP (y := (⟨"java/lang/Integer", "valueOf", "(I)Ljava/lang/Integer;"⟩ : MethodName)) pn_4 ?_
  intro p e s m below meth c T hx hby hml hret hlk hnm hZ hown X hT 
  refine Go.st (fun _ k => castTop (ef_I_1 m y) k) ?_
  show Go p e below _ (T.setTop (mkF m 0 #[.val (.int y)] []))
  have N := Fr.nil n0
  have K0b : Keep h0 h0 [] := Keep.refl _ _
  obtain ⟨Sh, Sa, Cb⟩ := Cc
  refine Go.st (fun _ k => XS.iloadN X.here hx rfl (hb hby d1_0) rfl k) ?_
  show Go p e below _ (T.setTop (mkF m 1 #[.val (.int y)] [(.int y)]))
  refine Go.st (fun _ k => XS.bipush X.here hx rfl (hb hby d1_1) k) ?_
  show Go p e below _ (T.setTop (mkF m 3 #[.val (.int y)] [(.int (-128 : Int32)), (.int y)]))
  by_cases h1 : y < (-128 : Int32)
  · refine Go.st (fun _ k => XS.icmpYes X.here hx rfl (pc0 := 3) (pc' := 23) rfl (hb hby d1_3) rfl (Jvm.Free.XT.ii_lt_t h1) (by decide) (by decide) k) ?_
    show Go p e below _ (T.setTop (mkF m 23 #[.val (.int y)] []))
    obtain ⟨T, h1, X, hT, Ex0, A_x, D_x, -, st⟩ := newO X hx hZ hown (hw _ (List.mem_of_getElem? (i := 147) rfl)) (hw _ (List.mem_of_getElem? (i := 148) rfl)) (hw _ (List.mem_of_getElem? (i := 2) rfl)) hT (g := (mkF m 23 #[.val (.int y)] [])) rfl (hb hby d1_23) (by decide) (by decide)
    obtain ⟨x, g_x⟩ : ∃ z, z = h0.size := ⟨_, rfl⟩
    rw [← g_x] at A_x D_x st
    refine Go.st st ?_
    have ge_x : n0 ≤ x := Nat.le_trans (own_le (O)) (Nat.le_of_eq g_x.symm)
    have gk_x : h0.size ≤ x := Nat.le_trans (Keep.refl h0 []).1 (Nat.le_of_eq g_x.symm)
    have KB := (Keep.refl h0 []).ext Ex0
    have F_x_value := D_x (Or.inr (hw _ (List.mem_of_getElem? (i := 146) rfl))) (ty := .int) (by decide)
    show Go p e below _ (T.setTop (mkF m 26 #[.val (.int y)] [(.ref x)]))
    refine Go.st (fun _ k => XS.dup X.here hx rfl (hb hby d1_26) rfl rfl k) ?_
    show Go p e below _ (T.setTop (mkF m 27 #[.val (.int y)] [(.ref x), (.ref x)]))
    refine Go.st (fun _ k => XS.iloadN X.here hx rfl (hb hby d1_27) rfl k) ?_
    show Go p e below _ (T.setTop (mkF m 28 #[.val (.int y)] [(.int y), (.ref x), (.ref x)]))
    refine Go.specP (argsL := [(.int y)]) (rest := [(.ref x)]) (W := 1) (ck := 0) (sk := 0) X hx hZ hown (hml.trans rfl) hT rfl (hw _ (List.mem_of_getElem? (i := 149) rfl)) (hw _ (List.mem_of_getElem? (i := 150) rfl)) (hw _ (List.mem_of_getElem? (i := 151) rfl)) (by decide) pd_1 rfl rfl (Nat.le_of_ble_eq_true rfl) (hb hby d1_28) (backOf (W := 1) (met_ii l Z a0 hw [] n0 x y h1 ge_x A_x F_x_value) hZ (hw _ (List.mem_of_getElem? (i := 151) rfl)) (hw _ (List.mem_of_getElem? (i := 2) rfl)) (by decide) (by decide)) (by decide) (by decide) ?_
    intro v T h2 L hT hQ X
    obtain ⟨rfl, N0, K0, A_x, F_x⟩ := hQ
    have N := Fr.app N N0
    have KB := (KB).trans K0 (allS (Or.inr gk_x) all0)
    have O := O.keep KB all0
    have K0b := K0b.trans KB (fun _ q => nomatch q)
    show Go p e below _ (T.setTop (mkF m 31 #[.val (.int y)] [(.ref x)]))
    refine Go.ret X hx hlk hT hret rfl (riA rfl rfl) (hb hby d1_31) (by decide) (by decide) ?_
    exact ⟨x, rfl, N, keepE K0b, A_x, F_x⟩
  · refine Go.st (fun _ k => XS.icmpNo X.here hx rfl (hb hby d1_3) rfl (Jvm.Free.XT.ii_lt_f h1) k) ?_
    show Go p e below _ (T.setTop (mkF m 6 #[.val (.int y)] []))
    refine Go.st (fun _ k => XS.iloadN X.here hx rfl (hb hby d1_6) rfl k) ?_
    show Go p e below _ (T.setTop (mkF m 7 #[.val (.int y)] [(.int y)]))
    obtain ⟨T, X, hT, st⟩ := getS2 X hx hZ hown (host := "") (Or.inl (hw _ (List.mem_of_getElem? (i := 4) rfl))) Via.refl hT (Sh.ext O.2) (g := (mkF m 7 #[.val (.int y)] [(.int y)])) rfl (hb hby d1_7)
    refine Go.st st ?_
    show Go p e below _ (T.setTop (mkF m 10 #[.val (.int y)] [(.int (127 : Int32)), (.int y)]))
    by_cases h2 : (127 : Int32) < y
    · refine Go.st (fun _ k => XS.icmpYes X.here hx rfl (pc0 := 10) (pc' := 23) rfl (hb hby d1_10) rfl (Jvm.Free.XT.ii_gt_t h2) (by decide) (by decide) k) ?_
      show Go p e below _ (T.setTop (mkF m 23 #[.val (.int y)] []))
      obtain ⟨T, h3, X, hT, Ex0, A_x, D_x, -, st⟩ := newO X hx hZ hown (hw _ (List.mem_of_getElem? (i := 147) rfl)) (hw _ (List.mem_of_getElem? (i := 148) rfl)) (hw _ (List.mem_of_getElem? (i := 2) rfl)) hT (g := (mkF m 23 #[.val (.int y)] [])) rfl (hb hby d1_23) (by decide) (by decide)
      obtain ⟨x, g_x⟩ : ∃ z, z = h0.size := ⟨_, rfl⟩
      rw [← g_x] at A_x D_x st
      refine Go.st st ?_
      have ge_x : n0 ≤ x := Nat.le_trans (own_le (O)) (Nat.le_of_eq g_x.symm)
      have gk_x : h0.size ≤ x := Nat.le_trans (Keep.refl h0 []).1 (Nat.le_of_eq g_x.symm)
      have KB := (Keep.refl h0 []).ext Ex0
      have F_x_value := D_x (Or.inr (hw _ (List.mem_of_getElem? (i := 146) rfl))) (ty := .int) (by decide)
      show Go p e below _ (T.setTop (mkF m 26 #[.val (.int y)] [(.ref x)]))
      refine Go.st (fun _ k => XS.dup X.here hx rfl (hb hby d1_26) rfl rfl k) ?_
      show Go p e below _ (T.setTop (mkF m 27 #[.val (.int y)] [(.ref x), (.ref x)]))
      refine Go.st (fun _ k => XS.iloadN X.here hx rfl (hb hby d1_27) rfl k) ?_
      show Go p e below _ (T.setTop (mkF m 28 #[.val (.int y)] [(.int y), (.ref x), (.ref x)]))
      refine Go.specP (argsL := [(.int y)]) (rest := [(.ref x)]) (W := 1) (ck := 0) (sk := 0) X hx hZ hown (hml.trans rfl) hT rfl (hw _ (List.mem_of_getElem? (i := 149) rfl)) (hw _ (List.mem_of_getElem? (i := 150) rfl)) (hw _ (List.mem_of_getElem? (i := 151) rfl)) (by decide) pd_1 rfl rfl (Nat.le_of_ble_eq_true rfl) (hb hby d1_28) (backOf (W := 1) (met_ii l Z a0 hw [] n0 x y h3 ge_x A_x F_x_value) hZ (hw _ (List.mem_of_getElem? (i := 151) rfl)) (hw _ (List.mem_of_getElem? (i := 2) rfl)) (by decide) (by decide)) (by decide) (by decide) ?_
      intro v T h4 L hT hQ X
      obtain ⟨rfl, N0, K0, A_x, F_x⟩ := hQ
      have N := Fr.app N N0
      have KB := (KB).trans K0 (allS (Or.inr gk_x) all0)
      have O := O.keep KB all0
      have K0b := K0b.trans KB (fun _ q => nomatch q)
      show Go p e below _ (T.setTop (mkF m 31 #[.val (.int y)] [(.ref x)]))
      refine Go.ret X hx hlk hT hret rfl (riA rfl rfl) (hb hby d1_31) (by decide) (by decide) ?_
      exact ⟨x, rfl, N, keepE K0b, A_x, F_x⟩
    · refine Go.st (fun _ k => XS.icmpNo X.here hx rfl (hb hby d1_10) rfl (Jvm.Free.XT.ii_gt_f h2) k) ?_
      show Go p e below _ (T.setTop (mkF m 13 #[.val (.int y)] []))
      obtain ⟨T, X, hT, st⟩ := getS2 X hx hZ hown (host := "") (Or.inl (hw _ (List.mem_of_getElem? (i := 6) rfl))) Via.refl hT (Sa.ext O.2) (g := (mkF m 13 #[.val (.int y)] [])) rfl (hb hby d1_13)
      refine Go.st st ?_
      show Go p e below _ (T.setTop (mkF m 16 #[.val (.int y)] [(.ref av)]))
      refine Go.st (fun _ k => XS.iloadN X.here hx rfl (hb hby d1_16) rfl k) ?_
      show Go p e below _ (T.setTop (mkF m 17 #[.val (.int y)] [(.int y), (.ref av)]))
      refine Go.st (fun _ k => XS.sipush X.here hx rfl (hb hby d1_17) k) ?_
      show Go p e below _ (T.setTop (mkF m 20 #[.val (.int y)] [(.int (128 : Int32)), (.int y), (.ref av)]))
      refine Go.st (fun _ k => XS.iadd X.here hx rfl (hb hby d1_20) rfl k) ?_
      show Go p e below _ (T.setTop (mkF m 21 #[.val (.int y)] [(.int (y + (128 : Int32))), (.ref av)]))
      have hr := own_c256 h1 h2
      obtain ⟨A_c, sz, nz⟩ := Cb.ext O.2
      have e256 : (256 : Int32).toNatClampNeg = 256 := by decide
      have hin : ¬ (y + (128 : Int32) < 0 ∨ cl.slots.size ≤ (y + (128 : Int32)).toNatClampNeg) := by rw [sz, e256]; rintro (q | q); exact hr.1 q; exact absurd hr.2 (Nat.not_lt.mpr q)
      obtain ⟨bx, hb1, E_b, F_b⟩ := Cb.2.2.2 _ hin
      refine Go.st (fun t kk => X.aaload hx (j := y + (128 : Int32)) (v := .ref bx) (by rw [hT]; exact A_c.1) (State.isArrayOf_alike hZ.alike A_c.2.1) rfl A_c.2.2 hin hb1 (g := (mkF m 21 #[.val (.int y)] [(.int (y + (128 : Int32))), (.ref av)])) rfl rfl (hb hby d1_21) t kk) ?_
      show Go p e below _ (T.setTop (mkF m 22 #[.val (.int y)] [(.ref bx)]))
      refine Go.ret X hx hlk hT hret rfl (riA rfl rfl) (hb hby d1_22) (by decide) (by decide) ?_
      exact ⟨bx, rfl, N, keepE K0b, E_b.ext O.2, by have q := F_b.ext O.2; dsimp only at q; rw [own_back] at q; exact q⟩
def QSt (Z : State) (x pa se re : Addr) (n0 : Nat) (h0 : Heap) (v : Option Value) (h : Heap) (L : List Loc) : Prop := v = none ∧ Fr n0 L ∧ Keep h0 h [x] ∧ Exa Z h x "com/example/pocket_context/pocketcontext/internal/Walk$Step" ∧ Fld Z h x "com/example/pocket_context/pocketcontext/internal/Walk$Step" "parts" "Ljava/util/List;" (.ref pa) ∧ Fld Z h x "com/example/pocket_context/pocketcontext/internal/Walk$Step" "settles" "Ljava/util/function/Predicate;" (.ref se) ∧ Fld Z h x "com/example/pocket_context/pocketcontext/internal/Walk$Step" "result" "Ljava/util/function/Function;" (.ref re)
theorem d14_0 : decode prog_52_method_2_code 0 = .ok (.aload_n 0, 1) := by decide +kernel
theorem d14_1 : decode prog_52_method_2_code 1 = .ok (.invokespecial 1, 3) := by decide +kernel
theorem d14_4 : decode prog_52_method_2_code 4 = .ok (.aload_n 0, 1) := by decide +kernel
theorem d14_5 : decode prog_52_method_2_code 5 = .ok (.aload_n 1, 1) := by decide +kernel
theorem d14_6 : decode prog_52_method_2_code 6 = .ok (.putfield 7, 3) := by decide +kernel
theorem d14_9 : decode prog_52_method_2_code 9 = .ok (.aload_n 0, 1) := by decide +kernel
theorem d14_10 : decode prog_52_method_2_code 10 = .ok (.aload_n 2, 1) := by decide +kernel
theorem d14_11 : decode prog_52_method_2_code 11 = .ok (.putfield 13, 3) := by decide +kernel
theorem d14_14 : decode prog_52_method_2_code 14 = .ok (.aload_n 0, 1) := by decide +kernel
theorem d14_15 : decode prog_52_method_2_code 15 = .ok (.aload_n 3, 1) := by decide +kernel
theorem d14_16 : decode prog_52_method_2_code 16 = .ok (.putfield 17, 3) := by decide +kernel
theorem d14_19 : decode prog_52_method_2_code 19 = .ok (.return_, 1) := by decide +kernel
theorem pn_5 : plainFor (⟨"com/example/pocket_context/pocketcontext/internal/Walk$Step", "<init>", "(Ljava/util/List;Ljava/util/function/Predicate;Ljava/util/function/Function;)V"⟩ : MethodName) = true := by first | exact plainFor_of_name (by first | (simp [plainName, overriddenIn]; done) | decide +kernel) | decide +kernel
theorem ef_AAAA_4 (m : MethodId) (y0 : Addr) (y1 : Addr) (y2 : Addr) (y3 : Addr) : entryFrame m #[(.ref y0), (.ref y1), (.ref y2), (.ref y3)] 4 = mkF m 0 #[.val (.ref y0), .val (.ref y1), .val (.ref y2), .val (.ref y3)] [] := by first | (simp [entryFrame, mkF, argsToLocals, Value.category]; done) | rfl
set_option maxRecDepth 65536 in
set_option maxHeartbeats 40000000 in
theorem met_s3 (l : Launch) (Z : State) (a0 : Array Value) (hw : ∀ d ∈ tables_1, d.before a0 Z = true) (ws : List Jvm.Cond) (n0 : Nat) (x pa se re : Addr) (h0 : Heap) (ge_x : n0 ≤ x) (A_x : Exa Z h0 x "com/example/pocket_context/pocketcontext/internal/Walk$Step") (F_x_parts : Fld Z h0 x "com/example/pocket_context/pocketcontext/internal/Walk$Step" "parts" "Ljava/util/List;" .null) (F_x_settles : Fld Z h0 x "com/example/pocket_context/pocketcontext/internal/Walk$Step" "settles" "Ljava/util/function/Predicate;" .null) (F_x_result : Fld Z h0 x "com/example/pocket_context/pocketcontext/internal/Walk$Step" "result" "Ljava/util/function/Function;" .null) :
    MetFree l (⟨"com/example/pocket_context/pocketcontext/internal/Walk$Step", "<init>", "(Ljava/util/List;Ljava/util/function/Predicate;Ljava/util/function/Function;)V"⟩ : MethodName) (head1 (Jvm.Cond.code (⟨"com/example/pocket_context/pocketcontext/internal/Walk$Step", "<init>", "(Ljava/util/List;Ljava/util/function/Predicate;Ljava/util/function/Function;)V"⟩ : MethodName) prog_52_method_2_code 4 none :: ws) ({ frames := 2, cells := 0, slots := 0, locals := 24 } : Room)) (fun aa U => aa = #[(.ref x), (.ref pa), (.ref se), (.ref re)] ∧ Z.Warmed39 U.vm ∧ U.heap = h0) (fun _ _ _ _ _ => True) (fun _ U o U' => ∃ v L, o = .returned v ∧ QSt Z x pa se re n0 h0 v U'.heap L ∧ FrameEnd U o U' L ({ frames := 2, cells := 0, slots := 0, locals := 24 } : Room).cells ({ frames := 2, cells := 0, slots := 0, locals := 24 } : Room).slots) := by
  refine openP (y := (⟨"com/example/pocket_context/pocketcontext/internal/Walk$Step", "<init>", "(Ljava/util/List;Ljava/util/function/Predicate;Ljava/util/function/Function;)V"⟩ : MethodName)) pn_5 ?_
  intro p e s m below meth c T hx hby hml hret hlk hnm hZ hown X hT 
  refine Go.st (fun _ k => castTop (ef_AAAA_4 m x pa se re) k) ?_
  show Go p e below _ (T.setTop (mkF m 0 #[.val (.ref x), .val (.ref pa), .val (.ref se), .val (.ref re)] []))
  have N := Fr.nil n0
  refine Go.st (fun _ k => XS.aloadN X.here hx rfl (hb hby d14_0) rfl rfl k) ?_
  show Go p e below _ (T.setTop (mkF m 1 #[.val (.ref x), .val (.ref pa), .val (.ref se), .val (.ref re)] [(.ref x)]))
  refine Go.specP (argsL := []) (rest := []) (W := 0) (ck := 0) (sk := 0) X hx hZ hown (hml.trans rfl) hT rfl (hw _ (List.mem_of_getElem? (i := 88) rfl)) (hw _ (List.mem_of_getElem? (i := 89) rfl)) (hw _ (List.mem_of_getElem? (i := 92) rfl)) (by decide) pd_0 rfl rfl (Nat.le_of_ble_eq_true rfl) (hb hby d14_1) (backOf (W := 0) (met_rec l Z a0 hw [] x _) hZ (hw _ (List.mem_of_getElem? (i := 92) rfl)) (hw _ (List.mem_of_getElem? (i := 91) rfl)) (by decide) (by decide)) (by decide) (by decide) ?_
  intro v T hq L hT hQ X
  obtain ⟨rfl, rfl, hq0⟩ := hQ
  rw [hq0] at hT
  rw [List.append_nil] at X
  show Go p e below _ (T.setTop (mkF m 4 #[.val (.ref x), .val (.ref pa), .val (.ref se), .val (.ref re)] []))
  refine Go.st (fun _ k => XS.aloadN X.here hx rfl (hb hby d14_4) rfl rfl k) ?_
  show Go p e below _ (T.setTop (mkF m 5 #[.val (.ref x), .val (.ref pa), .val (.ref se), .val (.ref re)] [(.ref x)]))
  refine Go.st (fun _ k => XS.aloadN X.here hx rfl (hb hby d14_5) rfl rfl k) ?_
  show Go p e below _ (T.setTop (mkF m 6 #[.val (.ref x), .val (.ref pa), .val (.ref se), .val (.ref re)] [(.ref pa), (.ref x)]))
  obtain ⟨T, h1, X, hT, Wr0, st⟩ := putF X hx hZ hown (host := "") (Or.inl (hw _ (List.mem_of_getElem? (i := 94) rfl))) Via.refl hT F_x_parts A_x (Or.inr ⟨(hw _ (List.mem_of_getElem? (i := 95) rfl)), rfl, hnm⟩) (hw _ (List.mem_of_getElem? (i := 69) rfl)) (ty := (.object "java/util/List")) (by decide) rfl rfl (g := (mkF m 6 #[.val (.ref x), .val (.ref pa), .val (.ref se), .val (.ref re)] [(.ref pa), (.ref x)])) rfl rfl (hb hby d14_6)
  refine Go.st st ?_
  have N := Fr.snoc X N ge_x
  have A_x := A_x.wr Wr0
  have F_x_parts := F_x_parts.same Wr0
  have F_x_settles := F_x_settles.other Wr0 (Or.inr (slot_ne (C := "com/example/pocket_context/pocketcontext/internal/Walk$Step") (Or.inr (hw _ (List.mem_of_getElem? (i := 97) rfl))) (Or.inr (hw _ (List.mem_of_getElem? (i := 95) rfl))) (by decide) (t := (.object "java/util/function/Predicate")) (by decide) (t' := (.object "java/util/List")) (by decide)))
  have F_x_result := F_x_result.other Wr0 (Or.inr (slot_ne (C := "com/example/pocket_context/pocketcontext/internal/Walk$Step") (Or.inr (hw _ (List.mem_of_getElem? (i := 99) rfl))) (Or.inr (hw _ (List.mem_of_getElem? (i := 95) rfl))) (by decide) (t := (.object "java/util/function/Function")) (by decide) (t' := (.object "java/util/List")) (by decide)))
  have KB := (Keep.refl h0 [x]).wr Wr0 (Or.inl (List.mem_of_getElem? (i := 0) rfl))
  show Go p e below _ (T.setTop (mkF m 9 #[.val (.ref x), .val (.ref pa), .val (.ref se), .val (.ref re)] []))
  refine Go.st (fun _ k => XS.aloadN X.here hx rfl (hb hby d14_9) rfl rfl k) ?_
  show Go p e below _ (T.setTop (mkF m 10 #[.val (.ref x), .val (.ref pa), .val (.ref se), .val (.ref re)] [(.ref x)]))
  refine Go.st (fun _ k => XS.aloadN X.here hx rfl (hb hby d14_10) rfl rfl k) ?_
  show Go p e below _ (T.setTop (mkF m 11 #[.val (.ref x), .val (.ref pa), .val (.ref se), .val (.ref re)] [(.ref se), (.ref x)]))
  obtain ⟨T, h2, X, hT, Wr0, st⟩ := putF X hx hZ hown (host := "") (Or.inl (hw _ (List.mem_of_getElem? (i := 96) rfl))) Via.refl hT F_x_settles A_x (Or.inr ⟨(hw _ (List.mem_of_getElem? (i := 97) rfl)), rfl, hnm⟩) (hw _ (List.mem_of_getElem? (i := 69) rfl)) (ty := (.object "java/util/function/Predicate")) (by decide) rfl rfl (g := (mkF m 11 #[.val (.ref x), .val (.ref pa), .val (.ref se), .val (.ref re)] [(.ref se), (.ref x)])) rfl rfl (hb hby d14_11)
  refine Go.st st ?_
  have N := Fr.snoc X N ge_x
  have A_x := A_x.wr Wr0
  have F_x_parts := F_x_parts.other Wr0 (Or.inr (slot_ne (C := "com/example/pocket_context/pocketcontext/internal/Walk$Step") (Or.inr (hw _ (List.mem_of_getElem? (i := 95) rfl))) (Or.inr (hw _ (List.mem_of_getElem? (i := 97) rfl))) (by decide) (t := (.object "java/util/List")) (by decide) (t' := (.object "java/util/function/Predicate")) (by decide)))
  have F_x_settles := F_x_settles.same Wr0
  have F_x_result := F_x_result.other Wr0 (Or.inr (slot_ne (C := "com/example/pocket_context/pocketcontext/internal/Walk$Step") (Or.inr (hw _ (List.mem_of_getElem? (i := 99) rfl))) (Or.inr (hw _ (List.mem_of_getElem? (i := 97) rfl))) (by decide) (t := (.object "java/util/function/Function")) (by decide) (t' := (.object "java/util/function/Predicate")) (by decide)))
  have KB := (KB).wr Wr0 (Or.inl (List.mem_of_getElem? (i := 0) rfl))
  show Go p e below _ (T.setTop (mkF m 14 #[.val (.ref x), .val (.ref pa), .val (.ref se), .val (.ref re)] []))
  refine Go.st (fun _ k => XS.aloadN X.here hx rfl (hb hby d14_14) rfl rfl k) ?_
  show Go p e below _ (T.setTop (mkF m 15 #[.val (.ref x), .val (.ref pa), .val (.ref se), .val (.ref re)] [(.ref x)]))
  refine Go.st (fun _ k => XS.aloadN X.here hx rfl (hb hby d14_15) rfl rfl k) ?_
  show Go p e below _ (T.setTop (mkF m 16 #[.val (.ref x), .val (.ref pa), .val (.ref se), .val (.ref re)] [(.ref re), (.ref x)]))
  obtain ⟨T, h3, X, hT, Wr0, st⟩ := putF X hx hZ hown (host := "") (Or.inl (hw _ (List.mem_of_getElem? (i := 98) rfl))) Via.refl hT F_x_result A_x (Or.inr ⟨(hw _ (List.mem_of_getElem? (i := 99) rfl)), rfl, hnm⟩) (hw _ (List.mem_of_getElem? (i := 69) rfl)) (ty := (.object "java/util/function/Function")) (by decide) rfl rfl (g := (mkF m 16 #[.val (.ref x), .val (.ref pa), .val (.ref se), .val (.ref re)] [(.ref re), (.ref x)])) rfl rfl (hb hby d14_16)
  refine Go.st st ?_
  have N := Fr.snoc X N ge_x
  have A_x := A_x.wr Wr0
  have F_x_parts := F_x_parts.other Wr0 (Or.inr (slot_ne (C := "com/example/pocket_context/pocketcontext/internal/Walk$Step") (Or.inr (hw _ (List.mem_of_getElem? (i := 95) rfl))) (Or.inr (hw _ (List.mem_of_getElem? (i := 99) rfl))) (by decide) (t := (.object "java/util/List")) (by decide) (t' := (.object "java/util/function/Function")) (by decide)))
  have F_x_settles := F_x_settles.other Wr0 (Or.inr (slot_ne (C := "com/example/pocket_context/pocketcontext/internal/Walk$Step") (Or.inr (hw _ (List.mem_of_getElem? (i := 97) rfl))) (Or.inr (hw _ (List.mem_of_getElem? (i := 99) rfl))) (by decide) (t := (.object "java/util/function/Predicate")) (by decide) (t' := (.object "java/util/function/Function")) (by decide)))
  have F_x_result := F_x_result.same Wr0
  have KB := (KB).wr Wr0 (Or.inl (List.mem_of_getElem? (i := 0) rfl))
  show Go p e below _ (T.setTop (mkF m 19 #[.val (.ref x), .val (.ref pa), .val (.ref se), .val (.ref re)] []))
  refine Go.retV X hx hlk hT hret (hb hby d14_19) (by decide) (by decide) ?_
  exact ⟨rfl, N, KB, A_x, F_x_parts, F_x_settles, F_x_result⟩
theorem d16_0 : decode prog_52_method_7_code 0 = .ok (.aload_n 0, 1) := by decide +kernel
theorem d16_1 : decode prog_52_method_7_code 1 = .ok (.getfield 7, 3) := by decide +kernel
theorem d16_4 : decode prog_52_method_7_code 4 = .ok (.areturn, 1) := by decide +kernel
theorem pn_6 : plainFor (⟨"com/example/pocket_context/pocketcontext/internal/Walk$Step", "parts", "()Ljava/util/List;"⟩ : MethodName) = true := by first | exact plainFor_of_name (by first | (simp [plainName, overriddenIn]; done) | decide +kernel) | decide +kernel
set_option maxRecDepth 65536 in
set_option maxHeartbeats 40000000 in
theorem met_g_parts (l : Launch) (Z : State) (a0 : Array Value) (hw : ∀ d ∈ tables_1, d.before a0 Z = true) (ws : List Jvm.Cond) (x va : Addr) (h0 : Heap) (F_x : Fld Z h0 x "com/example/pocket_context/pocketcontext/internal/Walk$Step" "parts" "Ljava/util/List;" (.ref va)) :
    MetFree l (⟨"com/example/pocket_context/pocketcontext/internal/Walk$Step", "parts", "()Ljava/util/List;"⟩ : MethodName) (head1 (Jvm.Cond.code (⟨"com/example/pocket_context/pocketcontext/internal/Walk$Step", "parts", "()Ljava/util/List;"⟩ : MethodName) prog_52_method_7_code 1 (some (.object "java/util/List")) :: ws) ({ frames := 0, cells := 0, slots := 0, locals := 0 } : Room)) (fun aa U => aa = #[(.ref x)] ∧ Z.Warmed39 U.vm ∧ U.heap = h0) (fun _ _ _ _ _ => True) (fun _ U o U' => ∃ v L, o = .returned v ∧ QV (.ref va) h0 v U'.heap L ∧ FrameEnd U o U' L ({ frames := 0, cells := 0, slots := 0, locals := 0 } : Room).cells ({ frames := 0, cells := 0, slots := 0, locals := 0 } : Room).slots) := by
  refine openP (y := (⟨"com/example/pocket_context/pocketcontext/internal/Walk$Step", "parts", "()Ljava/util/List;"⟩ : MethodName)) pn_6 ?_
  intro p e s m below meth c T hx hby hml hret hlk hnm hZ hown X hT 
  refine Go.st (fun _ k => castTop (ef_A_1 m x) k) ?_
  show Go p e below _ (T.setTop (mkF m 0 #[.val (.ref x)] []))
  refine Go.st (fun _ k => XS.aloadN X.here hx rfl (hb hby d16_0) rfl rfl k) ?_
  show Go p e below _ (T.setTop (mkF m 1 #[.val (.ref x)] [(.ref x)]))
  obtain ⟨T, X, hT, st⟩ := getF X hx hZ hown (host := "") (Or.inl (hw _ (List.mem_of_getElem? (i := 94) rfl))) Via.refl hT F_x (g := (mkF m 1 #[.val (.ref x)] [(.ref x)])) rfl rfl (hb hby d16_1)
  refine Go.st st ?_
  show Go p e below _ (T.setTop (mkF m 4 #[.val (.ref x)] [(.ref va)]))
  refine Go.ret X hx hlk hT hret rfl (riA rfl rfl) (hb hby d16_4) (by decide) (by decide) ?_
  exact ⟨rfl, rfl, rfl⟩
theorem d18_0 : decode prog_52_method_8_code 0 = .ok (.aload_n 0, 1) := by decide +kernel
theorem d18_1 : decode prog_52_method_8_code 1 = .ok (.getfield 13, 3) := by decide +kernel
theorem d18_4 : decode prog_52_method_8_code 4 = .ok (.areturn, 1) := by decide +kernel
theorem pn_7 : plainFor (⟨"com/example/pocket_context/pocketcontext/internal/Walk$Step", "settles", "()Ljava/util/function/Predicate;"⟩ : MethodName) = true := by first | exact plainFor_of_name (by first | (simp [plainName, overriddenIn]; done) | decide +kernel) | decide +kernel
set_option maxRecDepth 65536 in
set_option maxHeartbeats 40000000 in
theorem met_g_settles (l : Launch) (Z : State) (a0 : Array Value) (hw : ∀ d ∈ tables_1, d.before a0 Z = true) (ws : List Jvm.Cond) (x va : Addr) (h0 : Heap) (F_x : Fld Z h0 x "com/example/pocket_context/pocketcontext/internal/Walk$Step" "settles" "Ljava/util/function/Predicate;" (.ref va)) :
    MetFree l (⟨"com/example/pocket_context/pocketcontext/internal/Walk$Step", "settles", "()Ljava/util/function/Predicate;"⟩ : MethodName) (head1 (Jvm.Cond.code (⟨"com/example/pocket_context/pocketcontext/internal/Walk$Step", "settles", "()Ljava/util/function/Predicate;"⟩ : MethodName) prog_52_method_8_code 1 (some (.object "java/util/function/Predicate")) :: ws) ({ frames := 0, cells := 0, slots := 0, locals := 0 } : Room)) (fun aa U => aa = #[(.ref x)] ∧ Z.Warmed39 U.vm ∧ U.heap = h0) (fun _ _ _ _ _ => True) (fun _ U o U' => ∃ v L, o = .returned v ∧ QV (.ref va) h0 v U'.heap L ∧ FrameEnd U o U' L ({ frames := 0, cells := 0, slots := 0, locals := 0 } : Room).cells ({ frames := 0, cells := 0, slots := 0, locals := 0 } : Room).slots) := by
  refine openP (y := (⟨"com/example/pocket_context/pocketcontext/internal/Walk$Step", "settles", "()Ljava/util/function/Predicate;"⟩ : MethodName)) pn_7 ?_
  intro p e s m below meth c T hx hby hml hret hlk hnm hZ hown X hT 
  refine Go.st (fun _ k => castTop (ef_A_1 m x) k) ?_
  show Go p e below _ (T.setTop (mkF m 0 #[.val (.ref x)] []))
  refine Go.st (fun _ k => XS.aloadN X.here hx rfl (hb hby d18_0) rfl rfl k) ?_
  show Go p e below _ (T.setTop (mkF m 1 #[.val (.ref x)] [(.ref x)]))
  obtain ⟨T, X, hT, st⟩ := getF X hx hZ hown (host := "") (Or.inl (hw _ (List.mem_of_getElem? (i := 96) rfl))) Via.refl hT F_x (g := (mkF m 1 #[.val (.ref x)] [(.ref x)])) rfl rfl (hb hby d18_1)
  refine Go.st st ?_
  show Go p e below _ (T.setTop (mkF m 4 #[.val (.ref x)] [(.ref va)]))
  refine Go.ret X hx hlk hT hret rfl (riA rfl rfl) (hb hby d18_4) (by decide) (by decide) ?_
  exact ⟨rfl, rfl, rfl⟩
theorem d20_0 : decode prog_52_method_9_code 0 = .ok (.aload_n 0, 1) := by decide +kernel
theorem d20_1 : decode prog_52_method_9_code 1 = .ok (.getfield 17, 3) := by decide +kernel
theorem d20_4 : decode prog_52_method_9_code 4 = .ok (.areturn, 1) := by decide +kernel
theorem pn_8 : plainFor (⟨"com/example/pocket_context/pocketcontext/internal/Walk$Step", "result", "()Ljava/util/function/Function;"⟩ : MethodName) = true := by first | exact plainFor_of_name (by first | (simp [plainName, overriddenIn]; done) | decide +kernel) | decide +kernel
set_option maxRecDepth 65536 in
set_option maxHeartbeats 40000000 in
theorem met_g_result (l : Launch) (Z : State) (a0 : Array Value) (hw : ∀ d ∈ tables_1, d.before a0 Z = true) (ws : List Jvm.Cond) (x va : Addr) (h0 : Heap) (F_x : Fld Z h0 x "com/example/pocket_context/pocketcontext/internal/Walk$Step" "result" "Ljava/util/function/Function;" (.ref va)) :
    MetFree l (⟨"com/example/pocket_context/pocketcontext/internal/Walk$Step", "result", "()Ljava/util/function/Function;"⟩ : MethodName) (head1 (Jvm.Cond.code (⟨"com/example/pocket_context/pocketcontext/internal/Walk$Step", "result", "()Ljava/util/function/Function;"⟩ : MethodName) prog_52_method_9_code 1 (some (.object "java/util/function/Function")) :: ws) ({ frames := 0, cells := 0, slots := 0, locals := 0 } : Room)) (fun aa U => aa = #[(.ref x)] ∧ Z.Warmed39 U.vm ∧ U.heap = h0) (fun _ _ _ _ _ => True) (fun _ U o U' => ∃ v L, o = .returned v ∧ QV (.ref va) h0 v U'.heap L ∧ FrameEnd U o U' L ({ frames := 0, cells := 0, slots := 0, locals := 0 } : Room).cells ({ frames := 0, cells := 0, slots := 0, locals := 0 } : Room).slots) := by
  refine openP (y := (⟨"com/example/pocket_context/pocketcontext/internal/Walk$Step", "result", "()Ljava/util/function/Function;"⟩ : MethodName)) pn_8 ?_
  intro p e s m below meth c T hx hby hml hret hlk hnm hZ hown X hT 
  refine Go.st (fun _ k => castTop (ef_A_1 m x) k) ?_
  show Go p e below _ (T.setTop (mkF m 0 #[.val (.ref x)] []))
  refine Go.st (fun _ k => XS.aloadN X.here hx rfl (hb hby d20_0) rfl rfl k) ?_
  show Go p e below _ (T.setTop (mkF m 1 #[.val (.ref x)] [(.ref x)]))
  obtain ⟨T, X, hT, st⟩ := getF X hx hZ hown (host := "") (Or.inl (hw _ (List.mem_of_getElem? (i := 98) rfl))) Via.refl hT F_x (g := (mkF m 1 #[.val (.ref x)] [(.ref x)])) rfl rfl (hb hby d20_1)
  refine Go.st st ?_
  show Go p e below _ (T.setTop (mkF m 4 #[.val (.ref x)] [(.ref va)]))
  refine Go.ret X hx hlk hT hret rfl (riA rfl rfl) (hb hby d20_4) (by decide) (by decide) ?_
  exact ⟨rfl, rfl, rfl⟩
theorem d22_0 : decode jdk_33_method_27_code 0 = .ok (.aload_n 0, 1) := by decide +kernel
theorem d22_1 : decode jdk_33_method_27_code 1 = .ok (.getfield 205, 3) := by decide +kernel
theorem d22_4 : decode jdk_33_method_27_code 4 = .ok (.ireturn, 1) := by decide +kernel
theorem pn_9 : plainFor (⟨"java/lang/Integer", "intValue", "()I"⟩ : MethodName) = true := by first | exact plainFor_of_name (by first | (simp [plainName, overriddenIn]; done) | decide +kernel) | decide +kernel
set_option maxRecDepth 65536 in
set_option maxHeartbeats 40000000 in
theorem met_iv (l : Launch) (Z : State) (a0 : Array Value) (hw : ∀ d ∈ tables_1, d.before a0 Z = true) (ws : List Jvm.Cond) (x : Addr) (y : Int32) (h0 : Heap) (F_x : Fld Z h0 x "java/lang/Integer" "value" "I" (.int y)) :
    MetFree l (⟨"java/lang/Integer", "intValue", "()I"⟩ : MethodName) (head1 (Jvm.Cond.code (⟨"java/lang/Integer", "intValue", "()I"⟩ : MethodName) jdk_33_method_27_code 1 (some .int) :: ws) ({ frames := 0, cells := 0, slots := 0, locals := 0 } : Room)) (fun aa U => aa = #[(.ref x)] ∧ Z.Warmed39 U.vm ∧ U.heap = h0) (fun _ _ _ _ _ => True) (fun _ U o U' => ∃ v L, o = .returned v ∧ QV (.int y) h0 v U'.heap L ∧ FrameEnd U o U' L ({ frames := 0, cells := 0, slots := 0, locals := 0 } : Room).cells ({ frames := 0, cells := 0, slots := 0, locals := 0 } : Room).slots) := by
  refine openP (y := (⟨"java/lang/Integer", "intValue", "()I"⟩ : MethodName)) pn_9 ?_
  intro p e s m below meth c T hx hby hml hret hlk hnm hZ hown X hT 
  refine Go.st (fun _ k => castTop (ef_A_1 m x) k) ?_
  show Go p e below _ (T.setTop (mkF m 0 #[.val (.ref x)] []))
  refine Go.st (fun _ k => XS.aloadN X.here hx rfl (hb hby d22_0) rfl rfl k) ?_
  show Go p e below _ (T.setTop (mkF m 1 #[.val (.ref x)] [(.ref x)]))
  obtain ⟨T, X, hT, st⟩ := getF X hx hZ hown (host := "") (Or.inl (hw _ (List.mem_of_getElem? (i := 145) rfl))) Via.refl hT F_x (g := (mkF m 1 #[.val (.ref x)] [(.ref x)])) rfl rfl (hb hby d22_1)
  refine Go.st st ?_
  show Go p e below _ (T.setTop (mkF m 4 #[.val (.ref x)] [(.int y)]))
  refine Go.ret X hx hlk hT hret rfl (riI (by simp)) (hb hby d22_4) (by decide) (by decide) ?_
  exact ⟨rfl, rfl, rfl⟩
def QAl (Z : State) (x : Addr) (ed : Value) (n0 : Nat) (h0 : Heap) (v : Option Value) (h : Heap) (L : List Loc) : Prop := v = none ∧ Fr n0 L ∧ Keep h0 h [x] ∧ Exa Z h x "java/util/ArrayList" ∧ Fld Z h x "java/util/AbstractList" "modCount" "I" (.int 0) ∧ Fld Z h x "java/util/ArrayList" "elementData" "[Ljava/lang/Object;" ed ∧ Fld Z h x "java/util/ArrayList" "size" "I" (.int 0)
theorem d3_0 : decode jdk_39_method_1_code 0 = .ok (.aload_n 0, 1) := by decide +kernel
theorem d3_1 : decode jdk_39_method_1_code 1 = .ok (.invokespecial 1, 3) := by decide +kernel
theorem d3_4 : decode jdk_39_method_1_code 4 = .ok (.aload_n 0, 1) := by decide +kernel
theorem d3_5 : decode jdk_39_method_1_code 5 = .ok (.iconst 0, 1) := by decide +kernel
theorem d3_6 : decode jdk_39_method_1_code 6 = .ok (.putfield 7, 3) := by decide +kernel
theorem d3_9 : decode jdk_39_method_1_code 9 = .ok (.return_, 1) := by decide +kernel
theorem pn_10 : plainFor (⟨"java/util/AbstractList", "<init>", "()V"⟩ : MethodName) = true := by first | exact plainFor_of_name (by first | (simp [plainName, overriddenIn]; done) | decide +kernel) | decide +kernel
set_option maxRecDepth 65536 in
set_option maxHeartbeats 40000000 in
theorem met_abl (l : Launch) (Z : State) (a0 : Array Value) (hw : ∀ d ∈ tables_1, d.before a0 Z = true) (ws : List Jvm.Cond) (n0 : Nat) (x : Addr) (h0 : Heap) (ge_x : n0 ≤ x) (A_x : Exa Z h0 x "java/util/ArrayList") (F_x_modCount : Fld Z h0 x "java/util/AbstractList" "modCount" "I" (.int (0 : Int32))) (F_x_elementData : Fld Z h0 x "java/util/ArrayList" "elementData" "[Ljava/lang/Object;" .null) (F_x_size : Fld Z h0 x "java/util/ArrayList" "size" "I" (.int (0 : Int32))) :
    MetFree l (⟨"java/util/AbstractList", "<init>", "()V"⟩ : MethodName) (head1 (Jvm.Cond.code (⟨"java/util/AbstractList", "<init>", "()V"⟩ : MethodName) jdk_39_method_1_code 1 none :: ws) ({ frames := 2, cells := 0, slots := 0, locals := 24 } : Room)) (fun aa U => aa = #[(.ref x)] ∧ Z.Warmed39 U.vm ∧ U.heap = h0) (fun _ _ _ _ _ => True) (fun _ U o U' => ∃ v L, o = .returned v ∧ QAl Z x .null n0 h0 v U'.heap L ∧ FrameEnd U o U' L ({ frames := 2, cells := 0, slots := 0, locals := 24 } : Room).cells ({ frames := 2, cells := 0, slots := 0, locals := 24 } : Room).slots) := by
  refine openP (y := (⟨"java/util/AbstractList", "<init>", "()V"⟩ : MethodName)) pn_10 ?_
  intro p e s m below meth c T hx hby hml hret hlk hnm hZ hown X hT 
  refine Go.st (fun _ k => castTop (ef_A_1 m x) k) ?_
  show Go p e below _ (T.setTop (mkF m 0 #[.val (.ref x)] []))
  have N := Fr.nil n0
  refine Go.st (fun _ k => XS.aloadN X.here hx rfl (hb hby d3_0) rfl rfl k) ?_
  show Go p e below _ (T.setTop (mkF m 1 #[.val (.ref x)] [(.ref x)]))
  refine Go.specP (argsL := []) (rest := []) (W := 0) (ck := 0) (sk := 0) X hx hZ hown (hml.trans rfl) hT rfl (hw _ (List.mem_of_getElem? (i := 19) rfl)) (hw _ (List.mem_of_getElem? (i := 20) rfl)) (hw _ (List.mem_of_getElem? (i := 24) rfl)) (by decide) pd_0 rfl rfl (Nat.le_of_ble_eq_true rfl) (hb hby d3_1) (backOf (W := 0) (met_abc l Z a0 hw [] x _) hZ (hw _ (List.mem_of_getElem? (i := 24) rfl)) (hw _ (List.mem_of_getElem? (i := 23) rfl)) (by decide) (by decide)) (by decide) (by decide) ?_
  intro v T hq L hT hQ X
  obtain ⟨rfl, rfl, hq0⟩ := hQ
  rw [hq0] at hT
  rw [List.append_nil] at X
  show Go p e below _ (T.setTop (mkF m 4 #[.val (.ref x)] []))
  refine Go.st (fun _ k => XS.aloadN X.here hx rfl (hb hby d3_4) rfl rfl k) ?_
  show Go p e below _ (T.setTop (mkF m 5 #[.val (.ref x)] [(.ref x)]))
  refine Go.st (fun _ k => XS.iconst X.here hx rfl (hb hby d3_5) k) ?_
  show Go p e below _ (T.setTop (mkF m 6 #[.val (.ref x)] [(.int (0 : Int32)), (.ref x)]))
  obtain ⟨T, h1, X, hT, Wr0, st⟩ := putF X hx hZ hown (host := "") (Or.inl (hw _ (List.mem_of_getElem? (i := 28) rfl))) Via.refl hT F_x_modCount A_x (Or.inl (hw _ (List.mem_of_getElem? (i := 29) rfl))) (hw _ (List.mem_of_getElem? (i := 8) rfl)) (ty := .int) (by decide) rfl rfl (g := (mkF m 6 #[.val (.ref x)] [(.int (0 : Int32)), (.ref x)])) rfl rfl (hb hby d3_6)
  refine Go.st st ?_
  have N := Fr.snoc X N ge_x
  have A_x := A_x.wr Wr0
  have F_x_modCount := F_x_modCount.same Wr0
  have F_x_elementData := F_x_elementData.other Wr0 (Or.inr (slot_ne (C := "java/util/ArrayList") (Or.inl (hw _ (List.mem_of_getElem? (i := 32) rfl))) (Or.inl (hw _ (List.mem_of_getElem? (i := 29) rfl))) (by decide) (t := (.array (.object "java/lang/Object"))) (by decide) (t' := .int) (by decide)))
  have F_x_size := F_x_size.other Wr0 (Or.inr (slot_ne (C := "java/util/ArrayList") (Or.inl (hw _ (List.mem_of_getElem? (i := 41) rfl))) (Or.inl (hw _ (List.mem_of_getElem? (i := 29) rfl))) (by decide) (t := .int) (by decide) (t' := .int) (by decide)))
  have KB := (Keep.refl h0 [x]).wr Wr0 (Or.inl (List.mem_of_getElem? (i := 0) rfl))
  show Go p e below _ (T.setTop (mkF m 9 #[.val (.ref x)] []))
  refine Go.retV X hx hlk hT hret (hb hby d3_9) (by decide) (by decide) ?_
  exact ⟨rfl, N, KB, A_x, F_x_modCount, F_x_elementData, F_x_size⟩
theorem d2_0 : decode jdk_38_method_2_code 0 = .ok (.aload_n 0, 1) := by decide +kernel
theorem d2_1 : decode jdk_38_method_2_code 1 = .ok (.invokespecial 1, 3) := by decide +kernel
theorem d2_4 : decode jdk_38_method_2_code 4 = .ok (.aload_n 0, 1) := by decide +kernel
theorem d2_5 : decode jdk_38_method_2_code 5 = .ok (.getstatic 39, 3) := by decide +kernel
theorem d2_8 : decode jdk_38_method_2_code 8 = .ok (.putfield 9, 3) := by decide +kernel
theorem d2_11 : decode jdk_38_method_2_code 11 = .ok (.return_, 1) := by decide +kernel
theorem pn_11 : plainFor (⟨"java/util/ArrayList", "<init>", "()V"⟩ : MethodName) = true := by first | exact plainFor_of_name (by first | (simp [plainName, overriddenIn]; done) | decide +kernel) | decide +kernel
set_option maxRecDepth 65536 in
set_option maxHeartbeats 40000000 in
theorem met_ali (l : Launch) (Z : State) (a0 : Array Value) (hw : ∀ d ∈ tables_1, d.before a0 Z = true) (ws : List Jvm.Cond) (n0 : Nat) (x dv : Addr) (h0 : Heap) (O : Old Z n0 h0) (Sd : Sta Z Z.heap "java/util/ArrayList" "DEFAULTCAPACITY_EMPTY_ELEMENTDATA" "[Ljava/lang/Object;" (.ref dv)) (ge_x : n0 ≤ x) (A_x : Exa Z h0 x "java/util/ArrayList") (F_x_modCount : Fld Z h0 x "java/util/AbstractList" "modCount" "I" (.int (0 : Int32))) (F_x_elementData : Fld Z h0 x "java/util/ArrayList" "elementData" "[Ljava/lang/Object;" .null) (F_x_size : Fld Z h0 x "java/util/ArrayList" "size" "I" (.int (0 : Int32))) :
    MetFree l (⟨"java/util/ArrayList", "<init>", "()V"⟩ : MethodName) (head1 (Jvm.Cond.code (⟨"java/util/ArrayList", "<init>", "()V"⟩ : MethodName) jdk_38_method_2_code 1 none :: ws) ({ frames := 3, cells := 0, slots := 0, locals := 36 } : Room)) (fun aa U => aa = #[(.ref x)] ∧ Z.Warmed39 U.vm ∧ U.heap = h0) (fun _ _ _ _ _ => True) (fun _ U o U' => ∃ v L, o = .returned v ∧ QAl Z x (.ref dv) n0 h0 v U'.heap L ∧ FrameEnd U o U' L ({ frames := 3, cells := 0, slots := 0, locals := 36 } : Room).cells ({ frames := 3, cells := 0, slots := 0, locals := 36 } : Room).slots) := by
  refine openP (y := (⟨"java/util/ArrayList", "<init>", "()V"⟩ : MethodName)) pn_11 ?_
  intro p e s m below meth c T hx hby hml hret hlk hnm hZ hown X hT 
  refine Go.st (fun _ k => castTop (ef_A_1 m x) k) ?_
  show Go p e below _ (T.setTop (mkF m 0 #[.val (.ref x)] []))
  have N := Fr.nil n0
  refine Go.st (fun _ k => XS.aloadN X.here hx rfl (hb hby d2_0) rfl rfl k) ?_
  show Go p e below _ (T.setTop (mkF m 1 #[.val (.ref x)] [(.ref x)]))
  refine Go.specP (argsL := []) (rest := []) (W := 0) (ck := 0) (sk := 0) X hx hZ hown (hml.trans rfl) hT rfl (hw _ (List.mem_of_getElem? (i := 13) rfl)) (hw _ (List.mem_of_getElem? (i := 14) rfl)) (hw _ (List.mem_of_getElem? (i := 18) rfl)) (by decide) pd_0 rfl rfl (Nat.le_of_ble_eq_true rfl) (hb hby d2_1) (backOf (W := 0) (met_abl l Z a0 hw [] n0 x _ ge_x A_x F_x_modCount F_x_elementData F_x_size) hZ (hw _ (List.mem_of_getElem? (i := 18) rfl)) (hw _ (List.mem_of_getElem? (i := 17) rfl)) (by decide) (by decide)) (by decide) (by decide) ?_
  intro v T h1 L hT hQ X
  obtain ⟨rfl, N0, K0, A_x, F_x_modCount, F_x_elementData, F_x_size⟩ := hQ
  have N := Fr.app N N0
  have KB := (Keep.refl h0 [x]).trans K0 (allS (Or.inl (List.mem_of_getElem? (i := 0) rfl)) all0)
  show Go p e below _ (T.setTop (mkF m 4 #[.val (.ref x)] []))
  refine Go.st (fun _ k => XS.aloadN X.here hx rfl (hb hby d2_4) rfl rfl k) ?_
  show Go p e below _ (T.setTop (mkF m 5 #[.val (.ref x)] [(.ref x)]))
  obtain ⟨T, X, hT, st⟩ := getS2 X hx hZ hown (host := "") (Or.inl (hw _ (List.mem_of_getElem? (i := 30) rfl))) Via.refl hT (Sd.ext (O.keep KB (allS ge_x all0)).2) (g := (mkF m 5 #[.val (.ref x)] [(.ref x)])) rfl (hb hby d2_5)
  refine Go.st st ?_
  show Go p e below _ (T.setTop (mkF m 8 #[.val (.ref x)] [(.ref dv), (.ref x)]))
  obtain ⟨T, h2, X, hT, Wr0, st⟩ := putF X hx hZ hown (host := "") (Or.inl (hw _ (List.mem_of_getElem? (i := 31) rfl))) Via.refl hT F_x_elementData A_x (Or.inl (hw _ (List.mem_of_getElem? (i := 32) rfl))) (hw _ (List.mem_of_getElem? (i := 8) rfl)) (ty := (.array (.object "java/lang/Object"))) (by decide) rfl rfl (g := (mkF m 8 #[.val (.ref x)] [(.ref dv), (.ref x)])) rfl rfl (hb hby d2_8)
  refine Go.st st ?_
  have N := Fr.snoc X N ge_x
  have A_x := A_x.wr Wr0
  have F_x_modCount := F_x_modCount.other Wr0 (Or.inr (slot_ne (C := "java/util/ArrayList") (Or.inl (hw _ (List.mem_of_getElem? (i := 29) rfl))) (Or.inl (hw _ (List.mem_of_getElem? (i := 32) rfl))) (by decide) (t := .int) (by decide) (t' := (.array (.object "java/lang/Object"))) (by decide)))
  have F_x_elementData := F_x_elementData.same Wr0
  have F_x_size := F_x_size.other Wr0 (Or.inr (slot_ne (C := "java/util/ArrayList") (Or.inl (hw _ (List.mem_of_getElem? (i := 41) rfl))) (Or.inl (hw _ (List.mem_of_getElem? (i := 32) rfl))) (by decide) (t := .int) (by decide) (t' := (.array (.object "java/lang/Object"))) (by decide)))
  have KB := (KB).wr Wr0 (Or.inl (List.mem_of_getElem? (i := 0) rfl))
  show Go p e below _ (T.setTop (mkF m 11 #[.val (.ref x)] []))
  refine Go.retV X hx hlk hT hret (hb hby d2_11) (by decide) (by decide) ?_
  exact ⟨rfl, N, KB, A_x, F_x_modCount, F_x_elementData, F_x_size⟩
theorem own_decl {Z : State} {a0 : Array Value} {y : MethodName} {bytes : ByteArray} {maxL : Nat} {ret : Option FieldType} (wi : (Cond.instanceMethod y).before a0 Z = true) (wc : (Cond.code y bytes maxL ret).before a0 Z = true) : (Cond.declares y).before a0 Z = true := by
  obtain ⟨mk, mM, hn, hm, hst, -⟩ := Cond.instanceMethod_spec wi
  obtain ⟨m2, cM, q1, -, -, -, -, -, -, hsig⟩ := Cond.code_spec hn wc
  cases hm.symm.trans q1
  simp [Cond.before, Cond.holds, Cond.value, hn, hm, hst, hsig]
def f_max (a : Int32) (b : Int32) : Int32 := (if a < b then b else a)
theorem d10_0 : decode jdk_29_method_65_code 0 = .ok (.iload_n 0, 1) := by decide +kernel
theorem d10_1 : decode jdk_29_method_65_code 1 = .ok (.iload_n 1, 1) := by decide +kernel
theorem d10_2 : decode jdk_29_method_65_code 2 = .ok (.if_icmp .lt 7, 3) := by decide +kernel
theorem d10_5 : decode jdk_29_method_65_code 5 = .ok (.iload_n 0, 1) := by decide +kernel
theorem d10_6 : decode jdk_29_method_65_code 6 = .ok (.goto 4, 3) := by decide +kernel
theorem d10_9 : decode jdk_29_method_65_code 9 = .ok (.iload_n 1, 1) := by decide +kernel
theorem d10_10 : decode jdk_29_method_65_code 10 = .ok (.ireturn, 1) := by decide +kernel
theorem pn_12 : plainFor (⟨"java/lang/Math", "max", "(II)I"⟩ : MethodName) = true := by first | exact plainFor_of_name (by first | (simp [plainName, overriddenIn]; done) | decide +kernel) | decide +kernel
theorem ef_II_2 (m : MethodId) (y0 : Int32) (y1 : Int32) : entryFrame m #[(.int y0), (.int y1)] 2 = mkF m 0 #[.val (.int y0), .val (.int y1)] [] := by first | (simp [entryFrame, mkF, argsToLocals, Value.category]; done) | rfl
set_option maxRecDepth 65536 in
set_option maxHeartbeats 40000000 in
theorem met_max (l : Launch) (Z : State) (a0 : Array Value) (hw : ∀ d ∈ tables_1, d.before a0 Z = true) (ws : List Jvm.Cond) (a : Int32) (b : Int32) (h0 : Heap)  :
    MetFree l (⟨"java/lang/Math", "max", "(II)I"⟩ : MethodName) (head1 (Jvm.Cond.code (⟨"java/lang/Math", "max", "(II)I"⟩ : MethodName) jdk_29_method_65_code 2 (some .int) :: ws) ({ frames := 0, cells := 0, slots := 0, locals := 0 } : Room)) (fun aa U => aa = #[(.int a), (.int b)] ∧ Z.Warmed39 U.vm ∧ U.heap = h0) (fun _ _ _ _ _ => True) (fun _ U o U' => ∃ v L, o = .returned v ∧ QV (.int (f_max a b)) h0 v U'.heap L ∧ FrameEnd U o U' L ({ frames := 0, cells := 0, slots := 0, locals := 0 } : Room).cells ({ frames := 0, cells := 0, slots := 0, locals := 0 } : Room).slots) := by
  refine openP (y := (⟨"java/lang/Math", "max", "(II)I"⟩ : MethodName)) pn_12 ?_
  intro p e s m below meth c T hx hby hml hret hlk hnm hZ hown X hT 
  refine Go.st (fun _ k => castTop (ef_II_2 m a b) k) ?_
  show Go p e below _ (T.setTop (mkF m 0 #[.val (.int a), .val (.int b)] []))
  refine Go.st (fun _ k => XS.iloadN X.here hx rfl (hb hby d10_0) rfl k) ?_
  show Go p e below _ (T.setTop (mkF m 1 #[.val (.int a), .val (.int b)] [(.int a)]))
  refine Go.st (fun _ k => XS.iloadN X.here hx rfl (hb hby d10_1) rfl k) ?_
  show Go p e below _ (T.setTop (mkF m 2 #[.val (.int a), .val (.int b)] [(.int b), (.int a)]))
  by_cases hc1 : a < b
  · refine Go.st (fun _ k => XS.icmpYes X.here hx rfl (pc0 := 2) (pc' := 9) rfl (hb hby d10_2) rfl (Jvm.Free.XT.ii_lt_t hc1) (by decide) (by decide) k) ?_
    show Go p e below _ (T.setTop (mkF m 9 #[.val (.int a), .val (.int b)] []))
    refine Go.st (fun _ k => XS.iloadN X.here hx rfl (hb hby d10_9) rfl k) ?_
    show Go p e below _ (T.setTop (mkF m 10 #[.val (.int a), .val (.int b)] [(.int b)]))
    refine Go.ret X hx hlk hT hret rfl (riI (by simp)) (hb hby d10_10) (by decide) (by decide) ?_
    exact ⟨congrArg (fun z => some (Value.int z)) (by rw [f_max, if_pos hc1]), rfl, rfl⟩
  · refine Go.st (fun _ k => XS.icmpNo X.here hx rfl (hb hby d10_2) rfl (Jvm.Free.XT.ii_lt_f hc1) k) ?_
    show Go p e below _ (T.setTop (mkF m 5 #[.val (.int a), .val (.int b)] []))
    refine Go.st (fun _ k => XS.iloadN X.here hx rfl (hb hby d10_5) rfl k) ?_
    show Go p e below _ (T.setTop (mkF m 6 #[.val (.int a), .val (.int b)] [(.int a)]))
    refine Go.st (fun _ k => XS.goto X.here hx rfl (pc0 := 6) (pc' := 10) rfl (hb hby d10_6) (by decide) (by decide) k) ?_
    show Go p e below _ (T.setTop (mkF m 10 #[.val (.int a), .val (.int b)] [(.int a)]))
    refine Go.ret X hx hlk hT hret rfl (riI (by simp)) (hb hby d10_10) (by decide) (by decide) ?_
    exact ⟨congrArg (fun z => some (Value.int z)) (by rw [f_max, if_neg hc1]), rfl, rfl⟩
def QGr (Z : State) (x : Addr) (mc : Int32) (n0 : Nat) (h0 : Heap) (v : Option Value) (h : Heap) (L : List Loc) : Prop := ∃ r kr, v = some (.ref r) ∧ Fr n0 L ∧ Keep h0 h [x] ∧ h0.size ≤ r ∧ Arv Z h r kr (.object "java/lang/Object") (10 : Int32) [] .null ∧ Ovr Z kr "java/lang/Object" ∧ Exa Z h x "java/util/ArrayList" ∧ Fld Z h x "java/util/AbstractList" "modCount" "I" (.int mc) ∧ Fld Z h x "java/util/ArrayList" "elementData" "[Ljava/lang/Object;" (.ref r) ∧ Fld Z h x "java/util/ArrayList" "size" "I" (.int 0)
theorem pd_2 : parseMethodDescriptor "(II)I" = some ⟨[.int, .int], (some .int)⟩ := by decide +kernel
theorem d9_0 : decode jdk_38_method_6_code 0 = .ok (.aload_n 0, 1) := by decide +kernel
theorem d9_1 : decode jdk_38_method_6_code 1 = .ok (.getfield 9, 3) := by decide +kernel
theorem d9_4 : decode jdk_38_method_6_code 4 = .ok (.arraylength, 1) := by decide +kernel
theorem d9_5 : decode jdk_38_method_6_code 5 = .ok (.istore_n 2, 1) := by decide +kernel
theorem d9_6 : decode jdk_38_method_6_code 6 = .ok (.iload_n 2, 1) := by decide +kernel
theorem d9_7 : decode jdk_38_method_6_code 7 = .ok (.ifCond .gt 13, 3) := by decide +kernel
theorem d9_10 : decode jdk_38_method_6_code 10 = .ok (.aload_n 0, 1) := by decide +kernel
theorem d9_11 : decode jdk_38_method_6_code 11 = .ok (.getfield 9, 3) := by decide +kernel
theorem d9_14 : decode jdk_38_method_6_code 14 = .ok (.getstatic 39, 3) := by decide +kernel
theorem d9_17 : decode jdk_38_method_6_code 17 = .ok (.if_acmp .eq 28, 3) := by decide +kernel
theorem d9_45 : decode jdk_38_method_6_code 45 = .ok (.aload_n 0, 1) := by decide +kernel
theorem d9_46 : decode jdk_38_method_6_code 46 = .ok (.bipush 10, 2) := by decide +kernel
theorem d9_48 : decode jdk_38_method_6_code 48 = .ok (.iload_n 1, 1) := by decide +kernel
theorem d9_49 : decode jdk_38_method_6_code 49 = .ok (.invokestatic 79, 3) := by decide +kernel
theorem d9_52 : decode jdk_38_method_6_code 52 = .ok (.anewarray 7, 3) := by decide +kernel
theorem d9_55 : decode jdk_38_method_6_code 55 = .ok (.dup_x1, 1) := by decide +kernel
theorem d9_56 : decode jdk_38_method_6_code 56 = .ok (.putfield 9, 3) := by decide +kernel
theorem d9_59 : decode jdk_38_method_6_code 59 = .ok (.areturn, 1) := by decide +kernel
theorem pn_13 : plainFor (⟨"java/util/ArrayList", "grow", "(I)[Ljava/lang/Object;"⟩ : MethodName) = true := by first | exact plainFor_of_name (by first | (simp [plainName, overriddenIn]; done) | decide +kernel) | decide +kernel
theorem ef_AI_4 (m : MethodId) (y0 : Addr) (y1 : Int32) : entryFrame m #[(.ref y0), (.int y1)] 4 = mkF m 0 #[.val (.ref y0), .val (.int y1), .unset, .unset] [] := by first | (simp [entryFrame, mkF, argsToLocals, Value.category]; done) | rfl
set_option maxRecDepth 65536 in
set_option maxHeartbeats 40000000 in
theorem met_gri (l : Launch) (Z : State) (a0 : Array Value) (hw : ∀ d ∈ tables_1, d.before a0 Z = true) (ws : List Jvm.Cond) (n0 : Nat) (x dv : Addr) (kd : ClassId) (mc : Int32) (h0 : Heap) (O : Old Z n0 h0) (ge_x : n0 ≤ x) (Sd : Sta Z Z.heap "java/util/ArrayList" "DEFAULTCAPACITY_EMPTY_ELEMENTDATA" "[Ljava/lang/Object;" (.ref dv)) (Vd : Arv Z Z.heap dv kd (.object "java/lang/Object") (0 : Int32) [] .null) (A_x : Exa Z h0 x "java/util/ArrayList") (F_x_modCount : Fld Z h0 x "java/util/AbstractList" "modCount" "I" (.int mc)) (F_x_elementData : Fld Z h0 x "java/util/ArrayList" "elementData" "[Ljava/lang/Object;" (.ref dv)) (F_x_size : Fld Z h0 x "java/util/ArrayList" "size" "I" (.int (0 : Int32))) :
    MetFree l (⟨"java/util/ArrayList", "grow", "(I)[Ljava/lang/Object;"⟩ : MethodName) (head1 (Jvm.Cond.code (⟨"java/util/ArrayList", "grow", "(I)[Ljava/lang/Object;"⟩ : MethodName) jdk_38_method_6_code 4 (some (.array (.object "java/lang/Object"))) :: ws) ({ frames := 1, cells := 1, slots := 10, locals := 14 } : Room)) (fun aa U => aa = #[(.ref x), (.int (1 : Int32))] ∧ Z.Warmed39 U.vm ∧ U.heap = h0) (fun _ _ _ _ _ => True) (fun _ U o U' => ∃ v L, o = .returned v ∧ QGr Z x mc n0 h0 v U'.heap L ∧ FrameEnd U o U' L ({ frames := 1, cells := 1, slots := 10, locals := 14 } : Room).cells ({ frames := 1, cells := 1, slots := 10, locals := 14 } : Room).slots) := by
  refine openP (y := (⟨"java/util/ArrayList", "grow", "(I)[Ljava/lang/Object;"⟩ : MethodName)) pn_13 ?_
  intro p e s m below meth c T hx hby hml hret hlk hnm hZ hown X hT 
  refine Go.st (fun _ k => castTop (ef_AI_4 m x (1 : Int32)) k) ?_
  show Go p e below _ (T.setTop (mkF m 0 #[.val (.ref x), .val (.int (1 : Int32)), .unset, .unset] []))
  have N := Fr.nil n0
  have Vd0 := Vd.ext O.2
  refine Go.st (fun _ k => XS.aloadN X.here hx rfl (hb hby d9_0) rfl rfl k) ?_
  show Go p e below _ (T.setTop (mkF m 1 #[.val (.ref x), .val (.int (1 : Int32)), .unset, .unset] [(.ref x)]))
  obtain ⟨T, X, hT, st⟩ := getF X hx hZ hown (host := "") (Or.inl (hw _ (List.mem_of_getElem? (i := 31) rfl))) Via.refl hT F_x_elementData (g := (mkF m 1 #[.val (.ref x), .val (.int (1 : Int32)), .unset, .unset] [(.ref x)])) rfl rfl (hb hby d9_1)
  refine Go.st st ?_
  show Go p e below _ (T.setTop (mkF m 4 #[.val (.ref x), .val (.int (1 : Int32)), .unset, .unset] [(.ref dv)]))
  obtain ⟨cl0, Ar0, q0, S0, M0, H0, U0⟩ := id Vd0
  refine Go.st (fun _ k => X.arraylength hx (by rw [hT]; exact Ar0.1) (State.isArrayOf_alike hZ.alike Ar0.2.1) (g := (mkF m 4 #[.val (.ref x), .val (.int (1 : Int32)), .unset, .unset] [(.ref dv)])) rfl rfl (hb hby d9_4) _ k) ?_
  rw [len_of S0 M0]
  show Go p e below _ (T.setTop (mkF m 5 #[.val (.ref x), .val (.int (1 : Int32)), .unset, .unset] [(.int (0 : Int32))]))
  refine Go.st (fun _ k => XS.istoreN X.here hx rfl (hb hby d9_5) rfl (l' := #[.val (.ref x), .val (.int (1 : Int32)), .val (.int (0 : Int32)), .unset]) rfl k) ?_
  show Go p e below _ (T.setTop (mkF m 6 #[.val (.ref x), .val (.int (1 : Int32)), .val (.int (0 : Int32)), .unset] []))
  refine Go.st (fun _ k => XS.iloadN X.here hx rfl (hb hby d9_6) rfl k) ?_
  show Go p e below _ (T.setTop (mkF m 7 #[.val (.ref x), .val (.int (1 : Int32)), .val (.int (0 : Int32)), .unset] [(.int (0 : Int32))]))
  refine Go.st (fun _ k => XS.ifNo X.here hx rfl (hb hby d9_7) rfl (Jvm.Free.XT.i0_gt_f (by decide : ¬ ((0 : Int32) < (0 : Int32)))) k) ?_
  show Go p e below _ (T.setTop (mkF m 10 #[.val (.ref x), .val (.int (1 : Int32)), .val (.int (0 : Int32)), .unset] []))
  refine Go.st (fun _ k => XS.aloadN X.here hx rfl (hb hby d9_10) rfl rfl k) ?_
  show Go p e below _ (T.setTop (mkF m 11 #[.val (.ref x), .val (.int (1 : Int32)), .val (.int (0 : Int32)), .unset] [(.ref x)]))
  obtain ⟨T, X, hT, st⟩ := getF X hx hZ hown (host := "") (Or.inl (hw _ (List.mem_of_getElem? (i := 31) rfl))) Via.refl hT F_x_elementData (g := (mkF m 11 #[.val (.ref x), .val (.int (1 : Int32)), .val (.int (0 : Int32)), .unset] [(.ref x)])) rfl rfl (hb hby d9_11)
  refine Go.st st ?_
  show Go p e below _ (T.setTop (mkF m 14 #[.val (.ref x), .val (.int (1 : Int32)), .val (.int (0 : Int32)), .unset] [(.ref dv)]))
  obtain ⟨T, X, hT, st⟩ := getS2 X hx hZ hown (host := "") (Or.inl (hw _ (List.mem_of_getElem? (i := 30) rfl))) Via.refl hT (Sd.ext O.2) (g := (mkF m 14 #[.val (.ref x), .val (.int (1 : Int32)), .val (.int (0 : Int32)), .unset] [(.ref dv)])) rfl (hb hby d9_14)
  refine Go.st st ?_
  show Go p e below _ (T.setTop (mkF m 17 #[.val (.ref x), .val (.int (1 : Int32)), .val (.int (0 : Int32)), .unset] [(.ref dv), (.ref dv)]))
  refine Go.st (fun _ k => acmp X hx rfl (cd := .eq) rfl rfl (pc0 := 17) (pc' := 45) (same := true) rfl (hb hby d9_17) rfl (decide_eq_true rfl) (by decide) (by decide) k) ?_
  show Go p e below _ (T.setTop (mkF m 45 #[.val (.ref x), .val (.int (1 : Int32)), .val (.int (0 : Int32)), .unset] []))
  refine Go.st (fun _ k => XS.aloadN X.here hx rfl (hb hby d9_45) rfl rfl k) ?_
  show Go p e below _ (T.setTop (mkF m 46 #[.val (.ref x), .val (.int (1 : Int32)), .val (.int (0 : Int32)), .unset] [(.ref x)]))
  refine Go.st (fun _ k => XS.bipush X.here hx rfl (hb hby d9_46) k) ?_
  show Go p e below _ (T.setTop (mkF m 48 #[.val (.ref x), .val (.int (1 : Int32)), .val (.int (0 : Int32)), .unset] [(.int (10 : Int32)), (.ref x)]))
  refine Go.st (fun _ k => XS.iloadN X.here hx rfl (hb hby d9_48) rfl k) ?_
  show Go p e below _ (T.setTop (mkF m 49 #[.val (.ref x), .val (.int (1 : Int32)), .val (.int (0 : Int32)), .unset] [(.int (1 : Int32)), (.int (10 : Int32)), (.ref x)]))
  refine Go.callV (argsL := [(.int (10 : Int32)), (.int (1 : Int32))]) (rest := [(.ref x)]) (W := 1) X hx hZ hown (hml.trans rfl) hT (hw _ (List.mem_of_getElem? (i := 57) rfl)) (hw _ (List.mem_of_getElem? (i := 58) rfl)) (hw _ (List.mem_of_getElem? (i := 59) rfl)) (hw _ (List.mem_of_getElem? (i := 60) rfl)) (by decide) pd_2 rfl rfl (Nat.le_of_ble_eq_true rfl) (hb hby d9_49) (backOf (W := 1) (met_max l Z a0 hw [] (10 : Int32) (1 : Int32) _) hZ (hw _ (List.mem_of_getElem? (i := 60) rfl)) (hw _ (List.mem_of_getElem? (i := 59) rfl)) (by decide) (by decide)) (by decide) (by decide) ?_
  intro T hT X
  show Go p e below _ (T.setTop (mkF m 52 #[.val (.ref x), .val (.int (1 : Int32)), .val (.int (0 : Int32)), .unset] [(.int (f_max (10 : Int32) (1 : Int32))), (.ref x)]))
  rw [show f_max (10 : Int32) (1 : Int32) = (10 : Int32) from by decide]
  show Go p e below _ (T.setTop (mkF m 52 #[.val (.ref x), .val (.int (1 : Int32)), .val (.int (0 : Int32)), .unset] [(.int (10 : Int32)), (.ref x)]))
  obtain ⟨T, h1, k_r, X, hT, Ex0, A_r, E_r, Ov, st⟩ := newRE X hx hZ hown (hw _ (List.mem_of_getElem? (i := 61) rfl)) (hw _ (List.mem_of_getElem? (i := 62) rfl)) hT (g := (mkF m 52 #[.val (.ref x), .val (.int (1 : Int32)), .val (.int (0 : Int32)), .unset] [(.int (10 : Int32)), (.ref x)])) rfl (hb hby d9_52) rfl (by decide) (cap := 10) (by decide) (by decide) (by decide) (by decide) (ad := "[Ljava/lang/Object;") (by decide)
  obtain ⟨r, g_r⟩ : ∃ z, z = h0.size := ⟨_, rfl⟩
  rw [← g_r] at A_r E_r st
  refine Go.st st ?_
  have gk_r : h0.size ≤ r := Nat.le_of_eq g_r.symm
  have A_x := A_x.ext Ex0
  have F_x_modCount := F_x_modCount.ext Ex0
  have F_x_elementData := F_x_elementData.ext Ex0
  have F_x_size := F_x_size.ext Ex0
  have KB := (Keep.refl h0 [x]).ext Ex0
  have V_r : Arv Z _ r k_r (.object "java/lang/Object") (10 : Int32) [] .null := Arv.new A_r (by decide)
  have ne_x_r : x ≠ r := Exa.neArv A_x V_r (hw _ (List.mem_of_getElem? (i := 8) rfl))
  show Go p e below _ (T.setTop (mkF m 55 #[.val (.ref x), .val (.int (1 : Int32)), .val (.int (0 : Int32)), .unset] [(.ref r), (.ref x)]))
  refine Go.st (fun _ k => Jvm.Free.XT.dupX1 X.here hx rfl (hb hby d9_55) rfl rfl rfl k) ?_
  show Go p e below _ (T.setTop (mkF m 56 #[.val (.ref x), .val (.int (1 : Int32)), .val (.int (0 : Int32)), .unset] [(.ref r), (.ref x), (.ref r)]))
  obtain ⟨T, h2, X, hT, Wr0, st⟩ := putF X hx hZ hown (host := "") (Or.inl (hw _ (List.mem_of_getElem? (i := 31) rfl))) Via.refl hT F_x_elementData A_x (Or.inl (hw _ (List.mem_of_getElem? (i := 32) rfl))) (hw _ (List.mem_of_getElem? (i := 8) rfl)) (ty := (.array (.object "java/lang/Object"))) (by decide) rfl rfl (g := (mkF m 56 #[.val (.ref x), .val (.int (1 : Int32)), .val (.int (0 : Int32)), .unset] [(.ref r), (.ref x), (.ref r)])) rfl rfl (hb hby d9_56)
  refine Go.st st ?_
  have N := Fr.snoc X N ge_x
  have A_x := A_x.wr Wr0
  have F_x_modCount := F_x_modCount.other Wr0 (Or.inr (slot_ne (C := "java/util/ArrayList") (Or.inl (hw _ (List.mem_of_getElem? (i := 29) rfl))) (Or.inl (hw _ (List.mem_of_getElem? (i := 32) rfl))) (by decide) (t := .int) (by decide) (t' := (.array (.object "java/lang/Object"))) (by decide)))
  have F_x_elementData := F_x_elementData.same Wr0
  have F_x_size := F_x_size.other Wr0 (Or.inr (slot_ne (C := "java/util/ArrayList") (Or.inl (hw _ (List.mem_of_getElem? (i := 41) rfl))) (Or.inl (hw _ (List.mem_of_getElem? (i := 32) rfl))) (by decide) (t := .int) (by decide) (t' := (.array (.object "java/lang/Object"))) (by decide)))
  have V_r := V_r.other Wr0 ne_x_r.symm
  have KB := (KB).wr Wr0 (Or.inl (List.mem_of_getElem? (i := 0) rfl))
  show Go p e below _ (T.setTop (mkF m 59 #[.val (.ref x), .val (.int (1 : Int32)), .val (.int (0 : Int32)), .unset] [(.ref r)]))
  refine Go.ret X hx hlk hT hret rfl (riA rfl rfl) (hb hby d9_59) (by decide) (by decide) ?_
  exact ⟨r, k_r, rfl, N, KB, gk_r, V_r, Ov, A_x, F_x_modCount, F_x_elementData, F_x_size⟩
theorem pd_3 : parseMethodDescriptor "(I)[Ljava/lang/Object;" = some ⟨[.int], (some (.array (.object "java/lang/Object")))⟩ := by decide +kernel
theorem d8_0 : decode jdk_38_method_7_code 0 = .ok (.aload_n 0, 1) := by decide +kernel
theorem d8_1 : decode jdk_38_method_7_code 1 = .ok (.aload_n 0, 1) := by decide +kernel
theorem d8_2 : decode jdk_38_method_7_code 2 = .ok (.getfield 48, 3) := by decide +kernel
theorem d8_5 : decode jdk_38_method_7_code 5 = .ok (.iconst 1, 1) := by decide +kernel
theorem d8_6 : decode jdk_38_method_7_code 6 = .ok (.iadd, 1) := by decide +kernel
theorem d8_7 : decode jdk_38_method_7_code 7 = .ok (.invokevirtual 69, 3) := by decide +kernel
theorem d8_10 : decode jdk_38_method_7_code 10 = .ok (.areturn, 1) := by decide +kernel
theorem pn_14 : plainFor (⟨"java/util/ArrayList", "grow", "()[Ljava/lang/Object;"⟩ : MethodName) = true := by first | exact plainFor_of_name (by first | (simp [plainName, overriddenIn]; done) | decide +kernel) | decide +kernel
set_option maxRecDepth 65536 in
set_option maxHeartbeats 40000000 in
theorem met_gr0 (l : Launch) (Z : State) (a0 : Array Value) (hw : ∀ d ∈ tables_1, d.before a0 Z = true) (ws : List Jvm.Cond) (n0 : Nat) (x dv : Addr) (kd : ClassId) (mc : Int32) (h0 : Heap) (O : Old Z n0 h0) (ge_x : n0 ≤ x) (Sd : Sta Z Z.heap "java/util/ArrayList" "DEFAULTCAPACITY_EMPTY_ELEMENTDATA" "[Ljava/lang/Object;" (.ref dv)) (Vd : Arv Z Z.heap dv kd (.object "java/lang/Object") (0 : Int32) [] .null) (A_x : Exa Z h0 x "java/util/ArrayList") (F_x_modCount : Fld Z h0 x "java/util/AbstractList" "modCount" "I" (.int mc)) (F_x_elementData : Fld Z h0 x "java/util/ArrayList" "elementData" "[Ljava/lang/Object;" (.ref dv)) (F_x_size : Fld Z h0 x "java/util/ArrayList" "size" "I" (.int (0 : Int32))) :
    MetFree l (⟨"java/util/ArrayList", "grow", "()[Ljava/lang/Object;"⟩ : MethodName) (head1 (Jvm.Cond.code (⟨"java/util/ArrayList", "grow", "()[Ljava/lang/Object;"⟩ : MethodName) jdk_38_method_7_code 1 (some (.array (.object "java/lang/Object"))) :: ws) ({ frames := 2, cells := 1, slots := 10, locals := 29 } : Room)) (fun aa U => aa = #[(.ref x)] ∧ Z.Warmed39 U.vm ∧ U.heap = h0) (fun _ _ _ _ _ => True) (fun _ U o U' => ∃ v L, o = .returned v ∧ QGr Z x mc n0 h0 v U'.heap L ∧ FrameEnd U o U' L ({ frames := 2, cells := 1, slots := 10, locals := 29 } : Room).cells ({ frames := 2, cells := 1, slots := 10, locals := 29 } : Room).slots) := by
  refine openP (y := (⟨"java/util/ArrayList", "grow", "()[Ljava/lang/Object;"⟩ : MethodName)) pn_14 ?_
  intro p e s m below meth c T hx hby hml hret hlk hnm hZ hown X hT 
  refine Go.st (fun _ k => castTop (ef_A_1 m x) k) ?_
  show Go p e below _ (T.setTop (mkF m 0 #[.val (.ref x)] []))
  refine Go.st (fun _ k => XS.aloadN X.here hx rfl (hb hby d8_0) rfl rfl k) ?_
  show Go p e below _ (T.setTop (mkF m 1 #[.val (.ref x)] [(.ref x)]))
  refine Go.st (fun _ k => XS.aloadN X.here hx rfl (hb hby d8_1) rfl rfl k) ?_
  show Go p e below _ (T.setTop (mkF m 2 #[.val (.ref x)] [(.ref x), (.ref x)]))
  obtain ⟨T, X, hT, st⟩ := getF X hx hZ hown (host := "") (Or.inl (hw _ (List.mem_of_getElem? (i := 40) rfl))) Via.refl hT F_x_size (g := (mkF m 2 #[.val (.ref x)] [(.ref x), (.ref x)])) rfl rfl (hb hby d8_2)
  refine Go.st st ?_
  show Go p e below _ (T.setTop (mkF m 5 #[.val (.ref x)] [(.int (0 : Int32)), (.ref x)]))
  refine Go.st (fun _ k => XS.iconst X.here hx rfl (hb hby d8_5) k) ?_
  show Go p e below _ (T.setTop (mkF m 6 #[.val (.ref x)] [(.int (1 : Int32)), (.int (0 : Int32)), (.ref x)]))
  refine Go.st (fun _ k => XS.iadd X.here hx rfl (hb hby d8_6) rfl k) ?_
  show Go p e below _ (T.setTop (mkF m 7 #[.val (.ref x)] [(.int ((0 : Int32) + (1 : Int32))), (.ref x)]))
  rw [show ((0 : Int32) + (1 : Int32)) = (1 : Int32) from by decide]
  show Go p e below _ (T.setTop (mkF m 7 #[.val (.ref x)] [(.int (1 : Int32)), (.ref x)]))
  refine Go.virtP (K := "java/util/ArrayList") (z := (⟨"java/util/ArrayList", "grow", "(I)[Ljava/lang/Object;"⟩ : MethodName)) (argsL := [(.int (1 : Int32))]) (rest := []) (W := 0) (ck := 1) (sk := 10) X hx hZ hown (hml.trans rfl) hT A_x (hw _ (List.mem_of_getElem? (i := 52) rfl)) (own_decl (hw _ (List.mem_of_getElem? (i := 53) rfl)) (hw _ (List.mem_of_getElem? (i := 56) rfl))) (hw _ (List.mem_of_getElem? (i := 55) rfl)) (hw _ (List.mem_of_getElem? (i := 53) rfl)) (by decide) pd_3 rfl rfl (Nat.le_of_ble_eq_true rfl) (hb hby d8_7) (notFace_of_selects (args := #[]) (mvT hZ (hw _ (List.mem_of_getElem? (i := 55) rfl)))) (backOf (W := 0) (met_gri l Z a0 hw [] n0 x dv kd mc _ O ge_x Sd Vd A_x F_x_modCount F_x_elementData F_x_size) hZ (hw _ (List.mem_of_getElem? (i := 56) rfl)) (hw _ (List.mem_of_getElem? (i := 9) rfl)) (by decide) (by decide)) (by decide) (by decide) ?_
  intro v T h1 L hT hQ X
  obtain ⟨r, kr, rfl, N0, Q0⟩ := hQ
  show Go p e below _ (T.setTop (mkF m 10 #[.val (.ref x)] [(.ref r)]))
  refine Go.ret X hx hlk hT hret rfl (riA rfl rfl) (hb hby d8_10) (by decide) (by decide) ?_
  exact ⟨r, kr, rfl, N0, Q0⟩
theorem own_pad10 {Z : State} {h : Heap} {a : Addr} {k : ClassId} (V : Arv Z h a k (.object "java/lang/Object") (10 : Int32) [] .null) : Arv Z h a k (.object "java/lang/Object") (10 : Int32) (List.replicate 10 .null) .null := V.pad (pad_rep [] .null 10)
/-- a list whose array of ten has room -/
def Lst (Z : State) (h : Heap) (x ed : Addr) (ke : ClassId) (mc : Int32) (n : Nat) : Prop := (∃ vs : List Value, vs.length = 10 ∧ Arv Z h ed ke (.object "java/lang/Object") (10 : Int32) vs .null) ∧ Ovr Z ke "java/lang/Object" ∧ Exa Z h x "java/util/ArrayList" ∧ Fld Z h x "java/util/AbstractList" "modCount" "I" (.int mc) ∧ Fld Z h x "java/util/ArrayList" "elementData" "[Ljava/lang/Object;" (.ref ed) ∧ Fld Z h x "java/util/ArrayList" "size" "I" (.int (Int32.ofNat n))
theorem pd_4 : parseMethodDescriptor "()[Ljava/lang/Object;" = some ⟨[], (some (.array (.object "java/lang/Object")))⟩ := by decide +kernel
def QA0 (Z : State) (x : Addr) (mc : Int32) (n0 : Nat) (h0 : Heap) (v : Option Value) (h : Heap) (L : List Loc) : Prop := ∃ r kr, v = none ∧ Fr n0 L ∧ Keep h0 h [x] ∧ h0.size ≤ r ∧ Lst Z h x r kr mc 1
theorem d7_0 : decode jdk_38_method_24_code 0 = .ok (.iload_n 3, 1) := by decide +kernel
theorem d7_1 : decode jdk_38_method_24_code 1 = .ok (.aload_n 2, 1) := by decide +kernel
theorem d7_2 : decode jdk_38_method_24_code 2 = .ok (.arraylength, 1) := by decide +kernel
theorem d7_3 : decode jdk_38_method_24_code 3 = .ok (.if_icmp .ne 8, 3) := by decide +kernel
theorem d7_6 : decode jdk_38_method_24_code 6 = .ok (.aload_n 0, 1) := by decide +kernel
theorem d7_7 : decode jdk_38_method_24_code 7 = .ok (.invokevirtual 129, 3) := by decide +kernel
theorem d7_10 : decode jdk_38_method_24_code 10 = .ok (.astore_n 2, 1) := by decide +kernel
theorem d7_11 : decode jdk_38_method_24_code 11 = .ok (.aload_n 2, 1) := by decide +kernel
theorem d7_12 : decode jdk_38_method_24_code 12 = .ok (.iload_n 3, 1) := by decide +kernel
theorem d7_13 : decode jdk_38_method_24_code 13 = .ok (.aload_n 1, 1) := by decide +kernel
theorem d7_14 : decode jdk_38_method_24_code 14 = .ok (.aastore, 1) := by decide +kernel
theorem d7_15 : decode jdk_38_method_24_code 15 = .ok (.aload_n 0, 1) := by decide +kernel
theorem d7_16 : decode jdk_38_method_24_code 16 = .ok (.iload_n 3, 1) := by decide +kernel
theorem d7_17 : decode jdk_38_method_24_code 17 = .ok (.iconst 1, 1) := by decide +kernel
theorem d7_18 : decode jdk_38_method_24_code 18 = .ok (.iadd, 1) := by decide +kernel
theorem d7_19 : decode jdk_38_method_24_code 19 = .ok (.putfield 48, 3) := by decide +kernel
theorem d7_22 : decode jdk_38_method_24_code 22 = .ok (.return_, 1) := by decide +kernel
theorem pn_15 : plainFor (⟨"java/util/ArrayList", "add", "(Ljava/lang/Object;[Ljava/lang/Object;I)V"⟩ : MethodName) = true := by first | exact plainFor_of_name (by first | (simp [plainName, overriddenIn]; done) | decide +kernel) | decide +kernel
theorem ef_AAAI_4 (m : MethodId) (y0 : Addr) (y1 : Addr) (y2 : Addr) (y3 : Int32) : entryFrame m #[(.ref y0), (.ref y1), (.ref y2), (.int y3)] 4 = mkF m 0 #[.val (.ref y0), .val (.ref y1), .val (.ref y2), .val (.int y3)] [] := by first | (simp [entryFrame, mkF, argsToLocals, Value.category]; done) | rfl
set_option maxRecDepth 65536 in
set_option maxHeartbeats 40000000 in
theorem met_ad0 (l : Launch) (Z : State) (a0 : Array Value) (hw : ∀ d ∈ tables_1, d.before a0 Z = true) (ws : List Jvm.Cond) (n0 : Nat) (x ie dv : Addr) (kd : ClassId) (mc : Int32) (h0 : Heap) (O : Old Z n0 h0) (ge_x : n0 ≤ x) (Sd : Sta Z Z.heap "java/util/ArrayList" "DEFAULTCAPACITY_EMPTY_ELEMENTDATA" "[Ljava/lang/Object;" (.ref dv)) (Vd : Arv Z Z.heap dv kd (.object "java/lang/Object") (0 : Int32) [] .null) (A_x : Exa Z h0 x "java/util/ArrayList") (F_x_modCount : Fld Z h0 x "java/util/AbstractList" "modCount" "I" (.int mc)) (F_x_elementData : Fld Z h0 x "java/util/ArrayList" "elementData" "[Ljava/lang/Object;" (.ref dv)) (F_x_size : Fld Z h0 x "java/util/ArrayList" "size" "I" (.int (0 : Int32))) (E_ie : Exa Z h0 ie "java/lang/Integer") :
    MetFree l (⟨"java/util/ArrayList", "add", "(Ljava/lang/Object;[Ljava/lang/Object;I)V"⟩ : MethodName) (head1 (Jvm.Cond.code (⟨"java/util/ArrayList", "add", "(Ljava/lang/Object;[Ljava/lang/Object;I)V"⟩ : MethodName) jdk_38_method_24_code 4 none :: ws) ({ frames := 3, cells := 1, slots := 10, locals := 41 } : Room)) (fun aa U => aa = #[(.ref x), (.ref ie), (.ref dv), (.int (0 : Int32))] ∧ Z.Warmed39 U.vm ∧ U.heap = h0) (fun _ _ _ _ _ => True) (fun _ U o U' => ∃ v L, o = .returned v ∧ QA0 Z x mc n0 h0 v U'.heap L ∧ FrameEnd U o U' L ({ frames := 3, cells := 1, slots := 10, locals := 41 } : Room).cells ({ frames := 3, cells := 1, slots := 10, locals := 41 } : Room).slots) := by
  refine openP (y := (⟨"java/util/ArrayList", "add", "(Ljava/lang/Object;[Ljava/lang/Object;I)V"⟩ : MethodName)) pn_15 ?_
  intro p e s m below meth c T hx hby hml hret hlk hnm hZ hown X hT 
  refine Go.st (fun _ k => castTop (ef_AAAI_4 m x ie dv (0 : Int32)) k) ?_
  show Go p e below _ (T.setTop (mkF m 0 #[.val (.ref x), .val (.ref ie), .val (.ref dv), .val (.int (0 : Int32))] []))
  have N := Fr.nil n0
  have Vd0 := Vd.ext O.2
  refine Go.st (fun _ k => XS.iloadN X.here hx rfl (hb hby d7_0) rfl k) ?_
  show Go p e below _ (T.setTop (mkF m 1 #[.val (.ref x), .val (.ref ie), .val (.ref dv), .val (.int (0 : Int32))] [(.int (0 : Int32))]))
  refine Go.st (fun _ k => XS.aloadN X.here hx rfl (hb hby d7_1) rfl rfl k) ?_
  show Go p e below _ (T.setTop (mkF m 2 #[.val (.ref x), .val (.ref ie), .val (.ref dv), .val (.int (0 : Int32))] [(.ref dv), (.int (0 : Int32))]))
  obtain ⟨cl0, Ar0, q0, S0, M0, H0, U0⟩ := id Vd0
  refine Go.st (fun _ k => X.arraylength hx (by rw [hT]; exact Ar0.1) (State.isArrayOf_alike hZ.alike Ar0.2.1) (g := (mkF m 2 #[.val (.ref x), .val (.ref ie), .val (.ref dv), .val (.int (0 : Int32))] [(.ref dv), (.int (0 : Int32))])) rfl rfl (hb hby d7_2) _ k) ?_
  rw [len_of S0 M0]
  show Go p e below _ (T.setTop (mkF m 3 #[.val (.ref x), .val (.ref ie), .val (.ref dv), .val (.int (0 : Int32))] [(.int (0 : Int32)), (.int (0 : Int32))]))
  refine Go.st (fun _ k => XS.icmpNo X.here hx rfl (hb hby d7_3) rfl (Jvm.Free.XT.ii_ne_f (by decide : (0 : Int32) = (0 : Int32))) k) ?_
  show Go p e below _ (T.setTop (mkF m 6 #[.val (.ref x), .val (.ref ie), .val (.ref dv), .val (.int (0 : Int32))] []))
  refine Go.st (fun _ k => XS.aloadN X.here hx rfl (hb hby d7_6) rfl rfl k) ?_
  show Go p e below _ (T.setTop (mkF m 7 #[.val (.ref x), .val (.ref ie), .val (.ref dv), .val (.int (0 : Int32))] [(.ref x)]))
  refine Go.virtP (K := "java/util/ArrayList") (z := (⟨"java/util/ArrayList", "grow", "()[Ljava/lang/Object;"⟩ : MethodName)) (argsL := []) (rest := []) (W := 0) (ck := 1) (sk := 10) X hx hZ hown (hml.trans rfl) hT A_x (hw _ (List.mem_of_getElem? (i := 47) rfl)) (own_decl (hw _ (List.mem_of_getElem? (i := 48) rfl)) (hw _ (List.mem_of_getElem? (i := 51) rfl))) (hw _ (List.mem_of_getElem? (i := 50) rfl)) (hw _ (List.mem_of_getElem? (i := 48) rfl)) (by decide) pd_4 rfl rfl (Nat.le_of_ble_eq_true rfl) (hb hby d7_7) (notFace_of_selects (args := #[]) (mvT hZ (hw _ (List.mem_of_getElem? (i := 50) rfl)))) (backOf (W := 0) (met_gr0 l Z a0 hw [] n0 x dv kd mc _ O ge_x Sd Vd A_x F_x_modCount F_x_elementData F_x_size) hZ (hw _ (List.mem_of_getElem? (i := 51) rfl)) (hw _ (List.mem_of_getElem? (i := 9) rfl)) (by decide) (by decide)) (by decide) (by decide) ?_
  intro v T h1 L hT hQ X
  obtain ⟨r, kr, rfl, N0, K0, gk_r, V_r, Ov, A_x, F_x_modCount, F_x_elementData, F_x_size⟩ := hQ
  have N := Fr.app N N0
  have V_r := own_pad10 V_r
  have ge_r : n0 ≤ r := Nat.le_trans (own_le O) gk_r
  have E_ie := E_ie.keep K0
  have KB := (Keep.refl h0 [x]).trans K0 (allS (Or.inl (List.mem_of_getElem? (i := 0) rfl)) all0)
  have ne_x_r : x ≠ r := Exa.neArv A_x V_r (hw _ (List.mem_of_getElem? (i := 8) rfl))
  show Go p e below _ (T.setTop (mkF m 10 #[.val (.ref x), .val (.ref ie), .val (.ref dv), .val (.int (0 : Int32))] [(.ref r)]))
  refine Go.st (fun _ k => XS.astoreN X.here hx rfl (hb hby d7_10) rfl rfl (l' := #[.val (.ref x), .val (.ref ie), .val (.ref r), .val (.int (0 : Int32))]) rfl k) ?_
  show Go p e below _ (T.setTop (mkF m 11 #[.val (.ref x), .val (.ref ie), .val (.ref r), .val (.int (0 : Int32))] []))
  refine Go.st (fun _ k => XS.aloadN X.here hx rfl (hb hby d7_11) rfl rfl k) ?_
  show Go p e below _ (T.setTop (mkF m 12 #[.val (.ref x), .val (.ref ie), .val (.ref r), .val (.int (0 : Int32))] [(.ref r)]))
  refine Go.st (fun _ k => XS.iloadN X.here hx rfl (hb hby d7_12) rfl k) ?_
  show Go p e below _ (T.setTop (mkF m 13 #[.val (.ref x), .val (.ref ie), .val (.ref r), .val (.int (0 : Int32))] [(.int (0 : Int32)), (.ref r)]))
  refine Go.st (fun _ k => XS.aloadN X.here hx rfl (hb hby d7_13) rfl rfl k) ?_
  show Go p e below _ (T.setTop (mkF m 14 #[.val (.ref x), .val (.ref ie), .val (.ref r), .val (.int (0 : Int32))] [(.ref ie), (.int (0 : Int32)), (.ref r)]))
  obtain ⟨cl0, Ar0, q0, S0, M0, H0, U0⟩ := id V_r
  obtain ⟨T, h2, X, hT, Wr0, st⟩ := stR X hx hZ hT Ar0 (j := (0 : Int32)) (inb_of S0 ⟨(by decide : ¬ ((0 : Int32) < (0 : Int32))), (by decide : (0 : Int32) < (10 : Int32))⟩) rfl (Sto.ofV Ar0 q0 Ov (Ins.of_exa E_ie (hw _ (List.mem_of_getElem? (i := 63) rfl)))) (g := (mkF m 14 #[.val (.ref x), .val (.ref ie), .val (.ref r), .val (.int (0 : Int32))] [(.ref ie), (.int (0 : Int32)), (.ref r)])) rfl rfl (hb hby d7_14)
  refine Go.st st ?_
  have N := Fr.snoc X N ge_r
  have A_x := A_x.wr Wr0
  have F_x_modCount := F_x_modCount.other Wr0 (Or.inl ne_x_r)
  have F_x_elementData := F_x_elementData.other Wr0 (Or.inl ne_x_r)
  have F_x_size := F_x_size.other Wr0 (Or.inl ne_x_r)
  have KB := (KB).wr Wr0 (Or.inr gk_r)
  have V_r := Arv.set Ar0 q0 S0 M0 H0 U0 (v := .ref ie) rfl Wr0 0 rfl (by decide)
  show Go p e below _ (T.setTop (mkF m 15 #[.val (.ref x), .val (.ref ie), .val (.ref r), .val (.int (0 : Int32))] []))
  refine Go.st (fun _ k => XS.aloadN X.here hx rfl (hb hby d7_15) rfl rfl k) ?_
  show Go p e below _ (T.setTop (mkF m 16 #[.val (.ref x), .val (.ref ie), .val (.ref r), .val (.int (0 : Int32))] [(.ref x)]))
  refine Go.st (fun _ k => XS.iloadN X.here hx rfl (hb hby d7_16) rfl k) ?_
  show Go p e below _ (T.setTop (mkF m 17 #[.val (.ref x), .val (.ref ie), .val (.ref r), .val (.int (0 : Int32))] [(.int (0 : Int32)), (.ref x)]))
  refine Go.st (fun _ k => XS.iconst X.here hx rfl (hb hby d7_17) k) ?_
  show Go p e below _ (T.setTop (mkF m 18 #[.val (.ref x), .val (.ref ie), .val (.ref r), .val (.int (0 : Int32))] [(.int (1 : Int32)), (.int (0 : Int32)), (.ref x)]))
  refine Go.st (fun _ k => XS.iadd X.here hx rfl (hb hby d7_18) rfl k) ?_
  show Go p e below _ (T.setTop (mkF m 19 #[.val (.ref x), .val (.ref ie), .val (.ref r), .val (.int (0 : Int32))] [(.int ((0 : Int32) + (1 : Int32))), (.ref x)]))
  rw [show ((0 : Int32) + (1 : Int32)) = (1 : Int32) from by decide]
  show Go p e below _ (T.setTop (mkF m 19 #[.val (.ref x), .val (.ref ie), .val (.ref r), .val (.int (0 : Int32))] [(.int (1 : Int32)), (.ref x)]))
  obtain ⟨T, h3, X, hT, Wr0, st⟩ := putF X hx hZ hown (host := "") (Or.inl (hw _ (List.mem_of_getElem? (i := 40) rfl))) Via.refl hT F_x_size A_x (Or.inl (hw _ (List.mem_of_getElem? (i := 41) rfl))) (hw _ (List.mem_of_getElem? (i := 8) rfl)) (ty := .int) (by decide) rfl rfl (g := (mkF m 19 #[.val (.ref x), .val (.ref ie), .val (.ref r), .val (.int (0 : Int32))] [(.int (1 : Int32)), (.ref x)])) rfl rfl (hb hby d7_19)
  refine Go.st st ?_
  have N := Fr.snoc X N ge_x
  have A_x := A_x.wr Wr0
  have F_x_modCount := F_x_modCount.other Wr0 (Or.inr (slot_ne (C := "java/util/ArrayList") (Or.inl (hw _ (List.mem_of_getElem? (i := 29) rfl))) (Or.inl (hw _ (List.mem_of_getElem? (i := 41) rfl))) (by decide) (t := .int) (by decide) (t' := .int) (by decide)))
  have F_x_elementData := F_x_elementData.other Wr0 (Or.inr (slot_ne (C := "java/util/ArrayList") (Or.inl (hw _ (List.mem_of_getElem? (i := 32) rfl))) (Or.inl (hw _ (List.mem_of_getElem? (i := 41) rfl))) (by decide) (t := (.array (.object "java/lang/Object"))) (by decide) (t' := .int) (by decide)))
  have F_x_size := F_x_size.same Wr0
  have V_r := V_r.other Wr0 ne_x_r.symm
  have KB := (KB).wr Wr0 (Or.inl (List.mem_of_getElem? (i := 0) rfl))
  show Go p e below _ (T.setTop (mkF m 22 #[.val (.ref x), .val (.ref ie), .val (.ref r), .val (.int (0 : Int32))] []))
  refine Go.retV X hx hlk hT hret (hb hby d7_22) (by decide) (by decide) ?_
  exact ⟨r, kr, rfl, N, KB, gk_r, ⟨_, by simp, V_r⟩, Ov, A_x, F_x_modCount, F_x_elementData, F_x_size⟩
def QAk (Z : State) (x r : Addr) (kr : ClassId) (mc : Int32) (n : Nat) (n0 : Nat) (h0 : Heap) (v : Option Value) (h : Heap) (L : List Loc) : Prop := v = none ∧ Fr n0 L ∧ Keep h0 h [x, r] ∧ Lst Z h x r kr mc n
set_option maxRecDepth 65536 in
set_option maxHeartbeats 40000000 in
theorem met_ad1 (l : Launch) (Z : State) (a0 : Array Value) (hw : ∀ d ∈ tables_1, d.before a0 Z = true) (ws : List Jvm.Cond) (n0 : Nat) (x ie r : Addr) (kr : ClassId) (mc : Int32) (h0 : Heap) (ge_x : n0 ≤ x) (ge_r : n0 ≤ r) (Ls0 : Lst Z h0 x r kr mc 1) (E_ie : Exa Z h0 ie "java/lang/Integer") :
    MetFree l (⟨"java/util/ArrayList", "add", "(Ljava/lang/Object;[Ljava/lang/Object;I)V"⟩ : MethodName) (head1 (Jvm.Cond.code (⟨"java/util/ArrayList", "add", "(Ljava/lang/Object;[Ljava/lang/Object;I)V"⟩ : MethodName) jdk_38_method_24_code 4 none :: ws) ({ frames := 0, cells := 0, slots := 0, locals := 0 } : Room)) (fun aa U => aa = #[(.ref x), (.ref ie), (.ref r), (.int (1 : Int32))] ∧ Z.Warmed39 U.vm ∧ U.heap = h0) (fun _ _ _ _ _ => True) (fun _ U o U' => ∃ v L, o = .returned v ∧ QAk Z x r kr mc 2 n0 h0 v U'.heap L ∧ FrameEnd U o U' L ({ frames := 0, cells := 0, slots := 0, locals := 0 } : Room).cells ({ frames := 0, cells := 0, slots := 0, locals := 0 } : Room).slots) := by
  refine openP (y := (⟨"java/util/ArrayList", "add", "(Ljava/lang/Object;[Ljava/lang/Object;I)V"⟩ : MethodName)) pn_15 ?_
  intro p e s m below meth c T hx hby hml hret hlk hnm hZ hown X hT 
  refine Go.st (fun _ k => castTop (ef_AAAI_4 m x ie r (1 : Int32)) k) ?_
  show Go p e below _ (T.setTop (mkF m 0 #[.val (.ref x), .val (.ref ie), .val (.ref r), .val (.int (1 : Int32))] []))
  have N := Fr.nil n0
  obtain ⟨⟨vs, hvl, V_r⟩, Ov, A_x, F_x_modCount, F_x_elementData, F_x_size⟩ := Ls0
  have ne_x_r : x ≠ r := Exa.neArv A_x V_r (hw _ (List.mem_of_getElem? (i := 8) rfl))
  refine Go.st (fun _ k => XS.iloadN X.here hx rfl (hb hby d7_0) rfl k) ?_
  show Go p e below _ (T.setTop (mkF m 1 #[.val (.ref x), .val (.ref ie), .val (.ref r), .val (.int (1 : Int32))] [(.int (1 : Int32))]))
  refine Go.st (fun _ k => XS.aloadN X.here hx rfl (hb hby d7_1) rfl rfl k) ?_
  show Go p e below _ (T.setTop (mkF m 2 #[.val (.ref x), .val (.ref ie), .val (.ref r), .val (.int (1 : Int32))] [(.ref r), (.int (1 : Int32))]))
  obtain ⟨cl0, Ar0, q0, S0, M0, H0, U0⟩ := id V_r
  refine Go.st (fun _ k => X.arraylength hx (by rw [hT]; exact Ar0.1) (State.isArrayOf_alike hZ.alike Ar0.2.1) (g := (mkF m 2 #[.val (.ref x), .val (.ref ie), .val (.ref r), .val (.int (1 : Int32))] [(.ref r), (.int (1 : Int32))])) rfl rfl (hb hby d7_2) _ k) ?_
  rw [len_of S0 M0]
  show Go p e below _ (T.setTop (mkF m 3 #[.val (.ref x), .val (.ref ie), .val (.ref r), .val (.int (1 : Int32))] [(.int (10 : Int32)), (.int (1 : Int32))]))
  refine Go.st (fun _ k => XS.icmpYes X.here hx rfl (pc0 := 3) (pc' := 11) rfl (hb hby d7_3) rfl (Jvm.Free.XT.ii_ne_t (by decide : ¬ ((1 : Int32) = (10 : Int32)))) (by decide) (by decide) k) ?_
  show Go p e below _ (T.setTop (mkF m 11 #[.val (.ref x), .val (.ref ie), .val (.ref r), .val (.int (1 : Int32))] []))
  refine Go.st (fun _ k => XS.aloadN X.here hx rfl (hb hby d7_11) rfl rfl k) ?_
  show Go p e below _ (T.setTop (mkF m 12 #[.val (.ref x), .val (.ref ie), .val (.ref r), .val (.int (1 : Int32))] [(.ref r)]))
  refine Go.st (fun _ k => XS.iloadN X.here hx rfl (hb hby d7_12) rfl k) ?_
  show Go p e below _ (T.setTop (mkF m 13 #[.val (.ref x), .val (.ref ie), .val (.ref r), .val (.int (1 : Int32))] [(.int (1 : Int32)), (.ref r)]))
  refine Go.st (fun _ k => XS.aloadN X.here hx rfl (hb hby d7_13) rfl rfl k) ?_
  show Go p e below _ (T.setTop (mkF m 14 #[.val (.ref x), .val (.ref ie), .val (.ref r), .val (.int (1 : Int32))] [(.ref ie), (.int (1 : Int32)), (.ref r)]))
  obtain ⟨cl0, Ar0, q0, S0, M0, H0, U0⟩ := id V_r
  obtain ⟨T, h1, X, hT, Wr0, st⟩ := stR X hx hZ hT Ar0 (j := (1 : Int32)) (inb_of S0 ⟨(by decide : ¬ ((1 : Int32) < (0 : Int32))), (by decide : (1 : Int32) < (10 : Int32))⟩) rfl (Sto.ofV Ar0 q0 Ov (Ins.of_exa E_ie (hw _ (List.mem_of_getElem? (i := 63) rfl)))) (g := (mkF m 14 #[.val (.ref x), .val (.ref ie), .val (.ref r), .val (.int (1 : Int32))] [(.ref ie), (.int (1 : Int32)), (.ref r)])) rfl rfl (hb hby d7_14)
  refine Go.st st ?_
  have N := Fr.snoc X N ge_r
  have A_x := A_x.wr Wr0
  have F_x_modCount := F_x_modCount.other Wr0 (Or.inl ne_x_r)
  have F_x_elementData := F_x_elementData.other Wr0 (Or.inl ne_x_r)
  have F_x_size := F_x_size.other Wr0 (Or.inl ne_x_r)
  have KB := (Keep.refl h0 [x, r]).wr Wr0 (Or.inl (List.mem_of_getElem? (i := 1) rfl))
  have V_r := Arv.set Ar0 q0 S0 M0 H0 U0 (v := .ref ie) rfl Wr0 1 rfl (by rw [hvl]; decide)
  show Go p e below _ (T.setTop (mkF m 15 #[.val (.ref x), .val (.ref ie), .val (.ref r), .val (.int (1 : Int32))] []))
  refine Go.st (fun _ k => XS.aloadN X.here hx rfl (hb hby d7_15) rfl rfl k) ?_
  show Go p e below _ (T.setTop (mkF m 16 #[.val (.ref x), .val (.ref ie), .val (.ref r), .val (.int (1 : Int32))] [(.ref x)]))
  refine Go.st (fun _ k => XS.iloadN X.here hx rfl (hb hby d7_16) rfl k) ?_
  show Go p e below _ (T.setTop (mkF m 17 #[.val (.ref x), .val (.ref ie), .val (.ref r), .val (.int (1 : Int32))] [(.int (1 : Int32)), (.ref x)]))
  refine Go.st (fun _ k => XS.iconst X.here hx rfl (hb hby d7_17) k) ?_
  show Go p e below _ (T.setTop (mkF m 18 #[.val (.ref x), .val (.ref ie), .val (.ref r), .val (.int (1 : Int32))] [(.int (1 : Int32)), (.int (1 : Int32)), (.ref x)]))
  refine Go.st (fun _ k => XS.iadd X.here hx rfl (hb hby d7_18) rfl k) ?_
  show Go p e below _ (T.setTop (mkF m 19 #[.val (.ref x), .val (.ref ie), .val (.ref r), .val (.int (1 : Int32))] [(.int ((1 : Int32) + (1 : Int32))), (.ref x)]))
  rw [show ((1 : Int32) + (1 : Int32)) = (2 : Int32) from by decide]
  show Go p e below _ (T.setTop (mkF m 19 #[.val (.ref x), .val (.ref ie), .val (.ref r), .val (.int (1 : Int32))] [(.int (2 : Int32)), (.ref x)]))
  obtain ⟨T, h2, X, hT, Wr0, st⟩ := putF X hx hZ hown (host := "") (Or.inl (hw _ (List.mem_of_getElem? (i := 40) rfl))) Via.refl hT F_x_size A_x (Or.inl (hw _ (List.mem_of_getElem? (i := 41) rfl))) (hw _ (List.mem_of_getElem? (i := 8) rfl)) (ty := .int) (by decide) rfl rfl (g := (mkF m 19 #[.val (.ref x), .val (.ref ie), .val (.ref r), .val (.int (1 : Int32))] [(.int (2 : Int32)), (.ref x)])) rfl rfl (hb hby d7_19)
  refine Go.st st ?_
  have N := Fr.snoc X N ge_x
  have A_x := A_x.wr Wr0
  have F_x_modCount := F_x_modCount.other Wr0 (Or.inr (slot_ne (C := "java/util/ArrayList") (Or.inl (hw _ (List.mem_of_getElem? (i := 29) rfl))) (Or.inl (hw _ (List.mem_of_getElem? (i := 41) rfl))) (by decide) (t := .int) (by decide) (t' := .int) (by decide)))
  have F_x_elementData := F_x_elementData.other Wr0 (Or.inr (slot_ne (C := "java/util/ArrayList") (Or.inl (hw _ (List.mem_of_getElem? (i := 32) rfl))) (Or.inl (hw _ (List.mem_of_getElem? (i := 41) rfl))) (by decide) (t := (.array (.object "java/lang/Object"))) (by decide) (t' := .int) (by decide)))
  have F_x_size := F_x_size.same Wr0
  have V_r := V_r.other Wr0 ne_x_r.symm
  have KB := (KB).wr Wr0 (Or.inl (List.mem_of_getElem? (i := 0) rfl))
  show Go p e below _ (T.setTop (mkF m 22 #[.val (.ref x), .val (.ref ie), .val (.ref r), .val (.int (1 : Int32))] []))
  refine Go.retV X hx hlk hT hret (hb hby d7_22) (by decide) (by decide) ?_
  exact ⟨rfl, N, KB, ⟨_, (List.length_set ..).trans hvl, V_r⟩, Ov, A_x, F_x_modCount, F_x_elementData, F_x_size⟩
set_option maxRecDepth 65536 in
set_option maxHeartbeats 40000000 in
theorem met_ad2 (l : Launch) (Z : State) (a0 : Array Value) (hw : ∀ d ∈ tables_1, d.before a0 Z = true) (ws : List Jvm.Cond) (n0 : Nat) (x ie r : Addr) (kr : ClassId) (mc : Int32) (h0 : Heap) (ge_x : n0 ≤ x) (ge_r : n0 ≤ r) (Ls0 : Lst Z h0 x r kr mc 2) (E_ie : Exa Z h0 ie "java/lang/Integer") :
    MetFree l (⟨"java/util/ArrayList", "add", "(Ljava/lang/Object;[Ljava/lang/Object;I)V"⟩ : MethodName) (head1 (Jvm.Cond.code (⟨"java/util/ArrayList", "add", "(Ljava/lang/Object;[Ljava/lang/Object;I)V"⟩ : MethodName) jdk_38_method_24_code 4 none :: ws) ({ frames := 0, cells := 0, slots := 0, locals := 0 } : Room)) (fun aa U => aa = #[(.ref x), (.ref ie), (.ref r), (.int (2 : Int32))] ∧ Z.Warmed39 U.vm ∧ U.heap = h0) (fun _ _ _ _ _ => True) (fun _ U o U' => ∃ v L, o = .returned v ∧ QAk Z x r kr mc 3 n0 h0 v U'.heap L ∧ FrameEnd U o U' L ({ frames := 0, cells := 0, slots := 0, locals := 0 } : Room).cells ({ frames := 0, cells := 0, slots := 0, locals := 0 } : Room).slots) := by
  refine openP (y := (⟨"java/util/ArrayList", "add", "(Ljava/lang/Object;[Ljava/lang/Object;I)V"⟩ : MethodName)) pn_15 ?_
  intro p e s m below meth c T hx hby hml hret hlk hnm hZ hown X hT 
  refine Go.st (fun _ k => castTop (ef_AAAI_4 m x ie r (2 : Int32)) k) ?_
  show Go p e below _ (T.setTop (mkF m 0 #[.val (.ref x), .val (.ref ie), .val (.ref r), .val (.int (2 : Int32))] []))
  have N := Fr.nil n0
  obtain ⟨⟨vs, hvl, V_r⟩, Ov, A_x, F_x_modCount, F_x_elementData, F_x_size⟩ := Ls0
  have ne_x_r : x ≠ r := Exa.neArv A_x V_r (hw _ (List.mem_of_getElem? (i := 8) rfl))
  refine Go.st (fun _ k => XS.iloadN X.here hx rfl (hb hby d7_0) rfl k) ?_
  show Go p e below _ (T.setTop (mkF m 1 #[.val (.ref x), .val (.ref ie), .val (.ref r), .val (.int (2 : Int32))] [(.int (2 : Int32))]))
  refine Go.st (fun _ k => XS.aloadN X.here hx rfl (hb hby d7_1) rfl rfl k) ?_
  show Go p e below _ (T.setTop (mkF m 2 #[.val (.ref x), .val (.ref ie), .val (.ref r), .val (.int (2 : Int32))] [(.ref r), (.int (2 : Int32))]))
  obtain ⟨cl0, Ar0, q0, S0, M0, H0, U0⟩ := id V_r
  refine Go.st (fun _ k => X.arraylength hx (by rw [hT]; exact Ar0.1) (State.isArrayOf_alike hZ.alike Ar0.2.1) (g := (mkF m 2 #[.val (.ref x), .val (.ref ie), .val (.ref r), .val (.int (2 : Int32))] [(.ref r), (.int (2 : Int32))])) rfl rfl (hb hby d7_2) _ k) ?_
  rw [len_of S0 M0]
  show Go p e below _ (T.setTop (mkF m 3 #[.val (.ref x), .val (.ref ie), .val (.ref r), .val (.int (2 : Int32))] [(.int (10 : Int32)), (.int (2 : Int32))]))
  refine Go.st (fun _ k => XS.icmpYes X.here hx rfl (pc0 := 3) (pc' := 11) rfl (hb hby d7_3) rfl (Jvm.Free.XT.ii_ne_t (by decide : ¬ ((2 : Int32) = (10 : Int32)))) (by decide) (by decide) k) ?_
  show Go p e below _ (T.setTop (mkF m 11 #[.val (.ref x), .val (.ref ie), .val (.ref r), .val (.int (2 : Int32))] []))
  refine Go.st (fun _ k => XS.aloadN X.here hx rfl (hb hby d7_11) rfl rfl k) ?_
  show Go p e below _ (T.setTop (mkF m 12 #[.val (.ref x), .val (.ref ie), .val (.ref r), .val (.int (2 : Int32))] [(.ref r)]))
  refine Go.st (fun _ k => XS.iloadN X.here hx rfl (hb hby d7_12) rfl k) ?_
  show Go p e below _ (T.setTop (mkF m 13 #[.val (.ref x), .val (.ref ie), .val (.ref r), .val (.int (2 : Int32))] [(.int (2 : Int32)), (.ref r)]))
  refine Go.st (fun _ k => XS.aloadN X.here hx rfl (hb hby d7_13) rfl rfl k) ?_
  show Go p e below _ (T.setTop (mkF m 14 #[.val (.ref x), .val (.ref ie), .val (.ref r), .val (.int (2 : Int32))] [(.ref ie), (.int (2 : Int32)), (.ref r)]))
  obtain ⟨cl0, Ar0, q0, S0, M0, H0, U0⟩ := id V_r
  obtain ⟨T, h1, X, hT, Wr0, st⟩ := stR X hx hZ hT Ar0 (j := (2 : Int32)) (inb_of S0 ⟨(by decide : ¬ ((2 : Int32) < (0 : Int32))), (by decide : (2 : Int32) < (10 : Int32))⟩) rfl (Sto.ofV Ar0 q0 Ov (Ins.of_exa E_ie (hw _ (List.mem_of_getElem? (i := 63) rfl)))) (g := (mkF m 14 #[.val (.ref x), .val (.ref ie), .val (.ref r), .val (.int (2 : Int32))] [(.ref ie), (.int (2 : Int32)), (.ref r)])) rfl rfl (hb hby d7_14)
  refine Go.st st ?_
  have N := Fr.snoc X N ge_r
  have A_x := A_x.wr Wr0
  have F_x_modCount := F_x_modCount.other Wr0 (Or.inl ne_x_r)
  have F_x_elementData := F_x_elementData.other Wr0 (Or.inl ne_x_r)
  have F_x_size := F_x_size.other Wr0 (Or.inl ne_x_r)
  have KB := (Keep.refl h0 [x, r]).wr Wr0 (Or.inl (List.mem_of_getElem? (i := 1) rfl))
  have V_r := Arv.set Ar0 q0 S0 M0 H0 U0 (v := .ref ie) rfl Wr0 2 rfl (by rw [hvl]; decide)
  show Go p e below _ (T.setTop (mkF m 15 #[.val (.ref x), .val (.ref ie), .val (.ref r), .val (.int (2 : Int32))] []))
  refine Go.st (fun _ k => XS.aloadN X.here hx rfl (hb hby d7_15) rfl rfl k) ?_
  show Go p e below _ (T.setTop (mkF m 16 #[.val (.ref x), .val (.ref ie), .val (.ref r), .val (.int (2 : Int32))] [(.ref x)]))
  refine Go.st (fun _ k => XS.iloadN X.here hx rfl (hb hby d7_16) rfl k) ?_
  show Go p e below _ (T.setTop (mkF m 17 #[.val (.ref x), .val (.ref ie), .val (.ref r), .val (.int (2 : Int32))] [(.int (2 : Int32)), (.ref x)]))
  refine Go.st (fun _ k => XS.iconst X.here hx rfl (hb hby d7_17) k) ?_
  show Go p e below _ (T.setTop (mkF m 18 #[.val (.ref x), .val (.ref ie), .val (.ref r), .val (.int (2 : Int32))] [(.int (1 : Int32)), (.int (2 : Int32)), (.ref x)]))
  refine Go.st (fun _ k => XS.iadd X.here hx rfl (hb hby d7_18) rfl k) ?_
  show Go p e below _ (T.setTop (mkF m 19 #[.val (.ref x), .val (.ref ie), .val (.ref r), .val (.int (2 : Int32))] [(.int ((2 : Int32) + (1 : Int32))), (.ref x)]))
  rw [show ((2 : Int32) + (1 : Int32)) = (3 : Int32) from by decide]
  show Go p e below _ (T.setTop (mkF m 19 #[.val (.ref x), .val (.ref ie), .val (.ref r), .val (.int (2 : Int32))] [(.int (3 : Int32)), (.ref x)]))
  obtain ⟨T, h2, X, hT, Wr0, st⟩ := putF X hx hZ hown (host := "") (Or.inl (hw _ (List.mem_of_getElem? (i := 40) rfl))) Via.refl hT F_x_size A_x (Or.inl (hw _ (List.mem_of_getElem? (i := 41) rfl))) (hw _ (List.mem_of_getElem? (i := 8) rfl)) (ty := .int) (by decide) rfl rfl (g := (mkF m 19 #[.val (.ref x), .val (.ref ie), .val (.ref r), .val (.int (2 : Int32))] [(.int (3 : Int32)), (.ref x)])) rfl rfl (hb hby d7_19)
  refine Go.st st ?_
  have N := Fr.snoc X N ge_x
  have A_x := A_x.wr Wr0
  have F_x_modCount := F_x_modCount.other Wr0 (Or.inr (slot_ne (C := "java/util/ArrayList") (Or.inl (hw _ (List.mem_of_getElem? (i := 29) rfl))) (Or.inl (hw _ (List.mem_of_getElem? (i := 41) rfl))) (by decide) (t := .int) (by decide) (t' := .int) (by decide)))
  have F_x_elementData := F_x_elementData.other Wr0 (Or.inr (slot_ne (C := "java/util/ArrayList") (Or.inl (hw _ (List.mem_of_getElem? (i := 32) rfl))) (Or.inl (hw _ (List.mem_of_getElem? (i := 41) rfl))) (by decide) (t := (.array (.object "java/lang/Object"))) (by decide) (t' := .int) (by decide)))
  have F_x_size := F_x_size.same Wr0
  have V_r := V_r.other Wr0 ne_x_r.symm
  have KB := (KB).wr Wr0 (Or.inl (List.mem_of_getElem? (i := 0) rfl))
  show Go p e below _ (T.setTop (mkF m 22 #[.val (.ref x), .val (.ref ie), .val (.ref r), .val (.int (2 : Int32))] []))
  refine Go.retV X hx hlk hT hret (hb hby d7_22) (by decide) (by decide) ?_
  exact ⟨rfl, N, KB, ⟨_, (List.length_set ..).trans hvl, V_r⟩, Ov, A_x, F_x_modCount, F_x_elementData, F_x_size⟩
theorem pd_5 : parseMethodDescriptor "(Ljava/lang/Object;[Ljava/lang/Object;I)V" = some ⟨[(.object "java/lang/Object"), (.array (.object "java/lang/Object")), .int], none⟩ := by decide +kernel
def QD0 (Z : State) (x : Addr) (mc : Int32) (n0 : Nat) (h0 : Heap) (v : Option Value) (h : Heap) (L : List Loc) : Prop := ∃ r kr, v = some (.int 1) ∧ Fr n0 L ∧ Keep h0 h [x] ∧ h0.size ≤ r ∧ Lst Z h x r kr mc 1
def QDk (Z : State) (x r : Addr) (kr : ClassId) (mc : Int32) (n : Nat) (n0 : Nat) (h0 : Heap) (v : Option Value) (h : Heap) (L : List Loc) : Prop := v = some (.int 1) ∧ Fr n0 L ∧ Keep h0 h [x, r] ∧ Lst Z h x r kr mc n
theorem d6_0 : decode jdk_38_method_25_code 0 = .ok (.aload_n 0, 1) := by decide +kernel
theorem d6_1 : decode jdk_38_method_25_code 1 = .ok (.dup, 1) := by decide +kernel
theorem d6_2 : decode jdk_38_method_25_code 2 = .ok (.getfield 63, 3) := by decide +kernel
theorem d6_5 : decode jdk_38_method_25_code 5 = .ok (.iconst 1, 1) := by decide +kernel
theorem d6_6 : decode jdk_38_method_25_code 6 = .ok (.iadd, 1) := by decide +kernel
theorem d6_7 : decode jdk_38_method_25_code 7 = .ok (.putfield 63, 3) := by decide +kernel
theorem d6_10 : decode jdk_38_method_25_code 10 = .ok (.aload_n 0, 1) := by decide +kernel
theorem d6_11 : decode jdk_38_method_25_code 11 = .ok (.aload_n 1, 1) := by decide +kernel
theorem d6_12 : decode jdk_38_method_25_code 12 = .ok (.aload_n 0, 1) := by decide +kernel
theorem d6_13 : decode jdk_38_method_25_code 13 = .ok (.getfield 9, 3) := by decide +kernel
theorem d6_16 : decode jdk_38_method_25_code 16 = .ok (.aload_n 0, 1) := by decide +kernel
theorem d6_17 : decode jdk_38_method_25_code 17 = .ok (.getfield 48, 3) := by decide +kernel
theorem d6_20 : decode jdk_38_method_25_code 20 = .ok (.invokevirtual 131, 3) := by decide +kernel
theorem d6_23 : decode jdk_38_method_25_code 23 = .ok (.iconst 1, 1) := by decide +kernel
theorem d6_24 : decode jdk_38_method_25_code 24 = .ok (.ireturn, 1) := by decide +kernel
theorem pn_16 : plainFor (⟨"java/util/ArrayList", "add", "(Ljava/lang/Object;)Z"⟩ : MethodName) = true := by first | exact plainFor_of_name (by first | (simp [plainName, overriddenIn]; done) | decide +kernel) | decide +kernel
theorem ef_AA_2 (m : MethodId) (y0 : Addr) (y1 : Addr) : entryFrame m #[(.ref y0), (.ref y1)] 2 = mkF m 0 #[.val (.ref y0), .val (.ref y1)] [] := by first | (simp [entryFrame, mkF, argsToLocals, Value.category]; done) | rfl
set_option maxRecDepth 65536 in
set_option maxHeartbeats 40000000 in
theorem met_add0 (l : Launch) (Z : State) (a0 : Array Value) (hw : ∀ d ∈ tables_1, d.before a0 Z = true) (ws : List Jvm.Cond) (n0 : Nat) (x ie dv : Addr) (kd : ClassId) (mc : Int32) (h0 : Heap) (O : Old Z n0 h0) (ge_x : n0 ≤ x) (Sd : Sta Z Z.heap "java/util/ArrayList" "DEFAULTCAPACITY_EMPTY_ELEMENTDATA" "[Ljava/lang/Object;" (.ref dv)) (Vd : Arv Z Z.heap dv kd (.object "java/lang/Object") (0 : Int32) [] .null) (A_x : Exa Z h0 x "java/util/ArrayList") (F_x_modCount : Fld Z h0 x "java/util/AbstractList" "modCount" "I" (.int mc)) (F_x_elementData : Fld Z h0 x "java/util/ArrayList" "elementData" "[Ljava/lang/Object;" (.ref dv)) (F_x_size : Fld Z h0 x "java/util/ArrayList" "size" "I" (.int (0 : Int32))) (E_ie : Exa Z h0 ie "java/lang/Integer") :
    MetFree l (⟨"java/util/ArrayList", "add", "(Ljava/lang/Object;)Z"⟩ : MethodName) (head1 (Jvm.Cond.code (⟨"java/util/ArrayList", "add", "(Ljava/lang/Object;)Z"⟩ : MethodName) jdk_38_method_25_code 2 (some .boolean) :: ws) ({ frames := 4, cells := 1, slots := 10, locals := 56 } : Room)) (fun aa U => aa = #[(.ref x), (.ref ie)] ∧ Z.Warmed39 U.vm ∧ U.heap = h0) (fun _ _ _ _ _ => True) (fun _ U o U' => ∃ v L, o = .returned v ∧ QD0 Z x (mc + 1) n0 h0 v U'.heap L ∧ FrameEnd U o U' L ({ frames := 4, cells := 1, slots := 10, locals := 56 } : Room).cells ({ frames := 4, cells := 1, slots := 10, locals := 56 } : Room).slots) := by
  refine openP (y := (⟨"java/util/ArrayList", "add", "(Ljava/lang/Object;)Z"⟩ : MethodName)) pn_16 ?_
  intro p e s m below meth c T hx hby hml hret hlk hnm hZ hown X hT 
  refine Go.st (fun _ k => castTop (ef_AA_2 m x ie) k) ?_
  show Go p e below _ (T.setTop (mkF m 0 #[.val (.ref x), .val (.ref ie)] []))
  have N := Fr.nil n0
  refine Go.st (fun _ k => XS.aloadN X.here hx rfl (hb hby d6_0) rfl rfl k) ?_
  show Go p e below _ (T.setTop (mkF m 1 #[.val (.ref x), .val (.ref ie)] [(.ref x)]))
  refine Go.st (fun _ k => XS.dup X.here hx rfl (hb hby d6_1) rfl rfl k) ?_
  show Go p e below _ (T.setTop (mkF m 2 #[.val (.ref x), .val (.ref ie)] [(.ref x), (.ref x)]))
  obtain ⟨T, X, hT, st⟩ := getF X hx hZ hown (host := "") (Or.inl (hw _ (List.mem_of_getElem? (i := 38) rfl))) (Via.of (hw _ (List.mem_of_getElem? (i := 39) rfl))) hT F_x_modCount (g := (mkF m 2 #[.val (.ref x), .val (.ref ie)] [(.ref x), (.ref x)])) rfl rfl (hb hby d6_2)
  refine Go.st st ?_
  show Go p e below _ (T.setTop (mkF m 5 #[.val (.ref x), .val (.ref ie)] [(.int mc), (.ref x)]))
  refine Go.st (fun _ k => XS.iconst X.here hx rfl (hb hby d6_5) k) ?_
  show Go p e below _ (T.setTop (mkF m 6 #[.val (.ref x), .val (.ref ie)] [(.int (1 : Int32)), (.int mc), (.ref x)]))
  refine Go.st (fun _ k => XS.iadd X.here hx rfl (hb hby d6_6) rfl k) ?_
  show Go p e below _ (T.setTop (mkF m 7 #[.val (.ref x), .val (.ref ie)] [(.int (mc + (1 : Int32))), (.ref x)]))
  obtain ⟨T, h1, X, hT, Wr0, st⟩ := putF X hx hZ hown (host := "") (Or.inl (hw _ (List.mem_of_getElem? (i := 38) rfl))) (Via.of (hw _ (List.mem_of_getElem? (i := 39) rfl))) hT F_x_modCount A_x (Or.inl (hw _ (List.mem_of_getElem? (i := 29) rfl))) (hw _ (List.mem_of_getElem? (i := 8) rfl)) (ty := .int) (by decide) rfl rfl (g := (mkF m 7 #[.val (.ref x), .val (.ref ie)] [(.int (mc + (1 : Int32))), (.ref x)])) rfl rfl (hb hby d6_7)
  refine Go.st st ?_
  have N := Fr.snoc X N ge_x
  have A_x := A_x.wr Wr0
  have F_x_modCount := F_x_modCount.same Wr0
  have F_x_elementData := F_x_elementData.other Wr0 (Or.inr (slot_ne (C := "java/util/ArrayList") (Or.inl (hw _ (List.mem_of_getElem? (i := 32) rfl))) (Or.inl (hw _ (List.mem_of_getElem? (i := 29) rfl))) (by decide) (t := (.array (.object "java/lang/Object"))) (by decide) (t' := .int) (by decide)))
  have F_x_size := F_x_size.other Wr0 (Or.inr (slot_ne (C := "java/util/ArrayList") (Or.inl (hw _ (List.mem_of_getElem? (i := 41) rfl))) (Or.inl (hw _ (List.mem_of_getElem? (i := 29) rfl))) (by decide) (t := .int) (by decide) (t' := .int) (by decide)))
  have E_ie := E_ie.wr Wr0
  have KB := (Keep.refl h0 [x]).wr Wr0 (Or.inl (List.mem_of_getElem? (i := 0) rfl))
  show Go p e below _ (T.setTop (mkF m 10 #[.val (.ref x), .val (.ref ie)] []))
  refine Go.st (fun _ k => XS.aloadN X.here hx rfl (hb hby d6_10) rfl rfl k) ?_
  show Go p e below _ (T.setTop (mkF m 11 #[.val (.ref x), .val (.ref ie)] [(.ref x)]))
  refine Go.st (fun _ k => XS.aloadN X.here hx rfl (hb hby d6_11) rfl rfl k) ?_
  show Go p e below _ (T.setTop (mkF m 12 #[.val (.ref x), .val (.ref ie)] [(.ref ie), (.ref x)]))
  refine Go.st (fun _ k => XS.aloadN X.here hx rfl (hb hby d6_12) rfl rfl k) ?_
  show Go p e below _ (T.setTop (mkF m 13 #[.val (.ref x), .val (.ref ie)] [(.ref x), (.ref ie), (.ref x)]))
  have K1 : h0.size ≤ h1.size := KB.1
  obtain ⟨T, X, hT, st⟩ := getF X hx hZ hown (host := "") (Or.inl (hw _ (List.mem_of_getElem? (i := 31) rfl))) Via.refl hT F_x_elementData (g := (mkF m 13 #[.val (.ref x), .val (.ref ie)] [(.ref x), (.ref ie), (.ref x)])) rfl rfl (hb hby d6_13)
  refine Go.st st ?_
  show Go p e below _ (T.setTop (mkF m 16 #[.val (.ref x), .val (.ref ie)] [(.ref dv), (.ref ie), (.ref x)]))
  refine Go.st (fun _ k => XS.aloadN X.here hx rfl (hb hby d6_16) rfl rfl k) ?_
  show Go p e below _ (T.setTop (mkF m 17 #[.val (.ref x), .val (.ref ie)] [(.ref x), (.ref dv), (.ref ie), (.ref x)]))
  obtain ⟨T, X, hT, st⟩ := getF X hx hZ hown (host := "") (Or.inl (hw _ (List.mem_of_getElem? (i := 40) rfl))) Via.refl hT F_x_size (g := (mkF m 17 #[.val (.ref x), .val (.ref ie)] [(.ref x), (.ref dv), (.ref ie), (.ref x)])) rfl rfl (hb hby d6_17)
  refine Go.st st ?_
  show Go p e below _ (T.setTop (mkF m 20 #[.val (.ref x), .val (.ref ie)] [(.int (0 : Int32)), (.ref dv), (.ref ie), (.ref x)]))
  refine Go.virtP (K := "java/util/ArrayList") (z := (⟨"java/util/ArrayList", "add", "(Ljava/lang/Object;[Ljava/lang/Object;I)V"⟩ : MethodName)) (argsL := [(.ref ie), (.ref dv), (.int (0 : Int32))]) (rest := []) (W := 0) (ck := 1) (sk := 10) X hx hZ hown (hml.trans rfl) hT A_x (hw _ (List.mem_of_getElem? (i := 42) rfl)) (own_decl (hw _ (List.mem_of_getElem? (i := 43) rfl)) (hw _ (List.mem_of_getElem? (i := 46) rfl))) (hw _ (List.mem_of_getElem? (i := 45) rfl)) (hw _ (List.mem_of_getElem? (i := 43) rfl)) (by decide) pd_5 rfl rfl (Nat.le_of_ble_eq_true rfl) (hb hby d6_20) (notFace_of_selects (args := #[]) (mvT hZ (hw _ (List.mem_of_getElem? (i := 45) rfl)))) (backOf (W := 0) (met_ad0 l Z a0 hw [] n0 x ie dv kd (mc + 1) _ (O.keep KB (allS ge_x all0)) ge_x Sd Vd A_x F_x_modCount F_x_elementData F_x_size E_ie) hZ (hw _ (List.mem_of_getElem? (i := 46) rfl)) (hw _ (List.mem_of_getElem? (i := 9) rfl)) (by decide) (by decide)) (by decide) (by decide) ?_
  intro v T h2 L hT hQ X
  obtain ⟨r, kr, rfl, N0, K0, gk_r, LL⟩ := hQ
  have KB := (KB).trans K0 (allS (Or.inl (List.mem_of_getElem? (i := 0) rfl)) all0)
  have N := Fr.app N N0
  show Go p e below _ (T.setTop (mkF m 23 #[.val (.ref x), .val (.ref ie)] []))
  refine Go.st (fun _ k => XS.iconst X.here hx rfl (hb hby d6_23) k) ?_
  show Go p e below _ (T.setTop (mkF m 24 #[.val (.ref x), .val (.ref ie)] [(.int (1 : Int32))]))
  refine Go.ret X hx hlk hT hret (by decide) (riI (by simp)) (hb hby d6_24) (by decide) (by decide) ?_
  exact ⟨r, kr, rfl, N, KB, Nat.le_trans K1 gk_r, LL⟩
set_option maxRecDepth 65536 in
set_option maxHeartbeats 40000000 in
theorem met_add1 (l : Launch) (Z : State) (a0 : Array Value) (hw : ∀ d ∈ tables_1, d.before a0 Z = true) (ws : List Jvm.Cond) (n0 : Nat) (x ie r : Addr) (kr : ClassId) (mc : Int32) (h0 : Heap) (ge_x : n0 ≤ x) (ge_r : n0 ≤ r) (Ls0 : Lst Z h0 x r kr mc 1) (E_ie : Exa Z h0 ie "java/lang/Integer") :
    MetFree l (⟨"java/util/ArrayList", "add", "(Ljava/lang/Object;)Z"⟩ : MethodName) (head1 (Jvm.Cond.code (⟨"java/util/ArrayList", "add", "(Ljava/lang/Object;)Z"⟩ : MethodName) jdk_38_method_25_code 2 (some .boolean) :: ws) ({ frames := 1, cells := 0, slots := 0, locals := 15 } : Room)) (fun aa U => aa = #[(.ref x), (.ref ie)] ∧ Z.Warmed39 U.vm ∧ U.heap = h0) (fun _ _ _ _ _ => True) (fun _ U o U' => ∃ v L, o = .returned v ∧ QDk Z x r kr (mc + 1) 2 n0 h0 v U'.heap L ∧ FrameEnd U o U' L ({ frames := 1, cells := 0, slots := 0, locals := 15 } : Room).cells ({ frames := 1, cells := 0, slots := 0, locals := 15 } : Room).slots) := by
  refine openP (y := (⟨"java/util/ArrayList", "add", "(Ljava/lang/Object;)Z"⟩ : MethodName)) pn_16 ?_
  intro p e s m below meth c T hx hby hml hret hlk hnm hZ hown X hT 
  refine Go.st (fun _ k => castTop (ef_AA_2 m x ie) k) ?_
  show Go p e below _ (T.setTop (mkF m 0 #[.val (.ref x), .val (.ref ie)] []))
  have N := Fr.nil n0
  obtain ⟨V0, Ov, A_x, F_x_modCount, F_x_elementData, F_x_size⟩ := Ls0
  obtain ⟨vs, hvl, V_r⟩ := V0
  have ne_x_r : x ≠ r := Exa.neArv A_x V_r (hw _ (List.mem_of_getElem? (i := 8) rfl))
  refine Go.st (fun _ k => XS.aloadN X.here hx rfl (hb hby d6_0) rfl rfl k) ?_
  show Go p e below _ (T.setTop (mkF m 1 #[.val (.ref x), .val (.ref ie)] [(.ref x)]))
  refine Go.st (fun _ k => XS.dup X.here hx rfl (hb hby d6_1) rfl rfl k) ?_
  show Go p e below _ (T.setTop (mkF m 2 #[.val (.ref x), .val (.ref ie)] [(.ref x), (.ref x)]))
  obtain ⟨T, X, hT, st⟩ := getF X hx hZ hown (host := "") (Or.inl (hw _ (List.mem_of_getElem? (i := 38) rfl))) (Via.of (hw _ (List.mem_of_getElem? (i := 39) rfl))) hT F_x_modCount (g := (mkF m 2 #[.val (.ref x), .val (.ref ie)] [(.ref x), (.ref x)])) rfl rfl (hb hby d6_2)
  refine Go.st st ?_
  show Go p e below _ (T.setTop (mkF m 5 #[.val (.ref x), .val (.ref ie)] [(.int mc), (.ref x)]))
  refine Go.st (fun _ k => XS.iconst X.here hx rfl (hb hby d6_5) k) ?_
  show Go p e below _ (T.setTop (mkF m 6 #[.val (.ref x), .val (.ref ie)] [(.int (1 : Int32)), (.int mc), (.ref x)]))
  refine Go.st (fun _ k => XS.iadd X.here hx rfl (hb hby d6_6) rfl k) ?_
  show Go p e below _ (T.setTop (mkF m 7 #[.val (.ref x), .val (.ref ie)] [(.int (mc + (1 : Int32))), (.ref x)]))
  obtain ⟨T, h1, X, hT, Wr0, st⟩ := putF X hx hZ hown (host := "") (Or.inl (hw _ (List.mem_of_getElem? (i := 38) rfl))) (Via.of (hw _ (List.mem_of_getElem? (i := 39) rfl))) hT F_x_modCount A_x (Or.inl (hw _ (List.mem_of_getElem? (i := 29) rfl))) (hw _ (List.mem_of_getElem? (i := 8) rfl)) (ty := .int) (by decide) rfl rfl (g := (mkF m 7 #[.val (.ref x), .val (.ref ie)] [(.int (mc + (1 : Int32))), (.ref x)])) rfl rfl (hb hby d6_7)
  refine Go.st st ?_
  have N := Fr.snoc X N ge_x
  have A_x := A_x.wr Wr0
  have F_x_modCount := F_x_modCount.same Wr0
  have F_x_elementData := F_x_elementData.other Wr0 (Or.inr (slot_ne (C := "java/util/ArrayList") (Or.inl (hw _ (List.mem_of_getElem? (i := 32) rfl))) (Or.inl (hw _ (List.mem_of_getElem? (i := 29) rfl))) (by decide) (t := (.array (.object "java/lang/Object"))) (by decide) (t' := .int) (by decide)))
  have F_x_size := F_x_size.other Wr0 (Or.inr (slot_ne (C := "java/util/ArrayList") (Or.inl (hw _ (List.mem_of_getElem? (i := 41) rfl))) (Or.inl (hw _ (List.mem_of_getElem? (i := 29) rfl))) (by decide) (t := .int) (by decide) (t' := .int) (by decide)))
  have V_r := V_r.other Wr0 ne_x_r.symm
  have E_ie := E_ie.wr Wr0
  have KB := (Keep.refl h0 [x, r]).wr Wr0 (Or.inl (List.mem_of_getElem? (i := 0) rfl))
  show Go p e below _ (T.setTop (mkF m 10 #[.val (.ref x), .val (.ref ie)] []))
  refine Go.st (fun _ k => XS.aloadN X.here hx rfl (hb hby d6_10) rfl rfl k) ?_
  show Go p e below _ (T.setTop (mkF m 11 #[.val (.ref x), .val (.ref ie)] [(.ref x)]))
  refine Go.st (fun _ k => XS.aloadN X.here hx rfl (hb hby d6_11) rfl rfl k) ?_
  show Go p e below _ (T.setTop (mkF m 12 #[.val (.ref x), .val (.ref ie)] [(.ref ie), (.ref x)]))
  refine Go.st (fun _ k => XS.aloadN X.here hx rfl (hb hby d6_12) rfl rfl k) ?_
  show Go p e below _ (T.setTop (mkF m 13 #[.val (.ref x), .val (.ref ie)] [(.ref x), (.ref ie), (.ref x)]))
  obtain ⟨T, X, hT, st⟩ := getF X hx hZ hown (host := "") (Or.inl (hw _ (List.mem_of_getElem? (i := 31) rfl))) Via.refl hT F_x_elementData (g := (mkF m 13 #[.val (.ref x), .val (.ref ie)] [(.ref x), (.ref ie), (.ref x)])) rfl rfl (hb hby d6_13)
  refine Go.st st ?_
  show Go p e below _ (T.setTop (mkF m 16 #[.val (.ref x), .val (.ref ie)] [(.ref r), (.ref ie), (.ref x)]))
  refine Go.st (fun _ k => XS.aloadN X.here hx rfl (hb hby d6_16) rfl rfl k) ?_
  show Go p e below _ (T.setTop (mkF m 17 #[.val (.ref x), .val (.ref ie)] [(.ref x), (.ref r), (.ref ie), (.ref x)]))
  obtain ⟨T, X, hT, st⟩ := getF X hx hZ hown (host := "") (Or.inl (hw _ (List.mem_of_getElem? (i := 40) rfl))) Via.refl hT F_x_size (g := (mkF m 17 #[.val (.ref x), .val (.ref ie)] [(.ref x), (.ref r), (.ref ie), (.ref x)])) rfl rfl (hb hby d6_17)
  refine Go.st st ?_
  show Go p e below _ (T.setTop (mkF m 20 #[.val (.ref x), .val (.ref ie)] [(.int (1 : Int32)), (.ref r), (.ref ie), (.ref x)]))
  refine Go.virtP (K := "java/util/ArrayList") (z := (⟨"java/util/ArrayList", "add", "(Ljava/lang/Object;[Ljava/lang/Object;I)V"⟩ : MethodName)) (argsL := [(.ref ie), (.ref r), (.int (1 : Int32))]) (rest := []) (W := 0) (ck := 0) (sk := 0) X hx hZ hown (hml.trans rfl) hT A_x (hw _ (List.mem_of_getElem? (i := 42) rfl)) (own_decl (hw _ (List.mem_of_getElem? (i := 43) rfl)) (hw _ (List.mem_of_getElem? (i := 46) rfl))) (hw _ (List.mem_of_getElem? (i := 45) rfl)) (hw _ (List.mem_of_getElem? (i := 43) rfl)) (by decide) pd_5 rfl rfl (Nat.le_of_ble_eq_true rfl) (hb hby d6_20) (notFace_of_selects (args := #[]) (mvT hZ (hw _ (List.mem_of_getElem? (i := 45) rfl)))) (backOf (W := 0) (met_ad1 l Z a0 hw [] n0 x ie r kr (mc + 1) _ ge_x ge_r ⟨⟨vs, hvl, V_r⟩, Ov, A_x, F_x_modCount, F_x_elementData, F_x_size⟩ E_ie) hZ (hw _ (List.mem_of_getElem? (i := 46) rfl)) (hw _ (List.mem_of_getElem? (i := 9) rfl)) (by decide) (by decide)) (by decide) (by decide) ?_
  intro v T h2 L hT hQ X
  obtain ⟨rfl, N0, K0, LL⟩ := hQ
  have KB := (KB).trans K0 (allS (Or.inl (List.mem_of_getElem? (i := 0) rfl)) (allS (Or.inl (List.mem_of_getElem? (i := 1) rfl)) all0))
  have N := Fr.app N N0
  show Go p e below _ (T.setTop (mkF m 23 #[.val (.ref x), .val (.ref ie)] []))
  refine Go.st (fun _ k => XS.iconst X.here hx rfl (hb hby d6_23) k) ?_
  show Go p e below _ (T.setTop (mkF m 24 #[.val (.ref x), .val (.ref ie)] [(.int (1 : Int32))]))
  refine Go.ret X hx hlk hT hret (by decide) (riI (by simp)) (hb hby d6_24) (by decide) (by decide) ?_
  exact ⟨rfl, N, KB, LL⟩
set_option maxRecDepth 65536 in
set_option maxHeartbeats 40000000 in
theorem met_add2 (l : Launch) (Z : State) (a0 : Array Value) (hw : ∀ d ∈ tables_1, d.before a0 Z = true) (ws : List Jvm.Cond) (n0 : Nat) (x ie r : Addr) (kr : ClassId) (mc : Int32) (h0 : Heap) (ge_x : n0 ≤ x) (ge_r : n0 ≤ r) (Ls0 : Lst Z h0 x r kr mc 2) (E_ie : Exa Z h0 ie "java/lang/Integer") :
    MetFree l (⟨"java/util/ArrayList", "add", "(Ljava/lang/Object;)Z"⟩ : MethodName) (head1 (Jvm.Cond.code (⟨"java/util/ArrayList", "add", "(Ljava/lang/Object;)Z"⟩ : MethodName) jdk_38_method_25_code 2 (some .boolean) :: ws) ({ frames := 1, cells := 0, slots := 0, locals := 15 } : Room)) (fun aa U => aa = #[(.ref x), (.ref ie)] ∧ Z.Warmed39 U.vm ∧ U.heap = h0) (fun _ _ _ _ _ => True) (fun _ U o U' => ∃ v L, o = .returned v ∧ QDk Z x r kr (mc + 1) 3 n0 h0 v U'.heap L ∧ FrameEnd U o U' L ({ frames := 1, cells := 0, slots := 0, locals := 15 } : Room).cells ({ frames := 1, cells := 0, slots := 0, locals := 15 } : Room).slots) := by
  refine openP (y := (⟨"java/util/ArrayList", "add", "(Ljava/lang/Object;)Z"⟩ : MethodName)) pn_16 ?_
  intro p e s m below meth c T hx hby hml hret hlk hnm hZ hown X hT 
  refine Go.st (fun _ k => castTop (ef_AA_2 m x ie) k) ?_
  show Go p e below _ (T.setTop (mkF m 0 #[.val (.ref x), .val (.ref ie)] []))
  have N := Fr.nil n0
  obtain ⟨V0, Ov, A_x, F_x_modCount, F_x_elementData, F_x_size⟩ := Ls0
  obtain ⟨vs, hvl, V_r⟩ := V0
  have ne_x_r : x ≠ r := Exa.neArv A_x V_r (hw _ (List.mem_of_getElem? (i := 8) rfl))
  refine Go.st (fun _ k => XS.aloadN X.here hx rfl (hb hby d6_0) rfl rfl k) ?_
  show Go p e below _ (T.setTop (mkF m 1 #[.val (.ref x), .val (.ref ie)] [(.ref x)]))
  refine Go.st (fun _ k => XS.dup X.here hx rfl (hb hby d6_1) rfl rfl k) ?_
  show Go p e below _ (T.setTop (mkF m 2 #[.val (.ref x), .val (.ref ie)] [(.ref x), (.ref x)]))
  obtain ⟨T, X, hT, st⟩ := getF X hx hZ hown (host := "") (Or.inl (hw _ (List.mem_of_getElem? (i := 38) rfl))) (Via.of (hw _ (List.mem_of_getElem? (i := 39) rfl))) hT F_x_modCount (g := (mkF m 2 #[.val (.ref x), .val (.ref ie)] [(.ref x), (.ref x)])) rfl rfl (hb hby d6_2)
  refine Go.st st ?_
  show Go p e below _ (T.setTop (mkF m 5 #[.val (.ref x), .val (.ref ie)] [(.int mc), (.ref x)]))
  refine Go.st (fun _ k => XS.iconst X.here hx rfl (hb hby d6_5) k) ?_
  show Go p e below _ (T.setTop (mkF m 6 #[.val (.ref x), .val (.ref ie)] [(.int (1 : Int32)), (.int mc), (.ref x)]))
  refine Go.st (fun _ k => XS.iadd X.here hx rfl (hb hby d6_6) rfl k) ?_
  show Go p e below _ (T.setTop (mkF m 7 #[.val (.ref x), .val (.ref ie)] [(.int (mc + (1 : Int32))), (.ref x)]))
  obtain ⟨T, h1, X, hT, Wr0, st⟩ := putF X hx hZ hown (host := "") (Or.inl (hw _ (List.mem_of_getElem? (i := 38) rfl))) (Via.of (hw _ (List.mem_of_getElem? (i := 39) rfl))) hT F_x_modCount A_x (Or.inl (hw _ (List.mem_of_getElem? (i := 29) rfl))) (hw _ (List.mem_of_getElem? (i := 8) rfl)) (ty := .int) (by decide) rfl rfl (g := (mkF m 7 #[.val (.ref x), .val (.ref ie)] [(.int (mc + (1 : Int32))), (.ref x)])) rfl rfl (hb hby d6_7)
  refine Go.st st ?_
  have N := Fr.snoc X N ge_x
  have A_x := A_x.wr Wr0
  have F_x_modCount := F_x_modCount.same Wr0
  have F_x_elementData := F_x_elementData.other Wr0 (Or.inr (slot_ne (C := "java/util/ArrayList") (Or.inl (hw _ (List.mem_of_getElem? (i := 32) rfl))) (Or.inl (hw _ (List.mem_of_getElem? (i := 29) rfl))) (by decide) (t := (.array (.object "java/lang/Object"))) (by decide) (t' := .int) (by decide)))
  have F_x_size := F_x_size.other Wr0 (Or.inr (slot_ne (C := "java/util/ArrayList") (Or.inl (hw _ (List.mem_of_getElem? (i := 41) rfl))) (Or.inl (hw _ (List.mem_of_getElem? (i := 29) rfl))) (by decide) (t := .int) (by decide) (t' := .int) (by decide)))
  have V_r := V_r.other Wr0 ne_x_r.symm
  have E_ie := E_ie.wr Wr0
  have KB := (Keep.refl h0 [x, r]).wr Wr0 (Or.inl (List.mem_of_getElem? (i := 0) rfl))
  show Go p e below _ (T.setTop (mkF m 10 #[.val (.ref x), .val (.ref ie)] []))
  refine Go.st (fun _ k => XS.aloadN X.here hx rfl (hb hby d6_10) rfl rfl k) ?_
  show Go p e below _ (T.setTop (mkF m 11 #[.val (.ref x), .val (.ref ie)] [(.ref x)]))
  refine Go.st (fun _ k => XS.aloadN X.here hx rfl (hb hby d6_11) rfl rfl k) ?_
  show Go p e below _ (T.setTop (mkF m 12 #[.val (.ref x), .val (.ref ie)] [(.ref ie), (.ref x)]))
  refine Go.st (fun _ k => XS.aloadN X.here hx rfl (hb hby d6_12) rfl rfl k) ?_
  show Go p e below _ (T.setTop (mkF m 13 #[.val (.ref x), .val (.ref ie)] [(.ref x), (.ref ie), (.ref x)]))
  obtain ⟨T, X, hT, st⟩ := getF X hx hZ hown (host := "") (Or.inl (hw _ (List.mem_of_getElem? (i := 31) rfl))) Via.refl hT F_x_elementData (g := (mkF m 13 #[.val (.ref x), .val (.ref ie)] [(.ref x), (.ref ie), (.ref x)])) rfl rfl (hb hby d6_13)
  refine Go.st st ?_
  show Go p e below _ (T.setTop (mkF m 16 #[.val (.ref x), .val (.ref ie)] [(.ref r), (.ref ie), (.ref x)]))
  refine Go.st (fun _ k => XS.aloadN X.here hx rfl (hb hby d6_16) rfl rfl k) ?_
  show Go p e below _ (T.setTop (mkF m 17 #[.val (.ref x), .val (.ref ie)] [(.ref x), (.ref r), (.ref ie), (.ref x)]))
  obtain ⟨T, X, hT, st⟩ := getF X hx hZ hown (host := "") (Or.inl (hw _ (List.mem_of_getElem? (i := 40) rfl))) Via.refl hT F_x_size (g := (mkF m 17 #[.val (.ref x), .val (.ref ie)] [(.ref x), (.ref r), (.ref ie), (.ref x)])) rfl rfl (hb hby d6_17)
  refine Go.st st ?_
  show Go p e below _ (T.setTop (mkF m 20 #[.val (.ref x), .val (.ref ie)] [(.int (2 : Int32)), (.ref r), (.ref ie), (.ref x)]))
  refine Go.virtP (K := "java/util/ArrayList") (z := (⟨"java/util/ArrayList", "add", "(Ljava/lang/Object;[Ljava/lang/Object;I)V"⟩ : MethodName)) (argsL := [(.ref ie), (.ref r), (.int (2 : Int32))]) (rest := []) (W := 0) (ck := 0) (sk := 0) X hx hZ hown (hml.trans rfl) hT A_x (hw _ (List.mem_of_getElem? (i := 42) rfl)) (own_decl (hw _ (List.mem_of_getElem? (i := 43) rfl)) (hw _ (List.mem_of_getElem? (i := 46) rfl))) (hw _ (List.mem_of_getElem? (i := 45) rfl)) (hw _ (List.mem_of_getElem? (i := 43) rfl)) (by decide) pd_5 rfl rfl (Nat.le_of_ble_eq_true rfl) (hb hby d6_20) (notFace_of_selects (args := #[]) (mvT hZ (hw _ (List.mem_of_getElem? (i := 45) rfl)))) (backOf (W := 0) (met_ad2 l Z a0 hw [] n0 x ie r kr (mc + 1) _ ge_x ge_r ⟨⟨vs, hvl, V_r⟩, Ov, A_x, F_x_modCount, F_x_elementData, F_x_size⟩ E_ie) hZ (hw _ (List.mem_of_getElem? (i := 46) rfl)) (hw _ (List.mem_of_getElem? (i := 9) rfl)) (by decide) (by decide)) (by decide) (by decide) ?_
  intro v T h2 L hT hQ X
  obtain ⟨rfl, N0, K0, LL⟩ := hQ
  have KB := (KB).trans K0 (allS (Or.inl (List.mem_of_getElem? (i := 0) rfl)) (allS (Or.inl (List.mem_of_getElem? (i := 1) rfl)) all0))
  have N := Fr.app N N0
  show Go p e below _ (T.setTop (mkF m 23 #[.val (.ref x), .val (.ref ie)] []))
  refine Go.st (fun _ k => XS.iconst X.here hx rfl (hb hby d6_23) k) ?_
  show Go p e below _ (T.setTop (mkF m 24 #[.val (.ref x), .val (.ref ie)] [(.int (1 : Int32))]))
  refine Go.ret X hx hlk hT hret (by decide) (riI (by simp)) (hb hby d6_24) (by decide) (by decide) ?_
  exact ⟨rfl, N, KB, LL⟩
theorem d12_0 : decode jdk_40_method_36_code 0 = .ok (.getstatic 90, 3) := by decide +kernel
theorem d12_3 : decode jdk_40_method_36_code 3 = .ok (.areturn, 1) := by decide +kernel
theorem pn_17 : plainFor (⟨"java/util/List", "of", "()Ljava/util/List;"⟩ : MethodName) = true := by first | exact plainFor_of_name (by first | (simp [plainName, overriddenIn]; done) | decide +kernel) | decide +kernel
theorem ef_n_0 (m : MethodId)  : entryFrame m #[] 0 = mkF m 0 #[] [] := by first | (simp [entryFrame, mkF, argsToLocals, Value.category]; done) | rfl
set_option maxRecDepth 65536 in
set_option maxHeartbeats 40000000 in
theorem met_lof (l : Launch) (Z : State) (a0 : Array Value) (hw : ∀ d ∈ tables_1, d.before a0 Z = true) (ws : List Jvm.Cond) (n0 : Nat) (el : Addr) (h0 : Heap) (O : Old Z n0 h0) (Se : Sta Z Z.heap "java/util/ImmutableCollections" "EMPTY_LIST" "Ljava/util/ImmutableCollections$ListN;" (.ref el)) :
    MetFree l (⟨"java/util/List", "of", "()Ljava/util/List;"⟩ : MethodName) (head1 (Jvm.Cond.code (⟨"java/util/List", "of", "()Ljava/util/List;"⟩ : MethodName) jdk_40_method_36_code 0 (some (.object "java/util/List")) :: ws) ({ frames := 0, cells := 0, slots := 0, locals := 0 } : Room)) (fun aa U => aa = #[] ∧ Z.Warmed39 U.vm ∧ U.heap = h0) (fun _ _ _ _ _ => True) (fun _ U o U' => ∃ v L, o = .returned v ∧ QV (.ref el) h0 v U'.heap L ∧ FrameEnd U o U' L ({ frames := 0, cells := 0, slots := 0, locals := 0 } : Room).cells ({ frames := 0, cells := 0, slots := 0, locals := 0 } : Room).slots) := by
  refine openP (y := (⟨"java/util/List", "of", "()Ljava/util/List;"⟩ : MethodName)) pn_17 ?_
  intro p e s m below meth c T hx hby hml hret hlk hnm hZ hown X hT 
  refine Go.st (fun _ k => castTop (ef_n_0 m ) k) ?_
  show Go p e below _ (T.setTop (mkF m 0 #[] []))
  obtain ⟨T, X, hT, st⟩ := getS2 X hx hZ hown (host := "") (Or.inl (hw _ (List.mem_of_getElem? (i := 74) rfl))) Via.refl hT (Se.ext O.2) (g := (mkF m 0 #[] [])) rfl (hb hby d12_0)
  refine Go.st st ?_
  show Go p e below _ (T.setTop (mkF m 3 #[] [(.ref el)]))
  refine Go.ret X hx hlk hT hret rfl (riA rfl rfl) (hb hby d12_3) (by decide) (by decide) ?_
  exact ⟨rfl, rfl, rfl⟩
theorem d17_0 : decode jdk_45_method_3_code 0 = .ok (.aload_n 0, 1) := by decide +kernel
theorem d17_1 : decode jdk_45_method_3_code 1 = .ok (.getfield 7, 3) := by decide +kernel
theorem d17_4 : decode jdk_45_method_3_code 4 = .ok (.arraylength, 1) := by decide +kernel
theorem d17_5 : decode jdk_45_method_3_code 5 = .ok (.ireturn, 1) := by decide +kernel
theorem pn_18 : plainFor (⟨"java/util/ImmutableCollections$ListN", "size", "()I"⟩ : MethodName) = true := by first | exact plainFor_of_name (by first | (simp [plainName, overriddenIn]; done) | decide +kernel) | decide +kernel
set_option maxRecDepth 65536 in
set_option maxHeartbeats 40000000 in
theorem met_lsz (l : Launch) (Z : State) (a0 : Array Value) (hw : ∀ d ∈ tables_1, d.before a0 Z = true) (ws : List Jvm.Cond) (x ea : Addr) (ke : ClassId) (h0 : Heap) (F_x : Fld Z h0 x "java/util/ImmutableCollections$ListN" "elements" "[Ljava/lang/Object;" (.ref ea)) (V_e : Arv Z h0 ea ke (.object "java/lang/Object") (0 : Int32) [] .null) :
    MetFree l (⟨"java/util/ImmutableCollections$ListN", "size", "()I"⟩ : MethodName) (head1 (Jvm.Cond.code (⟨"java/util/ImmutableCollections$ListN", "size", "()I"⟩ : MethodName) jdk_45_method_3_code 1 (some .int) :: ws) ({ frames := 0, cells := 0, slots := 0, locals := 0 } : Room)) (fun aa U => aa = #[(.ref x)] ∧ Z.Warmed39 U.vm ∧ U.heap = h0) (fun _ _ _ _ _ => True) (fun _ U o U' => ∃ v L, o = .returned v ∧ QV (.int 0) h0 v U'.heap L ∧ FrameEnd U o U' L ({ frames := 0, cells := 0, slots := 0, locals := 0 } : Room).cells ({ frames := 0, cells := 0, slots := 0, locals := 0 } : Room).slots) := by
  refine openP (y := (⟨"java/util/ImmutableCollections$ListN", "size", "()I"⟩ : MethodName)) pn_18 ?_
  intro p e s m below meth c T hx hby hml hret hlk hnm hZ hown X hT 
  refine Go.st (fun _ k => castTop (ef_A_1 m x) k) ?_
  show Go p e below _ (T.setTop (mkF m 0 #[.val (.ref x)] []))
  refine Go.st (fun _ k => XS.aloadN X.here hx rfl (hb hby d17_0) rfl rfl k) ?_
  show Go p e below _ (T.setTop (mkF m 1 #[.val (.ref x)] [(.ref x)]))
  obtain ⟨T, X, hT, st⟩ := getF X hx hZ hown (host := "") (Or.inl (hw _ (List.mem_of_getElem? (i := 115) rfl))) Via.refl hT F_x (g := (mkF m 1 #[.val (.ref x)] [(.ref x)])) rfl rfl (hb hby d17_1)
  refine Go.st st ?_
  show Go p e below _ (T.setTop (mkF m 4 #[.val (.ref x)] [(.ref ea)]))
  obtain ⟨cl0, Ar0, q0, S0, M0, H0, U0⟩ := id V_e
  refine Go.st (fun _ k => X.arraylength hx (by rw [hT]; exact Ar0.1) (State.isArrayOf_alike hZ.alike Ar0.2.1) (g := (mkF m 4 #[.val (.ref x)] [(.ref ea)])) rfl rfl (hb hby d17_4) _ k) ?_
  rw [len_of S0 M0]
  show Go p e below _ (T.setTop (mkF m 5 #[.val (.ref x)] [(.int (0 : Int32))]))
  refine Go.ret X hx hlk hT hret rfl (riI (by simp)) (hb hby d17_5) (by decide) (by decide) ?_
  exact ⟨rfl, rfl, rfl⟩
section Lam
variable {p : Program} {l : Launch} {e : Env} {R : Room} {s : State} {m : MethodId} {args : Array Value} {below : List Frame} {meth : Method} {c : Code} {T : State} {locs : List Loc} {cells slots : Nat}
  {Φ : Outcome → State → Prop} {Z : State} {a0 : Array Value} {h h' : Heap} {Q : Option Value → Heap → List Loc → Prop}
/-- as openP, and the method is the named one -/
theorem openN {y : MethodName} {bytes : ByteArray} {maxL : Nat} {ret : Option FieldType} {ws : List Cond} {rm : Room} {as' : Array Value} (hp : plainFor y = true)
    (body : ∀ (p : Program) (e : Env) (s : State) (m : MethodId) (below : List Frame) (meth : Method) (c : Code) (T : State), p.tables.exec = Jvm.exec → c.code = bytes → c.maxLocals = maxL → meth.sig.returnType = ret → meth.locks = false → meth.name = y.name →
      Z.Warmed39 s.vm → s.vm.findClass y.cls = some m.cls → Stand p l e rm s m as' below meth c T [] 0 0 → T.heap = h → s.methodNamed? y = some m → Go p e below (EndP s Q rm.cells rm.slots) (T.setTop (entryFrame m as' maxL))) :
    MetFree l y (head1 (Cond.code y bytes maxL ret :: ws) rm) (fun a U => a = as' ∧ Z.Warmed39 U.vm ∧ U.heap = h) (fun _ _ _ _ _ => True) (fun _ U o U' => ∃ v L, o = .returned v ∧ Q v U'.heap L ∧ FrameEnd U o U' L rm.cells rm.slots) := by
  refine MetFree.of_bodySF hp hisR ?_
  intro p e s m args below meth c s₁ Bd hml0 hP hK
  obtain ⟨rfl, hZ, hh⟩ := hP
  exact body p e s m below meth c s₁ Bd.exec Bd.bytes hml0 Bd.returns (BodyLoose.notSynchronized Bd) (name_of_methodNamed Bd.named Bd.method).1 hZ (findClass_of_methodNamed Bd.named) (Stand.of_body Bd) (by rw [← hh, Bd.state]; rfl) Bd.named
/-- for the law itself: its tables are warmer than Z's in the narrow sense -/
theorem openL {y : MethodName} {bytes : ByteArray} {maxL : Nat} {ret : Option FieldType} {ws : List Cond} {rm : Room} {as' : Array Value} (hp : plainFor y = true)
    (body : ∀ (p : Program) (e : Env) (s : State) (m : MethodId) (below : List Frame) (meth : Method) (c : Code) (T : State), p.tables.exec = Jvm.exec → c.code = bytes → c.maxLocals = maxL → meth.sig.returnType = ret → meth.locks = false → meth.name = y.name →
      Z.Warmed39 s.vm → s.vm.findClass y.cls = some m.cls → Stand p l e rm s m as' below meth c T [] 0 0 → T.heap = h → Z.WarmedH s.vm → Go p e below (EndP s Q rm.cells rm.slots) (T.setTop (entryFrame m as' maxL))) :
    MetFree l y (head1 (Cond.code y bytes maxL ret :: ws) rm) (fun a U => a = as' ∧ Z.WarmedH U.vm ∧ U.heap = h) (fun _ _ _ _ _ => True) (fun _ U o U' => ∃ v L, o = .returned v ∧ Q v U'.heap L ∧ FrameEnd U o U' L rm.cells rm.slots) := by
  refine MetFree.of_bodySF hp hisR ?_
  intro p e s m args below meth c s₁ Bd hml0 hP hK
  obtain ⟨rfl, hZ, hh⟩ := hP
  exact body p e s m below meth c s₁ Bd.exec Bd.bytes hml0 Bd.returns (BodyLoose.notSynchronized Bd) (name_of_methodNamed Bd.named Bd.method).1 hZ.wide (findClass_of_methodNamed Bd.named) (Stand.of_body Bd) (by rw [← hh, Bd.state]; rfl) hZ
/-- invokedynamic at a site that captures nothing: the one object, of Z's own heap -/
theorem Go.siteC (X : Stand p l e R s m args below meth c T locs cells slots) (hx : p.tables.exec = Jvm.exec) (hZ : Z.Warmed39 s.vm) {x : MethodName} {pc index : Nat} {σ : Lambda.Shape} (hnamed : s.methodNamed? x = some m)
    (w : (Cond.lambdaSite x pc index σ).before a0 Z = true) (hcap : σ.captured = []) {Ls : Array Slot} {st : List Value} (hml : c.maxLocals = Ls.size) (hd : decode c.code pc = .ok (.invokedynamic index, 5)) (hwords : (st.map fun v => v.category).sum + 3072 ≤ R.locals)
    (k : ∀ (a : Addr) (cK : ClassId), LamKit.Made Z x.cls σ cK → LamKit.FnAt Z.heap a cK → Go p e below Φ (T.setTop (mkF m (pc + 5) Ls (.ref a :: st)))) : Go p e below Φ (T.setTop (mkF m pc Ls st)) := by
  obtain ⟨cK, one, hat⟩ := Cond.lambdaSite_spec w
  obtain ⟨mD, kD, cfD, i0, p0, lk, hmD, hkD, -, -, -, hfind, hmade, hcan, hl⟩ := State.lambdaAt?_spec hat
  have hmn : s.methodNamed? x = some mD := by
    have q := State.methodNamed?_setVm (s := Z) hZ.alike x
    rw [hmD] at q
    exact q
  cases hnamed.symm.trans hmn
  obtain ⟨kD', hkD', heD⟩ := hZ.alike.2.2 _ _ hkD
  have hfind' : (kD'.callSites.find? fun y => y.1 == m.idx && y.2.1 == pc) = some (i0, p0, lk) := by rw [heD]; exact hfind
  obtain ⟨kN, hkN, hnameD⟩ := className_of_methodNamed hmD
  cases hkD.symm.trans hkN
  rcases hl with ⟨a, cell, rfl, -, -, hcell, hcls, hvm, -⟩ | ⟨-, -, hne⟩
  · have hw' : e.platform.lambdaLinkWords = 3072 := by rw [X.admits.platform]
    exact Go.st (fun t kk => X.lambdaConstant hx (g := mkF m pc Ls st) rfl hml.symm hd hkD' hfind' (by rw [hw']; show 2 * 0 + (st.map fun v => v.category).sum + 3072 ≤ R.locals; omega) kk) (k a cK ⟨_, kD, hkD, hnameD, hmade, hcan⟩ ⟨cell, hcell, hcls, hvm⟩)
  · exact absurd hcap hne
theorem own_push (h : Heap) (cl : Cell) : Ext h (h.push cl) ∧ (h.push cl)[h.size]? = some cl := by
  refine ⟨⟨by simp, fun a c q => ?_⟩, by simp⟩
  have hlt := (Array.getElem?_eq_some_iff.mp q).1
  rw [Array.getElem?_push, if_neg (Nat.ne_of_lt hlt)]; exact q
/-- invokedynamic at a site that captures vals -/
theorem Go.siteM (X : Stand p l e R s m args below meth c T locs cells slots) (hx : p.tables.exec = Jvm.exec) (hZ : Z.Warmed39 s.vm) {x : MethodName} {pc index fi : Nat} {σ : Lambda.Shape} (hnamed : s.methodNamed? x = some m)
    (w : (Cond.lambdaSite x pc index σ).before a0 Z = true) (hcap : σ.captured ≠ []) (hok : LamKit.capOK σ x.cls fi 0 = true) (hO : (Cond.instantiable "java/lang/Object" 0).before a0 Z = true) (hT : T.heap = h)
    {Ls : Array Slot} {st vals rest : List Value} {nv : Nat} (hnv : vals.length = nv) (hml : c.maxLocals = Ls.size) (hd : decode c.code pc = .ok (.invokedynamic index, 5)) (hst : st = vals.reverse ++ rest) (hlen : vals.length = σ.captured.length)
    (hfit : ∀ (i : Nat) t v, σ.captured[i]? = some t → vals[i]? = some v → narrow t v = v ∧ fits t v = true) (hwords : (st.map fun v => v.category).sum + 3072 ≤ R.locals) (hc : cells + 1 ≤ R.cells) (hs : slots + nv ≤ R.slots)
    (k : ∀ (a : Addr) (T' : State) (h' : Heap) (cK : ClassId), a = h.size → T'.heap = h' → Ext h h' → LamKit.Made Z x.cls σ cK → h'[a]? = some ({ cls := cK, slots := vals.toArray, vm := .none } : Cell) → Stand p l e R s m args below meth c T' locs (cells + 1) (slots + nv) → Go p e below Φ (T'.setTop (mkF m (pc + 5) Ls (.ref a :: rest)))) :
    Go p e below Φ (T.setTop (mkF m pc Ls st)) := by
  subst hst hnv
  obtain ⟨cK, one, hat⟩ := Cond.lambdaSite_spec w
  obtain ⟨mD, kD, cfD, i0, p0, lk, hmD, hkD, hcfD, hsh, -, hfind, hmade, hcan, hl⟩ := State.lambdaAt?_spec hat
  have hmn : s.methodNamed? x = some mD := by
    have q := State.methodNamed?_setVm (s := Z) hZ.alike x
    rw [hmD] at q
    exact q
  cases hnamed.symm.trans hmn
  obtain ⟨kD', hkD', heD⟩ := hZ.alike.2.2 _ _ hkD
  have hfind' : (kD'.callSites.find? fun y => y.1 == m.idx && y.2.1 == pc) = some (i0, p0, lk) := by rw [heD]; exact hfind
  have hcf' : kD'.cf = some cfD := by rw [heD]; exact hcfD
  obtain ⟨kN, hkN, hnameD⟩ := className_of_methodNamed hmD
  cases hkD.symm.trans hkN
  rcases hl with ⟨a, cell, -, -, hc0, -⟩ | ⟨rfl, -, -⟩
  · exact absurd hc0 hcap
  · obtain ⟨b, nt, desc, site, h1, h2, h3, h4⟩ := Lambda.shapeOf?_site hsh
    obtain ⟨kc, f, hkc, hkind, hty, -⟩ := LamKit.made_cap hok hkD hnameD hmade (LamKit.noFields hO (State.WarmedH.refl Z))
    obtain ⟨kc', hkc', hec⟩ := hZ.alike.2.2 _ _ hkc
    have hty' : kc'.instanceTypes = σ.captured.toArray := by rw [hec]; exact hty
    have hkind' : kc'.kind = .ordinary := by rw [hec]; exact hkind
    have hz : ((kc'.instanceTypes.toList.zip vals).map fun (t, v) => narrow t v) = vals := by rw [hty']; exact LamKit.zip_narrow _ _ hlen fun i t v a b => (hfit i t v a b).1
    have hw' : e.platform.lambdaLinkWords = 3072 := by rw [X.admits.platform]
    have q := X.lambdaMakes hx (g := mkF m pc Ls (vals.reverse ++ rest)) rfl hml.symm hd (vals := vals) (rest := rest) hkD' hfind' hcf' h1 h2 (parseLong_of_parse h3) (by rw [h4]; exact hlen) rfl hkc' (by rw [hw']; show 2 * 0 + ((vals.reverse ++ rest).map fun v => v.category).sum + 3072 ≤ R.locals; omega) hc (by rw [hz]; exact hs)
      (fun i v hv => by
        rw [hz] at hv
        have hv' : vals[i]? = some v := by simpa using hv
        have hi : i < σ.captured.length := by rw [← hlen]; exact (List.getElem?_eq_some_iff.mp hv').1
        have := (hfit i _ v (List.getElem?_eq_getElem hi) hv').2
        simp [State.fitsSlot, State.slotType?, hkc', hkind', hty', List.getElem?_eq_getElem hi, this])
    rw [hz] at q
    have hp := own_push T.heap ({ cls := cK, slots := vals.toArray, vm := .none } : Cell)
    rw [hT] at hp
    refine Go.st q.2 (k _ _ _ cK (by rw [hT]) rfl ?_ ⟨_, kD, hkD, hnameD, hmade, hcan⟩ ?_ (by simpa using q.1))
    · show Ext h (T.heap.push _)
      rw [hT]; exact hp.1
    · show (T.heap.push _)[T.heap.size]? = _
      rw [hT]; exact hp.2
/-- invokeinterface of a callee that touches nothing, on an object exactly of class K -/
theorem Go.faceV {own K : String} {index count W pc : Nat} {y z : MethodName} {Ls : Array Slot} {argsL rest st : List Value} {ps : List FieldType} {rr : Option FieldType} {a : Addr} {w : Value} (X : Stand p l e R s m args below meth c T locs cells slots) (hx : p.tables.exec = Jvm.exec) (hZ : Z.Warmed39 s.vm) (hown : s.vm.findClass own = some m.cls) (hml : c.maxLocals = Ls.size) (hT : T.heap = h) (E : Exa Z h a K)
    (w1 : (Cond.methodLink own index y).before a0 Z = true) (w2 : (Cond.declares y).before a0 Z = true) (w5 : (Cond.interfaceMethod y.cls y.cls y.name y.desc).before a0 Z = true) (w3 : (Cond.selects K y z).before a0 Z = true) (w4 : (Cond.instanceMethod z).before a0 Z = true)
    (w6 : (Cond.publicMethod z).before a0 Z = true) (w7 : (Cond.unhidden K y.name y.desc).before a0 Z = true) (w8 : (Cond.castable K y.cls).before a0 Z = true) (hy : y.cls ≠ "java/lang/invoke/MethodHandle" ∧ y.cls ≠ "java/lang/invoke/VarHandle")
    (hpd : parseMethodDescriptor y.desc = some ⟨ps, rr⟩) (hlen : argsL.length = ps.length) (hst : st = argsL.reverse ++ .ref a :: rest) (hW : (rest.map fun v => v.category).sum ≤ W) (hd : decode c.code pc = .ok (.invokeinterface index count, 5))
    (hB : Back l R p e below s args z 5 W (fun A a' => a' = (Value.ref a :: argsL).toArray ∧ A.U.heap = h ∧ A.cells + 0 ≤ R.cells ∧ A.slots + 0 ≤ R.slots) (fun A _ v B => ∃ L, QV w h v B.U.heap L ∧ B.locs = A.locs ++ L ∧ B.cells = A.cells + 0 ∧ B.slots = A.slots + 0)) (hc : cells ≤ R.cells) (hs : slots ≤ R.slots)
    (k : ∀ (T' : State), T'.heap = h → Stand p l e R s m args below meth c T' locs cells slots → Go p e below Φ (T'.setTop (mkF m (pc + 5) Ls (w :: rest)))) :
    Go p e below Φ (T.setTop (mkF m pc Ls st)) := by
  subst hst
  obtain ⟨cq, kq, qa, qb, qc⟩ := isOf (s := s) (T := T) hZ hT E
  obtain ⟨v, vm₁, ⟨T', L', k', n'⟩, -, X', ⟨L, hQ, l', y', z'⟩, st⟩ := X.interfaceBack hx (xi := y) (y := z) hown (mvT hZ w1) (mvT hZ w2) (mvT hZ w5 (by simp [Cond.onTables, Cond.keepsFace, Cond.keeps, Cond.steady, Cond.faceAtom, hy.1, hy.2])) (mvT hZ w3) (mvT hZ w4) (mvT hZ w6) (mvT hZ w7) (mvT hZ w8) hy hB qa qb qc (g := mkF m pc Ls (argsL.reverse ++ .ref a :: rest)) rfl hml.symm (Steps.refl _) (argsL := argsL) (rest := rest) (lenOf hpd hlen) rfl (by show 2 * 0 + _ ≤ _; omega) hd (fun _ _ => ⟨rfl, hT, hc, hs⟩)
  dsimp only [Pt.U, Pt.locs, Pt.cells, Pt.slots] at X' l' y' z' st hQ
  subst l' y' z'
  obtain ⟨rfl, rfl, hq⟩ := hQ
  rw [List.append_nil] at X'
  exact Go.tr st (k T' hq X')
/-- the made class's entry i names the class called 'name' -/
def own_clsOK (σ : Lambda.Shape) (host : String) (i : Nat) (name : String) : Bool :=
  match σ.file host with
  | none => false
  | some D =>
    match D.constantPool[i]? with
    | some (.class_ n) => decide (D.constantPool.string? n = some name) && decide (i ≠ D.thisClass)
    | _ => false
theorem own_made_cls {st : Setting} {vm : Vm} {d ck : ClassId} {dk : Class} {σ : Lambda.Shape} {host name : String} {i : Nat} {x : ClassId} (hok : own_clsOK σ host i name = true) (hd : vm.classes[d]? = some dk) (hname : dk.name = host)
    (h : Lambda.isMade st vm d σ ck = true) (hf : vm.findClass name = some x) : vm.classReady ck i x := by
  obtain ⟨dk', kk, ok, tk, file, cf, object, iface, toy, lay, methods, target, found, hd', hk, hfile, hcf, -, -, -, -, hms, ht, htk, hg, -, hrec, -, -, -, -, hpool, hmeth, -, -, hres, -⟩ := Lambda.isMade_spec h
  cases hd.symm.trans hd'
  rw [hname] at hcf
  unfold own_clsOK at hok
  rw [hcf] at hok
  dsimp only at hok
  split at hok
  · rename_i n hi
    simp only [Bool.and_eq_true, decide_eq_true_eq] at hok
    exact ⟨kk, hk, hres i _ (Lambda.resolvedOf_class hi hok.2 hok.1 hf)⟩
  · cases hok
/-- checkcast in a forwarder -/
theorem own_castCap {U target : State} {host name : String} {σ : Lambda.Shape} {cK : ClassId} {ck : Code} {bl : List Frame} {i : Nat} (hexec : p.tables.exec = Jvm.exec) (hU : At U ⟨cK, 1⟩ ck bl) (hW : s.WarmedH U.vm)
    (hmd : LamKit.Made s host σ cK) (hok : own_clsOK σ host i name = true) {a : Addr} (hZ : Z.Warmed39 s.vm) (F : Ins Z U.heap a name true) {g : JFrame} (hg : g.method = ⟨cK, 1⟩) {rest : List Value} (hstack : g.stack = .ref a :: rest)
    (hdg : decode ck.code g.pc = .ok (.checkcast i, 3)) (k : Steps p.tables e bl (U.setTop { g with pc := g.pc + 3 }) target) : Steps p.tables e bl (U.setTop g) target := by
  obtain ⟨d, dk, hd, hdn, hmade, -⟩ := hmd
  obtain ⟨dk', hd', he⟩ := hW.alike.2.2 _ _ hd
  obtain ⟨cell, cT, h1, h2, h3⟩ := F
  simp only [Bool.and_eq_true, Bool.not_eq_true'] at h3
  have hcT : U.vm.findClass name = some cT := by rw [hW.alike.findClass, hZ.alike.findClass]; exact h2
  have hasg : U.vm.assignable cell.cls cT = true := by rw [hW.alike.assignable, hZ.alike.assignable]; exact h3.2
  obtain ⟨kt, hkt, -⟩ := Vm.findClass_spec hcT
  obtain ⟨ks, hks⟩ := Vm.classAt_of_assignable hasg ⟨kt, hkt⟩
  have hr := own_made_cls hok hd' (by rw [he]; exact hdn) (Lambda.isMade_warmer hW hmade) hcT
  have hU' : At U g.method ck bl := by rw [hg]; exact hU
  jvm_step hU' [hexec, hdg, checkcast.wp_ready (e := e) (s := U) (f := g) (c := cT) (x := .ref a) (rest := rest) hU.top (by rw [hg]; exact hr) hstack]
  exact ⟨cell, h1, VmData.noStatics_of h3.1, ks, hks, kt, hkt, by rw [if_pos hasg]; exact k⟩
theorem own_made_at {host : String} {σ : Lambda.Shape} {cK : ClassId} (hW : Z.WarmedH s.vm) (hmd : LamKit.Made Z host σ cK) : LamKit.Made s host σ cK := by
  obtain ⟨d, dk, hd, hdn, hmade, hcan⟩ := hmd
  obtain ⟨dk', hd', he⟩ := hW.alike.2.2 _ _ hd
  refine ⟨d, dk', hd', by rw [he]; exact hdn, Lambda.isMade_warmer hW hmade, ?_⟩
  have hA := hW.alike
  simp only [State.lambdaCallable, hA.findClass, hA.assignable, hA.superclasses, hA.declaredIn] at hcan ⊢
  exact hcan
end Lam
abbrev σ1 : Lambda.Shape := Lambda.Shape.mk "java/util/function/Predicate" "test" ⟨[(FieldType.object "java/lang/Object")], some .boolean⟩ [] 6 "com/example/pocket_context/pocketcontext/internal/Walk$Step" "lambda$new$0" ⟨[(FieldType.object "java/lang/Object")], some .boolean⟩ false ⟨[(FieldType.object "java/lang/Object")], some .boolean⟩
abbrev σ2 : Lambda.Shape := Lambda.Shape.mk "java/util/function/Function" "apply" ⟨[(FieldType.object "java/lang/Object")], some (FieldType.object "java/lang/Object")⟩ [(FieldType.object "java/lang/Object")] 6 "com/example/pocket_context/pocketcontext/internal/Walk$Step" "lambda$done$1" ⟨[(FieldType.object "java/lang/Object"), (FieldType.object "java/util/List")], some (FieldType.object "java/lang/Object")⟩ false ⟨[(FieldType.object "java/util/List")], some (FieldType.object "java/lang/Object")⟩
abbrev xi1 : MethodName := ⟨"java/util/function/Predicate", "test", "(Ljava/lang/Object;)Z"⟩
abbrev xi2 : MethodName := ⟨"java/util/function/Function", "apply", "(Ljava/lang/Object;)Ljava/lang/Object;"⟩
abbrev tg1 : MethodName := ⟨"com/example/pocket_context/pocketcontext/internal/Walk$Step", "lambda$new$0", "(Ljava/lang/Object;)Z"⟩
abbrev tg2 : MethodName := ⟨"com/example/pocket_context/pocketcontext/internal/Walk$Step", "lambda$done$1", "(Ljava/lang/Object;Ljava/util/List;)Ljava/lang/Object;"⟩
def fc1 : ByteArray := ⟨#[0x2b, 0xb8, 0x00, 0x11, 0xac]⟩
def fc2 : ByteArray := ⟨#[0x2a, 0xb4, 0x00, 0x0f, 0x2b, 0xc0, 0x00, 0x13, 0xb8, 0x00, 0x19, 0xb0]⟩
theorem fwd1 : LamKit.fwdOK σ1 "com/example/pocket_context/pocketcontext/internal/Walk$Step" fc1 2 (some .boolean) 17 14 = true := by decide +kernel
theorem fwd2 : LamKit.fwdOK σ2 "com/example/pocket_context/pocketcontext/internal/Walk$Step" fc2 2 (some (FieldType.object "java/lang/Object")) 25 21 = true := by decide +kernel
theorem cap2 : LamKit.capOK σ2 "com/example/pocket_context/pocketcontext/internal/Walk$Step" 15 0 = true := by decide +kernel
theorem cls2 : own_clsOK σ2 "com/example/pocket_context/pocketcontext/internal/Walk$Step" 19 "java/util/List" = true := by decide +kernel
theorem e1_0 : decode fc1 0 = .ok (.aload_n 1, 1) := by decide +kernel
theorem e1_1 : decode fc1 1 = .ok (.invokestatic 17, 3) := by decide +kernel
theorem e1_4 : decode fc1 4 = .ok (.ireturn, 1) := by decide +kernel
theorem e2_0 : decode fc2 0 = .ok (.aload_n 0, 1) := by decide +kernel
theorem e2_1 : decode fc2 1 = .ok (.getfield 15, 3) := by decide +kernel
theorem e2_4 : decode fc2 4 = .ok (.aload_n 1, 1) := by decide +kernel
theorem e2_5 : decode fc2 5 = .ok (.checkcast 19, 3) := by decide +kernel
theorem e2_8 : decode fc2 8 = .ok (.invokestatic 25, 3) := by decide +kernel
theorem e2_11 : decode fc2 11 = .ok (.areturn, 1) := by decide +kernel
theorem t1_0 : decode prog_52_method_11_code 0 = .ok (.iconst 0, 1) := by decide +kernel
theorem t1_1 : decode prog_52_method_11_code 1 = .ok (.ireturn, 1) := by decide +kernel
theorem t2_0 : decode prog_52_method_10_code 0 = .ok (.aload_n 0, 1) := by decide +kernel
theorem t2_1 : decode prog_52_method_10_code 1 = .ok (.areturn, 1) := by decide +kernel
theorem pdx1 : parseMethodDescriptor xi1.desc = some ⟨[(FieldType.object "java/lang/Object")], some .boolean⟩ := by decide +kernel
theorem pdx2 : parseMethodDescriptor xi2.desc = some ⟨[(FieldType.object "java/lang/Object")], some (FieldType.object "java/lang/Object")⟩ := by decide +kernel
theorem pdt1 : parseMethodDescriptor tg1.desc = some ⟨[(FieldType.object "java/lang/Object")], some .boolean⟩ := by decide +kernel
theorem pdt2 : parseMethodDescriptor tg2.desc = some ⟨[(FieldType.object "java/lang/Object"), (FieldType.object "java/util/List")], some (FieldType.object "java/lang/Object")⟩ := by decide +kernel
theorem pnt : plainName "com/example/pocket_context/pocketcontext/internal/Walk$Step" = true := by first | (simp [plainName, overriddenIn]; done) | decide +kernel
/-- the targets: x -> false; (r, list) -> r -/
theorem met_tg1 (l : Launch) (b : Addr) : Met l tg1 [Cond.code tg1 prog_52_method_11_code 1 (some .boolean)] { frames := 0, cells := 0, slots := 0, locals := 0 } (fun args _ => args = #[.ref b]) (fun _ st o t => o = .returned (some (.int 0)) ∧ t.heap = st.heap) 0 0 (fun _ => False) := by
  refine MetFree.of_bodyS (code := prog_52_method_11_code) (maxLocals := 1) (ret := some .boolean) pnt (LamKit.hisOf (List.mem_singleton.mpr rfl)) ?_
  intro p e s m args below meth c s₁ Bd hml hP _
  obtain rfl : args = #[.ref b] := hP
  have X := Stand.of_body Bd
  obtain ⟨fs, hr, hrun, hended, hW, hsame⟩ := X.leave (v := some (.int 0)) (fun h => by rw [Bd.returns] at h; cases h)
  refine ⟨s₁.setFrames fs, _, ?_, hrun, hended, ⟨rfl, by rw [Bd.state]; rfl⟩, [], ⟨⟨_, rfl⟩, hW, hsame⟩, fun q hq => nomatch hq⟩
  show Steps p.tables e below (s₁.setTop (mkF m 0 #[.val (.ref b)] [])) _
  refine XS.iconst X.here Bd.exec rfl (hb Bd.bytes t1_0) ?_
  show Steps p.tables e below (s₁.setTop (mkF m 1 #[.val (.ref b)] [.int 0])) _
  exact X.ireturnOut Bd.exec Bd.returns (by decide) (Or.inr (Or.inl rfl)) (hb Bd.bytes t1_1) hr
theorem met_tg2 (l : Launch) (r b : Addr) : Met l tg2 [Cond.code tg2 prog_52_method_10_code 2 (some (FieldType.object "java/lang/Object"))] { frames := 0, cells := 0, slots := 0, locals := 0 } (fun args _ => args = #[.ref r, .ref b]) (fun _ st o t => o = .returned (some (.ref r)) ∧ t.heap = st.heap) 0 0 (fun _ => False) := by
  refine MetFree.of_bodyS (code := prog_52_method_10_code) (maxLocals := 2) (ret := some (FieldType.object "java/lang/Object")) pnt (LamKit.hisOf (List.mem_singleton.mpr rfl)) ?_
  intro p e s m args below meth c s₁ Bd hml hP _
  obtain rfl : args = #[.ref r, .ref b] := hP
  have X := Stand.of_body Bd
  obtain ⟨fs, hr, hrun, hended, hW, hsame⟩ := X.leave (v := some (.ref r)) (fun h => by rw [Bd.returns] at h; cases h)
  refine ⟨s₁.setFrames fs, _, ?_, hrun, hended, ⟨rfl, by rw [Bd.state]; rfl⟩, [], ⟨⟨_, rfl⟩, hW, hsame⟩, fun q hq => nomatch hq⟩
  show Steps p.tables e below (s₁.setTop (mkF m 0 #[.val (.ref r), .val (.ref b)] [])) _
  refine XS.aloadN X.here Bd.exec rfl (hb Bd.bytes t2_0) rfl rfl ?_
  exact X.areturnOut Bd.exec rfl Bd.returns rfl (hb Bd.bytes t2_1) hr
/-- an object of class cK that holds r -/
def FnC (h : Heap) (a : Addr) (cK : ClassId) (r : Addr) : Prop := ∃ cell : Cell, h[a]? = some cell ∧ cell.cls = cK ∧ cell.vm = .none ∧ cell.slots[0]? = some (.ref r)
theorem FnC.ext {h h' : Heap} {a r : Addr} {cK : ClassId} (F : FnC h a cK r) (E : Ext h h') : FnC h' a cK r := by
  obtain ⟨cell, h1, q⟩ := F
  exact ⟨cell, E.2 _ _ h1, q⟩
theorem own_fnE {h h' : Heap} {a : Addr} {cK : ClassId} (F : LamKit.FnAt h a cK) (E : Ext h h') : LamKit.FnAt h' a cK := by
  obtain ⟨cell, h1, q⟩ := F
  exact ⟨cell, E.2 _ _ h1, q⟩
section Lam2
variable {p : Program} {l : Launch} {e : Env} {R : Room} {s : State} {m : MethodId} {args : Array Value} {below : List Frame} {meth : Method} {c : Code} {T : State} {locs : List Loc} {cells slots : Nat}
  {Φ : Outcome → State → Prop} {Z : State} {a0 : Array Value} {h : Heap}
theorem own_noL {L : List Loc} (hL : ∀ q ∈ L, (fun _ : Addr => False) q.base) : L = [] := by
  cases L with
  | nil => rfl
  | cons q r => exact (hL q List.mem_cons_self).elim
set_option maxRecDepth 65536 in
theorem Go.test (X : Stand p l e R s m args below meth c T locs cells slots) (hx : p.tables.exec = Jvm.exec) (hZH : Z.WarmedH s.vm) (hw : ∀ d ∈ tables_1, d.before a0 Z = true) (hown : s.vm.findClass "com/example/pocket_context/pocketcontext/internal/StepDonePinLaw" = some m.cls)
    {Ls : Array Slot} (hml : c.maxLocals = Ls.size) (hT : T.heap = h) {fa b : Addr} {cK : ClassId} (hmd : LamKit.Made Z "com/example/pocket_context/pocketcontext/internal/Walk$Step" σ1 cK) (hfn : LamKit.FnAt h fa cK) {pc : Nat} {rest : List Value} (hd : decode c.code pc = .ok (.invokeinterface 40 2, 5))
    (hfr : 2 ≤ R.frames) (hlo : (rest.map fun v => v.category).sum + 25 ≤ R.locals) (hc : cells ≤ R.cells) (hs : slots ≤ R.slots)
    (k : ∀ T' : State, T'.heap = h → Stand p l e R s m args below meth c T' locs cells slots → Go p e below Φ (T'.setTop (mkF m (pc + 5) Ls (.int 0 :: rest)))) : Go p e below Φ (T.setTop (mkF m pc Ls (.ref b :: .ref fa :: rest))) := by
  have hZ := hZH.wide
  have hcodeT : (Cond.code tg1 prog_52_method_11_code 1 (some .boolean)).before args s = true := mvT hZ (hw _ (List.mem_of_getElem? (i := 126) rfl))
  obtain ⟨v, st, t, T', L, X', hL, e1, e3, hq, st9⟩ := LamKit.callLamS X hx (own := "com/example/pocket_context/pocketcontext/internal/StepDonePinLaw") (host := "com/example/pocket_context/pocketcontext/internal/Walk$Step") (index := 40) (count := 2) (xi := xi1) (y := tg1) (σ := σ1) (met_tg1 l b) (fun _ _ _ _ h => h) rfl rfl
    (fun w hw' a' U hU => by rw [List.mem_singleton.mp hw']; exact word_at hU (Or.inl (by first | rfl | simp [Cond.onTables, Cond.keeps, Cond.steady])) hcodeT) (List.mem_singleton.mpr rfl)
    hown (mvT hZ (hw _ (List.mem_of_getElem? (i := 122) rfl))) (mvT hZ (hw _ (List.mem_of_getElem? (i := 123) rfl))) (mvT hZ (hw _ (List.mem_of_getElem? (i := 124) rfl))) hcodeT (mvT hZ (hw _ (List.mem_of_getElem? (i := 125) rfl))) (mvT hZ (hw _ (List.mem_of_getElem? (i := 66) rfl))) (by decide +kernel) (by decide +kernel) (by decide) (own_made_at hZH hmd) (by rw [hT]; exact hfn) fwd1 e1_1 e1_4
    (g := mkF m pc Ls (.ref b :: .ref fa :: rest)) rfl hml.symm (argsL := [.ref b]) (argsT := [.ref b]) (rest := rest) (L0 := #[.val (.ref fa), .val (.ref b)]) (lenOf pdx1 rfl) (lenOf pdt1 rfl) rfl hd (fun _ => rfl) rfl
    (fun U ck bl target hU hck hh hW k => XS.aloadN hU hx rfl (hb hck e1_0) rfl rfl k)
    (fun st w t h => by obtain ⟨h, -⟩ := h; cases h; exact Or.inl ⟨.boolean, 0, rfl, Or.inr (Or.inl rfl), by decide, rfl, rfl⟩) hfr (by show 2 * 0 + _ + (2 + 11) + (1 + 11 + 0) ≤ _; omega) hc hs (fun _ _ _ => rfl)
  obtain ⟨hq, hq2⟩ := hq
  cases hq
  cases own_noL hL
  rw [List.append_nil] at X'
  exact Go.st st9 (k T' (e1.trans (hq2.trans (e3.trans hT))) X')
set_option maxRecDepth 65536 in
theorem Go.apply (X : Stand p l e R s m args below meth c T locs cells slots) (hx : p.tables.exec = Jvm.exec) (hZH : Z.WarmedH s.vm) (hw : ∀ d ∈ tables_1, d.before a0 Z = true) (hown : s.vm.findClass "com/example/pocket_context/pocketcontext/internal/StepDonePinLaw" = some m.cls)
    {Ls : Array Slot} (hml : c.maxLocals = Ls.size) (hT : T.heap = h) {fa b r : Addr} {cK : ClassId} (hmd : LamKit.Made Z "com/example/pocket_context/pocketcontext/internal/Walk$Step" σ2 cK) (hfn : FnC h fa cK r) (hE : Exa Z h b "java/util/ArrayList") {pc : Nat} {rest : List Value} (hd : decode c.code pc = .ok (.invokeinterface 49 2, 5))
    (hfr : 2 ≤ R.frames) (hlo : (rest.map fun v => v.category).sum + 26 ≤ R.locals) (hc : cells ≤ R.cells) (hs : slots ≤ R.slots)
    (k : ∀ T' : State, T'.heap = h → Stand p l e R s m args below meth c T' locs cells slots → Go p e below Φ (T'.setTop (mkF m (pc + 5) Ls (.ref r :: rest)))) : Go p e below Φ (T.setTop (mkF m pc Ls (.ref b :: .ref fa :: rest))) := by
  have hZ := hZH.wide
  have hcodeT : (Cond.code tg2 prog_52_method_10_code 2 (some (FieldType.object "java/lang/Object"))).before args s = true := mvT hZ (hw _ (List.mem_of_getElem? (i := 137) rfl))
  have hmds := own_made_at hZH hmd
  have hO : (Cond.instantiable "java/lang/Object" 0).before args s = true := mvT hZ (hw _ (List.mem_of_getElem? (i := 79) rfl))
  have hI : Ins Z h b "java/util/List" true := Ins.of_exa hE (hw _ (List.mem_of_getElem? (i := 135) rfl))
  obtain ⟨cell, hcell, hcls, hvm, hsl⟩ := hfn
  obtain ⟨v, st, t, T', L, X', hL, e1, e3, hq, st9⟩ := LamKit.callLamS X hx (own := "com/example/pocket_context/pocketcontext/internal/StepDonePinLaw") (host := "com/example/pocket_context/pocketcontext/internal/Walk$Step") (index := 49) (count := 2) (xi := xi2) (y := tg2) (σ := σ2) (met_tg2 l r b) (fun _ _ _ _ h => h) rfl rfl
    (fun w hw' a' U hU => by rw [List.mem_singleton.mp hw']; exact word_at hU (Or.inl (by first | rfl | simp [Cond.onTables, Cond.keeps, Cond.steady])) hcodeT) (List.mem_singleton.mpr rfl)
    hown (mvT hZ (hw _ (List.mem_of_getElem? (i := 132) rfl))) (mvT hZ (hw _ (List.mem_of_getElem? (i := 133) rfl))) (mvT hZ (hw _ (List.mem_of_getElem? (i := 134) rfl))) hcodeT (mvT hZ (hw _ (List.mem_of_getElem? (i := 136) rfl))) (mvT hZ (hw _ (List.mem_of_getElem? (i := 66) rfl))) (by decide +kernel) (by decide +kernel) (by decide) hmds (by rw [hT]; exact ⟨cell, hcell, hcls, hvm⟩) fwd2 e2_8 e2_11
    (g := mkF m pc Ls (.ref b :: .ref fa :: rest)) rfl hml.symm (argsL := [.ref b]) (argsT := [.ref r, .ref b]) (rest := rest) (L0 := #[.val (.ref fa), .val (.ref b)]) (lenOf pdx2 rfl) (lenOf pdt2 rfl) rfl hd (fun _ => rfl) rfl
    (fun U ck bl target hU hck hh hW k => XS.aloadN hU hx rfl (hb hck e2_0) rfl rfl (LamKit.getCap hx hU hW hmds cap2 hO (by rw [hh, hT]; exact hcell) hvm hsl rfl rfl (hb hck e2_1) (XS.aloadN hU hx rfl (hb hck e2_4) rfl rfl (own_castCap hx hU hW hmds cls2 hZ (by rw [hh, hT]; exact hI) rfl rfl (hb hck e2_5) k))))
    (fun st w t h => by obtain ⟨h, -⟩ := h; cases h; exact Or.inr (Or.inr (Or.inl ⟨_, _, rfl, rfl, rfl, rfl, rfl⟩))) hfr (by show 2 * 0 + _ + (2 + 11) + (2 + 11 + 0) ≤ _; omega) hc hs (fun _ _ _ => rfl)
  obtain ⟨hq, hq2⟩ := hq
  cases hq
  cases own_noL hL
  rw [List.append_nil] at X'
  exact Go.st st9 (k T' (e1.trans (hq2.trans (e3.trans hT))) X')
end Lam2
theorem FnC.keep {h h' : Heap} {a r : Addr} {cK : ClassId} {ws : List Addr} (F : FnC h a cK r) (K : Keep h h' ws) (q : a ∉ ws) : FnC h' a cK r := by
  obtain ⟨cell, h1, z⟩ := F
  exact ⟨cell, K.2.1 _ _ h1 q, z⟩
theorem own_fit1 {r : Addr} : ∀ (i : Nat) t v, σ2.captured[i]? = some t → [Value.ref r][i]? = some v → narrow t v = v ∧ fits t v = true := fun i t w h1 h2 => by
  cases i with
  | zero => cases h1; cases h2; exact ⟨rfl, rfl⟩
  | succ i => cases h1
theorem Lst.ext {Z : State} {h h' : Heap} {x ed : Addr} {ke : ClassId} {mc : Int32} {n : Nat} (F : Lst Z h x ed ke mc n) (E : Ext h h') : Lst Z h' x ed ke mc n := by
  obtain ⟨⟨vs, hl, V⟩, Ov, A, f1, f2, f3⟩ := F
  exact ⟨⟨vs, hl, V.ext E⟩, Ov, A.ext E, f1.ext E, f2.ext E, f3.ext E⟩
theorem own_up {n a b : Int32} (h : n < a) (q : a < b) : n < b := by
  rw [Int32.lt_iff_toInt_lt] at *; exact Int.lt_trans h q
theorem pd_6 : parseMethodDescriptor "(Ljava/util/List;Ljava/util/function/Predicate;Ljava/util/function/Function;)V" = some ⟨[(.object "java/util/List"), (.object "java/util/function/Predicate"), (.object "java/util/function/Function")], none⟩ := by decide +kernel
def QS2 (Z : State) (x pa re : Addr) (n0 : Nat) (h0 : Heap) (v : Option Value) (h : Heap) (L : List Loc) : Prop := ∃ se cK, v = none ∧ Fr n0 L ∧ Keep h0 h [x] ∧ Exa Z h x "com/example/pocket_context/pocketcontext/internal/Walk$Step" ∧ Fld Z h x "com/example/pocket_context/pocketcontext/internal/Walk$Step" "parts" "Ljava/util/List;" (.ref pa) ∧ Fld Z h x "com/example/pocket_context/pocketcontext/internal/Walk$Step" "settles" "Ljava/util/function/Predicate;" (.ref se) ∧ Fld Z h x "com/example/pocket_context/pocketcontext/internal/Walk$Step" "result" "Ljava/util/function/Function;" (.ref re) ∧ LamKit.Made Z "com/example/pocket_context/pocketcontext/internal/Walk$Step" σ1 cK ∧ LamKit.FnAt h se cK
theorem d13_0 : decode prog_52_method_1_code 0 = .ok (.aload_n 0, 1) := by decide +kernel
theorem d13_1 : decode prog_52_method_1_code 1 = .ok (.aload_n 1, 1) := by decide +kernel
theorem d13_2 : decode prog_52_method_1_code 2 = .ok (.invokedynamic 21, 5) := by decide +kernel
theorem d13_7 : decode prog_52_method_1_code 7 = .ok (.aload_n 2, 1) := by decide +kernel
theorem d13_8 : decode prog_52_method_1_code 8 = .ok (.invokespecial 25, 3) := by decide +kernel
theorem d13_11 : decode prog_52_method_1_code 11 = .ok (.return_, 1) := by decide +kernel
theorem pn_19 : plainFor (⟨"com/example/pocket_context/pocketcontext/internal/Walk$Step", "<init>", "(Ljava/util/List;Ljava/util/function/Function;)V"⟩ : MethodName) = true := by first | exact plainFor_of_name (by first | (simp [plainName, overriddenIn]; done) | decide +kernel) | decide +kernel
theorem ef_AAA_3 (m : MethodId) (y0 : Addr) (y1 : Addr) (y2 : Addr) : entryFrame m #[(.ref y0), (.ref y1), (.ref y2)] 3 = mkF m 0 #[.val (.ref y0), .val (.ref y1), .val (.ref y2)] [] := by first | (simp [entryFrame, mkF, argsToLocals, Value.category]; done) | rfl
set_option maxRecDepth 65536 in
set_option maxHeartbeats 40000000 in
theorem met_s2 (l : Launch) (Z : State) (a0 : Array Value) (hw : ∀ d ∈ tables_1, d.before a0 Z = true) (ws : List Jvm.Cond) (n0 : Nat) (x pa re : Addr) (h0 : Heap) (O : Old Z n0 h0) (ge_x : n0 ≤ x) (A_x : Exa Z h0 x "com/example/pocket_context/pocketcontext/internal/Walk$Step") (F_x_parts : Fld Z h0 x "com/example/pocket_context/pocketcontext/internal/Walk$Step" "parts" "Ljava/util/List;" .null) (F_x_settles : Fld Z h0 x "com/example/pocket_context/pocketcontext/internal/Walk$Step" "settles" "Ljava/util/function/Predicate;" .null) (F_x_result : Fld Z h0 x "com/example/pocket_context/pocketcontext/internal/Walk$Step" "result" "Ljava/util/function/Function;" .null) :
    MetFree l (⟨"com/example/pocket_context/pocketcontext/internal/Walk$Step", "<init>", "(Ljava/util/List;Ljava/util/function/Function;)V"⟩ : MethodName) (head1 (Jvm.Cond.code (⟨"com/example/pocket_context/pocketcontext/internal/Walk$Step", "<init>", "(Ljava/util/List;Ljava/util/function/Function;)V"⟩ : MethodName) prog_52_method_1_code 3 none :: ws) ({ frames := 3, cells := 0, slots := 0, locals := 3074 } : Room)) (fun aa U => aa = #[(.ref x), (.ref pa), (.ref re)] ∧ Z.Warmed39 U.vm ∧ U.heap = h0) (fun _ _ _ _ _ => True) (fun _ U o U' => ∃ v L, o = .returned v ∧ QS2 Z x pa re n0 h0 v U'.heap L ∧ FrameEnd U o U' L ({ frames := 3, cells := 0, slots := 0, locals := 3074 } : Room).cells ({ frames := 3, cells := 0, slots := 0, locals := 3074 } : Room).slots) := by
  refine openN (y := (⟨"com/example/pocket_context/pocketcontext/internal/Walk$Step", "<init>", "(Ljava/util/List;Ljava/util/function/Function;)V"⟩ : MethodName)) pn_19 ?_
  intro p e s m below meth c T hx hby hml hret hlk hnm hZ hown X hT hnd
  refine Go.st (fun _ k => castTop (ef_AAA_3 m x pa re) k) ?_
  show Go p e below _ (T.setTop (mkF m 0 #[.val (.ref x), .val (.ref pa), .val (.ref re)] []))
  have N := Fr.nil n0
  refine Go.st (fun _ k => XS.aloadN X.here hx rfl (hb hby d13_0) rfl rfl k) ?_
  show Go p e below _ (T.setTop (mkF m 1 #[.val (.ref x), .val (.ref pa), .val (.ref re)] [(.ref x)]))
  refine Go.st (fun _ k => XS.aloadN X.here hx rfl (hb hby d13_1) rfl rfl k) ?_
  show Go p e below _ (T.setTop (mkF m 2 #[.val (.ref x), .val (.ref pa), .val (.ref re)] [(.ref pa), (.ref x)]))
  refine Go.siteC (x := (⟨"com/example/pocket_context/pocketcontext/internal/Walk$Step", "<init>", "(Ljava/util/List;Ljava/util/function/Function;)V"⟩ : MethodName)) (index := 21) (σ := σ1) X hx hZ hnd (hw _ (List.mem_of_getElem? (i := 83) rfl)) rfl (hml.trans rfl) (hb hby d13_2) (Nat.le_of_ble_eq_true rfl) ?_
  intro se cK hmd hfn
  show Go p e below _ (T.setTop (mkF m 7 #[.val (.ref x), .val (.ref pa), .val (.ref re)] [(.ref se), (.ref pa), (.ref x)]))
  refine Go.st (fun _ k => XS.aloadN X.here hx rfl (hb hby d13_7) rfl rfl k) ?_
  show Go p e below _ (T.setTop (mkF m 8 #[.val (.ref x), .val (.ref pa), .val (.ref re)] [(.ref re), (.ref se), (.ref pa), (.ref x)]))
  refine Go.specP (argsL := [(.ref pa), (.ref se), (.ref re)]) (rest := []) (W := 0) (ck := 0) (sk := 0) X hx hZ hown (hml.trans rfl) hT rfl (hw _ (List.mem_of_getElem? (i := 85) rfl)) (hw _ (List.mem_of_getElem? (i := 86) rfl)) (hw _ (List.mem_of_getElem? (i := 87) rfl)) (by decide) pd_6 rfl rfl (Nat.le_of_ble_eq_true rfl) (hb hby d13_8) (backOf (W := 0) (met_s3 l Z a0 hw [] n0 x pa se re h0 ge_x A_x F_x_parts F_x_settles F_x_result) hZ (hw _ (List.mem_of_getElem? (i := 87) rfl)) (hw _ (List.mem_of_getElem? (i := 66) rfl)) (by decide) (by decide)) (by decide) (by decide) ?_
  intro v T h1 L hT hQ X
  obtain ⟨rfl, N0, K0, A_x, F_x_parts, F_x_settles, F_x_result⟩ := hQ
  have N := Fr.app N N0
  have KB := (Keep.refl h0 [x]).trans K0 (allS (Or.inl (List.mem_of_getElem? (i := 0) rfl)) all0)
  show Go p e below _ (T.setTop (mkF m 11 #[.val (.ref x), .val (.ref pa), .val (.ref re)] []))
  refine Go.retV X hx hlk hT hret (hb hby d13_11) (by decide) (by decide) ?_
  exact ⟨se, cK, rfl, N, KB, A_x, F_x_parts, F_x_settles, F_x_result, hmd, own_fnE hfn (O.keep KB (allS ge_x all0)).2⟩
theorem pd_7 : parseMethodDescriptor "()Ljava/util/List;" = some ⟨[], (some (.object "java/util/List"))⟩ := by decide +kernel
theorem pd_8 : parseMethodDescriptor "(Ljava/util/List;Ljava/util/function/Function;)V" = some ⟨[(.object "java/util/List"), (.object "java/util/function/Function")], none⟩ := by decide +kernel
def QDn (Z : State) (r el : Addr) (n0 : Nat) (h0 : Heap) (v : Option Value) (h : Heap) (L : List Loc) : Prop := ∃ x se re cK1 cK2, v = some (.ref x) ∧ Fr n0 L ∧ Ext h0 h ∧ Exa Z h x "com/example/pocket_context/pocketcontext/internal/Walk$Step" ∧ Fld Z h x "com/example/pocket_context/pocketcontext/internal/Walk$Step" "parts" "Ljava/util/List;" (.ref el) ∧ Fld Z h x "com/example/pocket_context/pocketcontext/internal/Walk$Step" "settles" "Ljava/util/function/Predicate;" (.ref se) ∧ Fld Z h x "com/example/pocket_context/pocketcontext/internal/Walk$Step" "result" "Ljava/util/function/Function;" (.ref re) ∧ LamKit.Made Z "com/example/pocket_context/pocketcontext/internal/Walk$Step" σ1 cK1 ∧ LamKit.FnAt h se cK1 ∧ LamKit.Made Z "com/example/pocket_context/pocketcontext/internal/Walk$Step" σ2 cK2 ∧ FnC h re cK2 r
theorem d11_0 : decode prog_52_method_3_code 0 = .ok (.new 8, 3) := by decide +kernel
theorem d11_3 : decode prog_52_method_3_code 3 = .ok (.dup, 1) := by decide +kernel
theorem d11_4 : decode prog_52_method_3_code 4 = .ok (.invokestatic 28, 3) := by decide +kernel
theorem d11_7 : decode prog_52_method_3_code 7 = .ok (.aload_n 0, 1) := by decide +kernel
theorem d11_8 : decode prog_52_method_3_code 8 = .ok (.invokedynamic 34, 5) := by decide +kernel
theorem d11_13 : decode prog_52_method_3_code 13 = .ok (.invokespecial 38, 3) := by decide +kernel
theorem d11_16 : decode prog_52_method_3_code 16 = .ok (.areturn, 1) := by decide +kernel
theorem pn_20 : plainFor (⟨"com/example/pocket_context/pocketcontext/internal/Walk$Step", "done", "(Ljava/lang/Object;)Lcom/example/pocket_context/pocketcontext/internal/Walk$Step;"⟩ : MethodName) = true := by first | exact plainFor_of_name (by first | (simp [plainName, overriddenIn]; done) | decide +kernel) | decide +kernel
set_option maxRecDepth 65536 in
set_option maxHeartbeats 40000000 in
theorem met_dn (l : Launch) (Z : State) (a0 : Array Value) (hw : ∀ d ∈ tables_1, d.before a0 Z = true) (ws : List Jvm.Cond) (n0 : Nat) (r el : Addr) (h0 : Heap) (O : Old Z n0 h0) (Se : Sta Z Z.heap "java/util/ImmutableCollections" "EMPTY_LIST" "Ljava/util/ImmutableCollections$ListN;" (.ref el)) :
    MetFree l (⟨"com/example/pocket_context/pocketcontext/internal/Walk$Step", "done", "(Ljava/lang/Object;)Lcom/example/pocket_context/pocketcontext/internal/Walk$Step;"⟩ : MethodName) (head1 (Jvm.Cond.code (⟨"com/example/pocket_context/pocketcontext/internal/Walk$Step", "done", "(Ljava/lang/Object;)Lcom/example/pocket_context/pocketcontext/internal/Walk$Step;"⟩ : MethodName) prog_52_method_3_code 1 (some (.object "com/example/pocket_context/pocketcontext/internal/Walk$Step")) :: ws) ({ frames := 4, cells := 2, slots := 4, locals := 3089 } : Room)) (fun aa U => aa = #[(.ref r)] ∧ Z.Warmed39 U.vm ∧ U.heap = h0) (fun _ _ _ _ _ => True) (fun _ U o U' => ∃ v L, o = .returned v ∧ QDn Z r el n0 h0 v U'.heap L ∧ FrameEnd U o U' L ({ frames := 4, cells := 2, slots := 4, locals := 3089 } : Room).cells ({ frames := 4, cells := 2, slots := 4, locals := 3089 } : Room).slots) := by
  refine openN (y := (⟨"com/example/pocket_context/pocketcontext/internal/Walk$Step", "done", "(Ljava/lang/Object;)Lcom/example/pocket_context/pocketcontext/internal/Walk$Step;"⟩ : MethodName)) pn_20 ?_
  intro p e s m below meth c T hx hby hml hret hlk hnm hZ hown X hT hnd
  refine Go.st (fun _ k => castTop (ef_A_1 m r) k) ?_
  show Go p e below _ (T.setTop (mkF m 0 #[.val (.ref r)] []))
  have N := Fr.nil n0
  have K0b : Keep h0 h0 [] := Keep.refl _ _
  obtain ⟨T, h1, X, hT, Ex0, A_x, D_x, -, st⟩ := newO X hx hZ hown (hw _ (List.mem_of_getElem? (i := 68) rfl)) (hw _ (List.mem_of_getElem? (i := 69) rfl)) (hw _ (List.mem_of_getElem? (i := 66) rfl)) hT (g := (mkF m 0 #[.val (.ref r)] [])) rfl (hb hby d11_0) (by decide) (by decide)
  obtain ⟨x, g_x⟩ : ∃ z, z = h0.size := ⟨_, rfl⟩
  rw [← g_x] at A_x D_x st
  refine Go.st st ?_
  have ge_x : n0 ≤ x := Nat.le_trans (own_le (O)) (Nat.le_of_eq g_x.symm)
  have gk_x : h0.size ≤ x := Nat.le_trans (Keep.refl h0 []).1 (Nat.le_of_eq g_x.symm)
  have KB := (Keep.refl h0 []).ext Ex0
  have F_x_parts := D_x (Or.inr (hw _ (List.mem_of_getElem? (i := 95) rfl))) (ty := (.object "java/util/List")) (by decide)
  have F_x_settles := D_x (Or.inr (hw _ (List.mem_of_getElem? (i := 97) rfl))) (ty := (.object "java/util/function/Predicate")) (by decide)
  have F_x_result := D_x (Or.inr (hw _ (List.mem_of_getElem? (i := 99) rfl))) (ty := (.object "java/util/function/Function")) (by decide)
  show Go p e below _ (T.setTop (mkF m 3 #[.val (.ref r)] [(.ref x)]))
  refine Go.st (fun _ k => XS.dup X.here hx rfl (hb hby d11_3) rfl rfl k) ?_
  show Go p e below _ (T.setTop (mkF m 4 #[.val (.ref r)] [(.ref x), (.ref x)]))
  refine Go.callV (argsL := []) (rest := [(.ref x), (.ref x)]) (W := 2) X hx hZ hown (hml.trans rfl) hT (hw _ (List.mem_of_getElem? (i := 70) rfl)) (hw _ (List.mem_of_getElem? (i := 71) rfl)) (hw _ (List.mem_of_getElem? (i := 72) rfl)) (hw _ (List.mem_of_getElem? (i := 73) rfl)) (by decide) pd_7 rfl rfl (Nat.le_of_ble_eq_true rfl) (hb hby d11_4) (backOf (W := 2) (met_lof l Z a0 hw [] n0 el _ (O.keep KB all0) Se) hZ (hw _ (List.mem_of_getElem? (i := 73) rfl)) (hw _ (List.mem_of_getElem? (i := 72) rfl)) (by decide) (by decide)) (by decide) (by decide) ?_
  intro T hT X
  show Go p e below _ (T.setTop (mkF m 7 #[.val (.ref r)] [(.ref el), (.ref x), (.ref x)]))
  refine Go.st (fun _ k => XS.aloadN X.here hx rfl (hb hby d11_7) rfl rfl k) ?_
  show Go p e below _ (T.setTop (mkF m 8 #[.val (.ref r)] [(.ref r), (.ref el), (.ref x), (.ref x)]))
  refine Go.siteM (x := (⟨"com/example/pocket_context/pocketcontext/internal/Walk$Step", "done", "(Ljava/lang/Object;)Lcom/example/pocket_context/pocketcontext/internal/Walk$Step;"⟩ : MethodName)) (index := 34) (fi := 15) (σ := σ2) (vals := [.ref r]) (rest := [(.ref el), (.ref x), (.ref x)]) X hx hZ hnd (hw _ (List.mem_of_getElem? (i := 76) rfl)) (by decide) cap2 (hw _ (List.mem_of_getElem? (i := 79) rfl)) hT (nv := 1) rfl (hml.trans rfl) (hb hby d11_8) rfl rfl own_fit1 (Nat.le_of_ble_eq_true rfl) (by decide) (by decide) ?_
  intro re T h2 cK2 g_re hT Ex0 hmd2 hre X
  have ne_re_x : re ≠ x := fun q => Nat.lt_irrefl _ (Nat.lt_of_lt_of_le A_x.lt (Nat.le_of_eq (g_re.symm.trans q)))
  have A_x := A_x.ext Ex0
  have F_x_parts := F_x_parts.ext Ex0
  have F_x_settles := F_x_settles.ext Ex0
  have F_x_result := F_x_result.ext Ex0
  have KB := (KB).ext Ex0
  have fnc : FnC h2 re cK2 r := ⟨_, hre, rfl, rfl, rfl⟩
  show Go p e below _ (T.setTop (mkF m 13 #[.val (.ref r)] [(.ref re), (.ref el), (.ref x), (.ref x)]))
  refine Go.specP (argsL := [(.ref el), (.ref re)]) (rest := [(.ref x)]) (W := 1) (ck := 0) (sk := 0) X hx hZ hown (hml.trans rfl) hT rfl (hw _ (List.mem_of_getElem? (i := 80) rfl)) (hw _ (List.mem_of_getElem? (i := 81) rfl)) (hw _ (List.mem_of_getElem? (i := 82) rfl)) (by decide) pd_8 rfl rfl (Nat.le_of_ble_eq_true rfl) (hb hby d11_13) (backOf (W := 1) (met_s2 l Z a0 hw [] n0 x el re h2 (O.keep KB all0) ge_x A_x F_x_parts F_x_settles F_x_result) hZ (hw _ (List.mem_of_getElem? (i := 82) rfl)) (hw _ (List.mem_of_getElem? (i := 66) rfl)) (by decide) (by decide)) (by decide) (by decide) ?_
  intro v T h3 L hT hQ X
  obtain ⟨se, cK1, rfl, N0, K0, A_x, F_x_parts, F_x_settles, F_x_result, hmd1, hfn1⟩ := hQ
  have N := Fr.app N N0
  have fnc := fnc.keep K0 (ninS ne_re_x nin0)
  have KB := (KB).trans K0 (allS (Or.inr gk_x) all0)
  show Go p e below _ (T.setTop (mkF m 16 #[.val (.ref r)] [(.ref x)]))
  refine Go.ret X hx hlk hT hret rfl (riA rfl rfl) (hb hby d11_16) (by decide) (by decide) ?_
  have O := O.keep KB all0
  have K0b := K0b.trans KB (fun _ q => nomatch q)
  exact ⟨x, se, re, cK1, cK2, rfl, N, keepE K0b, A_x, F_x_parts, F_x_settles, F_x_result, hmd1, hfn1, hmd2, fnc⟩
theorem pd_9 : parseMethodDescriptor "(I)Ljava/lang/Integer;" = some ⟨[.int], (some (.object "java/lang/Integer"))⟩ := by decide +kernel
theorem pd_10 : parseMethodDescriptor "(Ljava/lang/Object;)Lcom/example/pocket_context/pocketcontext/internal/Walk$Step;" = some ⟨[(.object "java/lang/Object")], (some (.object "com/example/pocket_context/pocketcontext/internal/Walk$Step"))⟩ := by decide +kernel
theorem pd_11 : parseMethodDescriptor "()I" = some ⟨[], (some .int)⟩ := by decide +kernel
theorem pd_12 : parseMethodDescriptor "()Ljava/util/function/Predicate;" = some ⟨[], (some (.object "java/util/function/Predicate"))⟩ := by decide +kernel
theorem pd_13 : parseMethodDescriptor "()Ljava/util/function/Function;" = some ⟨[], (some (.object "java/util/function/Function"))⟩ := by decide +kernel
theorem pd_14 : parseMethodDescriptor "(Ljava/lang/Object;)Z" = some ⟨[(.object "java/lang/Object")], (some .boolean)⟩ := by decide +kernel
def QLaw (n0 : Nat) (v : Option Value) (h : Heap) (L : List Loc) : Prop := v = some (.int 1) ∧ Fr n0 L
theorem pn_21 : plainFor x = true := by first | exact plainFor_of_name (by first | (simp [plainName, overriddenIn]; done) | decide +kernel) | decide +kernel
theorem ef_IIII_14 (m : MethodId) (y0 : Int32) (y1 : Int32) (y2 : Int32) (y3 : Int32) : entryFrame m #[(.int y0), (.int y1), (.int y2), (.int y3)] 14 = mkF m 0 #[.val (.int y0), .val (.int y1), .val (.int y2), .val (.int y3), .unset, .unset, .unset, .unset, .unset, .unset, .unset, .unset, .unset, .unset] [] := by first | (simp [entryFrame, mkF, argsToLocals, Value.category]; done) | rfl
set_option maxRecDepth 65536 in
set_option maxHeartbeats 40000000 in
theorem met_law (l : Launch) (Z : State) (a0 : Array Value) (hw : ∀ d ∈ tables_1, d.before a0 Z = true) (ws : List Jvm.Cond) (yv ya yb ys : Int32) (n0 : Nat) {av : Addr} {cl : Cell} {dv : Addr} {kd : ClassId} {el ea : Addr} {ke : ClassId} (h0 : Heap) (O : Old Z n0 h0) (Cc : Cch Z av cl) (Sd : Sta Z Z.heap "java/util/ArrayList" "DEFAULTCAPACITY_EMPTY_ELEMENTDATA" "[Ljava/lang/Object;" (.ref dv)) (Vd : Arv Z Z.heap dv kd (.object "java/lang/Object") (0 : Int32) [] .null) (Se : Sta Z Z.heap "java/util/ImmutableCollections" "EMPTY_LIST" "Ljava/util/ImmutableCollections$ListN;" (.ref el)) (E_el : Exa Z Z.heap el "java/util/ImmutableCollections$ListN") (F_el : Fld Z Z.heap el "java/util/ImmutableCollections$ListN" "elements" "[Ljava/lang/Object;" (.ref ea)) (V_el : Arv Z Z.heap ea ke (.object "java/lang/Object") (0 : Int32) [] .null) :
    MetFree l x (head1 (Jvm.Cond.code x code maxLocals ret :: ws) room_1) (fun aa U => aa = #[(.int yv), (.int ya), (.int yb), (.int ys)] ∧ Z.WarmedH U.vm ∧ U.heap = h0) (fun _ _ _ _ _ => True) (fun _ U o U' => ∃ v L, o = .returned v ∧ QLaw n0 v U'.heap L ∧ FrameEnd U o U' L room_1.cells room_1.slots) := by
  refine openL (y := x) pn_21 ?_
  intro p e s m below meth c T hx hby hml hret hlk hnm hZ hown X hT hZH
  refine Go.st (fun _ k => castTop (ef_IIII_14 m yv ya yb ys) k) ?_
  show Go p e below _ (T.setTop (mkF m 0 #[.val (.int yv), .val (.int ya), .val (.int yb), .val (.int ys), .unset, .unset, .unset, .unset, .unset, .unset, .unset, .unset, .unset, .unset] []))
  have N := Fr.nil n0
  refine Go.st (fun _ k => XS.iloadN X.here hx rfl (hb hby at_0) rfl k) ?_
  show Go p e below _ (T.setTop (mkF m 1 #[.val (.int yv), .val (.int ya), .val (.int yb), .val (.int ys), .unset, .unset, .unset, .unset, .unset, .unset, .unset, .unset, .unset, .unset] [(.int yv)]))
  refine Go.callP (argsL := [(.int yv)]) (rest := []) (W := 0) (ck := 1) (sk := 1) X hx hZ hown (hml.trans rfl) hT (hw _ (List.mem_of_getElem? (i := 0) rfl)) (hw _ (List.mem_of_getElem? (i := 1) rfl)) (hw _ (List.mem_of_getElem? (i := 2) rfl)) (hw _ (List.mem_of_getElem? (i := 3) rfl)) (by decide) pd_9 rfl rfl (Nat.le_of_ble_eq_true rfl) (hb hby at_1) (backOf (W := 0) (met_vi l Z a0 hw [] n0 yv _ O Cc) hZ (hw _ (List.mem_of_getElem? (i := 3) rfl)) (hw _ (List.mem_of_getElem? (i := 2) rfl)) (by decide) (by decide)) (by decide) (by decide) ?_
  intro v T h1 L hT hQ X
  obtain ⟨r, rfl, N0, Ex0, E_r, F_r⟩ := hQ
  have N := Fr.app N N0
  have KB := (Keep.refl h0 []).ext Ex0
  have O := O.keep KB all0
  show Go p e below _ (T.setTop (mkF m 4 #[.val (.int yv), .val (.int ya), .val (.int yb), .val (.int ys), .unset, .unset, .unset, .unset, .unset, .unset, .unset, .unset, .unset, .unset] [(.ref r)]))
  refine Go.st (fun _ k => XS.astore X.here hx rfl (hb hby at_4) rfl rfl (l' := #[.val (.int yv), .val (.int ya), .val (.int yb), .val (.int ys), .val (.ref r), .unset, .unset, .unset, .unset, .unset, .unset, .unset, .unset, .unset]) rfl k) ?_
  show Go p e below _ (T.setTop (mkF m 6 #[.val (.int yv), .val (.int ya), .val (.int yb), .val (.int ys), .val (.ref r), .unset, .unset, .unset, .unset, .unset, .unset, .unset, .unset, .unset] []))
  obtain ⟨T, h2, X, hT, Ex0, A_x, D_x, -, st⟩ := newO X hx hZ hown (hw _ (List.mem_of_getElem? (i := 7) rfl)) (hw _ (List.mem_of_getElem? (i := 8) rfl)) (hw _ (List.mem_of_getElem? (i := 9) rfl)) hT (g := (mkF m 6 #[.val (.int yv), .val (.int ya), .val (.int yb), .val (.int ys), .val (.ref r), .unset, .unset, .unset, .unset, .unset, .unset, .unset, .unset, .unset] [])) rfl (hb hby at_6) (by decide) (by decide)
  obtain ⟨x, g_x⟩ : ∃ z, z = h1.size := ⟨_, rfl⟩
  rw [← g_x] at A_x D_x st
  refine Go.st st ?_
  have ge_x : n0 ≤ x := Nat.le_trans (own_le (O)) (Nat.le_of_eq g_x.symm)
  have gk_x : h1.size ≤ x := Nat.le_trans (Keep.refl h1 []).1 (Nat.le_of_eq g_x.symm)
  have KB := (Keep.refl h1 []).ext Ex0
  have F_x_modCount := D_x (Or.inl (hw _ (List.mem_of_getElem? (i := 29) rfl))) (ty := .int) (by decide)
  have F_x_elementData := D_x (Or.inl (hw _ (List.mem_of_getElem? (i := 32) rfl))) (ty := (.array (.object "java/lang/Object"))) (by decide)
  have F_x_size := D_x (Or.inl (hw _ (List.mem_of_getElem? (i := 41) rfl))) (ty := .int) (by decide)
  show Go p e below _ (T.setTop (mkF m 9 #[.val (.int yv), .val (.int ya), .val (.int yb), .val (.int ys), .val (.ref r), .unset, .unset, .unset, .unset, .unset, .unset, .unset, .unset, .unset] [(.ref x)]))
  refine Go.st (fun _ k => XS.dup X.here hx rfl (hb hby at_9) rfl rfl k) ?_
  show Go p e below _ (T.setTop (mkF m 10 #[.val (.int yv), .val (.int ya), .val (.int yb), .val (.int ys), .val (.ref r), .unset, .unset, .unset, .unset, .unset, .unset, .unset, .unset, .unset] [(.ref x), (.ref x)]))
  refine Go.specP (argsL := []) (rest := [(.ref x)]) (W := 1) (ck := 0) (sk := 0) X hx hZ hown (hml.trans rfl) hT rfl (hw _ (List.mem_of_getElem? (i := 10) rfl)) (hw _ (List.mem_of_getElem? (i := 11) rfl)) (hw _ (List.mem_of_getElem? (i := 12) rfl)) (by decide) pd_0 rfl rfl (Nat.le_of_ble_eq_true rfl) (hb hby at_10) (backOf (W := 1) (met_ali l Z a0 hw [] n0 x dv h2 (O.keep KB all0) Sd ge_x A_x F_x_modCount F_x_elementData F_x_size) hZ (hw _ (List.mem_of_getElem? (i := 12) rfl)) (hw _ (List.mem_of_getElem? (i := 9) rfl)) (by decide) (by decide)) (by decide) (by decide) ?_
  intro v T h3 L hT hQ X
  obtain ⟨rfl, N0, K0, A_x, F_x_modCount, F_x_elementData, F_x_size⟩ := hQ
  have N := Fr.app N N0
  have KB := (KB).trans K0 (allS (Or.inr gk_x) all0)
  have O := O.keep KB all0
  have E_r := E_r.keep KB
  have F_r := F_r.keep KB nin0
  have ne_r_x : r ≠ x := E_r.ne A_x (by decide)
  show Go p e below _ (T.setTop (mkF m 13 #[.val (.int yv), .val (.int ya), .val (.int yb), .val (.int ys), .val (.ref r), .unset, .unset, .unset, .unset, .unset, .unset, .unset, .unset, .unset] [(.ref x)]))
  refine Go.st (fun _ k => XS.astore X.here hx rfl (hb hby at_13) rfl rfl (l' := #[.val (.int yv), .val (.int ya), .val (.int yb), .val (.int ys), .val (.ref r), .val (.ref x), .unset, .unset, .unset, .unset, .unset, .unset, .unset, .unset]) rfl k) ?_
  show Go p e below _ (T.setTop (mkF m 15 #[.val (.int yv), .val (.int ya), .val (.int yb), .val (.int ys), .val (.ref r), .val (.ref x), .unset, .unset, .unset, .unset, .unset, .unset, .unset, .unset] []))
  obtain ⟨T, h4, X, hT, Ex0, A_z, D_z, -, st⟩ := newO X hx hZ hown (hw _ (List.mem_of_getElem? (i := 7) rfl)) (hw _ (List.mem_of_getElem? (i := 8) rfl)) (hw _ (List.mem_of_getElem? (i := 9) rfl)) hT (g := (mkF m 15 #[.val (.int yv), .val (.int ya), .val (.int yb), .val (.int ys), .val (.ref r), .val (.ref x), .unset, .unset, .unset, .unset, .unset, .unset, .unset, .unset] [])) rfl (hb hby at_15) (by decide) (by decide)
  obtain ⟨z, g_z⟩ : ∃ z, z = h3.size := ⟨_, rfl⟩
  rw [← g_z] at A_z D_z st
  refine Go.st st ?_
  have ge_z : n0 ≤ z := Nat.le_trans (own_le (O)) (Nat.le_of_eq g_z.symm)
  have gk_z : h3.size ≤ z := Nat.le_trans (Keep.refl h3 []).1 (Nat.le_of_eq g_z.symm)
  have KB := (Keep.refl h3 []).ext Ex0
  have F_z_modCount := D_z (Or.inl (hw _ (List.mem_of_getElem? (i := 29) rfl))) (ty := .int) (by decide)
  have F_z_elementData := D_z (Or.inl (hw _ (List.mem_of_getElem? (i := 32) rfl))) (ty := (.array (.object "java/lang/Object"))) (by decide)
  have F_z_size := D_z (Or.inl (hw _ (List.mem_of_getElem? (i := 41) rfl))) (ty := .int) (by decide)
  show Go p e below _ (T.setTop (mkF m 18 #[.val (.int yv), .val (.int ya), .val (.int yb), .val (.int ys), .val (.ref r), .val (.ref x), .unset, .unset, .unset, .unset, .unset, .unset, .unset, .unset] [(.ref z)]))
  refine Go.st (fun _ k => XS.dup X.here hx rfl (hb hby at_18) rfl rfl k) ?_
  show Go p e below _ (T.setTop (mkF m 19 #[.val (.int yv), .val (.int ya), .val (.int yb), .val (.int ys), .val (.ref r), .val (.ref x), .unset, .unset, .unset, .unset, .unset, .unset, .unset, .unset] [(.ref z), (.ref z)]))
  refine Go.specP (argsL := []) (rest := [(.ref z)]) (W := 1) (ck := 0) (sk := 0) X hx hZ hown (hml.trans rfl) hT rfl (hw _ (List.mem_of_getElem? (i := 10) rfl)) (hw _ (List.mem_of_getElem? (i := 11) rfl)) (hw _ (List.mem_of_getElem? (i := 12) rfl)) (by decide) pd_0 rfl rfl (Nat.le_of_ble_eq_true rfl) (hb hby at_19) (backOf (W := 1) (met_ali l Z a0 hw [] n0 z dv h4 (O.keep KB all0) Sd ge_z A_z F_z_modCount F_z_elementData F_z_size) hZ (hw _ (List.mem_of_getElem? (i := 12) rfl)) (hw _ (List.mem_of_getElem? (i := 9) rfl)) (by decide) (by decide)) (by decide) (by decide) ?_
  intro v T h5 L hT hQ X
  obtain ⟨rfl, N0, K0, A_z, F_z_modCount, F_z_elementData, F_z_size⟩ := hQ
  have N := Fr.app N N0
  have KB := (KB).trans K0 (allS (Or.inr gk_z) all0)
  have O := O.keep KB all0
  have E_r := E_r.keep KB
  have F_r := F_r.keep KB nin0
  have A_x := A_x.keep KB
  have F_x_modCount := F_x_modCount.keep KB nin0
  have F_x_elementData := F_x_elementData.keep KB nin0
  have F_x_size := F_x_size.keep KB nin0
  show Go p e below _ (T.setTop (mkF m 22 #[.val (.int yv), .val (.int ya), .val (.int yb), .val (.int ys), .val (.ref r), .val (.ref x), .unset, .unset, .unset, .unset, .unset, .unset, .unset, .unset] [(.ref z)]))
  refine Go.st (fun _ k => XS.astore X.here hx rfl (hb hby at_22) rfl rfl (l' := #[.val (.int yv), .val (.int ya), .val (.int yb), .val (.int ys), .val (.ref r), .val (.ref x), .val (.ref z), .unset, .unset, .unset, .unset, .unset, .unset, .unset]) rfl k) ?_
  show Go p e below _ (T.setTop (mkF m 24 #[.val (.int yv), .val (.int ya), .val (.int yb), .val (.int ys), .val (.ref r), .val (.ref x), .val (.ref z), .unset, .unset, .unset, .unset, .unset, .unset, .unset] []))
  refine Go.st (fun _ k => XS.iloadN X.here hx rfl (hb hby at_24) rfl k) ?_
  show Go p e below _ (T.setTop (mkF m 25 #[.val (.int yv), .val (.int ya), .val (.int yb), .val (.int ys), .val (.ref r), .val (.ref x), .val (.ref z), .unset, .unset, .unset, .unset, .unset, .unset, .unset] [(.int ys)]))
  refine Go.st (fun _ k => XS.iconst X.here hx rfl (hb hby at_25) k) ?_
  show Go p e below _ (T.setTop (mkF m 26 #[.val (.int yv), .val (.int ya), .val (.int yb), .val (.int ys), .val (.ref r), .val (.ref x), .val (.ref z), .unset, .unset, .unset, .unset, .unset, .unset, .unset] [(.int (3 : Int32)), (.int ys)]))
  refine Go.st (fun _ k => XS.iand X.here hx rfl (hb hby at_26) rfl k) ?_
  show Go p e below _ (T.setTop (mkF m 27 #[.val (.int yv), .val (.int ya), .val (.int yb), .val (.int ys), .val (.ref r), .val (.ref x), .val (.ref z), .unset, .unset, .unset, .unset, .unset, .unset, .unset] [(.int (ys &&& (3 : Int32)))]))
  refine Go.st (fun _ k => XS.istore X.here hx rfl (hb hby at_27) rfl (l' := #[.val (.int yv), .val (.int ya), .val (.int yb), .val (.int ys), .val (.ref r), .val (.ref x), .val (.ref z), .val (.int (ys &&& (3 : Int32))), .unset, .unset, .unset, .unset, .unset, .unset]) rfl k) ?_
  show Go p e below _ (T.setTop (mkF m 29 #[.val (.int yv), .val (.int ya), .val (.int yb), .val (.int ys), .val (.ref r), .val (.ref x), .val (.ref z), .val (.int (ys &&& (3 : Int32))), .unset, .unset, .unset, .unset, .unset, .unset] []))
  refine Go.st (fun _ k => XS.iload X.here hx rfl (hb hby at_29) rfl k) ?_
  show Go p e below _ (T.setTop (mkF m 31 #[.val (.int yv), .val (.int ya), .val (.int yb), .val (.int ys), .val (.ref r), .val (.ref x), .val (.ref z), .val (.int (ys &&& (3 : Int32))), .unset, .unset, .unset, .unset, .unset, .unset] [(.int (ys &&& (3 : Int32)))]))
  refine Go.st (fun _ k => XS.iconst X.here hx rfl (hb hby at_31) k) ?_
  show Go p e below _ (T.setTop (mkF m 32 #[.val (.int yv), .val (.int ya), .val (.int yb), .val (.int ys), .val (.ref r), .val (.ref x), .val (.ref z), .val (.int (ys &&& (3 : Int32))), .unset, .unset, .unset, .unset, .unset, .unset] [(.int (1 : Int32)), (.int (ys &&& (3 : Int32)))]))
  by_cases hc1 : (ys &&& (3 : Int32)) < (1 : Int32)
  · refine Go.st (fun _ k => XS.icmpYes X.here hx rfl (pc0 := 32) (pc' := 45) rfl (hb hby at_32) rfl (Jvm.Free.XT.ii_lt_t hc1) (by decide) (by decide) k) ?_
    show Go p e below _ (T.setTop (mkF m 45 #[.val (.int yv), .val (.int ya), .val (.int yb), .val (.int ys), .val (.ref r), .val (.ref x), .val (.ref z), .val (.int (ys &&& (3 : Int32))), .unset, .unset, .unset, .unset, .unset, .unset] []))
    refine Go.st (fun _ k => XS.iload X.here hx rfl (hb hby at_45) rfl k) ?_
    show Go p e below _ (T.setTop (mkF m 47 #[.val (.int yv), .val (.int ya), .val (.int yb), .val (.int ys), .val (.ref r), .val (.ref x), .val (.ref z), .val (.int (ys &&& (3 : Int32))), .unset, .unset, .unset, .unset, .unset, .unset] [(.int (ys &&& (3 : Int32)))]))
    refine Go.st (fun _ k => XS.iconst X.here hx rfl (hb hby at_47) k) ?_
    show Go p e below _ (T.setTop (mkF m 48 #[.val (.int yv), .val (.int ya), .val (.int yb), .val (.int ys), .val (.ref r), .val (.ref x), .val (.ref z), .val (.int (ys &&& (3 : Int32))), .unset, .unset, .unset, .unset, .unset, .unset] [(.int (2 : Int32)), (.int (ys &&& (3 : Int32)))]))
    refine Go.st (fun _ k => XS.icmpYes X.here hx rfl (pc0 := 48) (pc' := 61) rfl (hb hby at_48) rfl (Jvm.Free.XT.ii_lt_t (own_up hc1 (by decide) : (ys &&& (3 : Int32)) < (2 : Int32))) (by decide) (by decide) k) ?_
    show Go p e below _ (T.setTop (mkF m 61 #[.val (.int yv), .val (.int ya), .val (.int yb), .val (.int ys), .val (.ref r), .val (.ref x), .val (.ref z), .val (.int (ys &&& (3 : Int32))), .unset, .unset, .unset, .unset, .unset, .unset] []))
    refine Go.st (fun _ k => XS.iload X.here hx rfl (hb hby at_61) rfl k) ?_
    show Go p e below _ (T.setTop (mkF m 63 #[.val (.int yv), .val (.int ya), .val (.int yb), .val (.int ys), .val (.ref r), .val (.ref x), .val (.ref z), .val (.int (ys &&& (3 : Int32))), .unset, .unset, .unset, .unset, .unset, .unset] [(.int (ys &&& (3 : Int32)))]))
    refine Go.st (fun _ k => XS.iconst X.here hx rfl (hb hby at_63) k) ?_
    show Go p e below _ (T.setTop (mkF m 64 #[.val (.int yv), .val (.int ya), .val (.int yb), .val (.int ys), .val (.ref r), .val (.ref x), .val (.ref z), .val (.int (ys &&& (3 : Int32))), .unset, .unset, .unset, .unset, .unset, .unset] [(.int (3 : Int32)), (.int (ys &&& (3 : Int32)))]))
    refine Go.st (fun _ k => XS.icmpYes X.here hx rfl (pc0 := 64) (pc' := 79) rfl (hb hby at_64) rfl (Jvm.Free.XT.ii_lt_t (own_up hc1 (by decide) : (ys &&& (3 : Int32)) < (3 : Int32))) (by decide) (by decide) k) ?_
    show Go p e below _ (T.setTop (mkF m 79 #[.val (.int yv), .val (.int ya), .val (.int yb), .val (.int ys), .val (.ref r), .val (.ref x), .val (.ref z), .val (.int (ys &&& (3 : Int32))), .unset, .unset, .unset, .unset, .unset, .unset] []))
    refine Go.st (fun _ k => XS.aload X.here hx rfl (hb hby at_79) rfl rfl k) ?_
    show Go p e below _ (T.setTop (mkF m 81 #[.val (.int yv), .val (.int ya), .val (.int yb), .val (.int ys), .val (.ref r), .val (.ref x), .val (.ref z), .val (.int (ys &&& (3 : Int32))), .unset, .unset, .unset, .unset, .unset, .unset] [(.ref r)]))
    refine Go.callP (argsL := [(.ref r)]) (rest := []) (W := 0) (ck := 2) (sk := 4) X hx hZ hown (hml.trans rfl) hT (hw _ (List.mem_of_getElem? (i := 64) rfl)) (hw _ (List.mem_of_getElem? (i := 65) rfl)) (hw _ (List.mem_of_getElem? (i := 66) rfl)) (hw _ (List.mem_of_getElem? (i := 67) rfl)) (by decide) pd_10 rfl rfl (Nat.le_of_ble_eq_true rfl) (hb hby at_81) (backOf (W := 0) (met_dn l Z a0 hw [] n0 r el _ O Se) hZ (hw _ (List.mem_of_getElem? (i := 67) rfl)) (hw _ (List.mem_of_getElem? (i := 66) rfl)) (by decide) (by decide)) (by decide) (by decide) ?_
    intro v T h6 L hT hQ X
    obtain ⟨sp, se, re, cK1, cK2, rfl, N0, Ex0, A_s, F_s1, F_s2, F_s3, M1, G1, M2, G2⟩ := hQ
    have N := Fr.app N N0
    have KB := (Keep.refl h5 []).ext Ex0
    have O := O.keep KB all0
    have E_r := E_r.keep KB
    have F_r := F_r.keep KB nin0
    have A_x := A_x.keep KB
    have F_x_modCount := F_x_modCount.keep KB nin0
    have F_x_elementData := F_x_elementData.keep KB nin0
    have F_x_size := F_x_size.keep KB nin0
    have A_z := A_z.keep KB
    show Go p e below _ (T.setTop (mkF m 84 #[.val (.int yv), .val (.int ya), .val (.int yb), .val (.int ys), .val (.ref r), .val (.ref x), .val (.ref z), .val (.int (ys &&& (3 : Int32))), .unset, .unset, .unset, .unset, .unset, .unset] [(.ref sp)]))
    refine Go.st (fun _ k => XS.astore X.here hx rfl (hb hby at_84) rfl rfl (l' := #[.val (.int yv), .val (.int ya), .val (.int yb), .val (.int ys), .val (.ref r), .val (.ref x), .val (.ref z), .val (.int (ys &&& (3 : Int32))), .val (.ref sp), .unset, .unset, .unset, .unset, .unset]) rfl k) ?_
    show Go p e below _ (T.setTop (mkF m 86 #[.val (.int yv), .val (.int ya), .val (.int yb), .val (.int ys), .val (.ref r), .val (.ref x), .val (.ref z), .val (.int (ys &&& (3 : Int32))), .val (.ref sp), .unset, .unset, .unset, .unset, .unset] []))
    refine Go.st (fun _ k => XS.aload X.here hx rfl (hb hby at_86) rfl rfl k) ?_
    show Go p e below _ (T.setTop (mkF m 88 #[.val (.int yv), .val (.int ya), .val (.int yb), .val (.int ys), .val (.ref r), .val (.ref x), .val (.ref z), .val (.int (ys &&& (3 : Int32))), .val (.ref sp), .unset, .unset, .unset, .unset, .unset] [(.ref sp)]))
    refine Go.virtV (K := "com/example/pocket_context/pocketcontext/internal/Walk$Step") (z := (⟨"com/example/pocket_context/pocketcontext/internal/Walk$Step", "parts", "()Ljava/util/List;"⟩ : MethodName)) (argsL := []) (rest := []) (W := 0) (w := (.ref el)) X hx hZ hown (hml.trans rfl) hT A_s (hw _ (List.mem_of_getElem? (i := 100) rfl)) (hw _ (List.mem_of_getElem? (i := 101) rfl)) (hw _ (List.mem_of_getElem? (i := 103) rfl)) (hw _ (List.mem_of_getElem? (i := 102) rfl)) (by decide) pd_7 rfl rfl (Nat.le_of_ble_eq_true rfl) (hb hby at_88) (notFace_of_selects (args := #[]) (mvT hZ (hw _ (List.mem_of_getElem? (i := 103) rfl)))) (backOf (W := 0) (met_g_parts l Z a0 hw [] sp el _ F_s1) hZ (hw _ (List.mem_of_getElem? (i := 104) rfl)) (hw _ (List.mem_of_getElem? (i := 66) rfl)) (by decide) (by decide)) (by decide) (by decide) ?_
    intro T hT X
    show Go p e below _ (T.setTop (mkF m 91 #[.val (.int yv), .val (.int ya), .val (.int yb), .val (.int ys), .val (.ref r), .val (.ref x), .val (.ref z), .val (.int (ys &&& (3 : Int32))), .val (.ref sp), .unset, .unset, .unset, .unset, .unset] [(.ref el)]))
    refine Go.st (fun _ k => XS.astore X.here hx rfl (hb hby at_91) rfl rfl (l' := #[.val (.int yv), .val (.int ya), .val (.int yb), .val (.int ys), .val (.ref r), .val (.ref x), .val (.ref z), .val (.int (ys &&& (3 : Int32))), .val (.ref sp), .val (.ref el), .unset, .unset, .unset, .unset]) rfl k) ?_
    show Go p e below _ (T.setTop (mkF m 93 #[.val (.int yv), .val (.int ya), .val (.int yb), .val (.int ys), .val (.ref r), .val (.ref x), .val (.ref z), .val (.int (ys &&& (3 : Int32))), .val (.ref sp), .val (.ref el), .unset, .unset, .unset, .unset] []))
    refine Go.st (fun _ k => XS.aload X.here hx rfl (hb hby at_93) rfl rfl k) ?_
    show Go p e below _ (T.setTop (mkF m 95 #[.val (.int yv), .val (.int ya), .val (.int yb), .val (.int ys), .val (.ref r), .val (.ref x), .val (.ref z), .val (.int (ys &&& (3 : Int32))), .val (.ref sp), .val (.ref el), .unset, .unset, .unset, .unset] [(.ref el)]))
    refine Go.faceV (K := "java/util/ImmutableCollections$ListN") (y := (⟨"java/util/List", "size", "()I"⟩ : MethodName)) (z := (⟨"java/util/ImmutableCollections$ListN", "size", "()I"⟩ : MethodName)) (argsL := []) (rest := []) (W := 0) (w := .int (0 : Int32)) X hx hZ hown (hml.trans rfl) hT (E_el.ext O.2) (hw _ (List.mem_of_getElem? (i := 105) rfl)) (hw _ (List.mem_of_getElem? (i := 106) rfl)) (hw _ (List.mem_of_getElem? (i := 107) rfl)) (hw _ (List.mem_of_getElem? (i := 108) rfl)) (hw _ (List.mem_of_getElem? (i := 109) rfl)) (hw _ (List.mem_of_getElem? (i := 110) rfl)) (hw _ (List.mem_of_getElem? (i := 111) rfl)) (hw _ (List.mem_of_getElem? (i := 112) rfl)) (by decide) pd_11 rfl rfl (Nat.le_of_ble_eq_true rfl) (hb hby at_95) (backOf (W := 0) (met_lsz l Z a0 hw [] el ea ke _ (F_el.ext O.2) (V_el.ext O.2)) hZ (hw _ (List.mem_of_getElem? (i := 114) rfl)) (hw _ (List.mem_of_getElem? (i := 113) rfl)) (by decide) (by decide)) (by decide) (by decide) ?_
    intro T hT X
    show Go p e below _ (T.setTop (mkF m 100 #[.val (.int yv), .val (.int ya), .val (.int yb), .val (.int ys), .val (.ref r), .val (.ref x), .val (.ref z), .val (.int (ys &&& (3 : Int32))), .val (.ref sp), .val (.ref el), .unset, .unset, .unset, .unset] [(.int (0 : Int32))]))
    refine Go.st (fun _ k => XS.ifNo X.here hx rfl (hb hby at_100) rfl (Jvm.Free.XT.i0_ne_f (by decide : (0 : Int32) = (0 : Int32))) k) ?_
    show Go p e below _ (T.setTop (mkF m 103 #[.val (.int yv), .val (.int ya), .val (.int yb), .val (.int ys), .val (.ref r), .val (.ref x), .val (.ref z), .val (.int (ys &&& (3 : Int32))), .val (.ref sp), .val (.ref el), .unset, .unset, .unset, .unset] []))
    refine Go.st (fun _ k => XS.iconst X.here hx rfl (hb hby at_103) k) ?_
    show Go p e below _ (T.setTop (mkF m 104 #[.val (.int yv), .val (.int ya), .val (.int yb), .val (.int ys), .val (.ref r), .val (.ref x), .val (.ref z), .val (.int (ys &&& (3 : Int32))), .val (.ref sp), .val (.ref el), .unset, .unset, .unset, .unset] [(.int (1 : Int32))]))
    refine Go.st (fun _ k => XS.goto X.here hx rfl (pc0 := 104) (pc' := 108) rfl (hb hby at_104) (by decide) (by decide) k) ?_
    show Go p e below _ (T.setTop (mkF m 108 #[.val (.int yv), .val (.int ya), .val (.int yb), .val (.int ys), .val (.ref r), .val (.ref x), .val (.ref z), .val (.int (ys &&& (3 : Int32))), .val (.ref sp), .val (.ref el), .unset, .unset, .unset, .unset] [(.int (1 : Int32))]))
    refine Go.st (fun _ k => XS.istore X.here hx rfl (hb hby at_108) rfl (l' := #[.val (.int yv), .val (.int ya), .val (.int yb), .val (.int ys), .val (.ref r), .val (.ref x), .val (.ref z), .val (.int (ys &&& (3 : Int32))), .val (.ref sp), .val (.ref el), .val (.int (1 : Int32)), .unset, .unset, .unset]) rfl k) ?_
    show Go p e below _ (T.setTop (mkF m 110 #[.val (.int yv), .val (.int ya), .val (.int yb), .val (.int ys), .val (.ref r), .val (.ref x), .val (.ref z), .val (.int (ys &&& (3 : Int32))), .val (.ref sp), .val (.ref el), .val (.int (1 : Int32)), .unset, .unset, .unset] []))
    refine Go.st (fun _ k => XS.aload X.here hx rfl (hb hby at_110) rfl rfl k) ?_
    show Go p e below _ (T.setTop (mkF m 112 #[.val (.int yv), .val (.int ya), .val (.int yb), .val (.int ys), .val (.ref r), .val (.ref x), .val (.ref z), .val (.int (ys &&& (3 : Int32))), .val (.ref sp), .val (.ref el), .val (.int (1 : Int32)), .unset, .unset, .unset] [(.ref sp)]))
    refine Go.virtV (K := "com/example/pocket_context/pocketcontext/internal/Walk$Step") (z := (⟨"com/example/pocket_context/pocketcontext/internal/Walk$Step", "settles", "()Ljava/util/function/Predicate;"⟩ : MethodName)) (argsL := []) (rest := []) (W := 0) (w := (.ref se)) X hx hZ hown (hml.trans rfl) hT A_s (hw _ (List.mem_of_getElem? (i := 117) rfl)) (hw _ (List.mem_of_getElem? (i := 118) rfl)) (hw _ (List.mem_of_getElem? (i := 120) rfl)) (hw _ (List.mem_of_getElem? (i := 119) rfl)) (by decide) pd_12 rfl rfl (Nat.le_of_ble_eq_true rfl) (hb hby at_112) (notFace_of_selects (args := #[]) (mvT hZ (hw _ (List.mem_of_getElem? (i := 120) rfl)))) (backOf (W := 0) (met_g_settles l Z a0 hw [] sp se _ F_s2) hZ (hw _ (List.mem_of_getElem? (i := 121) rfl)) (hw _ (List.mem_of_getElem? (i := 66) rfl)) (by decide) (by decide)) (by decide) (by decide) ?_
    intro T hT X
    show Go p e below _ (T.setTop (mkF m 115 #[.val (.int yv), .val (.int ya), .val (.int yb), .val (.int ys), .val (.ref r), .val (.ref x), .val (.ref z), .val (.int (ys &&& (3 : Int32))), .val (.ref sp), .val (.ref el), .val (.int (1 : Int32)), .unset, .unset, .unset] [(.ref se)]))
    refine Go.st (fun _ k => XS.iloadN X.here hx rfl (hb hby at_115) rfl k) ?_
    show Go p e below _ (T.setTop (mkF m 116 #[.val (.int yv), .val (.int ya), .val (.int yb), .val (.int ys), .val (.ref r), .val (.ref x), .val (.ref z), .val (.int (ys &&& (3 : Int32))), .val (.ref sp), .val (.ref el), .val (.int (1 : Int32)), .unset, .unset, .unset] [(.int ya), (.ref se)]))
    refine Go.callP (argsL := [(.int ya)]) (rest := [(.ref se)]) (W := 1) (ck := 1) (sk := 1) X hx hZ hown (hml.trans rfl) hT (hw _ (List.mem_of_getElem? (i := 0) rfl)) (hw _ (List.mem_of_getElem? (i := 1) rfl)) (hw _ (List.mem_of_getElem? (i := 2) rfl)) (hw _ (List.mem_of_getElem? (i := 3) rfl)) (by decide) pd_9 rfl rfl (Nat.le_of_ble_eq_true rfl) (hb hby at_116) (backOf (W := 1) (met_vi l Z a0 hw [] n0 ya _ O Cc) hZ (hw _ (List.mem_of_getElem? (i := 3) rfl)) (hw _ (List.mem_of_getElem? (i := 2) rfl)) (by decide) (by decide)) (by decide) (by decide) ?_
    intro v T h7 L hT hQ X
    obtain ⟨iq, rfl, N0, Ex0, E_iq, F_iq⟩ := hQ
    have N := Fr.app N N0
    have KB := (Keep.refl h6 []).ext Ex0
    have O := O.keep KB all0
    have E_r := E_r.keep KB
    have F_r := F_r.keep KB nin0
    have A_x := A_x.keep KB
    have F_x_modCount := F_x_modCount.keep KB nin0
    have F_x_elementData := F_x_elementData.keep KB nin0
    have F_x_size := F_x_size.keep KB nin0
    have A_z := A_z.keep KB
    have A_s := A_s.keep KB
    have F_s1 := F_s1.keep KB nin0
    have F_s2 := F_s2.keep KB nin0
    have F_s3 := F_s3.keep KB nin0
    have G1 := own_fnE G1 (keepE KB)
    have G2 := G2.ext (keepE KB)
    show Go p e below _ (T.setTop (mkF m 119 #[.val (.int yv), .val (.int ya), .val (.int yb), .val (.int ys), .val (.ref r), .val (.ref x), .val (.ref z), .val (.int (ys &&& (3 : Int32))), .val (.ref sp), .val (.ref el), .val (.int (1 : Int32)), .unset, .unset, .unset] [(.ref iq), (.ref se)]))
    refine Go.test (rest := []) X hx hZH hw hown (hml.trans rfl) hT M1 G1 (hb hby at_119) (by decide) (Nat.le_of_ble_eq_true rfl) (by decide) (by decide) ?_
    intro T hT X
    show Go p e below _ (T.setTop (mkF m 124 #[.val (.int yv), .val (.int ya), .val (.int yb), .val (.int ys), .val (.ref r), .val (.ref x), .val (.ref z), .val (.int (ys &&& (3 : Int32))), .val (.ref sp), .val (.ref el), .val (.int (1 : Int32)), .unset, .unset, .unset] [(.int (0 : Int32))]))
    refine Go.st (fun _ k => XS.ifNo X.here hx rfl (hb hby at_124) rfl (Jvm.Free.XT.i0_ne_f (by decide : (0 : Int32) = (0 : Int32))) k) ?_
    show Go p e below _ (T.setTop (mkF m 127 #[.val (.int yv), .val (.int ya), .val (.int yb), .val (.int ys), .val (.ref r), .val (.ref x), .val (.ref z), .val (.int (ys &&& (3 : Int32))), .val (.ref sp), .val (.ref el), .val (.int (1 : Int32)), .unset, .unset, .unset] []))
    refine Go.st (fun _ k => XS.aload X.here hx rfl (hb hby at_127) rfl rfl k) ?_
    show Go p e below _ (T.setTop (mkF m 129 #[.val (.int yv), .val (.int ya), .val (.int yb), .val (.int ys), .val (.ref r), .val (.ref x), .val (.ref z), .val (.int (ys &&& (3 : Int32))), .val (.ref sp), .val (.ref el), .val (.int (1 : Int32)), .unset, .unset, .unset] [(.ref sp)]))
    refine Go.virtV (K := "com/example/pocket_context/pocketcontext/internal/Walk$Step") (z := (⟨"com/example/pocket_context/pocketcontext/internal/Walk$Step", "settles", "()Ljava/util/function/Predicate;"⟩ : MethodName)) (argsL := []) (rest := []) (W := 0) (w := (.ref se)) X hx hZ hown (hml.trans rfl) hT A_s (hw _ (List.mem_of_getElem? (i := 117) rfl)) (hw _ (List.mem_of_getElem? (i := 118) rfl)) (hw _ (List.mem_of_getElem? (i := 120) rfl)) (hw _ (List.mem_of_getElem? (i := 119) rfl)) (by decide) pd_12 rfl rfl (Nat.le_of_ble_eq_true rfl) (hb hby at_129) (notFace_of_selects (args := #[]) (mvT hZ (hw _ (List.mem_of_getElem? (i := 120) rfl)))) (backOf (W := 0) (met_g_settles l Z a0 hw [] sp se _ F_s2) hZ (hw _ (List.mem_of_getElem? (i := 121) rfl)) (hw _ (List.mem_of_getElem? (i := 66) rfl)) (by decide) (by decide)) (by decide) (by decide) ?_
    intro T hT X
    show Go p e below _ (T.setTop (mkF m 132 #[.val (.int yv), .val (.int ya), .val (.int yb), .val (.int ys), .val (.ref r), .val (.ref x), .val (.ref z), .val (.int (ys &&& (3 : Int32))), .val (.ref sp), .val (.ref el), .val (.int (1 : Int32)), .unset, .unset, .unset] [(.ref se)]))
    refine Go.st (fun _ k => XS.aload X.here hx rfl (hb hby at_132) rfl rfl k) ?_
    show Go p e below _ (T.setTop (mkF m 134 #[.val (.int yv), .val (.int ya), .val (.int yb), .val (.int ys), .val (.ref r), .val (.ref x), .val (.ref z), .val (.int (ys &&& (3 : Int32))), .val (.ref sp), .val (.ref el), .val (.int (1 : Int32)), .unset, .unset, .unset] [(.ref r), (.ref se)]))
    refine Go.test (rest := []) X hx hZH hw hown (hml.trans rfl) hT M1 G1 (hb hby at_134) (by decide) (Nat.le_of_ble_eq_true rfl) (by decide) (by decide) ?_
    intro T hT X
    show Go p e below _ (T.setTop (mkF m 139 #[.val (.int yv), .val (.int ya), .val (.int yb), .val (.int ys), .val (.ref r), .val (.ref x), .val (.ref z), .val (.int (ys &&& (3 : Int32))), .val (.ref sp), .val (.ref el), .val (.int (1 : Int32)), .unset, .unset, .unset] [(.int (0 : Int32))]))
    refine Go.st (fun _ k => XS.ifNo X.here hx rfl (hb hby at_139) rfl (Jvm.Free.XT.i0_ne_f (by decide : (0 : Int32) = (0 : Int32))) k) ?_
    show Go p e below _ (T.setTop (mkF m 142 #[.val (.int yv), .val (.int ya), .val (.int yb), .val (.int ys), .val (.ref r), .val (.ref x), .val (.ref z), .val (.int (ys &&& (3 : Int32))), .val (.ref sp), .val (.ref el), .val (.int (1 : Int32)), .unset, .unset, .unset] []))
    refine Go.st (fun _ k => XS.iconst X.here hx rfl (hb hby at_142) k) ?_
    show Go p e below _ (T.setTop (mkF m 143 #[.val (.int yv), .val (.int ya), .val (.int yb), .val (.int ys), .val (.ref r), .val (.ref x), .val (.ref z), .val (.int (ys &&& (3 : Int32))), .val (.ref sp), .val (.ref el), .val (.int (1 : Int32)), .unset, .unset, .unset] [(.int (1 : Int32))]))
    refine Go.st (fun _ k => XS.goto X.here hx rfl (pc0 := 143) (pc' := 147) rfl (hb hby at_143) (by decide) (by decide) k) ?_
    show Go p e below _ (T.setTop (mkF m 147 #[.val (.int yv), .val (.int ya), .val (.int yb), .val (.int ys), .val (.ref r), .val (.ref x), .val (.ref z), .val (.int (ys &&& (3 : Int32))), .val (.ref sp), .val (.ref el), .val (.int (1 : Int32)), .unset, .unset, .unset] [(.int (1 : Int32))]))
    refine Go.st (fun _ k => XS.istore X.here hx rfl (hb hby at_147) rfl (l' := #[.val (.int yv), .val (.int ya), .val (.int yb), .val (.int ys), .val (.ref r), .val (.ref x), .val (.ref z), .val (.int (ys &&& (3 : Int32))), .val (.ref sp), .val (.ref el), .val (.int (1 : Int32)), .val (.int (1 : Int32)), .unset, .unset]) rfl k) ?_
    show Go p e below _ (T.setTop (mkF m 149 #[.val (.int yv), .val (.int ya), .val (.int yb), .val (.int ys), .val (.ref r), .val (.ref x), .val (.ref z), .val (.int (ys &&& (3 : Int32))), .val (.ref sp), .val (.ref el), .val (.int (1 : Int32)), .val (.int (1 : Int32)), .unset, .unset] []))
    refine Go.st (fun _ k => XS.aload X.here hx rfl (hb hby at_149) rfl rfl k) ?_
    show Go p e below _ (T.setTop (mkF m 151 #[.val (.int yv), .val (.int ya), .val (.int yb), .val (.int ys), .val (.ref r), .val (.ref x), .val (.ref z), .val (.int (ys &&& (3 : Int32))), .val (.ref sp), .val (.ref el), .val (.int (1 : Int32)), .val (.int (1 : Int32)), .unset, .unset] [(.ref sp)]))
    refine Go.virtV (K := "com/example/pocket_context/pocketcontext/internal/Walk$Step") (z := (⟨"com/example/pocket_context/pocketcontext/internal/Walk$Step", "result", "()Ljava/util/function/Function;"⟩ : MethodName)) (argsL := []) (rest := []) (W := 0) (w := (.ref re)) X hx hZ hown (hml.trans rfl) hT A_s (hw _ (List.mem_of_getElem? (i := 127) rfl)) (hw _ (List.mem_of_getElem? (i := 128) rfl)) (hw _ (List.mem_of_getElem? (i := 130) rfl)) (hw _ (List.mem_of_getElem? (i := 129) rfl)) (by decide) pd_13 rfl rfl (Nat.le_of_ble_eq_true rfl) (hb hby at_151) (notFace_of_selects (args := #[]) (mvT hZ (hw _ (List.mem_of_getElem? (i := 130) rfl)))) (backOf (W := 0) (met_g_result l Z a0 hw [] sp re _ F_s3) hZ (hw _ (List.mem_of_getElem? (i := 131) rfl)) (hw _ (List.mem_of_getElem? (i := 66) rfl)) (by decide) (by decide)) (by decide) (by decide) ?_
    intro T hT X
    show Go p e below _ (T.setTop (mkF m 154 #[.val (.int yv), .val (.int ya), .val (.int yb), .val (.int ys), .val (.ref r), .val (.ref x), .val (.ref z), .val (.int (ys &&& (3 : Int32))), .val (.ref sp), .val (.ref el), .val (.int (1 : Int32)), .val (.int (1 : Int32)), .unset, .unset] [(.ref re)]))
    refine Go.st (fun _ k => XS.aload X.here hx rfl (hb hby at_154) rfl rfl k) ?_
    show Go p e below _ (T.setTop (mkF m 156 #[.val (.int yv), .val (.int ya), .val (.int yb), .val (.int ys), .val (.ref r), .val (.ref x), .val (.ref z), .val (.int (ys &&& (3 : Int32))), .val (.ref sp), .val (.ref el), .val (.int (1 : Int32)), .val (.int (1 : Int32)), .unset, .unset] [(.ref x), (.ref re)]))
    refine Go.apply (rest := []) X hx hZH hw hown (hml.trans rfl) hT M2 G2 A_x (hb hby at_156) (by decide) (Nat.le_of_ble_eq_true rfl) (by decide) (by decide) ?_
    intro T hT X
    show Go p e below _ (T.setTop (mkF m 161 #[.val (.int yv), .val (.int ya), .val (.int yb), .val (.int ys), .val (.ref r), .val (.ref x), .val (.ref z), .val (.int (ys &&& (3 : Int32))), .val (.ref sp), .val (.ref el), .val (.int (1 : Int32)), .val (.int (1 : Int32)), .unset, .unset] [(.ref r)]))
    obtain ⟨T, X, hT, st⟩ := castY X hx hZ hown (hw _ (List.mem_of_getElem? (i := 138) rfl)) hT (Ins.self E_r) (g := (mkF m 161 #[.val (.int yv), .val (.int ya), .val (.int yb), .val (.int ys), .val (.ref r), .val (.ref x), .val (.ref z), .val (.int (ys &&& (3 : Int32))), .val (.ref sp), .val (.ref el), .val (.int (1 : Int32)), .val (.int (1 : Int32)), .unset, .unset] [(.ref r)])) rfl rfl (hb hby at_161)
    refine Go.st st ?_
    show Go p e below _ (T.setTop (mkF m 164 #[.val (.int yv), .val (.int ya), .val (.int yb), .val (.int ys), .val (.ref r), .val (.ref x), .val (.ref z), .val (.int (ys &&& (3 : Int32))), .val (.ref sp), .val (.ref el), .val (.int (1 : Int32)), .val (.int (1 : Int32)), .unset, .unset] [(.ref r)]))
    refine Go.st (fun _ k => XS.astore X.here hx rfl (hb hby at_164) rfl rfl (l' := #[.val (.int yv), .val (.int ya), .val (.int yb), .val (.int ys), .val (.ref r), .val (.ref x), .val (.ref z), .val (.int (ys &&& (3 : Int32))), .val (.ref sp), .val (.ref el), .val (.int (1 : Int32)), .val (.int (1 : Int32)), .val (.ref r), .unset]) rfl k) ?_
    show Go p e below _ (T.setTop (mkF m 166 #[.val (.int yv), .val (.int ya), .val (.int yb), .val (.int ys), .val (.ref r), .val (.ref x), .val (.ref z), .val (.int (ys &&& (3 : Int32))), .val (.ref sp), .val (.ref el), .val (.int (1 : Int32)), .val (.int (1 : Int32)), .val (.ref r), .unset] []))
    refine Go.st (fun _ k => XS.aload X.here hx rfl (hb hby at_166) rfl rfl k) ?_
    show Go p e below _ (T.setTop (mkF m 168 #[.val (.int yv), .val (.int ya), .val (.int yb), .val (.int ys), .val (.ref r), .val (.ref x), .val (.ref z), .val (.int (ys &&& (3 : Int32))), .val (.ref sp), .val (.ref el), .val (.int (1 : Int32)), .val (.int (1 : Int32)), .val (.ref r), .unset] [(.ref sp)]))
    refine Go.virtV (K := "com/example/pocket_context/pocketcontext/internal/Walk$Step") (z := (⟨"com/example/pocket_context/pocketcontext/internal/Walk$Step", "result", "()Ljava/util/function/Function;"⟩ : MethodName)) (argsL := []) (rest := []) (W := 0) (w := (.ref re)) X hx hZ hown (hml.trans rfl) hT A_s (hw _ (List.mem_of_getElem? (i := 127) rfl)) (hw _ (List.mem_of_getElem? (i := 128) rfl)) (hw _ (List.mem_of_getElem? (i := 130) rfl)) (hw _ (List.mem_of_getElem? (i := 129) rfl)) (by decide) pd_13 rfl rfl (Nat.le_of_ble_eq_true rfl) (hb hby at_168) (notFace_of_selects (args := #[]) (mvT hZ (hw _ (List.mem_of_getElem? (i := 130) rfl)))) (backOf (W := 0) (met_g_result l Z a0 hw [] sp re _ F_s3) hZ (hw _ (List.mem_of_getElem? (i := 131) rfl)) (hw _ (List.mem_of_getElem? (i := 66) rfl)) (by decide) (by decide)) (by decide) (by decide) ?_
    intro T hT X
    show Go p e below _ (T.setTop (mkF m 171 #[.val (.int yv), .val (.int ya), .val (.int yb), .val (.int ys), .val (.ref r), .val (.ref x), .val (.ref z), .val (.int (ys &&& (3 : Int32))), .val (.ref sp), .val (.ref el), .val (.int (1 : Int32)), .val (.int (1 : Int32)), .val (.ref r), .unset] [(.ref re)]))
    refine Go.st (fun _ k => XS.aload X.here hx rfl (hb hby at_171) rfl rfl k) ?_
    show Go p e below _ (T.setTop (mkF m 173 #[.val (.int yv), .val (.int ya), .val (.int yb), .val (.int ys), .val (.ref r), .val (.ref x), .val (.ref z), .val (.int (ys &&& (3 : Int32))), .val (.ref sp), .val (.ref el), .val (.int (1 : Int32)), .val (.int (1 : Int32)), .val (.ref r), .unset] [(.ref z), (.ref re)]))
    refine Go.apply (rest := []) X hx hZH hw hown (hml.trans rfl) hT M2 G2 A_z (hb hby at_173) (by decide) (Nat.le_of_ble_eq_true rfl) (by decide) (by decide) ?_
    intro T hT X
    show Go p e below _ (T.setTop (mkF m 178 #[.val (.int yv), .val (.int ya), .val (.int yb), .val (.int ys), .val (.ref r), .val (.ref x), .val (.ref z), .val (.int (ys &&& (3 : Int32))), .val (.ref sp), .val (.ref el), .val (.int (1 : Int32)), .val (.int (1 : Int32)), .val (.ref r), .unset] [(.ref r)]))
    obtain ⟨T, X, hT, st⟩ := castY X hx hZ hown (hw _ (List.mem_of_getElem? (i := 138) rfl)) hT (Ins.self E_r) (g := (mkF m 178 #[.val (.int yv), .val (.int ya), .val (.int yb), .val (.int ys), .val (.ref r), .val (.ref x), .val (.ref z), .val (.int (ys &&& (3 : Int32))), .val (.ref sp), .val (.ref el), .val (.int (1 : Int32)), .val (.int (1 : Int32)), .val (.ref r), .unset] [(.ref r)])) rfl rfl (hb hby at_178)
    refine Go.st st ?_
    show Go p e below _ (T.setTop (mkF m 181 #[.val (.int yv), .val (.int ya), .val (.int yb), .val (.int ys), .val (.ref r), .val (.ref x), .val (.ref z), .val (.int (ys &&& (3 : Int32))), .val (.ref sp), .val (.ref el), .val (.int (1 : Int32)), .val (.int (1 : Int32)), .val (.ref r), .unset] [(.ref r)]))
    refine Go.st (fun _ k => XS.astore X.here hx rfl (hb hby at_181) rfl rfl (l' := #[.val (.int yv), .val (.int ya), .val (.int yb), .val (.int ys), .val (.ref r), .val (.ref x), .val (.ref z), .val (.int (ys &&& (3 : Int32))), .val (.ref sp), .val (.ref el), .val (.int (1 : Int32)), .val (.int (1 : Int32)), .val (.ref r), .val (.ref r)]) rfl k) ?_
    show Go p e below _ (T.setTop (mkF m 183 #[.val (.int yv), .val (.int ya), .val (.int yb), .val (.int ys), .val (.ref r), .val (.ref x), .val (.ref z), .val (.int (ys &&& (3 : Int32))), .val (.ref sp), .val (.ref el), .val (.int (1 : Int32)), .val (.int (1 : Int32)), .val (.ref r), .val (.ref r)] []))
    refine Go.st (fun _ k => XS.iload X.here hx rfl (hb hby at_183) rfl k) ?_
    show Go p e below _ (T.setTop (mkF m 185 #[.val (.int yv), .val (.int ya), .val (.int yb), .val (.int ys), .val (.ref r), .val (.ref x), .val (.ref z), .val (.int (ys &&& (3 : Int32))), .val (.ref sp), .val (.ref el), .val (.int (1 : Int32)), .val (.int (1 : Int32)), .val (.ref r), .val (.ref r)] [(.int (1 : Int32))]))
    refine Go.st (fun _ k => XS.ifNo X.here hx rfl (hb hby at_185) rfl (Jvm.Free.XT.i0_eq_f (by decide : ¬ ((1 : Int32) = (0 : Int32)))) k) ?_
    show Go p e below _ (T.setTop (mkF m 188 #[.val (.int yv), .val (.int ya), .val (.int yb), .val (.int ys), .val (.ref r), .val (.ref x), .val (.ref z), .val (.int (ys &&& (3 : Int32))), .val (.ref sp), .val (.ref el), .val (.int (1 : Int32)), .val (.int (1 : Int32)), .val (.ref r), .val (.ref r)] []))
    refine Go.st (fun _ k => XS.iload X.here hx rfl (hb hby at_188) rfl k) ?_
    show Go p e below _ (T.setTop (mkF m 190 #[.val (.int yv), .val (.int ya), .val (.int yb), .val (.int ys), .val (.ref r), .val (.ref x), .val (.ref z), .val (.int (ys &&& (3 : Int32))), .val (.ref sp), .val (.ref el), .val (.int (1 : Int32)), .val (.int (1 : Int32)), .val (.ref r), .val (.ref r)] [(.int (1 : Int32))]))
    refine Go.st (fun _ k => XS.ifNo X.here hx rfl (hb hby at_190) rfl (Jvm.Free.XT.i0_eq_f (by decide : ¬ ((1 : Int32) = (0 : Int32)))) k) ?_
    show Go p e below _ (T.setTop (mkF m 193 #[.val (.int yv), .val (.int ya), .val (.int yb), .val (.int ys), .val (.ref r), .val (.ref x), .val (.ref z), .val (.int (ys &&& (3 : Int32))), .val (.ref sp), .val (.ref el), .val (.int (1 : Int32)), .val (.int (1 : Int32)), .val (.ref r), .val (.ref r)] []))
    refine Go.st (fun _ k => XS.aload X.here hx rfl (hb hby at_193) rfl rfl k) ?_
    show Go p e below _ (T.setTop (mkF m 195 #[.val (.int yv), .val (.int ya), .val (.int yb), .val (.int ys), .val (.ref r), .val (.ref x), .val (.ref z), .val (.int (ys &&& (3 : Int32))), .val (.ref sp), .val (.ref el), .val (.int (1 : Int32)), .val (.int (1 : Int32)), .val (.ref r), .val (.ref r)] [(.ref r)]))
    refine Go.st (fun _ k => XS.aload X.here hx rfl (hb hby at_195) rfl rfl k) ?_
    show Go p e below _ (T.setTop (mkF m 197 #[.val (.int yv), .val (.int ya), .val (.int yb), .val (.int ys), .val (.ref r), .val (.ref x), .val (.ref z), .val (.int (ys &&& (3 : Int32))), .val (.ref sp), .val (.ref el), .val (.int (1 : Int32)), .val (.int (1 : Int32)), .val (.ref r), .val (.ref r)] [(.ref r), (.ref r)]))
    refine Go.st (fun _ k => acmp X hx rfl (cd := .ne) rfl rfl (pc0 := 197) (pc' := 200) (same := true) rfl (hb hby at_197) rfl (decide_eq_true rfl) (by decide) (by decide) k) ?_
    show Go p e below _ (T.setTop (mkF m 200 #[.val (.int yv), .val (.int ya), .val (.int yb), .val (.int ys), .val (.ref r), .val (.ref x), .val (.ref z), .val (.int (ys &&& (3 : Int32))), .val (.ref sp), .val (.ref el), .val (.int (1 : Int32)), .val (.int (1 : Int32)), .val (.ref r), .val (.ref r)] []))
    refine Go.st (fun _ k => XS.aload X.here hx rfl (hb hby at_200) rfl rfl k) ?_
    show Go p e below _ (T.setTop (mkF m 202 #[.val (.int yv), .val (.int ya), .val (.int yb), .val (.int ys), .val (.ref r), .val (.ref x), .val (.ref z), .val (.int (ys &&& (3 : Int32))), .val (.ref sp), .val (.ref el), .val (.int (1 : Int32)), .val (.int (1 : Int32)), .val (.ref r), .val (.ref r)] [(.ref r)]))
    refine Go.st (fun _ k => XS.aload X.here hx rfl (hb hby at_202) rfl rfl k) ?_
    show Go p e below _ (T.setTop (mkF m 204 #[.val (.int yv), .val (.int ya), .val (.int yb), .val (.int ys), .val (.ref r), .val (.ref x), .val (.ref z), .val (.int (ys &&& (3 : Int32))), .val (.ref sp), .val (.ref el), .val (.int (1 : Int32)), .val (.int (1 : Int32)), .val (.ref r), .val (.ref r)] [(.ref r), (.ref r)]))
    refine Go.st (fun _ k => acmp X hx rfl (cd := .ne) rfl rfl (pc0 := 204) (pc' := 207) (same := true) rfl (hb hby at_204) rfl (decide_eq_true rfl) (by decide) (by decide) k) ?_
    show Go p e below _ (T.setTop (mkF m 207 #[.val (.int yv), .val (.int ya), .val (.int yb), .val (.int ys), .val (.ref r), .val (.ref x), .val (.ref z), .val (.int (ys &&& (3 : Int32))), .val (.ref sp), .val (.ref el), .val (.int (1 : Int32)), .val (.int (1 : Int32)), .val (.ref r), .val (.ref r)] []))
    refine Go.st (fun _ k => XS.aload X.here hx rfl (hb hby at_207) rfl rfl k) ?_
    show Go p e below _ (T.setTop (mkF m 209 #[.val (.int yv), .val (.int ya), .val (.int yb), .val (.int ys), .val (.ref r), .val (.ref x), .val (.ref z), .val (.int (ys &&& (3 : Int32))), .val (.ref sp), .val (.ref el), .val (.int (1 : Int32)), .val (.int (1 : Int32)), .val (.ref r), .val (.ref r)] [(.ref r)]))
    refine Go.virtV (K := "java/lang/Integer") (z := (⟨"java/lang/Integer", "intValue", "()I"⟩ : MethodName)) (argsL := []) (rest := []) (W := 0) (w := (.int yv)) X hx hZ hown (hml.trans rfl) hT E_r (hw _ (List.mem_of_getElem? (i := 140) rfl)) (hw _ (List.mem_of_getElem? (i := 141) rfl)) (hw _ (List.mem_of_getElem? (i := 143) rfl)) (hw _ (List.mem_of_getElem? (i := 142) rfl)) (by decide) pd_11 rfl rfl (Nat.le_of_ble_eq_true rfl) (hb hby at_209) (notFace_of_selects (args := #[]) (mvT hZ (hw _ (List.mem_of_getElem? (i := 143) rfl)))) (backOf (W := 0) (met_iv l Z a0 hw [] r yv _ F_r) hZ (hw _ (List.mem_of_getElem? (i := 144) rfl)) (hw _ (List.mem_of_getElem? (i := 2) rfl)) (by decide) (by decide)) (by decide) (by decide) ?_
    intro T hT X
    show Go p e below _ (T.setTop (mkF m 212 #[.val (.int yv), .val (.int ya), .val (.int yb), .val (.int ys), .val (.ref r), .val (.ref x), .val (.ref z), .val (.int (ys &&& (3 : Int32))), .val (.ref sp), .val (.ref el), .val (.int (1 : Int32)), .val (.int (1 : Int32)), .val (.ref r), .val (.ref r)] [(.int yv)]))
    refine Go.st (fun _ k => XS.iloadN X.here hx rfl (hb hby at_212) rfl k) ?_
    show Go p e below _ (T.setTop (mkF m 213 #[.val (.int yv), .val (.int ya), .val (.int yb), .val (.int ys), .val (.ref r), .val (.ref x), .val (.ref z), .val (.int (ys &&& (3 : Int32))), .val (.ref sp), .val (.ref el), .val (.int (1 : Int32)), .val (.int (1 : Int32)), .val (.ref r), .val (.ref r)] [(.int yv), (.int yv)]))
    refine Go.st (fun _ k => XS.icmpNo X.here hx rfl (hb hby at_213) rfl (Jvm.Free.XT.ii_ne_f (rfl : yv = yv)) k) ?_
    show Go p e below _ (T.setTop (mkF m 216 #[.val (.int yv), .val (.int ya), .val (.int yb), .val (.int ys), .val (.ref r), .val (.ref x), .val (.ref z), .val (.int (ys &&& (3 : Int32))), .val (.ref sp), .val (.ref el), .val (.int (1 : Int32)), .val (.int (1 : Int32)), .val (.ref r), .val (.ref r)] []))
    refine Go.st (fun _ k => XS.iconst X.here hx rfl (hb hby at_216) k) ?_
    show Go p e below _ (T.setTop (mkF m 217 #[.val (.int yv), .val (.int ya), .val (.int yb), .val (.int ys), .val (.ref r), .val (.ref x), .val (.ref z), .val (.int (ys &&& (3 : Int32))), .val (.ref sp), .val (.ref el), .val (.int (1 : Int32)), .val (.int (1 : Int32)), .val (.ref r), .val (.ref r)] [(.int (1 : Int32))]))
    refine Go.st (fun _ k => XS.goto X.here hx rfl (pc0 := 217) (pc' := 221) rfl (hb hby at_217) (by decide) (by decide) k) ?_
    show Go p e below _ (T.setTop (mkF m 221 #[.val (.int yv), .val (.int ya), .val (.int yb), .val (.int ys), .val (.ref r), .val (.ref x), .val (.ref z), .val (.int (ys &&& (3 : Int32))), .val (.ref sp), .val (.ref el), .val (.int (1 : Int32)), .val (.int (1 : Int32)), .val (.ref r), .val (.ref r)] [(.int (1 : Int32))]))
    refine Go.ret X hx hlk hT hret (by decide) (riI (by simp)) (hb hby at_221) (by decide) (by decide) ?_
    exact ⟨rfl, N⟩
  · refine Go.st (fun _ k => XS.icmpNo X.here hx rfl (hb hby at_32) rfl (Jvm.Free.XT.ii_lt_f hc1) k) ?_
    show Go p e below _ (T.setTop (mkF m 35 #[.val (.int yv), .val (.int ya), .val (.int yb), .val (.int ys), .val (.ref r), .val (.ref x), .val (.ref z), .val (.int (ys &&& (3 : Int32))), .unset, .unset, .unset, .unset, .unset, .unset] []))
    refine Go.st (fun _ k => XS.aload X.here hx rfl (hb hby at_35) rfl rfl k) ?_
    show Go p e below _ (T.setTop (mkF m 37 #[.val (.int yv), .val (.int ya), .val (.int yb), .val (.int ys), .val (.ref r), .val (.ref x), .val (.ref z), .val (.int (ys &&& (3 : Int32))), .unset, .unset, .unset, .unset, .unset, .unset] [(.ref x)]))
    refine Go.st (fun _ k => XS.iloadN X.here hx rfl (hb hby at_37) rfl k) ?_
    show Go p e below _ (T.setTop (mkF m 38 #[.val (.int yv), .val (.int ya), .val (.int yb), .val (.int ys), .val (.ref r), .val (.ref x), .val (.ref z), .val (.int (ys &&& (3 : Int32))), .unset, .unset, .unset, .unset, .unset, .unset] [(.int ya), (.ref x)]))
    refine Go.callP (argsL := [(.int ya)]) (rest := [(.ref x)]) (W := 1) (ck := 1) (sk := 1) X hx hZ hown (hml.trans rfl) hT (hw _ (List.mem_of_getElem? (i := 0) rfl)) (hw _ (List.mem_of_getElem? (i := 1) rfl)) (hw _ (List.mem_of_getElem? (i := 2) rfl)) (hw _ (List.mem_of_getElem? (i := 3) rfl)) (by decide) pd_9 rfl rfl (Nat.le_of_ble_eq_true rfl) (hb hby at_38) (backOf (W := 1) (met_vi l Z a0 hw [] n0 ya _ O Cc) hZ (hw _ (List.mem_of_getElem? (i := 3) rfl)) (hw _ (List.mem_of_getElem? (i := 2) rfl)) (by decide) (by decide)) (by decide) (by decide) ?_
    intro v T h8 L hT hQ X
    obtain ⟨ia, rfl, N0, Ex0, E_ia, F_ia⟩ := hQ
    have N := Fr.app N N0
    have KB := (Keep.refl h5 []).ext Ex0
    have O := O.keep KB all0
    have E_r := E_r.keep KB
    have F_r := F_r.keep KB nin0
    have A_x := A_x.keep KB
    have F_x_modCount := F_x_modCount.keep KB nin0
    have F_x_elementData := F_x_elementData.keep KB nin0
    have F_x_size := F_x_size.keep KB nin0
    have A_z := A_z.keep KB
    show Go p e below _ (T.setTop (mkF m 41 #[.val (.int yv), .val (.int ya), .val (.int yb), .val (.int ys), .val (.ref r), .val (.ref x), .val (.ref z), .val (.int (ys &&& (3 : Int32))), .unset, .unset, .unset, .unset, .unset, .unset] [(.ref ia), (.ref x)]))
    refine Go.virtP (K := "java/util/ArrayList") (z := (⟨"java/util/ArrayList", "add", "(Ljava/lang/Object;)Z"⟩ : MethodName)) (argsL := [(.ref ia)]) (rest := []) (W := 0) (ck := 1) (sk := 10) X hx hZ hown (hml.trans rfl) hT A_x (hw _ (List.mem_of_getElem? (i := 33) rfl)) (hw _ (List.mem_of_getElem? (i := 34) rfl)) (hw _ (List.mem_of_getElem? (i := 36) rfl)) (hw _ (List.mem_of_getElem? (i := 35) rfl)) (by decide) pd_14 rfl rfl (Nat.le_of_ble_eq_true rfl) (hb hby at_41) (notFace_of_selects (args := #[]) (mvT hZ (hw _ (List.mem_of_getElem? (i := 36) rfl)))) (backOf (W := 0) (met_add0 l Z a0 hw [] n0 x ia dv kd (0 : Int32) _ O ge_x Sd Vd A_x F_x_modCount F_x_elementData F_x_size E_ia) hZ (hw _ (List.mem_of_getElem? (i := 37) rfl)) (hw _ (List.mem_of_getElem? (i := 9) rfl)) (by decide) (by decide)) (by decide) (by decide) ?_
    intro v T h9 L hT hQ X
    obtain ⟨rx, kr, rfl, N0, K0, gk_rx, Ls0⟩ := hQ
    have ne_r_rx : r ≠ rx := Nat.ne_of_lt (Nat.lt_of_lt_of_le E_r.lt gk_rx)
    have ge_rx : n0 ≤ rx := Nat.le_trans (own_le O) gk_rx
    have N := Fr.app N N0
    have O := O.keep K0 (allS ge_x all0)
    have E_r := E_r.keep K0
    have F_r := F_r.keep K0 (ninS ne_r_x nin0)
    have A_z := A_z.keep K0
    have A_x := Ls0.2.2.1
    show Go p e below _ (T.setTop (mkF m 44 #[.val (.int yv), .val (.int ya), .val (.int yb), .val (.int ys), .val (.ref r), .val (.ref x), .val (.ref z), .val (.int (ys &&& (3 : Int32))), .unset, .unset, .unset, .unset, .unset, .unset] [(.int (1 : Int32))]))
    refine Go.st (fun _ k => XS.pop X.here hx rfl (hb hby at_44) rfl rfl k) ?_
    show Go p e below _ (T.setTop (mkF m 45 #[.val (.int yv), .val (.int ya), .val (.int yb), .val (.int ys), .val (.ref r), .val (.ref x), .val (.ref z), .val (.int (ys &&& (3 : Int32))), .unset, .unset, .unset, .unset, .unset, .unset] []))
    refine Go.st (fun _ k => XS.iload X.here hx rfl (hb hby at_45) rfl k) ?_
    show Go p e below _ (T.setTop (mkF m 47 #[.val (.int yv), .val (.int ya), .val (.int yb), .val (.int ys), .val (.ref r), .val (.ref x), .val (.ref z), .val (.int (ys &&& (3 : Int32))), .unset, .unset, .unset, .unset, .unset, .unset] [(.int (ys &&& (3 : Int32)))]))
    refine Go.st (fun _ k => XS.iconst X.here hx rfl (hb hby at_47) k) ?_
    show Go p e below _ (T.setTop (mkF m 48 #[.val (.int yv), .val (.int ya), .val (.int yb), .val (.int ys), .val (.ref r), .val (.ref x), .val (.ref z), .val (.int (ys &&& (3 : Int32))), .unset, .unset, .unset, .unset, .unset, .unset] [(.int (2 : Int32)), (.int (ys &&& (3 : Int32)))]))
    by_cases hc2 : (ys &&& (3 : Int32)) < (2 : Int32)
    · refine Go.st (fun _ k => XS.icmpYes X.here hx rfl (pc0 := 48) (pc' := 61) rfl (hb hby at_48) rfl (Jvm.Free.XT.ii_lt_t hc2) (by decide) (by decide) k) ?_
      show Go p e below _ (T.setTop (mkF m 61 #[.val (.int yv), .val (.int ya), .val (.int yb), .val (.int ys), .val (.ref r), .val (.ref x), .val (.ref z), .val (.int (ys &&& (3 : Int32))), .unset, .unset, .unset, .unset, .unset, .unset] []))
      refine Go.st (fun _ k => XS.iload X.here hx rfl (hb hby at_61) rfl k) ?_
      show Go p e below _ (T.setTop (mkF m 63 #[.val (.int yv), .val (.int ya), .val (.int yb), .val (.int ys), .val (.ref r), .val (.ref x), .val (.ref z), .val (.int (ys &&& (3 : Int32))), .unset, .unset, .unset, .unset, .unset, .unset] [(.int (ys &&& (3 : Int32)))]))
      refine Go.st (fun _ k => XS.iconst X.here hx rfl (hb hby at_63) k) ?_
      show Go p e below _ (T.setTop (mkF m 64 #[.val (.int yv), .val (.int ya), .val (.int yb), .val (.int ys), .val (.ref r), .val (.ref x), .val (.ref z), .val (.int (ys &&& (3 : Int32))), .unset, .unset, .unset, .unset, .unset, .unset] [(.int (3 : Int32)), (.int (ys &&& (3 : Int32)))]))
      refine Go.st (fun _ k => XS.icmpYes X.here hx rfl (pc0 := 64) (pc' := 79) rfl (hb hby at_64) rfl (Jvm.Free.XT.ii_lt_t (own_up hc2 (by decide) : (ys &&& (3 : Int32)) < (3 : Int32))) (by decide) (by decide) k) ?_
      show Go p e below _ (T.setTop (mkF m 79 #[.val (.int yv), .val (.int ya), .val (.int yb), .val (.int ys), .val (.ref r), .val (.ref x), .val (.ref z), .val (.int (ys &&& (3 : Int32))), .unset, .unset, .unset, .unset, .unset, .unset] []))
      refine Go.st (fun _ k => XS.aload X.here hx rfl (hb hby at_79) rfl rfl k) ?_
      show Go p e below _ (T.setTop (mkF m 81 #[.val (.int yv), .val (.int ya), .val (.int yb), .val (.int ys), .val (.ref r), .val (.ref x), .val (.ref z), .val (.int (ys &&& (3 : Int32))), .unset, .unset, .unset, .unset, .unset, .unset] [(.ref r)]))
      refine Go.callP (argsL := [(.ref r)]) (rest := []) (W := 0) (ck := 2) (sk := 4) X hx hZ hown (hml.trans rfl) hT (hw _ (List.mem_of_getElem? (i := 64) rfl)) (hw _ (List.mem_of_getElem? (i := 65) rfl)) (hw _ (List.mem_of_getElem? (i := 66) rfl)) (hw _ (List.mem_of_getElem? (i := 67) rfl)) (by decide) pd_10 rfl rfl (Nat.le_of_ble_eq_true rfl) (hb hby at_81) (backOf (W := 0) (met_dn l Z a0 hw [] n0 r el _ O Se) hZ (hw _ (List.mem_of_getElem? (i := 67) rfl)) (hw _ (List.mem_of_getElem? (i := 66) rfl)) (by decide) (by decide)) (by decide) (by decide) ?_
      intro v T h10 L hT hQ X
      obtain ⟨sp, se, re, cK1, cK2, rfl, N0, Ex0, A_s, F_s1, F_s2, F_s3, M1, G1, M2, G2⟩ := hQ
      have N := Fr.app N N0
      have KB := (Keep.refl h9 []).ext Ex0
      have O := O.keep KB all0
      have E_r := E_r.keep KB
      have F_r := F_r.keep KB nin0
      have A_z := A_z.keep KB
      have A_x := A_x.keep KB
      have Ls0 := Ls0.ext (keepE KB)
      show Go p e below _ (T.setTop (mkF m 84 #[.val (.int yv), .val (.int ya), .val (.int yb), .val (.int ys), .val (.ref r), .val (.ref x), .val (.ref z), .val (.int (ys &&& (3 : Int32))), .unset, .unset, .unset, .unset, .unset, .unset] [(.ref sp)]))
      refine Go.st (fun _ k => XS.astore X.here hx rfl (hb hby at_84) rfl rfl (l' := #[.val (.int yv), .val (.int ya), .val (.int yb), .val (.int ys), .val (.ref r), .val (.ref x), .val (.ref z), .val (.int (ys &&& (3 : Int32))), .val (.ref sp), .unset, .unset, .unset, .unset, .unset]) rfl k) ?_
      show Go p e below _ (T.setTop (mkF m 86 #[.val (.int yv), .val (.int ya), .val (.int yb), .val (.int ys), .val (.ref r), .val (.ref x), .val (.ref z), .val (.int (ys &&& (3 : Int32))), .val (.ref sp), .unset, .unset, .unset, .unset, .unset] []))
      refine Go.st (fun _ k => XS.aload X.here hx rfl (hb hby at_86) rfl rfl k) ?_
      show Go p e below _ (T.setTop (mkF m 88 #[.val (.int yv), .val (.int ya), .val (.int yb), .val (.int ys), .val (.ref r), .val (.ref x), .val (.ref z), .val (.int (ys &&& (3 : Int32))), .val (.ref sp), .unset, .unset, .unset, .unset, .unset] [(.ref sp)]))
      refine Go.virtV (K := "com/example/pocket_context/pocketcontext/internal/Walk$Step") (z := (⟨"com/example/pocket_context/pocketcontext/internal/Walk$Step", "parts", "()Ljava/util/List;"⟩ : MethodName)) (argsL := []) (rest := []) (W := 0) (w := (.ref el)) X hx hZ hown (hml.trans rfl) hT A_s (hw _ (List.mem_of_getElem? (i := 100) rfl)) (hw _ (List.mem_of_getElem? (i := 101) rfl)) (hw _ (List.mem_of_getElem? (i := 103) rfl)) (hw _ (List.mem_of_getElem? (i := 102) rfl)) (by decide) pd_7 rfl rfl (Nat.le_of_ble_eq_true rfl) (hb hby at_88) (notFace_of_selects (args := #[]) (mvT hZ (hw _ (List.mem_of_getElem? (i := 103) rfl)))) (backOf (W := 0) (met_g_parts l Z a0 hw [] sp el _ F_s1) hZ (hw _ (List.mem_of_getElem? (i := 104) rfl)) (hw _ (List.mem_of_getElem? (i := 66) rfl)) (by decide) (by decide)) (by decide) (by decide) ?_
      intro T hT X
      show Go p e below _ (T.setTop (mkF m 91 #[.val (.int yv), .val (.int ya), .val (.int yb), .val (.int ys), .val (.ref r), .val (.ref x), .val (.ref z), .val (.int (ys &&& (3 : Int32))), .val (.ref sp), .unset, .unset, .unset, .unset, .unset] [(.ref el)]))
      refine Go.st (fun _ k => XS.astore X.here hx rfl (hb hby at_91) rfl rfl (l' := #[.val (.int yv), .val (.int ya), .val (.int yb), .val (.int ys), .val (.ref r), .val (.ref x), .val (.ref z), .val (.int (ys &&& (3 : Int32))), .val (.ref sp), .val (.ref el), .unset, .unset, .unset, .unset]) rfl k) ?_
      show Go p e below _ (T.setTop (mkF m 93 #[.val (.int yv), .val (.int ya), .val (.int yb), .val (.int ys), .val (.ref r), .val (.ref x), .val (.ref z), .val (.int (ys &&& (3 : Int32))), .val (.ref sp), .val (.ref el), .unset, .unset, .unset, .unset] []))
      refine Go.st (fun _ k => XS.aload X.here hx rfl (hb hby at_93) rfl rfl k) ?_
      show Go p e below _ (T.setTop (mkF m 95 #[.val (.int yv), .val (.int ya), .val (.int yb), .val (.int ys), .val (.ref r), .val (.ref x), .val (.ref z), .val (.int (ys &&& (3 : Int32))), .val (.ref sp), .val (.ref el), .unset, .unset, .unset, .unset] [(.ref el)]))
      refine Go.faceV (K := "java/util/ImmutableCollections$ListN") (y := (⟨"java/util/List", "size", "()I"⟩ : MethodName)) (z := (⟨"java/util/ImmutableCollections$ListN", "size", "()I"⟩ : MethodName)) (argsL := []) (rest := []) (W := 0) (w := .int (0 : Int32)) X hx hZ hown (hml.trans rfl) hT (E_el.ext O.2) (hw _ (List.mem_of_getElem? (i := 105) rfl)) (hw _ (List.mem_of_getElem? (i := 106) rfl)) (hw _ (List.mem_of_getElem? (i := 107) rfl)) (hw _ (List.mem_of_getElem? (i := 108) rfl)) (hw _ (List.mem_of_getElem? (i := 109) rfl)) (hw _ (List.mem_of_getElem? (i := 110) rfl)) (hw _ (List.mem_of_getElem? (i := 111) rfl)) (hw _ (List.mem_of_getElem? (i := 112) rfl)) (by decide) pd_11 rfl rfl (Nat.le_of_ble_eq_true rfl) (hb hby at_95) (backOf (W := 0) (met_lsz l Z a0 hw [] el ea ke _ (F_el.ext O.2) (V_el.ext O.2)) hZ (hw _ (List.mem_of_getElem? (i := 114) rfl)) (hw _ (List.mem_of_getElem? (i := 113) rfl)) (by decide) (by decide)) (by decide) (by decide) ?_
      intro T hT X
      show Go p e below _ (T.setTop (mkF m 100 #[.val (.int yv), .val (.int ya), .val (.int yb), .val (.int ys), .val (.ref r), .val (.ref x), .val (.ref z), .val (.int (ys &&& (3 : Int32))), .val (.ref sp), .val (.ref el), .unset, .unset, .unset, .unset] [(.int (0 : Int32))]))
      refine Go.st (fun _ k => XS.ifNo X.here hx rfl (hb hby at_100) rfl (Jvm.Free.XT.i0_ne_f (by decide : (0 : Int32) = (0 : Int32))) k) ?_
      show Go p e below _ (T.setTop (mkF m 103 #[.val (.int yv), .val (.int ya), .val (.int yb), .val (.int ys), .val (.ref r), .val (.ref x), .val (.ref z), .val (.int (ys &&& (3 : Int32))), .val (.ref sp), .val (.ref el), .unset, .unset, .unset, .unset] []))
      refine Go.st (fun _ k => XS.iconst X.here hx rfl (hb hby at_103) k) ?_
      show Go p e below _ (T.setTop (mkF m 104 #[.val (.int yv), .val (.int ya), .val (.int yb), .val (.int ys), .val (.ref r), .val (.ref x), .val (.ref z), .val (.int (ys &&& (3 : Int32))), .val (.ref sp), .val (.ref el), .unset, .unset, .unset, .unset] [(.int (1 : Int32))]))
      refine Go.st (fun _ k => XS.goto X.here hx rfl (pc0 := 104) (pc' := 108) rfl (hb hby at_104) (by decide) (by decide) k) ?_
      show Go p e below _ (T.setTop (mkF m 108 #[.val (.int yv), .val (.int ya), .val (.int yb), .val (.int ys), .val (.ref r), .val (.ref x), .val (.ref z), .val (.int (ys &&& (3 : Int32))), .val (.ref sp), .val (.ref el), .unset, .unset, .unset, .unset] [(.int (1 : Int32))]))
      refine Go.st (fun _ k => XS.istore X.here hx rfl (hb hby at_108) rfl (l' := #[.val (.int yv), .val (.int ya), .val (.int yb), .val (.int ys), .val (.ref r), .val (.ref x), .val (.ref z), .val (.int (ys &&& (3 : Int32))), .val (.ref sp), .val (.ref el), .val (.int (1 : Int32)), .unset, .unset, .unset]) rfl k) ?_
      show Go p e below _ (T.setTop (mkF m 110 #[.val (.int yv), .val (.int ya), .val (.int yb), .val (.int ys), .val (.ref r), .val (.ref x), .val (.ref z), .val (.int (ys &&& (3 : Int32))), .val (.ref sp), .val (.ref el), .val (.int (1 : Int32)), .unset, .unset, .unset] []))
      refine Go.st (fun _ k => XS.aload X.here hx rfl (hb hby at_110) rfl rfl k) ?_
      show Go p e below _ (T.setTop (mkF m 112 #[.val (.int yv), .val (.int ya), .val (.int yb), .val (.int ys), .val (.ref r), .val (.ref x), .val (.ref z), .val (.int (ys &&& (3 : Int32))), .val (.ref sp), .val (.ref el), .val (.int (1 : Int32)), .unset, .unset, .unset] [(.ref sp)]))
      refine Go.virtV (K := "com/example/pocket_context/pocketcontext/internal/Walk$Step") (z := (⟨"com/example/pocket_context/pocketcontext/internal/Walk$Step", "settles", "()Ljava/util/function/Predicate;"⟩ : MethodName)) (argsL := []) (rest := []) (W := 0) (w := (.ref se)) X hx hZ hown (hml.trans rfl) hT A_s (hw _ (List.mem_of_getElem? (i := 117) rfl)) (hw _ (List.mem_of_getElem? (i := 118) rfl)) (hw _ (List.mem_of_getElem? (i := 120) rfl)) (hw _ (List.mem_of_getElem? (i := 119) rfl)) (by decide) pd_12 rfl rfl (Nat.le_of_ble_eq_true rfl) (hb hby at_112) (notFace_of_selects (args := #[]) (mvT hZ (hw _ (List.mem_of_getElem? (i := 120) rfl)))) (backOf (W := 0) (met_g_settles l Z a0 hw [] sp se _ F_s2) hZ (hw _ (List.mem_of_getElem? (i := 121) rfl)) (hw _ (List.mem_of_getElem? (i := 66) rfl)) (by decide) (by decide)) (by decide) (by decide) ?_
      intro T hT X
      show Go p e below _ (T.setTop (mkF m 115 #[.val (.int yv), .val (.int ya), .val (.int yb), .val (.int ys), .val (.ref r), .val (.ref x), .val (.ref z), .val (.int (ys &&& (3 : Int32))), .val (.ref sp), .val (.ref el), .val (.int (1 : Int32)), .unset, .unset, .unset] [(.ref se)]))
      refine Go.st (fun _ k => XS.iloadN X.here hx rfl (hb hby at_115) rfl k) ?_
      show Go p e below _ (T.setTop (mkF m 116 #[.val (.int yv), .val (.int ya), .val (.int yb), .val (.int ys), .val (.ref r), .val (.ref x), .val (.ref z), .val (.int (ys &&& (3 : Int32))), .val (.ref sp), .val (.ref el), .val (.int (1 : Int32)), .unset, .unset, .unset] [(.int ya), (.ref se)]))
      refine Go.callP (argsL := [(.int ya)]) (rest := [(.ref se)]) (W := 1) (ck := 1) (sk := 1) X hx hZ hown (hml.trans rfl) hT (hw _ (List.mem_of_getElem? (i := 0) rfl)) (hw _ (List.mem_of_getElem? (i := 1) rfl)) (hw _ (List.mem_of_getElem? (i := 2) rfl)) (hw _ (List.mem_of_getElem? (i := 3) rfl)) (by decide) pd_9 rfl rfl (Nat.le_of_ble_eq_true rfl) (hb hby at_116) (backOf (W := 1) (met_vi l Z a0 hw [] n0 ya _ O Cc) hZ (hw _ (List.mem_of_getElem? (i := 3) rfl)) (hw _ (List.mem_of_getElem? (i := 2) rfl)) (by decide) (by decide)) (by decide) (by decide) ?_
      intro v T h11 L hT hQ X
      obtain ⟨iq, rfl, N0, Ex0, E_iq, F_iq⟩ := hQ
      have N := Fr.app N N0
      have KB := (Keep.refl h10 []).ext Ex0
      have O := O.keep KB all0
      have E_r := E_r.keep KB
      have F_r := F_r.keep KB nin0
      have A_z := A_z.keep KB
      have A_x := A_x.keep KB
      have Ls0 := Ls0.ext (keepE KB)
      have A_s := A_s.keep KB
      have F_s1 := F_s1.keep KB nin0
      have F_s2 := F_s2.keep KB nin0
      have F_s3 := F_s3.keep KB nin0
      have G1 := own_fnE G1 (keepE KB)
      have G2 := G2.ext (keepE KB)
      show Go p e below _ (T.setTop (mkF m 119 #[.val (.int yv), .val (.int ya), .val (.int yb), .val (.int ys), .val (.ref r), .val (.ref x), .val (.ref z), .val (.int (ys &&& (3 : Int32))), .val (.ref sp), .val (.ref el), .val (.int (1 : Int32)), .unset, .unset, .unset] [(.ref iq), (.ref se)]))
      refine Go.test (rest := []) X hx hZH hw hown (hml.trans rfl) hT M1 G1 (hb hby at_119) (by decide) (Nat.le_of_ble_eq_true rfl) (by decide) (by decide) ?_
      intro T hT X
      show Go p e below _ (T.setTop (mkF m 124 #[.val (.int yv), .val (.int ya), .val (.int yb), .val (.int ys), .val (.ref r), .val (.ref x), .val (.ref z), .val (.int (ys &&& (3 : Int32))), .val (.ref sp), .val (.ref el), .val (.int (1 : Int32)), .unset, .unset, .unset] [(.int (0 : Int32))]))
      refine Go.st (fun _ k => XS.ifNo X.here hx rfl (hb hby at_124) rfl (Jvm.Free.XT.i0_ne_f (by decide : (0 : Int32) = (0 : Int32))) k) ?_
      show Go p e below _ (T.setTop (mkF m 127 #[.val (.int yv), .val (.int ya), .val (.int yb), .val (.int ys), .val (.ref r), .val (.ref x), .val (.ref z), .val (.int (ys &&& (3 : Int32))), .val (.ref sp), .val (.ref el), .val (.int (1 : Int32)), .unset, .unset, .unset] []))
      refine Go.st (fun _ k => XS.aload X.here hx rfl (hb hby at_127) rfl rfl k) ?_
      show Go p e below _ (T.setTop (mkF m 129 #[.val (.int yv), .val (.int ya), .val (.int yb), .val (.int ys), .val (.ref r), .val (.ref x), .val (.ref z), .val (.int (ys &&& (3 : Int32))), .val (.ref sp), .val (.ref el), .val (.int (1 : Int32)), .unset, .unset, .unset] [(.ref sp)]))
      refine Go.virtV (K := "com/example/pocket_context/pocketcontext/internal/Walk$Step") (z := (⟨"com/example/pocket_context/pocketcontext/internal/Walk$Step", "settles", "()Ljava/util/function/Predicate;"⟩ : MethodName)) (argsL := []) (rest := []) (W := 0) (w := (.ref se)) X hx hZ hown (hml.trans rfl) hT A_s (hw _ (List.mem_of_getElem? (i := 117) rfl)) (hw _ (List.mem_of_getElem? (i := 118) rfl)) (hw _ (List.mem_of_getElem? (i := 120) rfl)) (hw _ (List.mem_of_getElem? (i := 119) rfl)) (by decide) pd_12 rfl rfl (Nat.le_of_ble_eq_true rfl) (hb hby at_129) (notFace_of_selects (args := #[]) (mvT hZ (hw _ (List.mem_of_getElem? (i := 120) rfl)))) (backOf (W := 0) (met_g_settles l Z a0 hw [] sp se _ F_s2) hZ (hw _ (List.mem_of_getElem? (i := 121) rfl)) (hw _ (List.mem_of_getElem? (i := 66) rfl)) (by decide) (by decide)) (by decide) (by decide) ?_
      intro T hT X
      show Go p e below _ (T.setTop (mkF m 132 #[.val (.int yv), .val (.int ya), .val (.int yb), .val (.int ys), .val (.ref r), .val (.ref x), .val (.ref z), .val (.int (ys &&& (3 : Int32))), .val (.ref sp), .val (.ref el), .val (.int (1 : Int32)), .unset, .unset, .unset] [(.ref se)]))
      refine Go.st (fun _ k => XS.aload X.here hx rfl (hb hby at_132) rfl rfl k) ?_
      show Go p e below _ (T.setTop (mkF m 134 #[.val (.int yv), .val (.int ya), .val (.int yb), .val (.int ys), .val (.ref r), .val (.ref x), .val (.ref z), .val (.int (ys &&& (3 : Int32))), .val (.ref sp), .val (.ref el), .val (.int (1 : Int32)), .unset, .unset, .unset] [(.ref r), (.ref se)]))
      refine Go.test (rest := []) X hx hZH hw hown (hml.trans rfl) hT M1 G1 (hb hby at_134) (by decide) (Nat.le_of_ble_eq_true rfl) (by decide) (by decide) ?_
      intro T hT X
      show Go p e below _ (T.setTop (mkF m 139 #[.val (.int yv), .val (.int ya), .val (.int yb), .val (.int ys), .val (.ref r), .val (.ref x), .val (.ref z), .val (.int (ys &&& (3 : Int32))), .val (.ref sp), .val (.ref el), .val (.int (1 : Int32)), .unset, .unset, .unset] [(.int (0 : Int32))]))
      refine Go.st (fun _ k => XS.ifNo X.here hx rfl (hb hby at_139) rfl (Jvm.Free.XT.i0_ne_f (by decide : (0 : Int32) = (0 : Int32))) k) ?_
      show Go p e below _ (T.setTop (mkF m 142 #[.val (.int yv), .val (.int ya), .val (.int yb), .val (.int ys), .val (.ref r), .val (.ref x), .val (.ref z), .val (.int (ys &&& (3 : Int32))), .val (.ref sp), .val (.ref el), .val (.int (1 : Int32)), .unset, .unset, .unset] []))
      refine Go.st (fun _ k => XS.iconst X.here hx rfl (hb hby at_142) k) ?_
      show Go p e below _ (T.setTop (mkF m 143 #[.val (.int yv), .val (.int ya), .val (.int yb), .val (.int ys), .val (.ref r), .val (.ref x), .val (.ref z), .val (.int (ys &&& (3 : Int32))), .val (.ref sp), .val (.ref el), .val (.int (1 : Int32)), .unset, .unset, .unset] [(.int (1 : Int32))]))
      refine Go.st (fun _ k => XS.goto X.here hx rfl (pc0 := 143) (pc' := 147) rfl (hb hby at_143) (by decide) (by decide) k) ?_
      show Go p e below _ (T.setTop (mkF m 147 #[.val (.int yv), .val (.int ya), .val (.int yb), .val (.int ys), .val (.ref r), .val (.ref x), .val (.ref z), .val (.int (ys &&& (3 : Int32))), .val (.ref sp), .val (.ref el), .val (.int (1 : Int32)), .unset, .unset, .unset] [(.int (1 : Int32))]))
      refine Go.st (fun _ k => XS.istore X.here hx rfl (hb hby at_147) rfl (l' := #[.val (.int yv), .val (.int ya), .val (.int yb), .val (.int ys), .val (.ref r), .val (.ref x), .val (.ref z), .val (.int (ys &&& (3 : Int32))), .val (.ref sp), .val (.ref el), .val (.int (1 : Int32)), .val (.int (1 : Int32)), .unset, .unset]) rfl k) ?_
      show Go p e below _ (T.setTop (mkF m 149 #[.val (.int yv), .val (.int ya), .val (.int yb), .val (.int ys), .val (.ref r), .val (.ref x), .val (.ref z), .val (.int (ys &&& (3 : Int32))), .val (.ref sp), .val (.ref el), .val (.int (1 : Int32)), .val (.int (1 : Int32)), .unset, .unset] []))
      refine Go.st (fun _ k => XS.aload X.here hx rfl (hb hby at_149) rfl rfl k) ?_
      show Go p e below _ (T.setTop (mkF m 151 #[.val (.int yv), .val (.int ya), .val (.int yb), .val (.int ys), .val (.ref r), .val (.ref x), .val (.ref z), .val (.int (ys &&& (3 : Int32))), .val (.ref sp), .val (.ref el), .val (.int (1 : Int32)), .val (.int (1 : Int32)), .unset, .unset] [(.ref sp)]))
      refine Go.virtV (K := "com/example/pocket_context/pocketcontext/internal/Walk$Step") (z := (⟨"com/example/pocket_context/pocketcontext/internal/Walk$Step", "result", "()Ljava/util/function/Function;"⟩ : MethodName)) (argsL := []) (rest := []) (W := 0) (w := (.ref re)) X hx hZ hown (hml.trans rfl) hT A_s (hw _ (List.mem_of_getElem? (i := 127) rfl)) (hw _ (List.mem_of_getElem? (i := 128) rfl)) (hw _ (List.mem_of_getElem? (i := 130) rfl)) (hw _ (List.mem_of_getElem? (i := 129) rfl)) (by decide) pd_13 rfl rfl (Nat.le_of_ble_eq_true rfl) (hb hby at_151) (notFace_of_selects (args := #[]) (mvT hZ (hw _ (List.mem_of_getElem? (i := 130) rfl)))) (backOf (W := 0) (met_g_result l Z a0 hw [] sp re _ F_s3) hZ (hw _ (List.mem_of_getElem? (i := 131) rfl)) (hw _ (List.mem_of_getElem? (i := 66) rfl)) (by decide) (by decide)) (by decide) (by decide) ?_
      intro T hT X
      show Go p e below _ (T.setTop (mkF m 154 #[.val (.int yv), .val (.int ya), .val (.int yb), .val (.int ys), .val (.ref r), .val (.ref x), .val (.ref z), .val (.int (ys &&& (3 : Int32))), .val (.ref sp), .val (.ref el), .val (.int (1 : Int32)), .val (.int (1 : Int32)), .unset, .unset] [(.ref re)]))
      refine Go.st (fun _ k => XS.aload X.here hx rfl (hb hby at_154) rfl rfl k) ?_
      show Go p e below _ (T.setTop (mkF m 156 #[.val (.int yv), .val (.int ya), .val (.int yb), .val (.int ys), .val (.ref r), .val (.ref x), .val (.ref z), .val (.int (ys &&& (3 : Int32))), .val (.ref sp), .val (.ref el), .val (.int (1 : Int32)), .val (.int (1 : Int32)), .unset, .unset] [(.ref x), (.ref re)]))
      refine Go.apply (rest := []) X hx hZH hw hown (hml.trans rfl) hT M2 G2 A_x (hb hby at_156) (by decide) (Nat.le_of_ble_eq_true rfl) (by decide) (by decide) ?_
      intro T hT X
      show Go p e below _ (T.setTop (mkF m 161 #[.val (.int yv), .val (.int ya), .val (.int yb), .val (.int ys), .val (.ref r), .val (.ref x), .val (.ref z), .val (.int (ys &&& (3 : Int32))), .val (.ref sp), .val (.ref el), .val (.int (1 : Int32)), .val (.int (1 : Int32)), .unset, .unset] [(.ref r)]))
      obtain ⟨T, X, hT, st⟩ := castY X hx hZ hown (hw _ (List.mem_of_getElem? (i := 138) rfl)) hT (Ins.self E_r) (g := (mkF m 161 #[.val (.int yv), .val (.int ya), .val (.int yb), .val (.int ys), .val (.ref r), .val (.ref x), .val (.ref z), .val (.int (ys &&& (3 : Int32))), .val (.ref sp), .val (.ref el), .val (.int (1 : Int32)), .val (.int (1 : Int32)), .unset, .unset] [(.ref r)])) rfl rfl (hb hby at_161)
      refine Go.st st ?_
      show Go p e below _ (T.setTop (mkF m 164 #[.val (.int yv), .val (.int ya), .val (.int yb), .val (.int ys), .val (.ref r), .val (.ref x), .val (.ref z), .val (.int (ys &&& (3 : Int32))), .val (.ref sp), .val (.ref el), .val (.int (1 : Int32)), .val (.int (1 : Int32)), .unset, .unset] [(.ref r)]))
      refine Go.st (fun _ k => XS.astore X.here hx rfl (hb hby at_164) rfl rfl (l' := #[.val (.int yv), .val (.int ya), .val (.int yb), .val (.int ys), .val (.ref r), .val (.ref x), .val (.ref z), .val (.int (ys &&& (3 : Int32))), .val (.ref sp), .val (.ref el), .val (.int (1 : Int32)), .val (.int (1 : Int32)), .val (.ref r), .unset]) rfl k) ?_
      show Go p e below _ (T.setTop (mkF m 166 #[.val (.int yv), .val (.int ya), .val (.int yb), .val (.int ys), .val (.ref r), .val (.ref x), .val (.ref z), .val (.int (ys &&& (3 : Int32))), .val (.ref sp), .val (.ref el), .val (.int (1 : Int32)), .val (.int (1 : Int32)), .val (.ref r), .unset] []))
      refine Go.st (fun _ k => XS.aload X.here hx rfl (hb hby at_166) rfl rfl k) ?_
      show Go p e below _ (T.setTop (mkF m 168 #[.val (.int yv), .val (.int ya), .val (.int yb), .val (.int ys), .val (.ref r), .val (.ref x), .val (.ref z), .val (.int (ys &&& (3 : Int32))), .val (.ref sp), .val (.ref el), .val (.int (1 : Int32)), .val (.int (1 : Int32)), .val (.ref r), .unset] [(.ref sp)]))
      refine Go.virtV (K := "com/example/pocket_context/pocketcontext/internal/Walk$Step") (z := (⟨"com/example/pocket_context/pocketcontext/internal/Walk$Step", "result", "()Ljava/util/function/Function;"⟩ : MethodName)) (argsL := []) (rest := []) (W := 0) (w := (.ref re)) X hx hZ hown (hml.trans rfl) hT A_s (hw _ (List.mem_of_getElem? (i := 127) rfl)) (hw _ (List.mem_of_getElem? (i := 128) rfl)) (hw _ (List.mem_of_getElem? (i := 130) rfl)) (hw _ (List.mem_of_getElem? (i := 129) rfl)) (by decide) pd_13 rfl rfl (Nat.le_of_ble_eq_true rfl) (hb hby at_168) (notFace_of_selects (args := #[]) (mvT hZ (hw _ (List.mem_of_getElem? (i := 130) rfl)))) (backOf (W := 0) (met_g_result l Z a0 hw [] sp re _ F_s3) hZ (hw _ (List.mem_of_getElem? (i := 131) rfl)) (hw _ (List.mem_of_getElem? (i := 66) rfl)) (by decide) (by decide)) (by decide) (by decide) ?_
      intro T hT X
      show Go p e below _ (T.setTop (mkF m 171 #[.val (.int yv), .val (.int ya), .val (.int yb), .val (.int ys), .val (.ref r), .val (.ref x), .val (.ref z), .val (.int (ys &&& (3 : Int32))), .val (.ref sp), .val (.ref el), .val (.int (1 : Int32)), .val (.int (1 : Int32)), .val (.ref r), .unset] [(.ref re)]))
      refine Go.st (fun _ k => XS.aload X.here hx rfl (hb hby at_171) rfl rfl k) ?_
      show Go p e below _ (T.setTop (mkF m 173 #[.val (.int yv), .val (.int ya), .val (.int yb), .val (.int ys), .val (.ref r), .val (.ref x), .val (.ref z), .val (.int (ys &&& (3 : Int32))), .val (.ref sp), .val (.ref el), .val (.int (1 : Int32)), .val (.int (1 : Int32)), .val (.ref r), .unset] [(.ref z), (.ref re)]))
      refine Go.apply (rest := []) X hx hZH hw hown (hml.trans rfl) hT M2 G2 A_z (hb hby at_173) (by decide) (Nat.le_of_ble_eq_true rfl) (by decide) (by decide) ?_
      intro T hT X
      show Go p e below _ (T.setTop (mkF m 178 #[.val (.int yv), .val (.int ya), .val (.int yb), .val (.int ys), .val (.ref r), .val (.ref x), .val (.ref z), .val (.int (ys &&& (3 : Int32))), .val (.ref sp), .val (.ref el), .val (.int (1 : Int32)), .val (.int (1 : Int32)), .val (.ref r), .unset] [(.ref r)]))
      obtain ⟨T, X, hT, st⟩ := castY X hx hZ hown (hw _ (List.mem_of_getElem? (i := 138) rfl)) hT (Ins.self E_r) (g := (mkF m 178 #[.val (.int yv), .val (.int ya), .val (.int yb), .val (.int ys), .val (.ref r), .val (.ref x), .val (.ref z), .val (.int (ys &&& (3 : Int32))), .val (.ref sp), .val (.ref el), .val (.int (1 : Int32)), .val (.int (1 : Int32)), .val (.ref r), .unset] [(.ref r)])) rfl rfl (hb hby at_178)
      refine Go.st st ?_
      show Go p e below _ (T.setTop (mkF m 181 #[.val (.int yv), .val (.int ya), .val (.int yb), .val (.int ys), .val (.ref r), .val (.ref x), .val (.ref z), .val (.int (ys &&& (3 : Int32))), .val (.ref sp), .val (.ref el), .val (.int (1 : Int32)), .val (.int (1 : Int32)), .val (.ref r), .unset] [(.ref r)]))
      refine Go.st (fun _ k => XS.astore X.here hx rfl (hb hby at_181) rfl rfl (l' := #[.val (.int yv), .val (.int ya), .val (.int yb), .val (.int ys), .val (.ref r), .val (.ref x), .val (.ref z), .val (.int (ys &&& (3 : Int32))), .val (.ref sp), .val (.ref el), .val (.int (1 : Int32)), .val (.int (1 : Int32)), .val (.ref r), .val (.ref r)]) rfl k) ?_
      show Go p e below _ (T.setTop (mkF m 183 #[.val (.int yv), .val (.int ya), .val (.int yb), .val (.int ys), .val (.ref r), .val (.ref x), .val (.ref z), .val (.int (ys &&& (3 : Int32))), .val (.ref sp), .val (.ref el), .val (.int (1 : Int32)), .val (.int (1 : Int32)), .val (.ref r), .val (.ref r)] []))
      refine Go.st (fun _ k => XS.iload X.here hx rfl (hb hby at_183) rfl k) ?_
      show Go p e below _ (T.setTop (mkF m 185 #[.val (.int yv), .val (.int ya), .val (.int yb), .val (.int ys), .val (.ref r), .val (.ref x), .val (.ref z), .val (.int (ys &&& (3 : Int32))), .val (.ref sp), .val (.ref el), .val (.int (1 : Int32)), .val (.int (1 : Int32)), .val (.ref r), .val (.ref r)] [(.int (1 : Int32))]))
      refine Go.st (fun _ k => XS.ifNo X.here hx rfl (hb hby at_185) rfl (Jvm.Free.XT.i0_eq_f (by decide : ¬ ((1 : Int32) = (0 : Int32)))) k) ?_
      show Go p e below _ (T.setTop (mkF m 188 #[.val (.int yv), .val (.int ya), .val (.int yb), .val (.int ys), .val (.ref r), .val (.ref x), .val (.ref z), .val (.int (ys &&& (3 : Int32))), .val (.ref sp), .val (.ref el), .val (.int (1 : Int32)), .val (.int (1 : Int32)), .val (.ref r), .val (.ref r)] []))
      refine Go.st (fun _ k => XS.iload X.here hx rfl (hb hby at_188) rfl k) ?_
      show Go p e below _ (T.setTop (mkF m 190 #[.val (.int yv), .val (.int ya), .val (.int yb), .val (.int ys), .val (.ref r), .val (.ref x), .val (.ref z), .val (.int (ys &&& (3 : Int32))), .val (.ref sp), .val (.ref el), .val (.int (1 : Int32)), .val (.int (1 : Int32)), .val (.ref r), .val (.ref r)] [(.int (1 : Int32))]))
      refine Go.st (fun _ k => XS.ifNo X.here hx rfl (hb hby at_190) rfl (Jvm.Free.XT.i0_eq_f (by decide : ¬ ((1 : Int32) = (0 : Int32)))) k) ?_
      show Go p e below _ (T.setTop (mkF m 193 #[.val (.int yv), .val (.int ya), .val (.int yb), .val (.int ys), .val (.ref r), .val (.ref x), .val (.ref z), .val (.int (ys &&& (3 : Int32))), .val (.ref sp), .val (.ref el), .val (.int (1 : Int32)), .val (.int (1 : Int32)), .val (.ref r), .val (.ref r)] []))
      refine Go.st (fun _ k => XS.aload X.here hx rfl (hb hby at_193) rfl rfl k) ?_
      show Go p e below _ (T.setTop (mkF m 195 #[.val (.int yv), .val (.int ya), .val (.int yb), .val (.int ys), .val (.ref r), .val (.ref x), .val (.ref z), .val (.int (ys &&& (3 : Int32))), .val (.ref sp), .val (.ref el), .val (.int (1 : Int32)), .val (.int (1 : Int32)), .val (.ref r), .val (.ref r)] [(.ref r)]))
      refine Go.st (fun _ k => XS.aload X.here hx rfl (hb hby at_195) rfl rfl k) ?_
      show Go p e below _ (T.setTop (mkF m 197 #[.val (.int yv), .val (.int ya), .val (.int yb), .val (.int ys), .val (.ref r), .val (.ref x), .val (.ref z), .val (.int (ys &&& (3 : Int32))), .val (.ref sp), .val (.ref el), .val (.int (1 : Int32)), .val (.int (1 : Int32)), .val (.ref r), .val (.ref r)] [(.ref r), (.ref r)]))
      refine Go.st (fun _ k => acmp X hx rfl (cd := .ne) rfl rfl (pc0 := 197) (pc' := 200) (same := true) rfl (hb hby at_197) rfl (decide_eq_true rfl) (by decide) (by decide) k) ?_
      show Go p e below _ (T.setTop (mkF m 200 #[.val (.int yv), .val (.int ya), .val (.int yb), .val (.int ys), .val (.ref r), .val (.ref x), .val (.ref z), .val (.int (ys &&& (3 : Int32))), .val (.ref sp), .val (.ref el), .val (.int (1 : Int32)), .val (.int (1 : Int32)), .val (.ref r), .val (.ref r)] []))
      refine Go.st (fun _ k => XS.aload X.here hx rfl (hb hby at_200) rfl rfl k) ?_
      show Go p e below _ (T.setTop (mkF m 202 #[.val (.int yv), .val (.int ya), .val (.int yb), .val (.int ys), .val (.ref r), .val (.ref x), .val (.ref z), .val (.int (ys &&& (3 : Int32))), .val (.ref sp), .val (.ref el), .val (.int (1 : Int32)), .val (.int (1 : Int32)), .val (.ref r), .val (.ref r)] [(.ref r)]))
      refine Go.st (fun _ k => XS.aload X.here hx rfl (hb hby at_202) rfl rfl k) ?_
      show Go p e below _ (T.setTop (mkF m 204 #[.val (.int yv), .val (.int ya), .val (.int yb), .val (.int ys), .val (.ref r), .val (.ref x), .val (.ref z), .val (.int (ys &&& (3 : Int32))), .val (.ref sp), .val (.ref el), .val (.int (1 : Int32)), .val (.int (1 : Int32)), .val (.ref r), .val (.ref r)] [(.ref r), (.ref r)]))
      refine Go.st (fun _ k => acmp X hx rfl (cd := .ne) rfl rfl (pc0 := 204) (pc' := 207) (same := true) rfl (hb hby at_204) rfl (decide_eq_true rfl) (by decide) (by decide) k) ?_
      show Go p e below _ (T.setTop (mkF m 207 #[.val (.int yv), .val (.int ya), .val (.int yb), .val (.int ys), .val (.ref r), .val (.ref x), .val (.ref z), .val (.int (ys &&& (3 : Int32))), .val (.ref sp), .val (.ref el), .val (.int (1 : Int32)), .val (.int (1 : Int32)), .val (.ref r), .val (.ref r)] []))
      refine Go.st (fun _ k => XS.aload X.here hx rfl (hb hby at_207) rfl rfl k) ?_
      show Go p e below _ (T.setTop (mkF m 209 #[.val (.int yv), .val (.int ya), .val (.int yb), .val (.int ys), .val (.ref r), .val (.ref x), .val (.ref z), .val (.int (ys &&& (3 : Int32))), .val (.ref sp), .val (.ref el), .val (.int (1 : Int32)), .val (.int (1 : Int32)), .val (.ref r), .val (.ref r)] [(.ref r)]))
      refine Go.virtV (K := "java/lang/Integer") (z := (⟨"java/lang/Integer", "intValue", "()I"⟩ : MethodName)) (argsL := []) (rest := []) (W := 0) (w := (.int yv)) X hx hZ hown (hml.trans rfl) hT E_r (hw _ (List.mem_of_getElem? (i := 140) rfl)) (hw _ (List.mem_of_getElem? (i := 141) rfl)) (hw _ (List.mem_of_getElem? (i := 143) rfl)) (hw _ (List.mem_of_getElem? (i := 142) rfl)) (by decide) pd_11 rfl rfl (Nat.le_of_ble_eq_true rfl) (hb hby at_209) (notFace_of_selects (args := #[]) (mvT hZ (hw _ (List.mem_of_getElem? (i := 143) rfl)))) (backOf (W := 0) (met_iv l Z a0 hw [] r yv _ F_r) hZ (hw _ (List.mem_of_getElem? (i := 144) rfl)) (hw _ (List.mem_of_getElem? (i := 2) rfl)) (by decide) (by decide)) (by decide) (by decide) ?_
      intro T hT X
      show Go p e below _ (T.setTop (mkF m 212 #[.val (.int yv), .val (.int ya), .val (.int yb), .val (.int ys), .val (.ref r), .val (.ref x), .val (.ref z), .val (.int (ys &&& (3 : Int32))), .val (.ref sp), .val (.ref el), .val (.int (1 : Int32)), .val (.int (1 : Int32)), .val (.ref r), .val (.ref r)] [(.int yv)]))
      refine Go.st (fun _ k => XS.iloadN X.here hx rfl (hb hby at_212) rfl k) ?_
      show Go p e below _ (T.setTop (mkF m 213 #[.val (.int yv), .val (.int ya), .val (.int yb), .val (.int ys), .val (.ref r), .val (.ref x), .val (.ref z), .val (.int (ys &&& (3 : Int32))), .val (.ref sp), .val (.ref el), .val (.int (1 : Int32)), .val (.int (1 : Int32)), .val (.ref r), .val (.ref r)] [(.int yv), (.int yv)]))
      refine Go.st (fun _ k => XS.icmpNo X.here hx rfl (hb hby at_213) rfl (Jvm.Free.XT.ii_ne_f (rfl : yv = yv)) k) ?_
      show Go p e below _ (T.setTop (mkF m 216 #[.val (.int yv), .val (.int ya), .val (.int yb), .val (.int ys), .val (.ref r), .val (.ref x), .val (.ref z), .val (.int (ys &&& (3 : Int32))), .val (.ref sp), .val (.ref el), .val (.int (1 : Int32)), .val (.int (1 : Int32)), .val (.ref r), .val (.ref r)] []))
      refine Go.st (fun _ k => XS.iconst X.here hx rfl (hb hby at_216) k) ?_
      show Go p e below _ (T.setTop (mkF m 217 #[.val (.int yv), .val (.int ya), .val (.int yb), .val (.int ys), .val (.ref r), .val (.ref x), .val (.ref z), .val (.int (ys &&& (3 : Int32))), .val (.ref sp), .val (.ref el), .val (.int (1 : Int32)), .val (.int (1 : Int32)), .val (.ref r), .val (.ref r)] [(.int (1 : Int32))]))
      refine Go.st (fun _ k => XS.goto X.here hx rfl (pc0 := 217) (pc' := 221) rfl (hb hby at_217) (by decide) (by decide) k) ?_
      show Go p e below _ (T.setTop (mkF m 221 #[.val (.int yv), .val (.int ya), .val (.int yb), .val (.int ys), .val (.ref r), .val (.ref x), .val (.ref z), .val (.int (ys &&& (3 : Int32))), .val (.ref sp), .val (.ref el), .val (.int (1 : Int32)), .val (.int (1 : Int32)), .val (.ref r), .val (.ref r)] [(.int (1 : Int32))]))
      refine Go.ret X hx hlk hT hret (by decide) (riI (by simp)) (hb hby at_221) (by decide) (by decide) ?_
      exact ⟨rfl, N⟩
    · refine Go.st (fun _ k => XS.icmpNo X.here hx rfl (hb hby at_48) rfl (Jvm.Free.XT.ii_lt_f hc2) k) ?_
      show Go p e below _ (T.setTop (mkF m 51 #[.val (.int yv), .val (.int ya), .val (.int yb), .val (.int ys), .val (.ref r), .val (.ref x), .val (.ref z), .val (.int (ys &&& (3 : Int32))), .unset, .unset, .unset, .unset, .unset, .unset] []))
      refine Go.st (fun _ k => XS.aload X.here hx rfl (hb hby at_51) rfl rfl k) ?_
      show Go p e below _ (T.setTop (mkF m 53 #[.val (.int yv), .val (.int ya), .val (.int yb), .val (.int ys), .val (.ref r), .val (.ref x), .val (.ref z), .val (.int (ys &&& (3 : Int32))), .unset, .unset, .unset, .unset, .unset, .unset] [(.ref x)]))
      refine Go.st (fun _ k => XS.iloadN X.here hx rfl (hb hby at_53) rfl k) ?_
      show Go p e below _ (T.setTop (mkF m 54 #[.val (.int yv), .val (.int ya), .val (.int yb), .val (.int ys), .val (.ref r), .val (.ref x), .val (.ref z), .val (.int (ys &&& (3 : Int32))), .unset, .unset, .unset, .unset, .unset, .unset] [(.int yb), (.ref x)]))
      refine Go.callP (argsL := [(.int yb)]) (rest := [(.ref x)]) (W := 1) (ck := 1) (sk := 1) X hx hZ hown (hml.trans rfl) hT (hw _ (List.mem_of_getElem? (i := 0) rfl)) (hw _ (List.mem_of_getElem? (i := 1) rfl)) (hw _ (List.mem_of_getElem? (i := 2) rfl)) (hw _ (List.mem_of_getElem? (i := 3) rfl)) (by decide) pd_9 rfl rfl (Nat.le_of_ble_eq_true rfl) (hb hby at_54) (backOf (W := 1) (met_vi l Z a0 hw [] n0 yb _ O Cc) hZ (hw _ (List.mem_of_getElem? (i := 3) rfl)) (hw _ (List.mem_of_getElem? (i := 2) rfl)) (by decide) (by decide)) (by decide) (by decide) ?_
      intro v T h12 L hT hQ X
      obtain ⟨ib, rfl, N0, Ex0, E_ib, F_ib⟩ := hQ
      have N := Fr.app N N0
      have KB := (Keep.refl h9 []).ext Ex0
      have O := O.keep KB all0
      have E_r := E_r.keep KB
      have F_r := F_r.keep KB nin0
      have A_z := A_z.keep KB
      have A_x := A_x.keep KB
      have Ls0 := Ls0.ext (keepE KB)
      show Go p e below _ (T.setTop (mkF m 57 #[.val (.int yv), .val (.int ya), .val (.int yb), .val (.int ys), .val (.ref r), .val (.ref x), .val (.ref z), .val (.int (ys &&& (3 : Int32))), .unset, .unset, .unset, .unset, .unset, .unset] [(.ref ib), (.ref x)]))
      refine Go.virtP (K := "java/util/ArrayList") (z := (⟨"java/util/ArrayList", "add", "(Ljava/lang/Object;)Z"⟩ : MethodName)) (argsL := [(.ref ib)]) (rest := []) (W := 0) (ck := 0) (sk := 0) X hx hZ hown (hml.trans rfl) hT A_x (hw _ (List.mem_of_getElem? (i := 33) rfl)) (hw _ (List.mem_of_getElem? (i := 34) rfl)) (hw _ (List.mem_of_getElem? (i := 36) rfl)) (hw _ (List.mem_of_getElem? (i := 35) rfl)) (by decide) pd_14 rfl rfl (Nat.le_of_ble_eq_true rfl) (hb hby at_57) (notFace_of_selects (args := #[]) (mvT hZ (hw _ (List.mem_of_getElem? (i := 36) rfl)))) (backOf (W := 0) (met_add1 l Z a0 hw [] n0 x ib rx kr _ _ ge_x ge_rx Ls0 E_ib) hZ (hw _ (List.mem_of_getElem? (i := 37) rfl)) (hw _ (List.mem_of_getElem? (i := 9) rfl)) (by decide) (by decide)) (by decide) (by decide) ?_
      intro v T h13 L hT hQ X
      obtain ⟨rfl, N0, K0, Ls0⟩ := hQ
      have N := Fr.app N N0
      have O := O.keep K0 (allS ge_x (allS ge_rx all0))
      have E_r := E_r.keep K0
      have F_r := F_r.keep K0 (ninS ne_r_x (ninS ne_r_rx nin0))
      have A_z := A_z.keep K0
      have A_x := Ls0.2.2.1
      show Go p e below _ (T.setTop (mkF m 60 #[.val (.int yv), .val (.int ya), .val (.int yb), .val (.int ys), .val (.ref r), .val (.ref x), .val (.ref z), .val (.int (ys &&& (3 : Int32))), .unset, .unset, .unset, .unset, .unset, .unset] [(.int (1 : Int32))]))
      refine Go.st (fun _ k => XS.pop X.here hx rfl (hb hby at_60) rfl rfl k) ?_
      show Go p e below _ (T.setTop (mkF m 61 #[.val (.int yv), .val (.int ya), .val (.int yb), .val (.int ys), .val (.ref r), .val (.ref x), .val (.ref z), .val (.int (ys &&& (3 : Int32))), .unset, .unset, .unset, .unset, .unset, .unset] []))
      refine Go.st (fun _ k => XS.iload X.here hx rfl (hb hby at_61) rfl k) ?_
      show Go p e below _ (T.setTop (mkF m 63 #[.val (.int yv), .val (.int ya), .val (.int yb), .val (.int ys), .val (.ref r), .val (.ref x), .val (.ref z), .val (.int (ys &&& (3 : Int32))), .unset, .unset, .unset, .unset, .unset, .unset] [(.int (ys &&& (3 : Int32)))]))
      refine Go.st (fun _ k => XS.iconst X.here hx rfl (hb hby at_63) k) ?_
      show Go p e below _ (T.setTop (mkF m 64 #[.val (.int yv), .val (.int ya), .val (.int yb), .val (.int ys), .val (.ref r), .val (.ref x), .val (.ref z), .val (.int (ys &&& (3 : Int32))), .unset, .unset, .unset, .unset, .unset, .unset] [(.int (3 : Int32)), (.int (ys &&& (3 : Int32)))]))
      by_cases hc3 : (ys &&& (3 : Int32)) < (3 : Int32)
      · refine Go.st (fun _ k => XS.icmpYes X.here hx rfl (pc0 := 64) (pc' := 79) rfl (hb hby at_64) rfl (Jvm.Free.XT.ii_lt_t hc3) (by decide) (by decide) k) ?_
        show Go p e below _ (T.setTop (mkF m 79 #[.val (.int yv), .val (.int ya), .val (.int yb), .val (.int ys), .val (.ref r), .val (.ref x), .val (.ref z), .val (.int (ys &&& (3 : Int32))), .unset, .unset, .unset, .unset, .unset, .unset] []))
        refine Go.st (fun _ k => XS.aload X.here hx rfl (hb hby at_79) rfl rfl k) ?_
        show Go p e below _ (T.setTop (mkF m 81 #[.val (.int yv), .val (.int ya), .val (.int yb), .val (.int ys), .val (.ref r), .val (.ref x), .val (.ref z), .val (.int (ys &&& (3 : Int32))), .unset, .unset, .unset, .unset, .unset, .unset] [(.ref r)]))
        refine Go.callP (argsL := [(.ref r)]) (rest := []) (W := 0) (ck := 2) (sk := 4) X hx hZ hown (hml.trans rfl) hT (hw _ (List.mem_of_getElem? (i := 64) rfl)) (hw _ (List.mem_of_getElem? (i := 65) rfl)) (hw _ (List.mem_of_getElem? (i := 66) rfl)) (hw _ (List.mem_of_getElem? (i := 67) rfl)) (by decide) pd_10 rfl rfl (Nat.le_of_ble_eq_true rfl) (hb hby at_81) (backOf (W := 0) (met_dn l Z a0 hw [] n0 r el _ O Se) hZ (hw _ (List.mem_of_getElem? (i := 67) rfl)) (hw _ (List.mem_of_getElem? (i := 66) rfl)) (by decide) (by decide)) (by decide) (by decide) ?_
        intro v T h14 L hT hQ X
        obtain ⟨sp, se, re, cK1, cK2, rfl, N0, Ex0, A_s, F_s1, F_s2, F_s3, M1, G1, M2, G2⟩ := hQ
        have N := Fr.app N N0
        have KB := (Keep.refl h13 []).ext Ex0
        have O := O.keep KB all0
        have E_r := E_r.keep KB
        have F_r := F_r.keep KB nin0
        have A_z := A_z.keep KB
        have A_x := A_x.keep KB
        have Ls0 := Ls0.ext (keepE KB)
        show Go p e below _ (T.setTop (mkF m 84 #[.val (.int yv), .val (.int ya), .val (.int yb), .val (.int ys), .val (.ref r), .val (.ref x), .val (.ref z), .val (.int (ys &&& (3 : Int32))), .unset, .unset, .unset, .unset, .unset, .unset] [(.ref sp)]))
        refine Go.st (fun _ k => XS.astore X.here hx rfl (hb hby at_84) rfl rfl (l' := #[.val (.int yv), .val (.int ya), .val (.int yb), .val (.int ys), .val (.ref r), .val (.ref x), .val (.ref z), .val (.int (ys &&& (3 : Int32))), .val (.ref sp), .unset, .unset, .unset, .unset, .unset]) rfl k) ?_
        show Go p e below _ (T.setTop (mkF m 86 #[.val (.int yv), .val (.int ya), .val (.int yb), .val (.int ys), .val (.ref r), .val (.ref x), .val (.ref z), .val (.int (ys &&& (3 : Int32))), .val (.ref sp), .unset, .unset, .unset, .unset, .unset] []))
        refine Go.st (fun _ k => XS.aload X.here hx rfl (hb hby at_86) rfl rfl k) ?_
        show Go p e below _ (T.setTop (mkF m 88 #[.val (.int yv), .val (.int ya), .val (.int yb), .val (.int ys), .val (.ref r), .val (.ref x), .val (.ref z), .val (.int (ys &&& (3 : Int32))), .val (.ref sp), .unset, .unset, .unset, .unset, .unset] [(.ref sp)]))
        refine Go.virtV (K := "com/example/pocket_context/pocketcontext/internal/Walk$Step") (z := (⟨"com/example/pocket_context/pocketcontext/internal/Walk$Step", "parts", "()Ljava/util/List;"⟩ : MethodName)) (argsL := []) (rest := []) (W := 0) (w := (.ref el)) X hx hZ hown (hml.trans rfl) hT A_s (hw _ (List.mem_of_getElem? (i := 100) rfl)) (hw _ (List.mem_of_getElem? (i := 101) rfl)) (hw _ (List.mem_of_getElem? (i := 103) rfl)) (hw _ (List.mem_of_getElem? (i := 102) rfl)) (by decide) pd_7 rfl rfl (Nat.le_of_ble_eq_true rfl) (hb hby at_88) (notFace_of_selects (args := #[]) (mvT hZ (hw _ (List.mem_of_getElem? (i := 103) rfl)))) (backOf (W := 0) (met_g_parts l Z a0 hw [] sp el _ F_s1) hZ (hw _ (List.mem_of_getElem? (i := 104) rfl)) (hw _ (List.mem_of_getElem? (i := 66) rfl)) (by decide) (by decide)) (by decide) (by decide) ?_
        intro T hT X
        show Go p e below _ (T.setTop (mkF m 91 #[.val (.int yv), .val (.int ya), .val (.int yb), .val (.int ys), .val (.ref r), .val (.ref x), .val (.ref z), .val (.int (ys &&& (3 : Int32))), .val (.ref sp), .unset, .unset, .unset, .unset, .unset] [(.ref el)]))
        refine Go.st (fun _ k => XS.astore X.here hx rfl (hb hby at_91) rfl rfl (l' := #[.val (.int yv), .val (.int ya), .val (.int yb), .val (.int ys), .val (.ref r), .val (.ref x), .val (.ref z), .val (.int (ys &&& (3 : Int32))), .val (.ref sp), .val (.ref el), .unset, .unset, .unset, .unset]) rfl k) ?_
        show Go p e below _ (T.setTop (mkF m 93 #[.val (.int yv), .val (.int ya), .val (.int yb), .val (.int ys), .val (.ref r), .val (.ref x), .val (.ref z), .val (.int (ys &&& (3 : Int32))), .val (.ref sp), .val (.ref el), .unset, .unset, .unset, .unset] []))
        refine Go.st (fun _ k => XS.aload X.here hx rfl (hb hby at_93) rfl rfl k) ?_
        show Go p e below _ (T.setTop (mkF m 95 #[.val (.int yv), .val (.int ya), .val (.int yb), .val (.int ys), .val (.ref r), .val (.ref x), .val (.ref z), .val (.int (ys &&& (3 : Int32))), .val (.ref sp), .val (.ref el), .unset, .unset, .unset, .unset] [(.ref el)]))
        refine Go.faceV (K := "java/util/ImmutableCollections$ListN") (y := (⟨"java/util/List", "size", "()I"⟩ : MethodName)) (z := (⟨"java/util/ImmutableCollections$ListN", "size", "()I"⟩ : MethodName)) (argsL := []) (rest := []) (W := 0) (w := .int (0 : Int32)) X hx hZ hown (hml.trans rfl) hT (E_el.ext O.2) (hw _ (List.mem_of_getElem? (i := 105) rfl)) (hw _ (List.mem_of_getElem? (i := 106) rfl)) (hw _ (List.mem_of_getElem? (i := 107) rfl)) (hw _ (List.mem_of_getElem? (i := 108) rfl)) (hw _ (List.mem_of_getElem? (i := 109) rfl)) (hw _ (List.mem_of_getElem? (i := 110) rfl)) (hw _ (List.mem_of_getElem? (i := 111) rfl)) (hw _ (List.mem_of_getElem? (i := 112) rfl)) (by decide) pd_11 rfl rfl (Nat.le_of_ble_eq_true rfl) (hb hby at_95) (backOf (W := 0) (met_lsz l Z a0 hw [] el ea ke _ (F_el.ext O.2) (V_el.ext O.2)) hZ (hw _ (List.mem_of_getElem? (i := 114) rfl)) (hw _ (List.mem_of_getElem? (i := 113) rfl)) (by decide) (by decide)) (by decide) (by decide) ?_
        intro T hT X
        show Go p e below _ (T.setTop (mkF m 100 #[.val (.int yv), .val (.int ya), .val (.int yb), .val (.int ys), .val (.ref r), .val (.ref x), .val (.ref z), .val (.int (ys &&& (3 : Int32))), .val (.ref sp), .val (.ref el), .unset, .unset, .unset, .unset] [(.int (0 : Int32))]))
        refine Go.st (fun _ k => XS.ifNo X.here hx rfl (hb hby at_100) rfl (Jvm.Free.XT.i0_ne_f (by decide : (0 : Int32) = (0 : Int32))) k) ?_
        show Go p e below _ (T.setTop (mkF m 103 #[.val (.int yv), .val (.int ya), .val (.int yb), .val (.int ys), .val (.ref r), .val (.ref x), .val (.ref z), .val (.int (ys &&& (3 : Int32))), .val (.ref sp), .val (.ref el), .unset, .unset, .unset, .unset] []))
        refine Go.st (fun _ k => XS.iconst X.here hx rfl (hb hby at_103) k) ?_
        show Go p e below _ (T.setTop (mkF m 104 #[.val (.int yv), .val (.int ya), .val (.int yb), .val (.int ys), .val (.ref r), .val (.ref x), .val (.ref z), .val (.int (ys &&& (3 : Int32))), .val (.ref sp), .val (.ref el), .unset, .unset, .unset, .unset] [(.int (1 : Int32))]))
        refine Go.st (fun _ k => XS.goto X.here hx rfl (pc0 := 104) (pc' := 108) rfl (hb hby at_104) (by decide) (by decide) k) ?_
        show Go p e below _ (T.setTop (mkF m 108 #[.val (.int yv), .val (.int ya), .val (.int yb), .val (.int ys), .val (.ref r), .val (.ref x), .val (.ref z), .val (.int (ys &&& (3 : Int32))), .val (.ref sp), .val (.ref el), .unset, .unset, .unset, .unset] [(.int (1 : Int32))]))
        refine Go.st (fun _ k => XS.istore X.here hx rfl (hb hby at_108) rfl (l' := #[.val (.int yv), .val (.int ya), .val (.int yb), .val (.int ys), .val (.ref r), .val (.ref x), .val (.ref z), .val (.int (ys &&& (3 : Int32))), .val (.ref sp), .val (.ref el), .val (.int (1 : Int32)), .unset, .unset, .unset]) rfl k) ?_
        show Go p e below _ (T.setTop (mkF m 110 #[.val (.int yv), .val (.int ya), .val (.int yb), .val (.int ys), .val (.ref r), .val (.ref x), .val (.ref z), .val (.int (ys &&& (3 : Int32))), .val (.ref sp), .val (.ref el), .val (.int (1 : Int32)), .unset, .unset, .unset] []))
        refine Go.st (fun _ k => XS.aload X.here hx rfl (hb hby at_110) rfl rfl k) ?_
        show Go p e below _ (T.setTop (mkF m 112 #[.val (.int yv), .val (.int ya), .val (.int yb), .val (.int ys), .val (.ref r), .val (.ref x), .val (.ref z), .val (.int (ys &&& (3 : Int32))), .val (.ref sp), .val (.ref el), .val (.int (1 : Int32)), .unset, .unset, .unset] [(.ref sp)]))
        refine Go.virtV (K := "com/example/pocket_context/pocketcontext/internal/Walk$Step") (z := (⟨"com/example/pocket_context/pocketcontext/internal/Walk$Step", "settles", "()Ljava/util/function/Predicate;"⟩ : MethodName)) (argsL := []) (rest := []) (W := 0) (w := (.ref se)) X hx hZ hown (hml.trans rfl) hT A_s (hw _ (List.mem_of_getElem? (i := 117) rfl)) (hw _ (List.mem_of_getElem? (i := 118) rfl)) (hw _ (List.mem_of_getElem? (i := 120) rfl)) (hw _ (List.mem_of_getElem? (i := 119) rfl)) (by decide) pd_12 rfl rfl (Nat.le_of_ble_eq_true rfl) (hb hby at_112) (notFace_of_selects (args := #[]) (mvT hZ (hw _ (List.mem_of_getElem? (i := 120) rfl)))) (backOf (W := 0) (met_g_settles l Z a0 hw [] sp se _ F_s2) hZ (hw _ (List.mem_of_getElem? (i := 121) rfl)) (hw _ (List.mem_of_getElem? (i := 66) rfl)) (by decide) (by decide)) (by decide) (by decide) ?_
        intro T hT X
        show Go p e below _ (T.setTop (mkF m 115 #[.val (.int yv), .val (.int ya), .val (.int yb), .val (.int ys), .val (.ref r), .val (.ref x), .val (.ref z), .val (.int (ys &&& (3 : Int32))), .val (.ref sp), .val (.ref el), .val (.int (1 : Int32)), .unset, .unset, .unset] [(.ref se)]))
        refine Go.st (fun _ k => XS.iloadN X.here hx rfl (hb hby at_115) rfl k) ?_
        show Go p e below _ (T.setTop (mkF m 116 #[.val (.int yv), .val (.int ya), .val (.int yb), .val (.int ys), .val (.ref r), .val (.ref x), .val (.ref z), .val (.int (ys &&& (3 : Int32))), .val (.ref sp), .val (.ref el), .val (.int (1 : Int32)), .unset, .unset, .unset] [(.int ya), (.ref se)]))
        refine Go.callP (argsL := [(.int ya)]) (rest := [(.ref se)]) (W := 1) (ck := 1) (sk := 1) X hx hZ hown (hml.trans rfl) hT (hw _ (List.mem_of_getElem? (i := 0) rfl)) (hw _ (List.mem_of_getElem? (i := 1) rfl)) (hw _ (List.mem_of_getElem? (i := 2) rfl)) (hw _ (List.mem_of_getElem? (i := 3) rfl)) (by decide) pd_9 rfl rfl (Nat.le_of_ble_eq_true rfl) (hb hby at_116) (backOf (W := 1) (met_vi l Z a0 hw [] n0 ya _ O Cc) hZ (hw _ (List.mem_of_getElem? (i := 3) rfl)) (hw _ (List.mem_of_getElem? (i := 2) rfl)) (by decide) (by decide)) (by decide) (by decide) ?_
        intro v T h15 L hT hQ X
        obtain ⟨iq, rfl, N0, Ex0, E_iq, F_iq⟩ := hQ
        have N := Fr.app N N0
        have KB := (Keep.refl h14 []).ext Ex0
        have O := O.keep KB all0
        have E_r := E_r.keep KB
        have F_r := F_r.keep KB nin0
        have A_z := A_z.keep KB
        have A_x := A_x.keep KB
        have Ls0 := Ls0.ext (keepE KB)
        have A_s := A_s.keep KB
        have F_s1 := F_s1.keep KB nin0
        have F_s2 := F_s2.keep KB nin0
        have F_s3 := F_s3.keep KB nin0
        have G1 := own_fnE G1 (keepE KB)
        have G2 := G2.ext (keepE KB)
        show Go p e below _ (T.setTop (mkF m 119 #[.val (.int yv), .val (.int ya), .val (.int yb), .val (.int ys), .val (.ref r), .val (.ref x), .val (.ref z), .val (.int (ys &&& (3 : Int32))), .val (.ref sp), .val (.ref el), .val (.int (1 : Int32)), .unset, .unset, .unset] [(.ref iq), (.ref se)]))
        refine Go.test (rest := []) X hx hZH hw hown (hml.trans rfl) hT M1 G1 (hb hby at_119) (by decide) (Nat.le_of_ble_eq_true rfl) (by decide) (by decide) ?_
        intro T hT X
        show Go p e below _ (T.setTop (mkF m 124 #[.val (.int yv), .val (.int ya), .val (.int yb), .val (.int ys), .val (.ref r), .val (.ref x), .val (.ref z), .val (.int (ys &&& (3 : Int32))), .val (.ref sp), .val (.ref el), .val (.int (1 : Int32)), .unset, .unset, .unset] [(.int (0 : Int32))]))
        refine Go.st (fun _ k => XS.ifNo X.here hx rfl (hb hby at_124) rfl (Jvm.Free.XT.i0_ne_f (by decide : (0 : Int32) = (0 : Int32))) k) ?_
        show Go p e below _ (T.setTop (mkF m 127 #[.val (.int yv), .val (.int ya), .val (.int yb), .val (.int ys), .val (.ref r), .val (.ref x), .val (.ref z), .val (.int (ys &&& (3 : Int32))), .val (.ref sp), .val (.ref el), .val (.int (1 : Int32)), .unset, .unset, .unset] []))
        refine Go.st (fun _ k => XS.aload X.here hx rfl (hb hby at_127) rfl rfl k) ?_
        show Go p e below _ (T.setTop (mkF m 129 #[.val (.int yv), .val (.int ya), .val (.int yb), .val (.int ys), .val (.ref r), .val (.ref x), .val (.ref z), .val (.int (ys &&& (3 : Int32))), .val (.ref sp), .val (.ref el), .val (.int (1 : Int32)), .unset, .unset, .unset] [(.ref sp)]))
        refine Go.virtV (K := "com/example/pocket_context/pocketcontext/internal/Walk$Step") (z := (⟨"com/example/pocket_context/pocketcontext/internal/Walk$Step", "settles", "()Ljava/util/function/Predicate;"⟩ : MethodName)) (argsL := []) (rest := []) (W := 0) (w := (.ref se)) X hx hZ hown (hml.trans rfl) hT A_s (hw _ (List.mem_of_getElem? (i := 117) rfl)) (hw _ (List.mem_of_getElem? (i := 118) rfl)) (hw _ (List.mem_of_getElem? (i := 120) rfl)) (hw _ (List.mem_of_getElem? (i := 119) rfl)) (by decide) pd_12 rfl rfl (Nat.le_of_ble_eq_true rfl) (hb hby at_129) (notFace_of_selects (args := #[]) (mvT hZ (hw _ (List.mem_of_getElem? (i := 120) rfl)))) (backOf (W := 0) (met_g_settles l Z a0 hw [] sp se _ F_s2) hZ (hw _ (List.mem_of_getElem? (i := 121) rfl)) (hw _ (List.mem_of_getElem? (i := 66) rfl)) (by decide) (by decide)) (by decide) (by decide) ?_
        intro T hT X
        show Go p e below _ (T.setTop (mkF m 132 #[.val (.int yv), .val (.int ya), .val (.int yb), .val (.int ys), .val (.ref r), .val (.ref x), .val (.ref z), .val (.int (ys &&& (3 : Int32))), .val (.ref sp), .val (.ref el), .val (.int (1 : Int32)), .unset, .unset, .unset] [(.ref se)]))
        refine Go.st (fun _ k => XS.aload X.here hx rfl (hb hby at_132) rfl rfl k) ?_
        show Go p e below _ (T.setTop (mkF m 134 #[.val (.int yv), .val (.int ya), .val (.int yb), .val (.int ys), .val (.ref r), .val (.ref x), .val (.ref z), .val (.int (ys &&& (3 : Int32))), .val (.ref sp), .val (.ref el), .val (.int (1 : Int32)), .unset, .unset, .unset] [(.ref r), (.ref se)]))
        refine Go.test (rest := []) X hx hZH hw hown (hml.trans rfl) hT M1 G1 (hb hby at_134) (by decide) (Nat.le_of_ble_eq_true rfl) (by decide) (by decide) ?_
        intro T hT X
        show Go p e below _ (T.setTop (mkF m 139 #[.val (.int yv), .val (.int ya), .val (.int yb), .val (.int ys), .val (.ref r), .val (.ref x), .val (.ref z), .val (.int (ys &&& (3 : Int32))), .val (.ref sp), .val (.ref el), .val (.int (1 : Int32)), .unset, .unset, .unset] [(.int (0 : Int32))]))
        refine Go.st (fun _ k => XS.ifNo X.here hx rfl (hb hby at_139) rfl (Jvm.Free.XT.i0_ne_f (by decide : (0 : Int32) = (0 : Int32))) k) ?_
        show Go p e below _ (T.setTop (mkF m 142 #[.val (.int yv), .val (.int ya), .val (.int yb), .val (.int ys), .val (.ref r), .val (.ref x), .val (.ref z), .val (.int (ys &&& (3 : Int32))), .val (.ref sp), .val (.ref el), .val (.int (1 : Int32)), .unset, .unset, .unset] []))
        refine Go.st (fun _ k => XS.iconst X.here hx rfl (hb hby at_142) k) ?_
        show Go p e below _ (T.setTop (mkF m 143 #[.val (.int yv), .val (.int ya), .val (.int yb), .val (.int ys), .val (.ref r), .val (.ref x), .val (.ref z), .val (.int (ys &&& (3 : Int32))), .val (.ref sp), .val (.ref el), .val (.int (1 : Int32)), .unset, .unset, .unset] [(.int (1 : Int32))]))
        refine Go.st (fun _ k => XS.goto X.here hx rfl (pc0 := 143) (pc' := 147) rfl (hb hby at_143) (by decide) (by decide) k) ?_
        show Go p e below _ (T.setTop (mkF m 147 #[.val (.int yv), .val (.int ya), .val (.int yb), .val (.int ys), .val (.ref r), .val (.ref x), .val (.ref z), .val (.int (ys &&& (3 : Int32))), .val (.ref sp), .val (.ref el), .val (.int (1 : Int32)), .unset, .unset, .unset] [(.int (1 : Int32))]))
        refine Go.st (fun _ k => XS.istore X.here hx rfl (hb hby at_147) rfl (l' := #[.val (.int yv), .val (.int ya), .val (.int yb), .val (.int ys), .val (.ref r), .val (.ref x), .val (.ref z), .val (.int (ys &&& (3 : Int32))), .val (.ref sp), .val (.ref el), .val (.int (1 : Int32)), .val (.int (1 : Int32)), .unset, .unset]) rfl k) ?_
        show Go p e below _ (T.setTop (mkF m 149 #[.val (.int yv), .val (.int ya), .val (.int yb), .val (.int ys), .val (.ref r), .val (.ref x), .val (.ref z), .val (.int (ys &&& (3 : Int32))), .val (.ref sp), .val (.ref el), .val (.int (1 : Int32)), .val (.int (1 : Int32)), .unset, .unset] []))
        refine Go.st (fun _ k => XS.aload X.here hx rfl (hb hby at_149) rfl rfl k) ?_
        show Go p e below _ (T.setTop (mkF m 151 #[.val (.int yv), .val (.int ya), .val (.int yb), .val (.int ys), .val (.ref r), .val (.ref x), .val (.ref z), .val (.int (ys &&& (3 : Int32))), .val (.ref sp), .val (.ref el), .val (.int (1 : Int32)), .val (.int (1 : Int32)), .unset, .unset] [(.ref sp)]))
        refine Go.virtV (K := "com/example/pocket_context/pocketcontext/internal/Walk$Step") (z := (⟨"com/example/pocket_context/pocketcontext/internal/Walk$Step", "result", "()Ljava/util/function/Function;"⟩ : MethodName)) (argsL := []) (rest := []) (W := 0) (w := (.ref re)) X hx hZ hown (hml.trans rfl) hT A_s (hw _ (List.mem_of_getElem? (i := 127) rfl)) (hw _ (List.mem_of_getElem? (i := 128) rfl)) (hw _ (List.mem_of_getElem? (i := 130) rfl)) (hw _ (List.mem_of_getElem? (i := 129) rfl)) (by decide) pd_13 rfl rfl (Nat.le_of_ble_eq_true rfl) (hb hby at_151) (notFace_of_selects (args := #[]) (mvT hZ (hw _ (List.mem_of_getElem? (i := 130) rfl)))) (backOf (W := 0) (met_g_result l Z a0 hw [] sp re _ F_s3) hZ (hw _ (List.mem_of_getElem? (i := 131) rfl)) (hw _ (List.mem_of_getElem? (i := 66) rfl)) (by decide) (by decide)) (by decide) (by decide) ?_
        intro T hT X
        show Go p e below _ (T.setTop (mkF m 154 #[.val (.int yv), .val (.int ya), .val (.int yb), .val (.int ys), .val (.ref r), .val (.ref x), .val (.ref z), .val (.int (ys &&& (3 : Int32))), .val (.ref sp), .val (.ref el), .val (.int (1 : Int32)), .val (.int (1 : Int32)), .unset, .unset] [(.ref re)]))
        refine Go.st (fun _ k => XS.aload X.here hx rfl (hb hby at_154) rfl rfl k) ?_
        show Go p e below _ (T.setTop (mkF m 156 #[.val (.int yv), .val (.int ya), .val (.int yb), .val (.int ys), .val (.ref r), .val (.ref x), .val (.ref z), .val (.int (ys &&& (3 : Int32))), .val (.ref sp), .val (.ref el), .val (.int (1 : Int32)), .val (.int (1 : Int32)), .unset, .unset] [(.ref x), (.ref re)]))
        refine Go.apply (rest := []) X hx hZH hw hown (hml.trans rfl) hT M2 G2 A_x (hb hby at_156) (by decide) (Nat.le_of_ble_eq_true rfl) (by decide) (by decide) ?_
        intro T hT X
        show Go p e below _ (T.setTop (mkF m 161 #[.val (.int yv), .val (.int ya), .val (.int yb), .val (.int ys), .val (.ref r), .val (.ref x), .val (.ref z), .val (.int (ys &&& (3 : Int32))), .val (.ref sp), .val (.ref el), .val (.int (1 : Int32)), .val (.int (1 : Int32)), .unset, .unset] [(.ref r)]))
        obtain ⟨T, X, hT, st⟩ := castY X hx hZ hown (hw _ (List.mem_of_getElem? (i := 138) rfl)) hT (Ins.self E_r) (g := (mkF m 161 #[.val (.int yv), .val (.int ya), .val (.int yb), .val (.int ys), .val (.ref r), .val (.ref x), .val (.ref z), .val (.int (ys &&& (3 : Int32))), .val (.ref sp), .val (.ref el), .val (.int (1 : Int32)), .val (.int (1 : Int32)), .unset, .unset] [(.ref r)])) rfl rfl (hb hby at_161)
        refine Go.st st ?_
        show Go p e below _ (T.setTop (mkF m 164 #[.val (.int yv), .val (.int ya), .val (.int yb), .val (.int ys), .val (.ref r), .val (.ref x), .val (.ref z), .val (.int (ys &&& (3 : Int32))), .val (.ref sp), .val (.ref el), .val (.int (1 : Int32)), .val (.int (1 : Int32)), .unset, .unset] [(.ref r)]))
        refine Go.st (fun _ k => XS.astore X.here hx rfl (hb hby at_164) rfl rfl (l' := #[.val (.int yv), .val (.int ya), .val (.int yb), .val (.int ys), .val (.ref r), .val (.ref x), .val (.ref z), .val (.int (ys &&& (3 : Int32))), .val (.ref sp), .val (.ref el), .val (.int (1 : Int32)), .val (.int (1 : Int32)), .val (.ref r), .unset]) rfl k) ?_
        show Go p e below _ (T.setTop (mkF m 166 #[.val (.int yv), .val (.int ya), .val (.int yb), .val (.int ys), .val (.ref r), .val (.ref x), .val (.ref z), .val (.int (ys &&& (3 : Int32))), .val (.ref sp), .val (.ref el), .val (.int (1 : Int32)), .val (.int (1 : Int32)), .val (.ref r), .unset] []))
        refine Go.st (fun _ k => XS.aload X.here hx rfl (hb hby at_166) rfl rfl k) ?_
        show Go p e below _ (T.setTop (mkF m 168 #[.val (.int yv), .val (.int ya), .val (.int yb), .val (.int ys), .val (.ref r), .val (.ref x), .val (.ref z), .val (.int (ys &&& (3 : Int32))), .val (.ref sp), .val (.ref el), .val (.int (1 : Int32)), .val (.int (1 : Int32)), .val (.ref r), .unset] [(.ref sp)]))
        refine Go.virtV (K := "com/example/pocket_context/pocketcontext/internal/Walk$Step") (z := (⟨"com/example/pocket_context/pocketcontext/internal/Walk$Step", "result", "()Ljava/util/function/Function;"⟩ : MethodName)) (argsL := []) (rest := []) (W := 0) (w := (.ref re)) X hx hZ hown (hml.trans rfl) hT A_s (hw _ (List.mem_of_getElem? (i := 127) rfl)) (hw _ (List.mem_of_getElem? (i := 128) rfl)) (hw _ (List.mem_of_getElem? (i := 130) rfl)) (hw _ (List.mem_of_getElem? (i := 129) rfl)) (by decide) pd_13 rfl rfl (Nat.le_of_ble_eq_true rfl) (hb hby at_168) (notFace_of_selects (args := #[]) (mvT hZ (hw _ (List.mem_of_getElem? (i := 130) rfl)))) (backOf (W := 0) (met_g_result l Z a0 hw [] sp re _ F_s3) hZ (hw _ (List.mem_of_getElem? (i := 131) rfl)) (hw _ (List.mem_of_getElem? (i := 66) rfl)) (by decide) (by decide)) (by decide) (by decide) ?_
        intro T hT X
        show Go p e below _ (T.setTop (mkF m 171 #[.val (.int yv), .val (.int ya), .val (.int yb), .val (.int ys), .val (.ref r), .val (.ref x), .val (.ref z), .val (.int (ys &&& (3 : Int32))), .val (.ref sp), .val (.ref el), .val (.int (1 : Int32)), .val (.int (1 : Int32)), .val (.ref r), .unset] [(.ref re)]))
        refine Go.st (fun _ k => XS.aload X.here hx rfl (hb hby at_171) rfl rfl k) ?_
        show Go p e below _ (T.setTop (mkF m 173 #[.val (.int yv), .val (.int ya), .val (.int yb), .val (.int ys), .val (.ref r), .val (.ref x), .val (.ref z), .val (.int (ys &&& (3 : Int32))), .val (.ref sp), .val (.ref el), .val (.int (1 : Int32)), .val (.int (1 : Int32)), .val (.ref r), .unset] [(.ref z), (.ref re)]))
        refine Go.apply (rest := []) X hx hZH hw hown (hml.trans rfl) hT M2 G2 A_z (hb hby at_173) (by decide) (Nat.le_of_ble_eq_true rfl) (by decide) (by decide) ?_
        intro T hT X
        show Go p e below _ (T.setTop (mkF m 178 #[.val (.int yv), .val (.int ya), .val (.int yb), .val (.int ys), .val (.ref r), .val (.ref x), .val (.ref z), .val (.int (ys &&& (3 : Int32))), .val (.ref sp), .val (.ref el), .val (.int (1 : Int32)), .val (.int (1 : Int32)), .val (.ref r), .unset] [(.ref r)]))
        obtain ⟨T, X, hT, st⟩ := castY X hx hZ hown (hw _ (List.mem_of_getElem? (i := 138) rfl)) hT (Ins.self E_r) (g := (mkF m 178 #[.val (.int yv), .val (.int ya), .val (.int yb), .val (.int ys), .val (.ref r), .val (.ref x), .val (.ref z), .val (.int (ys &&& (3 : Int32))), .val (.ref sp), .val (.ref el), .val (.int (1 : Int32)), .val (.int (1 : Int32)), .val (.ref r), .unset] [(.ref r)])) rfl rfl (hb hby at_178)
        refine Go.st st ?_
        show Go p e below _ (T.setTop (mkF m 181 #[.val (.int yv), .val (.int ya), .val (.int yb), .val (.int ys), .val (.ref r), .val (.ref x), .val (.ref z), .val (.int (ys &&& (3 : Int32))), .val (.ref sp), .val (.ref el), .val (.int (1 : Int32)), .val (.int (1 : Int32)), .val (.ref r), .unset] [(.ref r)]))
        refine Go.st (fun _ k => XS.astore X.here hx rfl (hb hby at_181) rfl rfl (l' := #[.val (.int yv), .val (.int ya), .val (.int yb), .val (.int ys), .val (.ref r), .val (.ref x), .val (.ref z), .val (.int (ys &&& (3 : Int32))), .val (.ref sp), .val (.ref el), .val (.int (1 : Int32)), .val (.int (1 : Int32)), .val (.ref r), .val (.ref r)]) rfl k) ?_
        show Go p e below _ (T.setTop (mkF m 183 #[.val (.int yv), .val (.int ya), .val (.int yb), .val (.int ys), .val (.ref r), .val (.ref x), .val (.ref z), .val (.int (ys &&& (3 : Int32))), .val (.ref sp), .val (.ref el), .val (.int (1 : Int32)), .val (.int (1 : Int32)), .val (.ref r), .val (.ref r)] []))
        refine Go.st (fun _ k => XS.iload X.here hx rfl (hb hby at_183) rfl k) ?_
        show Go p e below _ (T.setTop (mkF m 185 #[.val (.int yv), .val (.int ya), .val (.int yb), .val (.int ys), .val (.ref r), .val (.ref x), .val (.ref z), .val (.int (ys &&& (3 : Int32))), .val (.ref sp), .val (.ref el), .val (.int (1 : Int32)), .val (.int (1 : Int32)), .val (.ref r), .val (.ref r)] [(.int (1 : Int32))]))
        refine Go.st (fun _ k => XS.ifNo X.here hx rfl (hb hby at_185) rfl (Jvm.Free.XT.i0_eq_f (by decide : ¬ ((1 : Int32) = (0 : Int32)))) k) ?_
        show Go p e below _ (T.setTop (mkF m 188 #[.val (.int yv), .val (.int ya), .val (.int yb), .val (.int ys), .val (.ref r), .val (.ref x), .val (.ref z), .val (.int (ys &&& (3 : Int32))), .val (.ref sp), .val (.ref el), .val (.int (1 : Int32)), .val (.int (1 : Int32)), .val (.ref r), .val (.ref r)] []))
        refine Go.st (fun _ k => XS.iload X.here hx rfl (hb hby at_188) rfl k) ?_
        show Go p e below _ (T.setTop (mkF m 190 #[.val (.int yv), .val (.int ya), .val (.int yb), .val (.int ys), .val (.ref r), .val (.ref x), .val (.ref z), .val (.int (ys &&& (3 : Int32))), .val (.ref sp), .val (.ref el), .val (.int (1 : Int32)), .val (.int (1 : Int32)), .val (.ref r), .val (.ref r)] [(.int (1 : Int32))]))
        refine Go.st (fun _ k => XS.ifNo X.here hx rfl (hb hby at_190) rfl (Jvm.Free.XT.i0_eq_f (by decide : ¬ ((1 : Int32) = (0 : Int32)))) k) ?_
        show Go p e below _ (T.setTop (mkF m 193 #[.val (.int yv), .val (.int ya), .val (.int yb), .val (.int ys), .val (.ref r), .val (.ref x), .val (.ref z), .val (.int (ys &&& (3 : Int32))), .val (.ref sp), .val (.ref el), .val (.int (1 : Int32)), .val (.int (1 : Int32)), .val (.ref r), .val (.ref r)] []))
        refine Go.st (fun _ k => XS.aload X.here hx rfl (hb hby at_193) rfl rfl k) ?_
        show Go p e below _ (T.setTop (mkF m 195 #[.val (.int yv), .val (.int ya), .val (.int yb), .val (.int ys), .val (.ref r), .val (.ref x), .val (.ref z), .val (.int (ys &&& (3 : Int32))), .val (.ref sp), .val (.ref el), .val (.int (1 : Int32)), .val (.int (1 : Int32)), .val (.ref r), .val (.ref r)] [(.ref r)]))
        refine Go.st (fun _ k => XS.aload X.here hx rfl (hb hby at_195) rfl rfl k) ?_
        show Go p e below _ (T.setTop (mkF m 197 #[.val (.int yv), .val (.int ya), .val (.int yb), .val (.int ys), .val (.ref r), .val (.ref x), .val (.ref z), .val (.int (ys &&& (3 : Int32))), .val (.ref sp), .val (.ref el), .val (.int (1 : Int32)), .val (.int (1 : Int32)), .val (.ref r), .val (.ref r)] [(.ref r), (.ref r)]))
        refine Go.st (fun _ k => acmp X hx rfl (cd := .ne) rfl rfl (pc0 := 197) (pc' := 200) (same := true) rfl (hb hby at_197) rfl (decide_eq_true rfl) (by decide) (by decide) k) ?_
        show Go p e below _ (T.setTop (mkF m 200 #[.val (.int yv), .val (.int ya), .val (.int yb), .val (.int ys), .val (.ref r), .val (.ref x), .val (.ref z), .val (.int (ys &&& (3 : Int32))), .val (.ref sp), .val (.ref el), .val (.int (1 : Int32)), .val (.int (1 : Int32)), .val (.ref r), .val (.ref r)] []))
        refine Go.st (fun _ k => XS.aload X.here hx rfl (hb hby at_200) rfl rfl k) ?_
        show Go p e below _ (T.setTop (mkF m 202 #[.val (.int yv), .val (.int ya), .val (.int yb), .val (.int ys), .val (.ref r), .val (.ref x), .val (.ref z), .val (.int (ys &&& (3 : Int32))), .val (.ref sp), .val (.ref el), .val (.int (1 : Int32)), .val (.int (1 : Int32)), .val (.ref r), .val (.ref r)] [(.ref r)]))
        refine Go.st (fun _ k => XS.aload X.here hx rfl (hb hby at_202) rfl rfl k) ?_
        show Go p e below _ (T.setTop (mkF m 204 #[.val (.int yv), .val (.int ya), .val (.int yb), .val (.int ys), .val (.ref r), .val (.ref x), .val (.ref z), .val (.int (ys &&& (3 : Int32))), .val (.ref sp), .val (.ref el), .val (.int (1 : Int32)), .val (.int (1 : Int32)), .val (.ref r), .val (.ref r)] [(.ref r), (.ref r)]))
        refine Go.st (fun _ k => acmp X hx rfl (cd := .ne) rfl rfl (pc0 := 204) (pc' := 207) (same := true) rfl (hb hby at_204) rfl (decide_eq_true rfl) (by decide) (by decide) k) ?_
        show Go p e below _ (T.setTop (mkF m 207 #[.val (.int yv), .val (.int ya), .val (.int yb), .val (.int ys), .val (.ref r), .val (.ref x), .val (.ref z), .val (.int (ys &&& (3 : Int32))), .val (.ref sp), .val (.ref el), .val (.int (1 : Int32)), .val (.int (1 : Int32)), .val (.ref r), .val (.ref r)] []))
        refine Go.st (fun _ k => XS.aload X.here hx rfl (hb hby at_207) rfl rfl k) ?_
        show Go p e below _ (T.setTop (mkF m 209 #[.val (.int yv), .val (.int ya), .val (.int yb), .val (.int ys), .val (.ref r), .val (.ref x), .val (.ref z), .val (.int (ys &&& (3 : Int32))), .val (.ref sp), .val (.ref el), .val (.int (1 : Int32)), .val (.int (1 : Int32)), .val (.ref r), .val (.ref r)] [(.ref r)]))
        refine Go.virtV (K := "java/lang/Integer") (z := (⟨"java/lang/Integer", "intValue", "()I"⟩ : MethodName)) (argsL := []) (rest := []) (W := 0) (w := (.int yv)) X hx hZ hown (hml.trans rfl) hT E_r (hw _ (List.mem_of_getElem? (i := 140) rfl)) (hw _ (List.mem_of_getElem? (i := 141) rfl)) (hw _ (List.mem_of_getElem? (i := 143) rfl)) (hw _ (List.mem_of_getElem? (i := 142) rfl)) (by decide) pd_11 rfl rfl (Nat.le_of_ble_eq_true rfl) (hb hby at_209) (notFace_of_selects (args := #[]) (mvT hZ (hw _ (List.mem_of_getElem? (i := 143) rfl)))) (backOf (W := 0) (met_iv l Z a0 hw [] r yv _ F_r) hZ (hw _ (List.mem_of_getElem? (i := 144) rfl)) (hw _ (List.mem_of_getElem? (i := 2) rfl)) (by decide) (by decide)) (by decide) (by decide) ?_
        intro T hT X
        show Go p e below _ (T.setTop (mkF m 212 #[.val (.int yv), .val (.int ya), .val (.int yb), .val (.int ys), .val (.ref r), .val (.ref x), .val (.ref z), .val (.int (ys &&& (3 : Int32))), .val (.ref sp), .val (.ref el), .val (.int (1 : Int32)), .val (.int (1 : Int32)), .val (.ref r), .val (.ref r)] [(.int yv)]))
        refine Go.st (fun _ k => XS.iloadN X.here hx rfl (hb hby at_212) rfl k) ?_
        show Go p e below _ (T.setTop (mkF m 213 #[.val (.int yv), .val (.int ya), .val (.int yb), .val (.int ys), .val (.ref r), .val (.ref x), .val (.ref z), .val (.int (ys &&& (3 : Int32))), .val (.ref sp), .val (.ref el), .val (.int (1 : Int32)), .val (.int (1 : Int32)), .val (.ref r), .val (.ref r)] [(.int yv), (.int yv)]))
        refine Go.st (fun _ k => XS.icmpNo X.here hx rfl (hb hby at_213) rfl (Jvm.Free.XT.ii_ne_f (rfl : yv = yv)) k) ?_
        show Go p e below _ (T.setTop (mkF m 216 #[.val (.int yv), .val (.int ya), .val (.int yb), .val (.int ys), .val (.ref r), .val (.ref x), .val (.ref z), .val (.int (ys &&& (3 : Int32))), .val (.ref sp), .val (.ref el), .val (.int (1 : Int32)), .val (.int (1 : Int32)), .val (.ref r), .val (.ref r)] []))
        refine Go.st (fun _ k => XS.iconst X.here hx rfl (hb hby at_216) k) ?_
        show Go p e below _ (T.setTop (mkF m 217 #[.val (.int yv), .val (.int ya), .val (.int yb), .val (.int ys), .val (.ref r), .val (.ref x), .val (.ref z), .val (.int (ys &&& (3 : Int32))), .val (.ref sp), .val (.ref el), .val (.int (1 : Int32)), .val (.int (1 : Int32)), .val (.ref r), .val (.ref r)] [(.int (1 : Int32))]))
        refine Go.st (fun _ k => XS.goto X.here hx rfl (pc0 := 217) (pc' := 221) rfl (hb hby at_217) (by decide) (by decide) k) ?_
        show Go p e below _ (T.setTop (mkF m 221 #[.val (.int yv), .val (.int ya), .val (.int yb), .val (.int ys), .val (.ref r), .val (.ref x), .val (.ref z), .val (.int (ys &&& (3 : Int32))), .val (.ref sp), .val (.ref el), .val (.int (1 : Int32)), .val (.int (1 : Int32)), .val (.ref r), .val (.ref r)] [(.int (1 : Int32))]))
        refine Go.ret X hx hlk hT hret (by decide) (riI (by simp)) (hb hby at_221) (by decide) (by decide) ?_
        exact ⟨rfl, N⟩
      · refine Go.st (fun _ k => XS.icmpNo X.here hx rfl (hb hby at_64) rfl (Jvm.Free.XT.ii_lt_f hc3) k) ?_
        show Go p e below _ (T.setTop (mkF m 67 #[.val (.int yv), .val (.int ya), .val (.int yb), .val (.int ys), .val (.ref r), .val (.ref x), .val (.ref z), .val (.int (ys &&& (3 : Int32))), .unset, .unset, .unset, .unset, .unset, .unset] []))
        refine Go.st (fun _ k => XS.aload X.here hx rfl (hb hby at_67) rfl rfl k) ?_
        show Go p e below _ (T.setTop (mkF m 69 #[.val (.int yv), .val (.int ya), .val (.int yb), .val (.int ys), .val (.ref r), .val (.ref x), .val (.ref z), .val (.int (ys &&& (3 : Int32))), .unset, .unset, .unset, .unset, .unset, .unset] [(.ref x)]))
        refine Go.st (fun _ k => XS.iloadN X.here hx rfl (hb hby at_69) rfl k) ?_
        show Go p e below _ (T.setTop (mkF m 70 #[.val (.int yv), .val (.int ya), .val (.int yb), .val (.int ys), .val (.ref r), .val (.ref x), .val (.ref z), .val (.int (ys &&& (3 : Int32))), .unset, .unset, .unset, .unset, .unset, .unset] [(.int yv), (.ref x)]))
        refine Go.st (fun _ k => XS.iloadN X.here hx rfl (hb hby at_70) rfl k) ?_
        show Go p e below _ (T.setTop (mkF m 71 #[.val (.int yv), .val (.int ya), .val (.int yb), .val (.int ys), .val (.ref r), .val (.ref x), .val (.ref z), .val (.int (ys &&& (3 : Int32))), .unset, .unset, .unset, .unset, .unset, .unset] [(.int ya), (.int yv), (.ref x)]))
        refine Go.st (fun _ k => XS.ixor X.here hx rfl (hb hby at_71) rfl k) ?_
        show Go p e below _ (T.setTop (mkF m 72 #[.val (.int yv), .val (.int ya), .val (.int yb), .val (.int ys), .val (.ref r), .val (.ref x), .val (.ref z), .val (.int (ys &&& (3 : Int32))), .unset, .unset, .unset, .unset, .unset, .unset] [(.int (yv ^^^ ya)), (.ref x)]))
        refine Go.callP (argsL := [(.int (yv ^^^ ya))]) (rest := [(.ref x)]) (W := 1) (ck := 1) (sk := 1) X hx hZ hown (hml.trans rfl) hT (hw _ (List.mem_of_getElem? (i := 0) rfl)) (hw _ (List.mem_of_getElem? (i := 1) rfl)) (hw _ (List.mem_of_getElem? (i := 2) rfl)) (hw _ (List.mem_of_getElem? (i := 3) rfl)) (by decide) pd_9 rfl rfl (Nat.le_of_ble_eq_true rfl) (hb hby at_72) (backOf (W := 1) (met_vi l Z a0 hw [] n0 (yv ^^^ ya) _ O Cc) hZ (hw _ (List.mem_of_getElem? (i := 3) rfl)) (hw _ (List.mem_of_getElem? (i := 2) rfl)) (by decide) (by decide)) (by decide) (by decide) ?_
        intro v T h16 L hT hQ X
        obtain ⟨ic, rfl, N0, Ex0, E_ic, F_ic⟩ := hQ
        have N := Fr.app N N0
        have KB := (Keep.refl h13 []).ext Ex0
        have O := O.keep KB all0
        have E_r := E_r.keep KB
        have F_r := F_r.keep KB nin0
        have A_z := A_z.keep KB
        have A_x := A_x.keep KB
        have Ls0 := Ls0.ext (keepE KB)
        show Go p e below _ (T.setTop (mkF m 75 #[.val (.int yv), .val (.int ya), .val (.int yb), .val (.int ys), .val (.ref r), .val (.ref x), .val (.ref z), .val (.int (ys &&& (3 : Int32))), .unset, .unset, .unset, .unset, .unset, .unset] [(.ref ic), (.ref x)]))
        refine Go.virtP (K := "java/util/ArrayList") (z := (⟨"java/util/ArrayList", "add", "(Ljava/lang/Object;)Z"⟩ : MethodName)) (argsL := [(.ref ic)]) (rest := []) (W := 0) (ck := 0) (sk := 0) X hx hZ hown (hml.trans rfl) hT A_x (hw _ (List.mem_of_getElem? (i := 33) rfl)) (hw _ (List.mem_of_getElem? (i := 34) rfl)) (hw _ (List.mem_of_getElem? (i := 36) rfl)) (hw _ (List.mem_of_getElem? (i := 35) rfl)) (by decide) pd_14 rfl rfl (Nat.le_of_ble_eq_true rfl) (hb hby at_75) (notFace_of_selects (args := #[]) (mvT hZ (hw _ (List.mem_of_getElem? (i := 36) rfl)))) (backOf (W := 0) (met_add2 l Z a0 hw [] n0 x ic rx kr _ _ ge_x ge_rx Ls0 E_ic) hZ (hw _ (List.mem_of_getElem? (i := 37) rfl)) (hw _ (List.mem_of_getElem? (i := 9) rfl)) (by decide) (by decide)) (by decide) (by decide) ?_
        intro v T h17 L hT hQ X
        obtain ⟨rfl, N0, K0, Ls0⟩ := hQ
        have N := Fr.app N N0
        have O := O.keep K0 (allS ge_x (allS ge_rx all0))
        have E_r := E_r.keep K0
        have F_r := F_r.keep K0 (ninS ne_r_x (ninS ne_r_rx nin0))
        have A_z := A_z.keep K0
        have A_x := Ls0.2.2.1
        show Go p e below _ (T.setTop (mkF m 78 #[.val (.int yv), .val (.int ya), .val (.int yb), .val (.int ys), .val (.ref r), .val (.ref x), .val (.ref z), .val (.int (ys &&& (3 : Int32))), .unset, .unset, .unset, .unset, .unset, .unset] [(.int (1 : Int32))]))
        refine Go.st (fun _ k => XS.pop X.here hx rfl (hb hby at_78) rfl rfl k) ?_
        show Go p e below _ (T.setTop (mkF m 79 #[.val (.int yv), .val (.int ya), .val (.int yb), .val (.int ys), .val (.ref r), .val (.ref x), .val (.ref z), .val (.int (ys &&& (3 : Int32))), .unset, .unset, .unset, .unset, .unset, .unset] []))
        refine Go.st (fun _ k => XS.aload X.here hx rfl (hb hby at_79) rfl rfl k) ?_
        show Go p e below _ (T.setTop (mkF m 81 #[.val (.int yv), .val (.int ya), .val (.int yb), .val (.int ys), .val (.ref r), .val (.ref x), .val (.ref z), .val (.int (ys &&& (3 : Int32))), .unset, .unset, .unset, .unset, .unset, .unset] [(.ref r)]))
        refine Go.callP (argsL := [(.ref r)]) (rest := []) (W := 0) (ck := 2) (sk := 4) X hx hZ hown (hml.trans rfl) hT (hw _ (List.mem_of_getElem? (i := 64) rfl)) (hw _ (List.mem_of_getElem? (i := 65) rfl)) (hw _ (List.mem_of_getElem? (i := 66) rfl)) (hw _ (List.mem_of_getElem? (i := 67) rfl)) (by decide) pd_10 rfl rfl (Nat.le_of_ble_eq_true rfl) (hb hby at_81) (backOf (W := 0) (met_dn l Z a0 hw [] n0 r el _ O Se) hZ (hw _ (List.mem_of_getElem? (i := 67) rfl)) (hw _ (List.mem_of_getElem? (i := 66) rfl)) (by decide) (by decide)) (by decide) (by decide) ?_
        intro v T h18 L hT hQ X
        obtain ⟨sp, se, re, cK1, cK2, rfl, N0, Ex0, A_s, F_s1, F_s2, F_s3, M1, G1, M2, G2⟩ := hQ
        have N := Fr.app N N0
        have KB := (Keep.refl h17 []).ext Ex0
        have O := O.keep KB all0
        have E_r := E_r.keep KB
        have F_r := F_r.keep KB nin0
        have A_z := A_z.keep KB
        have A_x := A_x.keep KB
        have Ls0 := Ls0.ext (keepE KB)
        show Go p e below _ (T.setTop (mkF m 84 #[.val (.int yv), .val (.int ya), .val (.int yb), .val (.int ys), .val (.ref r), .val (.ref x), .val (.ref z), .val (.int (ys &&& (3 : Int32))), .unset, .unset, .unset, .unset, .unset, .unset] [(.ref sp)]))
        refine Go.st (fun _ k => XS.astore X.here hx rfl (hb hby at_84) rfl rfl (l' := #[.val (.int yv), .val (.int ya), .val (.int yb), .val (.int ys), .val (.ref r), .val (.ref x), .val (.ref z), .val (.int (ys &&& (3 : Int32))), .val (.ref sp), .unset, .unset, .unset, .unset, .unset]) rfl k) ?_
        show Go p e below _ (T.setTop (mkF m 86 #[.val (.int yv), .val (.int ya), .val (.int yb), .val (.int ys), .val (.ref r), .val (.ref x), .val (.ref z), .val (.int (ys &&& (3 : Int32))), .val (.ref sp), .unset, .unset, .unset, .unset, .unset] []))
        refine Go.st (fun _ k => XS.aload X.here hx rfl (hb hby at_86) rfl rfl k) ?_
        show Go p e below _ (T.setTop (mkF m 88 #[.val (.int yv), .val (.int ya), .val (.int yb), .val (.int ys), .val (.ref r), .val (.ref x), .val (.ref z), .val (.int (ys &&& (3 : Int32))), .val (.ref sp), .unset, .unset, .unset, .unset, .unset] [(.ref sp)]))
        refine Go.virtV (K := "com/example/pocket_context/pocketcontext/internal/Walk$Step") (z := (⟨"com/example/pocket_context/pocketcontext/internal/Walk$Step", "parts", "()Ljava/util/List;"⟩ : MethodName)) (argsL := []) (rest := []) (W := 0) (w := (.ref el)) X hx hZ hown (hml.trans rfl) hT A_s (hw _ (List.mem_of_getElem? (i := 100) rfl)) (hw _ (List.mem_of_getElem? (i := 101) rfl)) (hw _ (List.mem_of_getElem? (i := 103) rfl)) (hw _ (List.mem_of_getElem? (i := 102) rfl)) (by decide) pd_7 rfl rfl (Nat.le_of_ble_eq_true rfl) (hb hby at_88) (notFace_of_selects (args := #[]) (mvT hZ (hw _ (List.mem_of_getElem? (i := 103) rfl)))) (backOf (W := 0) (met_g_parts l Z a0 hw [] sp el _ F_s1) hZ (hw _ (List.mem_of_getElem? (i := 104) rfl)) (hw _ (List.mem_of_getElem? (i := 66) rfl)) (by decide) (by decide)) (by decide) (by decide) ?_
        intro T hT X
        show Go p e below _ (T.setTop (mkF m 91 #[.val (.int yv), .val (.int ya), .val (.int yb), .val (.int ys), .val (.ref r), .val (.ref x), .val (.ref z), .val (.int (ys &&& (3 : Int32))), .val (.ref sp), .unset, .unset, .unset, .unset, .unset] [(.ref el)]))
        refine Go.st (fun _ k => XS.astore X.here hx rfl (hb hby at_91) rfl rfl (l' := #[.val (.int yv), .val (.int ya), .val (.int yb), .val (.int ys), .val (.ref r), .val (.ref x), .val (.ref z), .val (.int (ys &&& (3 : Int32))), .val (.ref sp), .val (.ref el), .unset, .unset, .unset, .unset]) rfl k) ?_
        show Go p e below _ (T.setTop (mkF m 93 #[.val (.int yv), .val (.int ya), .val (.int yb), .val (.int ys), .val (.ref r), .val (.ref x), .val (.ref z), .val (.int (ys &&& (3 : Int32))), .val (.ref sp), .val (.ref el), .unset, .unset, .unset, .unset] []))
        refine Go.st (fun _ k => XS.aload X.here hx rfl (hb hby at_93) rfl rfl k) ?_
        show Go p e below _ (T.setTop (mkF m 95 #[.val (.int yv), .val (.int ya), .val (.int yb), .val (.int ys), .val (.ref r), .val (.ref x), .val (.ref z), .val (.int (ys &&& (3 : Int32))), .val (.ref sp), .val (.ref el), .unset, .unset, .unset, .unset] [(.ref el)]))
        refine Go.faceV (K := "java/util/ImmutableCollections$ListN") (y := (⟨"java/util/List", "size", "()I"⟩ : MethodName)) (z := (⟨"java/util/ImmutableCollections$ListN", "size", "()I"⟩ : MethodName)) (argsL := []) (rest := []) (W := 0) (w := .int (0 : Int32)) X hx hZ hown (hml.trans rfl) hT (E_el.ext O.2) (hw _ (List.mem_of_getElem? (i := 105) rfl)) (hw _ (List.mem_of_getElem? (i := 106) rfl)) (hw _ (List.mem_of_getElem? (i := 107) rfl)) (hw _ (List.mem_of_getElem? (i := 108) rfl)) (hw _ (List.mem_of_getElem? (i := 109) rfl)) (hw _ (List.mem_of_getElem? (i := 110) rfl)) (hw _ (List.mem_of_getElem? (i := 111) rfl)) (hw _ (List.mem_of_getElem? (i := 112) rfl)) (by decide) pd_11 rfl rfl (Nat.le_of_ble_eq_true rfl) (hb hby at_95) (backOf (W := 0) (met_lsz l Z a0 hw [] el ea ke _ (F_el.ext O.2) (V_el.ext O.2)) hZ (hw _ (List.mem_of_getElem? (i := 114) rfl)) (hw _ (List.mem_of_getElem? (i := 113) rfl)) (by decide) (by decide)) (by decide) (by decide) ?_
        intro T hT X
        show Go p e below _ (T.setTop (mkF m 100 #[.val (.int yv), .val (.int ya), .val (.int yb), .val (.int ys), .val (.ref r), .val (.ref x), .val (.ref z), .val (.int (ys &&& (3 : Int32))), .val (.ref sp), .val (.ref el), .unset, .unset, .unset, .unset] [(.int (0 : Int32))]))
        refine Go.st (fun _ k => XS.ifNo X.here hx rfl (hb hby at_100) rfl (Jvm.Free.XT.i0_ne_f (by decide : (0 : Int32) = (0 : Int32))) k) ?_
        show Go p e below _ (T.setTop (mkF m 103 #[.val (.int yv), .val (.int ya), .val (.int yb), .val (.int ys), .val (.ref r), .val (.ref x), .val (.ref z), .val (.int (ys &&& (3 : Int32))), .val (.ref sp), .val (.ref el), .unset, .unset, .unset, .unset] []))
        refine Go.st (fun _ k => XS.iconst X.here hx rfl (hb hby at_103) k) ?_
        show Go p e below _ (T.setTop (mkF m 104 #[.val (.int yv), .val (.int ya), .val (.int yb), .val (.int ys), .val (.ref r), .val (.ref x), .val (.ref z), .val (.int (ys &&& (3 : Int32))), .val (.ref sp), .val (.ref el), .unset, .unset, .unset, .unset] [(.int (1 : Int32))]))
        refine Go.st (fun _ k => XS.goto X.here hx rfl (pc0 := 104) (pc' := 108) rfl (hb hby at_104) (by decide) (by decide) k) ?_
        show Go p e below _ (T.setTop (mkF m 108 #[.val (.int yv), .val (.int ya), .val (.int yb), .val (.int ys), .val (.ref r), .val (.ref x), .val (.ref z), .val (.int (ys &&& (3 : Int32))), .val (.ref sp), .val (.ref el), .unset, .unset, .unset, .unset] [(.int (1 : Int32))]))
        refine Go.st (fun _ k => XS.istore X.here hx rfl (hb hby at_108) rfl (l' := #[.val (.int yv), .val (.int ya), .val (.int yb), .val (.int ys), .val (.ref r), .val (.ref x), .val (.ref z), .val (.int (ys &&& (3 : Int32))), .val (.ref sp), .val (.ref el), .val (.int (1 : Int32)), .unset, .unset, .unset]) rfl k) ?_
        show Go p e below _ (T.setTop (mkF m 110 #[.val (.int yv), .val (.int ya), .val (.int yb), .val (.int ys), .val (.ref r), .val (.ref x), .val (.ref z), .val (.int (ys &&& (3 : Int32))), .val (.ref sp), .val (.ref el), .val (.int (1 : Int32)), .unset, .unset, .unset] []))
        refine Go.st (fun _ k => XS.aload X.here hx rfl (hb hby at_110) rfl rfl k) ?_
        show Go p e below _ (T.setTop (mkF m 112 #[.val (.int yv), .val (.int ya), .val (.int yb), .val (.int ys), .val (.ref r), .val (.ref x), .val (.ref z), .val (.int (ys &&& (3 : Int32))), .val (.ref sp), .val (.ref el), .val (.int (1 : Int32)), .unset, .unset, .unset] [(.ref sp)]))
        refine Go.virtV (K := "com/example/pocket_context/pocketcontext/internal/Walk$Step") (z := (⟨"com/example/pocket_context/pocketcontext/internal/Walk$Step", "settles", "()Ljava/util/function/Predicate;"⟩ : MethodName)) (argsL := []) (rest := []) (W := 0) (w := (.ref se)) X hx hZ hown (hml.trans rfl) hT A_s (hw _ (List.mem_of_getElem? (i := 117) rfl)) (hw _ (List.mem_of_getElem? (i := 118) rfl)) (hw _ (List.mem_of_getElem? (i := 120) rfl)) (hw _ (List.mem_of_getElem? (i := 119) rfl)) (by decide) pd_12 rfl rfl (Nat.le_of_ble_eq_true rfl) (hb hby at_112) (notFace_of_selects (args := #[]) (mvT hZ (hw _ (List.mem_of_getElem? (i := 120) rfl)))) (backOf (W := 0) (met_g_settles l Z a0 hw [] sp se _ F_s2) hZ (hw _ (List.mem_of_getElem? (i := 121) rfl)) (hw _ (List.mem_of_getElem? (i := 66) rfl)) (by decide) (by decide)) (by decide) (by decide) ?_
        intro T hT X
        show Go p e below _ (T.setTop (mkF m 115 #[.val (.int yv), .val (.int ya), .val (.int yb), .val (.int ys), .val (.ref r), .val (.ref x), .val (.ref z), .val (.int (ys &&& (3 : Int32))), .val (.ref sp), .val (.ref el), .val (.int (1 : Int32)), .unset, .unset, .unset] [(.ref se)]))
        refine Go.st (fun _ k => XS.iloadN X.here hx rfl (hb hby at_115) rfl k) ?_
        show Go p e below _ (T.setTop (mkF m 116 #[.val (.int yv), .val (.int ya), .val (.int yb), .val (.int ys), .val (.ref r), .val (.ref x), .val (.ref z), .val (.int (ys &&& (3 : Int32))), .val (.ref sp), .val (.ref el), .val (.int (1 : Int32)), .unset, .unset, .unset] [(.int ya), (.ref se)]))
        refine Go.callP (argsL := [(.int ya)]) (rest := [(.ref se)]) (W := 1) (ck := 1) (sk := 1) X hx hZ hown (hml.trans rfl) hT (hw _ (List.mem_of_getElem? (i := 0) rfl)) (hw _ (List.mem_of_getElem? (i := 1) rfl)) (hw _ (List.mem_of_getElem? (i := 2) rfl)) (hw _ (List.mem_of_getElem? (i := 3) rfl)) (by decide) pd_9 rfl rfl (Nat.le_of_ble_eq_true rfl) (hb hby at_116) (backOf (W := 1) (met_vi l Z a0 hw [] n0 ya _ O Cc) hZ (hw _ (List.mem_of_getElem? (i := 3) rfl)) (hw _ (List.mem_of_getElem? (i := 2) rfl)) (by decide) (by decide)) (by decide) (by decide) ?_
        intro v T h19 L hT hQ X
        obtain ⟨iq, rfl, N0, Ex0, E_iq, F_iq⟩ := hQ
        have N := Fr.app N N0
        have KB := (Keep.refl h18 []).ext Ex0
        have O := O.keep KB all0
        have E_r := E_r.keep KB
        have F_r := F_r.keep KB nin0
        have A_z := A_z.keep KB
        have A_x := A_x.keep KB
        have Ls0 := Ls0.ext (keepE KB)
        have A_s := A_s.keep KB
        have F_s1 := F_s1.keep KB nin0
        have F_s2 := F_s2.keep KB nin0
        have F_s3 := F_s3.keep KB nin0
        have G1 := own_fnE G1 (keepE KB)
        have G2 := G2.ext (keepE KB)
        show Go p e below _ (T.setTop (mkF m 119 #[.val (.int yv), .val (.int ya), .val (.int yb), .val (.int ys), .val (.ref r), .val (.ref x), .val (.ref z), .val (.int (ys &&& (3 : Int32))), .val (.ref sp), .val (.ref el), .val (.int (1 : Int32)), .unset, .unset, .unset] [(.ref iq), (.ref se)]))
        refine Go.test (rest := []) X hx hZH hw hown (hml.trans rfl) hT M1 G1 (hb hby at_119) (by decide) (Nat.le_of_ble_eq_true rfl) (by decide) (by decide) ?_
        intro T hT X
        show Go p e below _ (T.setTop (mkF m 124 #[.val (.int yv), .val (.int ya), .val (.int yb), .val (.int ys), .val (.ref r), .val (.ref x), .val (.ref z), .val (.int (ys &&& (3 : Int32))), .val (.ref sp), .val (.ref el), .val (.int (1 : Int32)), .unset, .unset, .unset] [(.int (0 : Int32))]))
        refine Go.st (fun _ k => XS.ifNo X.here hx rfl (hb hby at_124) rfl (Jvm.Free.XT.i0_ne_f (by decide : (0 : Int32) = (0 : Int32))) k) ?_
        show Go p e below _ (T.setTop (mkF m 127 #[.val (.int yv), .val (.int ya), .val (.int yb), .val (.int ys), .val (.ref r), .val (.ref x), .val (.ref z), .val (.int (ys &&& (3 : Int32))), .val (.ref sp), .val (.ref el), .val (.int (1 : Int32)), .unset, .unset, .unset] []))
        refine Go.st (fun _ k => XS.aload X.here hx rfl (hb hby at_127) rfl rfl k) ?_
        show Go p e below _ (T.setTop (mkF m 129 #[.val (.int yv), .val (.int ya), .val (.int yb), .val (.int ys), .val (.ref r), .val (.ref x), .val (.ref z), .val (.int (ys &&& (3 : Int32))), .val (.ref sp), .val (.ref el), .val (.int (1 : Int32)), .unset, .unset, .unset] [(.ref sp)]))
        refine Go.virtV (K := "com/example/pocket_context/pocketcontext/internal/Walk$Step") (z := (⟨"com/example/pocket_context/pocketcontext/internal/Walk$Step", "settles", "()Ljava/util/function/Predicate;"⟩ : MethodName)) (argsL := []) (rest := []) (W := 0) (w := (.ref se)) X hx hZ hown (hml.trans rfl) hT A_s (hw _ (List.mem_of_getElem? (i := 117) rfl)) (hw _ (List.mem_of_getElem? (i := 118) rfl)) (hw _ (List.mem_of_getElem? (i := 120) rfl)) (hw _ (List.mem_of_getElem? (i := 119) rfl)) (by decide) pd_12 rfl rfl (Nat.le_of_ble_eq_true rfl) (hb hby at_129) (notFace_of_selects (args := #[]) (mvT hZ (hw _ (List.mem_of_getElem? (i := 120) rfl)))) (backOf (W := 0) (met_g_settles l Z a0 hw [] sp se _ F_s2) hZ (hw _ (List.mem_of_getElem? (i := 121) rfl)) (hw _ (List.mem_of_getElem? (i := 66) rfl)) (by decide) (by decide)) (by decide) (by decide) ?_
        intro T hT X
        show Go p e below _ (T.setTop (mkF m 132 #[.val (.int yv), .val (.int ya), .val (.int yb), .val (.int ys), .val (.ref r), .val (.ref x), .val (.ref z), .val (.int (ys &&& (3 : Int32))), .val (.ref sp), .val (.ref el), .val (.int (1 : Int32)), .unset, .unset, .unset] [(.ref se)]))
        refine Go.st (fun _ k => XS.aload X.here hx rfl (hb hby at_132) rfl rfl k) ?_
        show Go p e below _ (T.setTop (mkF m 134 #[.val (.int yv), .val (.int ya), .val (.int yb), .val (.int ys), .val (.ref r), .val (.ref x), .val (.ref z), .val (.int (ys &&& (3 : Int32))), .val (.ref sp), .val (.ref el), .val (.int (1 : Int32)), .unset, .unset, .unset] [(.ref r), (.ref se)]))
        refine Go.test (rest := []) X hx hZH hw hown (hml.trans rfl) hT M1 G1 (hb hby at_134) (by decide) (Nat.le_of_ble_eq_true rfl) (by decide) (by decide) ?_
        intro T hT X
        show Go p e below _ (T.setTop (mkF m 139 #[.val (.int yv), .val (.int ya), .val (.int yb), .val (.int ys), .val (.ref r), .val (.ref x), .val (.ref z), .val (.int (ys &&& (3 : Int32))), .val (.ref sp), .val (.ref el), .val (.int (1 : Int32)), .unset, .unset, .unset] [(.int (0 : Int32))]))
        refine Go.st (fun _ k => XS.ifNo X.here hx rfl (hb hby at_139) rfl (Jvm.Free.XT.i0_ne_f (by decide : (0 : Int32) = (0 : Int32))) k) ?_
        show Go p e below _ (T.setTop (mkF m 142 #[.val (.int yv), .val (.int ya), .val (.int yb), .val (.int ys), .val (.ref r), .val (.ref x), .val (.ref z), .val (.int (ys &&& (3 : Int32))), .val (.ref sp), .val (.ref el), .val (.int (1 : Int32)), .unset, .unset, .unset] []))
        refine Go.st (fun _ k => XS.iconst X.here hx rfl (hb hby at_142) k) ?_
        show Go p e below _ (T.setTop (mkF m 143 #[.val (.int yv), .val (.int ya), .val (.int yb), .val (.int ys), .val (.ref r), .val (.ref x), .val (.ref z), .val (.int (ys &&& (3 : Int32))), .val (.ref sp), .val (.ref el), .val (.int (1 : Int32)), .unset, .unset, .unset] [(.int (1 : Int32))]))
        refine Go.st (fun _ k => XS.goto X.here hx rfl (pc0 := 143) (pc' := 147) rfl (hb hby at_143) (by decide) (by decide) k) ?_
        show Go p e below _ (T.setTop (mkF m 147 #[.val (.int yv), .val (.int ya), .val (.int yb), .val (.int ys), .val (.ref r), .val (.ref x), .val (.ref z), .val (.int (ys &&& (3 : Int32))), .val (.ref sp), .val (.ref el), .val (.int (1 : Int32)), .unset, .unset, .unset] [(.int (1 : Int32))]))
        refine Go.st (fun _ k => XS.istore X.here hx rfl (hb hby at_147) rfl (l' := #[.val (.int yv), .val (.int ya), .val (.int yb), .val (.int ys), .val (.ref r), .val (.ref x), .val (.ref z), .val (.int (ys &&& (3 : Int32))), .val (.ref sp), .val (.ref el), .val (.int (1 : Int32)), .val (.int (1 : Int32)), .unset, .unset]) rfl k) ?_
        show Go p e below _ (T.setTop (mkF m 149 #[.val (.int yv), .val (.int ya), .val (.int yb), .val (.int ys), .val (.ref r), .val (.ref x), .val (.ref z), .val (.int (ys &&& (3 : Int32))), .val (.ref sp), .val (.ref el), .val (.int (1 : Int32)), .val (.int (1 : Int32)), .unset, .unset] []))
        refine Go.st (fun _ k => XS.aload X.here hx rfl (hb hby at_149) rfl rfl k) ?_
        show Go p e below _ (T.setTop (mkF m 151 #[.val (.int yv), .val (.int ya), .val (.int yb), .val (.int ys), .val (.ref r), .val (.ref x), .val (.ref z), .val (.int (ys &&& (3 : Int32))), .val (.ref sp), .val (.ref el), .val (.int (1 : Int32)), .val (.int (1 : Int32)), .unset, .unset] [(.ref sp)]))
        refine Go.virtV (K := "com/example/pocket_context/pocketcontext/internal/Walk$Step") (z := (⟨"com/example/pocket_context/pocketcontext/internal/Walk$Step", "result", "()Ljava/util/function/Function;"⟩ : MethodName)) (argsL := []) (rest := []) (W := 0) (w := (.ref re)) X hx hZ hown (hml.trans rfl) hT A_s (hw _ (List.mem_of_getElem? (i := 127) rfl)) (hw _ (List.mem_of_getElem? (i := 128) rfl)) (hw _ (List.mem_of_getElem? (i := 130) rfl)) (hw _ (List.mem_of_getElem? (i := 129) rfl)) (by decide) pd_13 rfl rfl (Nat.le_of_ble_eq_true rfl) (hb hby at_151) (notFace_of_selects (args := #[]) (mvT hZ (hw _ (List.mem_of_getElem? (i := 130) rfl)))) (backOf (W := 0) (met_g_result l Z a0 hw [] sp re _ F_s3) hZ (hw _ (List.mem_of_getElem? (i := 131) rfl)) (hw _ (List.mem_of_getElem? (i := 66) rfl)) (by decide) (by decide)) (by decide) (by decide) ?_
        intro T hT X
        show Go p e below _ (T.setTop (mkF m 154 #[.val (.int yv), .val (.int ya), .val (.int yb), .val (.int ys), .val (.ref r), .val (.ref x), .val (.ref z), .val (.int (ys &&& (3 : Int32))), .val (.ref sp), .val (.ref el), .val (.int (1 : Int32)), .val (.int (1 : Int32)), .unset, .unset] [(.ref re)]))
        refine Go.st (fun _ k => XS.aload X.here hx rfl (hb hby at_154) rfl rfl k) ?_
        show Go p e below _ (T.setTop (mkF m 156 #[.val (.int yv), .val (.int ya), .val (.int yb), .val (.int ys), .val (.ref r), .val (.ref x), .val (.ref z), .val (.int (ys &&& (3 : Int32))), .val (.ref sp), .val (.ref el), .val (.int (1 : Int32)), .val (.int (1 : Int32)), .unset, .unset] [(.ref x), (.ref re)]))
        refine Go.apply (rest := []) X hx hZH hw hown (hml.trans rfl) hT M2 G2 A_x (hb hby at_156) (by decide) (Nat.le_of_ble_eq_true rfl) (by decide) (by decide) ?_
        intro T hT X
        show Go p e below _ (T.setTop (mkF m 161 #[.val (.int yv), .val (.int ya), .val (.int yb), .val (.int ys), .val (.ref r), .val (.ref x), .val (.ref z), .val (.int (ys &&& (3 : Int32))), .val (.ref sp), .val (.ref el), .val (.int (1 : Int32)), .val (.int (1 : Int32)), .unset, .unset] [(.ref r)]))
        obtain ⟨T, X, hT, st⟩ := castY X hx hZ hown (hw _ (List.mem_of_getElem? (i := 138) rfl)) hT (Ins.self E_r) (g := (mkF m 161 #[.val (.int yv), .val (.int ya), .val (.int yb), .val (.int ys), .val (.ref r), .val (.ref x), .val (.ref z), .val (.int (ys &&& (3 : Int32))), .val (.ref sp), .val (.ref el), .val (.int (1 : Int32)), .val (.int (1 : Int32)), .unset, .unset] [(.ref r)])) rfl rfl (hb hby at_161)
        refine Go.st st ?_
        show Go p e below _ (T.setTop (mkF m 164 #[.val (.int yv), .val (.int ya), .val (.int yb), .val (.int ys), .val (.ref r), .val (.ref x), .val (.ref z), .val (.int (ys &&& (3 : Int32))), .val (.ref sp), .val (.ref el), .val (.int (1 : Int32)), .val (.int (1 : Int32)), .unset, .unset] [(.ref r)]))
        refine Go.st (fun _ k => XS.astore X.here hx rfl (hb hby at_164) rfl rfl (l' := #[.val (.int yv), .val (.int ya), .val (.int yb), .val (.int ys), .val (.ref r), .val (.ref x), .val (.ref z), .val (.int (ys &&& (3 : Int32))), .val (.ref sp), .val (.ref el), .val (.int (1 : Int32)), .val (.int (1 : Int32)), .val (.ref r), .unset]) rfl k) ?_
        show Go p e below _ (T.setTop (mkF m 166 #[.val (.int yv), .val (.int ya), .val (.int yb), .val (.int ys), .val (.ref r), .val (.ref x), .val (.ref z), .val (.int (ys &&& (3 : Int32))), .val (.ref sp), .val (.ref el), .val (.int (1 : Int32)), .val (.int (1 : Int32)), .val (.ref r), .unset] []))
        refine Go.st (fun _ k => XS.aload X.here hx rfl (hb hby at_166) rfl rfl k) ?_
        show Go p e below _ (T.setTop (mkF m 168 #[.val (.int yv), .val (.int ya), .val (.int yb), .val (.int ys), .val (.ref r), .val (.ref x), .val (.ref z), .val (.int (ys &&& (3 : Int32))), .val (.ref sp), .val (.ref el), .val (.int (1 : Int32)), .val (.int (1 : Int32)), .val (.ref r), .unset] [(.ref sp)]))
        refine Go.virtV (K := "com/example/pocket_context/pocketcontext/internal/Walk$Step") (z := (⟨"com/example/pocket_context/pocketcontext/internal/Walk$Step", "result", "()Ljava/util/function/Function;"⟩ : MethodName)) (argsL := []) (rest := []) (W := 0) (w := (.ref re)) X hx hZ hown (hml.trans rfl) hT A_s (hw _ (List.mem_of_getElem? (i := 127) rfl)) (hw _ (List.mem_of_getElem? (i := 128) rfl)) (hw _ (List.mem_of_getElem? (i := 130) rfl)) (hw _ (List.mem_of_getElem? (i := 129) rfl)) (by decide) pd_13 rfl rfl (Nat.le_of_ble_eq_true rfl) (hb hby at_168) (notFace_of_selects (args := #[]) (mvT hZ (hw _ (List.mem_of_getElem? (i := 130) rfl)))) (backOf (W := 0) (met_g_result l Z a0 hw [] sp re _ F_s3) hZ (hw _ (List.mem_of_getElem? (i := 131) rfl)) (hw _ (List.mem_of_getElem? (i := 66) rfl)) (by decide) (by decide)) (by decide) (by decide) ?_
        intro T hT X
        show Go p e below _ (T.setTop (mkF m 171 #[.val (.int yv), .val (.int ya), .val (.int yb), .val (.int ys), .val (.ref r), .val (.ref x), .val (.ref z), .val (.int (ys &&& (3 : Int32))), .val (.ref sp), .val (.ref el), .val (.int (1 : Int32)), .val (.int (1 : Int32)), .val (.ref r), .unset] [(.ref re)]))
        refine Go.st (fun _ k => XS.aload X.here hx rfl (hb hby at_171) rfl rfl k) ?_
        show Go p e below _ (T.setTop (mkF m 173 #[.val (.int yv), .val (.int ya), .val (.int yb), .val (.int ys), .val (.ref r), .val (.ref x), .val (.ref z), .val (.int (ys &&& (3 : Int32))), .val (.ref sp), .val (.ref el), .val (.int (1 : Int32)), .val (.int (1 : Int32)), .val (.ref r), .unset] [(.ref z), (.ref re)]))
        refine Go.apply (rest := []) X hx hZH hw hown (hml.trans rfl) hT M2 G2 A_z (hb hby at_173) (by decide) (Nat.le_of_ble_eq_true rfl) (by decide) (by decide) ?_
        intro T hT X
        show Go p e below _ (T.setTop (mkF m 178 #[.val (.int yv), .val (.int ya), .val (.int yb), .val (.int ys), .val (.ref r), .val (.ref x), .val (.ref z), .val (.int (ys &&& (3 : Int32))), .val (.ref sp), .val (.ref el), .val (.int (1 : Int32)), .val (.int (1 : Int32)), .val (.ref r), .unset] [(.ref r)]))
        obtain ⟨T, X, hT, st⟩ := castY X hx hZ hown (hw _ (List.mem_of_getElem? (i := 138) rfl)) hT (Ins.self E_r) (g := (mkF m 178 #[.val (.int yv), .val (.int ya), .val (.int yb), .val (.int ys), .val (.ref r), .val (.ref x), .val (.ref z), .val (.int (ys &&& (3 : Int32))), .val (.ref sp), .val (.ref el), .val (.int (1 : Int32)), .val (.int (1 : Int32)), .val (.ref r), .unset] [(.ref r)])) rfl rfl (hb hby at_178)
        refine Go.st st ?_
        show Go p e below _ (T.setTop (mkF m 181 #[.val (.int yv), .val (.int ya), .val (.int yb), .val (.int ys), .val (.ref r), .val (.ref x), .val (.ref z), .val (.int (ys &&& (3 : Int32))), .val (.ref sp), .val (.ref el), .val (.int (1 : Int32)), .val (.int (1 : Int32)), .val (.ref r), .unset] [(.ref r)]))
        refine Go.st (fun _ k => XS.astore X.here hx rfl (hb hby at_181) rfl rfl (l' := #[.val (.int yv), .val (.int ya), .val (.int yb), .val (.int ys), .val (.ref r), .val (.ref x), .val (.ref z), .val (.int (ys &&& (3 : Int32))), .val (.ref sp), .val (.ref el), .val (.int (1 : Int32)), .val (.int (1 : Int32)), .val (.ref r), .val (.ref r)]) rfl k) ?_
        show Go p e below _ (T.setTop (mkF m 183 #[.val (.int yv), .val (.int ya), .val (.int yb), .val (.int ys), .val (.ref r), .val (.ref x), .val (.ref z), .val (.int (ys &&& (3 : Int32))), .val (.ref sp), .val (.ref el), .val (.int (1 : Int32)), .val (.int (1 : Int32)), .val (.ref r), .val (.ref r)] []))
        refine Go.st (fun _ k => XS.iload X.here hx rfl (hb hby at_183) rfl k) ?_
        show Go p e below _ (T.setTop (mkF m 185 #[.val (.int yv), .val (.int ya), .val (.int yb), .val (.int ys), .val (.ref r), .val (.ref x), .val (.ref z), .val (.int (ys &&& (3 : Int32))), .val (.ref sp), .val (.ref el), .val (.int (1 : Int32)), .val (.int (1 : Int32)), .val (.ref r), .val (.ref r)] [(.int (1 : Int32))]))
        refine Go.st (fun _ k => XS.ifNo X.here hx rfl (hb hby at_185) rfl (Jvm.Free.XT.i0_eq_f (by decide : ¬ ((1 : Int32) = (0 : Int32)))) k) ?_
        show Go p e below _ (T.setTop (mkF m 188 #[.val (.int yv), .val (.int ya), .val (.int yb), .val (.int ys), .val (.ref r), .val (.ref x), .val (.ref z), .val (.int (ys &&& (3 : Int32))), .val (.ref sp), .val (.ref el), .val (.int (1 : Int32)), .val (.int (1 : Int32)), .val (.ref r), .val (.ref r)] []))
        refine Go.st (fun _ k => XS.iload X.here hx rfl (hb hby at_188) rfl k) ?_
        show Go p e below _ (T.setTop (mkF m 190 #[.val (.int yv), .val (.int ya), .val (.int yb), .val (.int ys), .val (.ref r), .val (.ref x), .val (.ref z), .val (.int (ys &&& (3 : Int32))), .val (.ref sp), .val (.ref el), .val (.int (1 : Int32)), .val (.int (1 : Int32)), .val (.ref r), .val (.ref r)] [(.int (1 : Int32))]))
        refine Go.st (fun _ k => XS.ifNo X.here hx rfl (hb hby at_190) rfl (Jvm.Free.XT.i0_eq_f (by decide : ¬ ((1 : Int32) = (0 : Int32)))) k) ?_
        show Go p e below _ (T.setTop (mkF m 193 #[.val (.int yv), .val (.int ya), .val (.int yb), .val (.int ys), .val (.ref r), .val (.ref x), .val (.ref z), .val (.int (ys &&& (3 : Int32))), .val (.ref sp), .val (.ref el), .val (.int (1 : Int32)), .val (.int (1 : Int32)), .val (.ref r), .val (.ref r)] []))
        refine Go.st (fun _ k => XS.aload X.here hx rfl (hb hby at_193) rfl rfl k) ?_
        show Go p e below _ (T.setTop (mkF m 195 #[.val (.int yv), .val (.int ya), .val (.int yb), .val (.int ys), .val (.ref r), .val (.ref x), .val (.ref z), .val (.int (ys &&& (3 : Int32))), .val (.ref sp), .val (.ref el), .val (.int (1 : Int32)), .val (.int (1 : Int32)), .val (.ref r), .val (.ref r)] [(.ref r)]))
        refine Go.st (fun _ k => XS.aload X.here hx rfl (hb hby at_195) rfl rfl k) ?_
        show Go p e below _ (T.setTop (mkF m 197 #[.val (.int yv), .val (.int ya), .val (.int yb), .val (.int ys), .val (.ref r), .val (.ref x), .val (.ref z), .val (.int (ys &&& (3 : Int32))), .val (.ref sp), .val (.ref el), .val (.int (1 : Int32)), .val (.int (1 : Int32)), .val (.ref r), .val (.ref r)] [(.ref r), (.ref r)]))
        refine Go.st (fun _ k => acmp X hx rfl (cd := .ne) rfl rfl (pc0 := 197) (pc' := 200) (same := true) rfl (hb hby at_197) rfl (decide_eq_true rfl) (by decide) (by decide) k) ?_
        show Go p e below _ (T.setTop (mkF m 200 #[.val (.int yv), .val (.int ya), .val (.int yb), .val (.int ys), .val (.ref r), .val (.ref x), .val (.ref z), .val (.int (ys &&& (3 : Int32))), .val (.ref sp), .val (.ref el), .val (.int (1 : Int32)), .val (.int (1 : Int32)), .val (.ref r), .val (.ref r)] []))
        refine Go.st (fun _ k => XS.aload X.here hx rfl (hb hby at_200) rfl rfl k) ?_
        show Go p e below _ (T.setTop (mkF m 202 #[.val (.int yv), .val (.int ya), .val (.int yb), .val (.int ys), .val (.ref r), .val (.ref x), .val (.ref z), .val (.int (ys &&& (3 : Int32))), .val (.ref sp), .val (.ref el), .val (.int (1 : Int32)), .val (.int (1 : Int32)), .val (.ref r), .val (.ref r)] [(.ref r)]))
        refine Go.st (fun _ k => XS.aload X.here hx rfl (hb hby at_202) rfl rfl k) ?_
        show Go p e below _ (T.setTop (mkF m 204 #[.val (.int yv), .val (.int ya), .val (.int yb), .val (.int ys), .val (.ref r), .val (.ref x), .val (.ref z), .val (.int (ys &&& (3 : Int32))), .val (.ref sp), .val (.ref el), .val (.int (1 : Int32)), .val (.int (1 : Int32)), .val (.ref r), .val (.ref r)] [(.ref r), (.ref r)]))
        refine Go.st (fun _ k => acmp X hx rfl (cd := .ne) rfl rfl (pc0 := 204) (pc' := 207) (same := true) rfl (hb hby at_204) rfl (decide_eq_true rfl) (by decide) (by decide) k) ?_
        show Go p e below _ (T.setTop (mkF m 207 #[.val (.int yv), .val (.int ya), .val (.int yb), .val (.int ys), .val (.ref r), .val (.ref x), .val (.ref z), .val (.int (ys &&& (3 : Int32))), .val (.ref sp), .val (.ref el), .val (.int (1 : Int32)), .val (.int (1 : Int32)), .val (.ref r), .val (.ref r)] []))
        refine Go.st (fun _ k => XS.aload X.here hx rfl (hb hby at_207) rfl rfl k) ?_
        show Go p e below _ (T.setTop (mkF m 209 #[.val (.int yv), .val (.int ya), .val (.int yb), .val (.int ys), .val (.ref r), .val (.ref x), .val (.ref z), .val (.int (ys &&& (3 : Int32))), .val (.ref sp), .val (.ref el), .val (.int (1 : Int32)), .val (.int (1 : Int32)), .val (.ref r), .val (.ref r)] [(.ref r)]))
        refine Go.virtV (K := "java/lang/Integer") (z := (⟨"java/lang/Integer", "intValue", "()I"⟩ : MethodName)) (argsL := []) (rest := []) (W := 0) (w := (.int yv)) X hx hZ hown (hml.trans rfl) hT E_r (hw _ (List.mem_of_getElem? (i := 140) rfl)) (hw _ (List.mem_of_getElem? (i := 141) rfl)) (hw _ (List.mem_of_getElem? (i := 143) rfl)) (hw _ (List.mem_of_getElem? (i := 142) rfl)) (by decide) pd_11 rfl rfl (Nat.le_of_ble_eq_true rfl) (hb hby at_209) (notFace_of_selects (args := #[]) (mvT hZ (hw _ (List.mem_of_getElem? (i := 143) rfl)))) (backOf (W := 0) (met_iv l Z a0 hw [] r yv _ F_r) hZ (hw _ (List.mem_of_getElem? (i := 144) rfl)) (hw _ (List.mem_of_getElem? (i := 2) rfl)) (by decide) (by decide)) (by decide) (by decide) ?_
        intro T hT X
        show Go p e below _ (T.setTop (mkF m 212 #[.val (.int yv), .val (.int ya), .val (.int yb), .val (.int ys), .val (.ref r), .val (.ref x), .val (.ref z), .val (.int (ys &&& (3 : Int32))), .val (.ref sp), .val (.ref el), .val (.int (1 : Int32)), .val (.int (1 : Int32)), .val (.ref r), .val (.ref r)] [(.int yv)]))
        refine Go.st (fun _ k => XS.iloadN X.here hx rfl (hb hby at_212) rfl k) ?_
        show Go p e below _ (T.setTop (mkF m 213 #[.val (.int yv), .val (.int ya), .val (.int yb), .val (.int ys), .val (.ref r), .val (.ref x), .val (.ref z), .val (.int (ys &&& (3 : Int32))), .val (.ref sp), .val (.ref el), .val (.int (1 : Int32)), .val (.int (1 : Int32)), .val (.ref r), .val (.ref r)] [(.int yv), (.int yv)]))
        refine Go.st (fun _ k => XS.icmpNo X.here hx rfl (hb hby at_213) rfl (Jvm.Free.XT.ii_ne_f (rfl : yv = yv)) k) ?_
        show Go p e below _ (T.setTop (mkF m 216 #[.val (.int yv), .val (.int ya), .val (.int yb), .val (.int ys), .val (.ref r), .val (.ref x), .val (.ref z), .val (.int (ys &&& (3 : Int32))), .val (.ref sp), .val (.ref el), .val (.int (1 : Int32)), .val (.int (1 : Int32)), .val (.ref r), .val (.ref r)] []))
        refine Go.st (fun _ k => XS.iconst X.here hx rfl (hb hby at_216) k) ?_
        show Go p e below _ (T.setTop (mkF m 217 #[.val (.int yv), .val (.int ya), .val (.int yb), .val (.int ys), .val (.ref r), .val (.ref x), .val (.ref z), .val (.int (ys &&& (3 : Int32))), .val (.ref sp), .val (.ref el), .val (.int (1 : Int32)), .val (.int (1 : Int32)), .val (.ref r), .val (.ref r)] [(.int (1 : Int32))]))
        refine Go.st (fun _ k => XS.goto X.here hx rfl (pc0 := 217) (pc' := 221) rfl (hb hby at_217) (by decide) (by decide) k) ?_
        show Go p e below _ (T.setTop (mkF m 221 #[.val (.int yv), .val (.int ya), .val (.int yb), .val (.int ys), .val (.ref r), .val (.ref x), .val (.ref z), .val (.int (ys &&& (3 : Int32))), .val (.ref sp), .val (.ref el), .val (.int (1 : Int32)), .val (.int (1 : Int32)), .val (.ref r), .val (.ref r)] [(.int (1 : Int32))]))
        refine Go.ret X hx hlk hT hret (by decide) (riI (by simp)) (hb hby at_221) (by decide) (by decide) ?_
        exact ⟨rfl, N⟩
set_option maxRecDepth 65536 in
set_option maxHeartbeats 40000000 in
theorem comes_1 {Post : Tables → Env → Array Value → State → Outcome → State → Prop} (hpost : ∀ tb e args s v u, (limb_1_1.after args s (.returned v) u = true ∧ limb_1_2.after args s (.returned v) u = true) → FrameEnd s (.returned v) u (Jvm.fieldLocs frame_1_writes args s ++ Jvm.arrayLocs frame_1_arrays args s ++ Jvm.staticLocs frame_1_statics s) 32 128 → Post tb e args s (.returned v) u) :
    ArmFor flags0 classFile x code maxLocals ret World_1 tables_1 room_1 Calls_1 rest_1 Pre_1 Post := by
  intro l hfl _ _ p e ha hc hk s m args below hf hA hF happ hP
  obtain ⟨hcalls, hrest, hpre⟩ := hP
  obtain ⟨-, -, -, hnamed, -, -, -, hat⟩ := (Spec.applies_iff hf).mp happ
  obtain ⟨hg, hn⟩ := and_e (Cond.before_iff.mp (show (Jvm.Cond.and given_1 narrow_1).before args s = true from hpre))
  obtain ⟨hcnt, hg⟩ := and_e hg
  obtain ⟨ha0, hg⟩ := and_e hg
  obtain ⟨ha1, hg⟩ := and_e hg
  obtain ⟨ha2, hg⟩ := and_e hg
  have ha3 := hg
  obtain ⟨w0, w1, w2, w3, rfl⟩ : ∃ w0 w1 w2 w3 : Value, args = #[w0, w1, w2, w3] := by
    have hs : args.size = 4 := by simpa [Cond.value, given_1] using hcnt
    obtain ⟨L⟩ := args
    match L, hs with
    | [w0, w1, w2, w3], _ => exact ⟨w0, w1, w2, w3, rfl⟩
  have hw := fun d (hd : d ∈ tables_1) => atoms_spec (ws := Jvm.Cond.code x code maxLocals ret :: tables_1) hat d (List.mem_cons_of_mem _ hd)
  obtain ⟨hsets, hown0⟩ := atoms_of _ (rest_1_c_eq ▸ (show rest_1_c.before _ s = true from hrest))
  obtain ⟨i0, e0⟩ := is_v ha0
  obtain rfl : w0 = (.int i0) := Option.some.inj e0
  obtain ⟨i1, e1⟩ := is_v ha1
  obtain rfl : w1 = (.int i1) := Option.some.inj e1
  obtain ⟨i2, e2⟩ := is_v ha2
  obtain rfl : w2 = (.int i2) := Option.some.inj e2
  obtain ⟨i3, e3⟩ := is_v ha3
  obtain rfl : w3 = (.int i3) := Option.some.inj e3
  have hfit : Fit s := fun {y c} hc i hi => by
    obtain ⟨ha, rfl⟩ := Array.getElem?_eq_some_iff.mp hc
    have q := List.all_eq_true.mp ((Array.all_eq_true_iff_forall_mem.mp hF) _ (Array.getElem_mem ha)) i (List.mem_range.mpr hi)
    simpa [Array.getElem?_eq_getElem hi] using q
  have vh := eqv_i (Term.int_eval (127)) (Cond.before_iff.mp (hsets _ (List.mem_of_getElem? (i := 3) rfl)))
  have Sh : Sta s s.heap "java/lang/Integer$IntegerCache" "high" "I" (.int 127) := Sta.start vh (Or.inl (hsets _ (List.mem_of_getElem? (i := 1) rfl)))
  obtain ⟨av, va⟩ := arr_v (Cond.before_iff.mp (hsets _ (List.mem_of_getElem? (i := 4) rfl)))
  obtain ⟨cl, Aa⟩ := Arr.start va (Cond.before_iff.mp (hsets _ (List.mem_of_getElem? (i := 4) rfl)))
  have Sa : Sta s s.heap "java/lang/Integer$IntegerCache" "cache" "[Ljava/lang/Integer;" (.ref av) := Sta.start va (Or.inr ⟨(hw _ (List.mem_of_getElem? (i := 5) rfl)), (hsets _ (List.mem_of_getElem? (i := 2) rfl))⟩)
  have La := own_len31 va (Arr.fin (Vm.Alike.refl _) Aa) (eqv_i (Term.int_eval (256)) (Cond.before_iff.mp (hsets _ (List.mem_of_getElem? (i := 6) rfl))))
  have Bx : Bxs s av cl "java/lang/Integer" "I" (256 : Int32) (fun j => .int (j - 128)) := Bxs.start (fun _ => va) Aa La.1 La.2 (by decide) (Cond.before_iff.mp (hsets _ (List.mem_of_getElem? (i := 7) rfl))) (fun X j hj q => eqv_i (Term.sub_int (idx_at hj) (Term.int_eval (128))) q)
  have Cc : Cch s av cl := ⟨Sh, Sa, Bx⟩
  obtain ⟨dv, vd⟩ := arr_v (Cond.before_iff.mp (hsets _ (List.mem_of_getElem? (i := 14) rfl)))
  obtain ⟨cd, Ad⟩ := Arr.start vd (Cond.before_iff.mp (hsets _ (List.mem_of_getElem? (i := 14) rfl)))
  have Sd : Sta s s.heap "java/util/ArrayList" "DEFAULTCAPACITY_EMPTY_ELEMENTDATA" "[Ljava/lang/Object;" (.ref dv) := Sta.start vd (Or.inr ⟨(hw _ (List.mem_of_getElem? (i := 9) rfl)), (hsets _ (List.mem_of_getElem? (i := 10) rfl))⟩)
  have Ld := own_len31 vd (Arr.fin (Vm.Alike.refl _) Ad) (eqv_i (Term.int_eval (0)) (Cond.before_iff.mp (hsets _ (List.mem_of_getElem? (i := 16) rfl))))
  have Vd : Arv s s.heap dv cd.cls (.object "java/lang/Object") (0 : Int32) [] .null := Arv.start hfit Ad Ld.1 Ld.2 (by decide) rfl trivial
  obtain ⟨el, ve⟩ := exa_v (Cond.before_iff.mp (hsets _ (List.mem_of_getElem? (i := 19) rfl)))
  have Se : Sta s s.heap "java/util/ImmutableCollections" "EMPTY_LIST" "Ljava/util/ImmutableCollections$ListN;" (.ref el) := Sta.start ve (Or.inl (hsets _ (List.mem_of_getElem? (i := 18) rfl)))
  have Ee : Exa s s.heap el "java/util/ImmutableCollections$ListN" := Exa.start ve (Cond.before_iff.mp (hsets _ (List.mem_of_getElem? (i := 19) rfl)))
  obtain ⟨ea, vf⟩ := arr_v (Cond.before_iff.mp (hsets _ (List.mem_of_getElem? (i := 20) rfl)))
  obtain ⟨ce, Ae⟩ := Arr.start vf (Cond.before_iff.mp (hsets _ (List.mem_of_getElem? (i := 20) rfl)))
  have Fe : Fld s s.heap el "java/util/ImmutableCollections$ListN" "elements" "[Ljava/lang/Object;" (.ref ea) := Fld.start ((fld_at ve).symm.trans vf)
  have Le := own_len31 vf (Arr.fin (Vm.Alike.refl _) Ae) (eqv_i (Term.int_eval (0)) (Cond.before_iff.mp (hsets _ (List.mem_of_getElem? (i := 22) rfl))))
  have Ve : Arv s s.heap ea ce.cls (.object "java/lang/Object") (0 : Int32) [] .null := Arv.start hfit Ae Le.1 Le.2 (by decide) rfl trivial
  obtain ⟨n, o, h1, h2, h3, _, L, rfl, ⟨rfl, N⟩, hq⟩ := met_law l s _ hw tables_1 i0 i1 i2 i3 s.heap.size s.heap (Old.start s) Cc Sd Vd Se Ee Fe Ve p e ha hc hk s m _ below hf ((Spec.applies_iff_loose hf).mp happ).1 ⟨rfl, State.WarmedH.refl s, rfl⟩ trivial
  refine ⟨n, _, h1, h2, h3, hpost _ _ _ _ _ _ ⟨Cond.after_iff.mpr rfl, Cond.after_iff.mpr (eq_i res_at (Term.int_eval (1)) rfl)⟩ ⟨hq.1, hq.2.1, (hq.2.2.sift fun y hy => Or.inr (N y hy)).mono (by decide) (by decide)⟩⟩
theorem main_1_1 : Claimed_1_1 := comes_1 fun _ _ _ _ _ _ h hF => ⟨h.1, LamKit.wideOf hF⟩
theorem main_1_2 : Claimed_1_2 := comes_1 fun _ _ _ _ _ _ h hF => ⟨h.2, LamKit.wideOf hF⟩
end Jvm.Pilot.@@N@@
namespace Jvm.Pilot.@@N@@
open Jvm Jvm.ClassFile Sem Op Lib Jvm.Free Jvm.Stand Jvm.Pilot.@@N@@.Jvm.D
/-! MADE BY PROGRAM (witnessworld.py) out of the Statement's table words and the real class files: 33 classes; the members and pool entries that the words name. The judged class is class 1, her method 1. -/
namespace start1
open Jvm.ClassFile
def u (s : String) : CpInfo := .utf8 (stringToUtf16 s)
/-- a pool by its gaps: so many unusable entries, then the entry; so many at the end -/
def gap : Nat → List CpInfo → List CpInfo
  | 0, r => r
  | n + 1, r => .unusable :: gap n r
def poolList (es : List (Nat × CpInfo)) (last : Nat) : List CpInfo := es.foldr (fun e r => gap e.1 (e.2 :: r)) (gap last [])
def pool (es : List (Nat × CpInfo)) (last : Nat) : Array CpInfo := ⟨poolList es last⟩
def fileOf (pool : Array CpInfo) (this : Nat) (attrs : Array Attribute := #[]) (ms : Array MethodInfo := #[]) (fl : Nat := 33) (sup : Nat := 0) (ifs : Array Nat := #[]) (fds : Array FieldInfo := #[]) : ClassFile where
  minorVersion := 0
  majorVersion := 65
  constantPool := pool
  accessFlags := fl
  thisClass := this
  superClass := sup
  interfaces := ifs
  fields := fds
  methods := ms
  attributes := attrs
def plain (name : String) (sup : Option ClassId) : Class where
  name := name
  kind := .ordinary
  loader := none
  accessFlags := 33
  super := sup
  interfaces := #[]
  cf := none
  fields := #[]
  methods := #[]
  instanceTypes := #[]
  staticTypes := #[]
  resolved := #[]
  callSites := []
  init := .initialized
  statics := none
  mirror := none

def pool0 : Array CpInfo := pool [(5, u "<init>"), (0, u "()V"), (1, .class_ 10), (1, u "java/lang/Object")] 113

def k0c0 : Code := { maxStack := 0, maxLocals := 1, code := object_method_1_code, exceptionTable := #[], attributes := #[] }
def k0m0 : Method := { name := "<init>", desc := "()V", sig := { parameters := [], returnType := none }, accessFlags := 1, code := some k0c0 }
/-- java/lang/Object -/
def k0 : Class := { plain "java/lang/Object" none with
  accessFlags := 33
  interfaces := #[]
  cf := some (fileOf pool0 8 #[] #[{ accessFlags := 1, nameIndex := 5, descriptorIndex := 6, attributes := #[] }] 33 0 #[] #[])
  fields := #[]
  methods := #[k0m0]
  instanceTypes := #[]
  staticTypes := #[]
  resolved := Array.replicate 124 none
  statics := none }

def pool1 : Array CpInfo := pool [(2, .class_ 4), (0, .nameAndType 5 6), (0, u "java/lang/Object"), (0, u "<init>"), (0, u "()V"), (0, .methodref 8 9), (0, .class_ 10), (0, .nameAndType 11 12), (0, u "java/lang/Integer"), (0, u "valueOf"), (0, u "(I)Ljava/lang/Integer;"), (0, .class_ 14), (0, u "java/util/ArrayList"), (0, .methodref 13 3), (0, .methodref 13 17), (0, .nameAndType 18 19), (0, u "add"), (0, u "(Ljava/lang/Object;)Z"), (0, .methodref 21 22), (0, .class_ 23), (0, .nameAndType 24 25), (0, u "com/example/pocket_context/pocketcontext/internal/Walk$Step"), (0, u "done"), (0, u "(Ljava/lang/Object;)Lcom/example/pocket_context/pocketcontext/internal/Walk$Step;"), (0, .methodref 21 27), (0, .nameAndType 28 29), (0, u "parts"), (0, u "()Ljava/util/List;"), (0, .interfaceMethodref 31 32), (0, .class_ 33), (0, .nameAndType 34 35), (0, u "java/util/List"), (0, u "size"), (0, u "()I"), (0, .methodref 21 37), (0, .nameAndType 38 39), (0, u "settles"), (0, u "()Ljava/util/function/Predicate;"), (0, .interfaceMethodref 41 42), (0, .class_ 43), (0, .nameAndType 44 19), (0, u "java/util/function/Predicate"), (0, u "test"), (0, .methodref 21 46), (0, .nameAndType 47 48), (0, u "result"), (0, u "()Ljava/util/function/Function;"), (0, .interfaceMethodref 50 51), (0, .class_ 52), (0, .nameAndType 53 54), (0, u "java/util/function/Function"), (0, u "apply"), (0, u "(Ljava/lang/Object;)Ljava/lang/Object;"), (0, .methodref 8 56), (0, .nameAndType 57 35), (0, u "intValue"), (0, .class_ 59), (0, u "com/example/pocket_context/pocketcontext/internal/StepDonePinLaw"), (2, u "law"), (0, u "(IIII)Z")] 7

def k1m0 : Method := { name := "<init>", desc := "()V", sig := { parameters := [], returnType := none }, accessFlags := 2, code := none }
def k1c1 : Code := { maxStack := 3, maxLocals := 14, code := code, exceptionTable := #[], attributes := #[] }
def k1m1 : Method := { name := "law", desc := "(IIII)Z", sig := { parameters := [.int, .int, .int, .int], returnType := some .boolean }, accessFlags := 9, code := some k1c1 }
/-- com/example/pocket_context/pocketcontext/internal/StepDonePinLaw -/
def k1 : Class := { plain "com/example/pocket_context/pocketcontext/internal/StepDonePinLaw" (some 0) with
  accessFlags := 49
  interfaces := #[]
  cf := some (fileOf pool1 58 #[] #[{ accessFlags := 2, nameIndex := 5, descriptorIndex := 6, attributes := #[] }, { accessFlags := 9, nameIndex := 62, descriptorIndex := 63, attributes := #[] }] 49 2 #[] #[])
  fields := #[]
  methods := #[k1m0, k1m1]
  instanceTypes := #[]
  staticTypes := #[]
  resolved := Array.replicate 71 none
  statics := none }

def pool2 : Array CpInfo := pool [(1, .class_ 2), (0, u "java/io/Serializable"), (0, .class_ 4), (0, u "java/lang/Object")] 2

/-- java/io/Serializable -/
def k2 : Class := { plain "java/io/Serializable" (some 0) with
  accessFlags := 1537
  interfaces := #[]
  cf := some (fileOf pool2 1 #[] #[] 1537 3 #[] #[])
  fields := #[]
  methods := #[]
  instanceTypes := #[]
  staticTypes := #[]
  resolved := Array.replicate 7 none
  statics := none }

def pool3 : Array CpInfo := pool [(1, .methodref 2 3), (0, .class_ 4), (0, .nameAndType 5 6), (0, u "java/lang/Object"), (0, u "<init>"), (0, u "()V"), (1, .class_ 10), (1, u "java/lang/Number"), (2, .class_ 14), (0, u "java/io/Serializable"), (0, u "serialVersionUID"), (0, u "J")] 20

def k3c0 : Code := { maxStack := 1, maxLocals := 1, code := jdk_18_method_1_code, exceptionTable := #[], attributes := #[] }
def k3m0 : Method := { name := "<init>", desc := "()V", sig := { parameters := [], returnType := none }, accessFlags := 1, code := some k3c0 }
/-- java/lang/Number -/
def k3 : Class := { plain "java/lang/Number" (some 0) with
  accessFlags := 1057
  interfaces := #[2]
  cf := some (fileOf pool3 8 #[] #[{ accessFlags := 1, nameIndex := 5, descriptorIndex := 6, attributes := #[] }] 1057 2 #[13] #[{ accessFlags := 26, nameIndex := 15, descriptorIndex := 16, attributes := #[] }])
  fields := #[{ name := "serialVersionUID", type := .long, accessFlags := 26, slot := 0, constantValue := 0 }]
  methods := #[k3m0]
  instanceTypes := #[]
  staticTypes := #[.long]
  resolved := Array.replicate 37 none
  statics := none }

def pool4 : Array CpInfo := pool [(1, .class_ 2), (0, u "java/lang/Comparable"), (0, .class_ 4), (0, u "java/lang/Object")] 7

/-- java/lang/Comparable -/
def k4 : Class := { plain "java/lang/Comparable" (some 0) with
  accessFlags := 1537
  interfaces := #[]
  cf := some (fileOf pool4 1 #[] #[] 1537 3 #[] #[])
  fields := #[]
  methods := #[]
  instanceTypes := #[]
  staticTypes := #[]
  resolved := Array.replicate 12 none
  statics := none }

def pool5 : Array CpInfo := pool [(1, .class_ 2), (0, u "java/lang/constant/Constable"), (0, .class_ 4), (0, u "java/lang/Object")] 6

/-- java/lang/constant/Constable -/
def k5 : Class := { plain "java/lang/constant/Constable" (some 0) with
  accessFlags := 1537
  interfaces := #[]
  cf := some (fileOf pool5 1 #[] #[] 1537 3 #[] #[])
  fields := #[]
  methods := #[]
  instanceTypes := #[]
  staticTypes := #[]
  resolved := Array.replicate 11 none
  statics := none }

def pool6 : Array CpInfo := pool [(1, .class_ 2), (0, u "java/lang/constant/ConstantDesc"), (0, .class_ 4), (0, u "java/lang/Object")] 32

/-- java/lang/constant/ConstantDesc -/
def k6 : Class := { plain "java/lang/constant/ConstantDesc" (some 0) with
  accessFlags := 1537
  interfaces := #[]
  cf := some (fileOf pool6 1 #[] #[] 1537 3 #[] #[])
  fields := #[]
  methods := #[]
  instanceTypes := #[]
  staticTypes := #[]
  resolved := Array.replicate 37 none
  statics := none }

def pool7 : Array CpInfo := pool [(1, .class_ 2), (0, u "java/lang/Integer"), (16, u "digits"), (0, u "[C"), (46, u "<init>"), (17, u "DigitOnes"), (0, u "[B"), (2, u "DigitTens"), (10, .nameAndType 67 101), (0, u "()V"), (19, u "()I"), (65, u "valueOf"), (0, u "(I)Ljava/lang/Integer;"), (0, .class_ 190), (0, u "java/lang/Integer$IntegerCache"), (0, .fieldref 189 192), (0, .nameAndType 193 194), (0, u "high"), (0, u "I"), (0, .fieldref 189 196), (0, .nameAndType 197 198), (0, u "cache"), (0, u "[Ljava/lang/Integer;"), (0, .methodref 1 200), (0, .nameAndType 67 201), (0, u "(I)V"), (0, .methodref 203 100), (0, .class_ 204), (0, u "java/lang/Number"), (0, .fieldref 1 206), (0, .nameAndType 207 194), (0, u "value"), (5, u "intValue"), (88, u "TYPE"), (0, u "Ljava/lang/Class;"), (0, .class_ 305), (0, u "java/lang/Comparable"), (0, .class_ 307), (0, u "java/lang/constant/Constable"), (0, .class_ 309), (0, u "java/lang/constant/ConstantDesc"), (0, u "MIN_VALUE"), (1, u "MAX_VALUE"), (3, u "SIZE"), (1, u "BYTES"), (1, u "serialVersionUID"), (0, u "J")] 131

def k7c0 : Code := { maxStack := 3, maxLocals := 1, code := jdk_33_method_22_code, exceptionTable := #[], attributes := #[] }
def k7m0 : Method := { name := "valueOf", desc := "(I)Ljava/lang/Integer;", sig := { parameters := [.int], returnType := some (.object "java/lang/Integer") }, accessFlags := 9, code := some k7c0 }
def k7c1 : Code := { maxStack := 2, maxLocals := 2, code := jdk_33_method_23_code, exceptionTable := #[], attributes := #[] }
def k7m1 : Method := { name := "<init>", desc := "(I)V", sig := { parameters := [.int], returnType := none }, accessFlags := 1, code := some k7c1 }
def k7c2 : Code := { maxStack := 1, maxLocals := 1, code := jdk_33_method_27_code, exceptionTable := #[], attributes := #[] }
def k7m2 : Method := { name := "intValue", desc := "()I", sig := { parameters := [], returnType := some .int }, accessFlags := 1, code := some k7c2 }
/-- java/lang/Integer -/
def k7 : Class := { plain "java/lang/Integer" (some 3) with
  accessFlags := 49
  interfaces := #[4, 5, 6]
  cf := some (fileOf pool7 1 #[.nestMembers #[189]] #[{ accessFlags := 9, nameIndex := 187, descriptorIndex := 188, attributes := #[] }, { accessFlags := 1, nameIndex := 67, descriptorIndex := 201, attributes := #[] }, { accessFlags := 1, nameIndex := 213, descriptorIndex := 121, attributes := #[] }] 49 203 #[304, 306, 308] #[{ accessFlags := 25, nameIndex := 310, descriptorIndex := 194, attributes := #[] }, { accessFlags := 25, nameIndex := 312, descriptorIndex := 194, attributes := #[] }, { accessFlags := 25, nameIndex := 302, descriptorIndex := 303, attributes := #[] }, { accessFlags := 24, nameIndex := 19, descriptorIndex := 20, attributes := #[] }, { accessFlags := 24, nameIndex := 89, descriptorIndex := 86, attributes := #[] }, { accessFlags := 24, nameIndex := 85, descriptorIndex := 86, attributes := #[] }, { accessFlags := 18, nameIndex := 207, descriptorIndex := 194, attributes := #[] }, { accessFlags := 25, nameIndex := 316, descriptorIndex := 194, attributes := #[] }, { accessFlags := 25, nameIndex := 318, descriptorIndex := 194, attributes := #[] }, { accessFlags := 26, nameIndex := 320, descriptorIndex := 321, attributes := #[] }])
  fields := #[{ name := "MIN_VALUE", type := .int, accessFlags := 25, slot := 0, constantValue := 0 }, { name := "MAX_VALUE", type := .int, accessFlags := 25, slot := 1, constantValue := 0 }, { name := "TYPE", type := (.object "java/lang/Class"), accessFlags := 25, slot := 2, constantValue := 0 }, { name := "digits", type := (.array .char), accessFlags := 24, slot := 3, constantValue := 0 }, { name := "DigitTens", type := (.array .byte), accessFlags := 24, slot := 4, constantValue := 0 }, { name := "DigitOnes", type := (.array .byte), accessFlags := 24, slot := 5, constantValue := 0 }, { name := "value", type := .int, accessFlags := 18, slot := 0, constantValue := 0 }, { name := "SIZE", type := .int, accessFlags := 25, slot := 6, constantValue := 0 }, { name := "BYTES", type := .int, accessFlags := 25, slot := 7, constantValue := 0 }, { name := "serialVersionUID", type := .long, accessFlags := 26, slot := 8, constantValue := 0 }]
  methods := #[k7m0, k7m1, k7m2]
  instanceTypes := #[.int]
  staticTypes := #[.int, .int, (.object "java/lang/Class"), (.array .char), (.array .byte), (.array .byte), .int, .int, .long]
  resolved := Array.replicate 453 none
  statics := none }

def pool8 : Array CpInfo := pool [(2, .class_ 4), (1, u "java/lang/Object"), (0, u "<init>"), (0, u "()V"), (0, .class_ 8), (0, u "java/lang/Integer"), (7, .class_ 18), (1, u "java/lang/Integer$IntegerCache"), (0, u "$assertionsDisabled"), (0, u "Z"), (26, u "high"), (0, u "I"), (8, u "archivedCache"), (0, u "[Ljava/lang/Integer;"), (12, u "cache"), (0, u "low")] 27

def k8m0 : Method := { name := "<init>", desc := "()V", sig := { parameters := [], returnType := none }, accessFlags := 2, code := none }
/-- java/lang/Integer$IntegerCache -/
def k8 : Class := { plain "java/lang/Integer$IntegerCache" (some 0) with
  accessFlags := 48
  interfaces := #[]
  cf := some (fileOf pool8 16 #[.nestHost 7] #[{ accessFlags := 2, nameIndex := 5, descriptorIndex := 6, attributes := #[] }] 48 2 #[] #[{ accessFlags := 24, nameIndex := 72, descriptorIndex := 48, attributes := #[] }, { accessFlags := 24, nameIndex := 47, descriptorIndex := 48, attributes := #[] }, { accessFlags := 24, nameIndex := 71, descriptorIndex := 58, attributes := #[] }, { accessFlags := 8, nameIndex := 57, descriptorIndex := 58, attributes := #[] }, { accessFlags := 4120, nameIndex := 19, descriptorIndex := 20, attributes := #[] }])
  fields := #[{ name := "low", type := .int, accessFlags := 24, slot := 0, constantValue := 0 }, { name := "high", type := .int, accessFlags := 24, slot := 1, constantValue := 0 }, { name := "cache", type := (.array (.object "java/lang/Integer")), accessFlags := 24, slot := 2, constantValue := 0 }, { name := "archivedCache", type := (.array (.object "java/lang/Integer")), accessFlags := 8, slot := 3, constantValue := 0 }, { name := "$assertionsDisabled", type := .boolean, accessFlags := 4120, slot := 4, constantValue := 0 }]
  methods := #[k8m0]
  instanceTypes := #[]
  staticTypes := #[.int, .int, (.array (.object "java/lang/Integer")), (.array (.object "java/lang/Integer")), .boolean]
  resolved := Array.replicate 100 none
  statics := some 0 }

def pool9 : Array CpInfo := pool [(8, .class_ 10), (1, u "java/lang/Iterable"), (24, .class_ 36), (0, u "java/lang/Object")] 25

/-- java/lang/Iterable -/
def k9 : Class := { plain "java/lang/Iterable" (some 0) with
  accessFlags := 1537
  interfaces := #[]
  cf := some (fileOf pool9 8 #[] #[] 1537 35 #[] #[])
  fields := #[]
  methods := #[]
  instanceTypes := #[]
  staticTypes := #[]
  resolved := Array.replicate 62 none
  statics := none }

def pool10 : Array CpInfo := pool [(10, .class_ 12), (1, u "java/util/Collection"), (47, .class_ 61), (0, u "java/lang/Object"), (0, .class_ 63), (0, u "java/lang/Iterable")] 51

/-- java/util/Collection -/
def k10 : Class := { plain "java/util/Collection" (some 0) with
  accessFlags := 1537
  interfaces := #[9]
  cf := some (fileOf pool10 10 #[] #[] 1537 60 #[62] #[])
  fields := #[]
  methods := #[]
  instanceTypes := #[]
  staticTypes := #[]
  resolved := Array.replicate 115 none
  statics := none }

def pool11 : Array CpInfo := pool [(1, .methodref 2 3), (0, .class_ 4), (0, .nameAndType 5 6), (0, u "java/lang/Object"), (0, u "<init>"), (0, u "()V"), (1, .class_ 10), (1, u "java/util/AbstractCollection"), (66, .class_ 78), (0, u "java/util/Collection")] 81

def k11c0 : Code := { maxStack := 1, maxLocals := 1, code := jdk_22_method_1_code, exceptionTable := #[], attributes := #[] }
def k11m0 : Method := { name := "<init>", desc := "()V", sig := { parameters := [], returnType := none }, accessFlags := 4, code := some k11c0 }
/-- java/util/AbstractCollection -/
def k11 : Class := { plain "java/util/AbstractCollection" (some 0) with
  accessFlags := 1057
  interfaces := #[10]
  cf := some (fileOf pool11 8 #[] #[{ accessFlags := 4, nameIndex := 5, descriptorIndex := 6, attributes := #[] }] 1057 2 #[77] #[])
  fields := #[]
  methods := #[k11m0]
  instanceTypes := #[]
  staticTypes := #[]
  resolved := Array.replicate 160 none
  statics := none }

def pool12 : Array CpInfo := pool [(8, .class_ 10), (1, u "java/util/SequencedCollection"), (15, .class_ 27), (0, u "java/lang/Object"), (0, .class_ 29), (0, u "java/util/Collection")] 27

/-- java/util/SequencedCollection -/
def k12 : Class := { plain "java/util/SequencedCollection" (some 0) with
  accessFlags := 1537
  interfaces := #[10]
  cf := some (fileOf pool12 8 #[] #[] 1537 26 #[28] #[])
  fields := #[]
  methods := #[]
  instanceTypes := #[]
  staticTypes := #[]
  resolved := Array.replicate 57 none
  statics := none }

def pool13 : Array CpInfo := pool [(8, .class_ 10), (1, u "java/util/List"), (68, u "size"), (0, u "()I"), (7, u "of"), (1, .fieldref 91 92), (0, .class_ 93), (0, .nameAndType 94 95), (0, u "java/util/ImmutableCollections"), (0, u "EMPTY_LIST"), (0, u "Ljava/util/ImmutableCollections$ListN;"), (7, .class_ 104), (0, u "java/lang/Object"), (14, u "()Ljava/util/List;"), (0, .class_ 121), (0, u "java/util/SequencedCollection")] 129

def k13m0 : Method := { name := "size", desc := "()I", sig := { parameters := [], returnType := some .int }, accessFlags := 1025, code := none }
def k13c1 : Code := { maxStack := 1, maxLocals := 0, code := jdk_40_method_36_code, exceptionTable := #[], attributes := #[] }
def k13m1 : Method := { name := "of", desc := "()Ljava/util/List;", sig := { parameters := [], returnType := some (.object "java/util/List") }, accessFlags := 9, code := some k13c1 }
/-- java/util/List -/
def k13 : Class := { plain "java/util/List" (some 0) with
  accessFlags := 1537
  interfaces := #[12]
  cf := some (fileOf pool13 8 #[] #[{ accessFlags := 1025, nameIndex := 79, descriptorIndex := 80, attributes := #[] }, { accessFlags := 9, nameIndex := 88, descriptorIndex := 119, attributes := #[] }] 1537 103 #[120] #[])
  fields := #[]
  methods := #[k13m0, k13m1]
  instanceTypes := #[]
  staticTypes := #[]
  resolved := Array.replicate 251 none
  statics := none }

def pool14 : Array CpInfo := pool [(1, .methodref 2 3), (0, .class_ 4), (0, .nameAndType 5 6), (0, u "java/util/AbstractCollection"), (0, u "<init>"), (0, u "()V"), (0, .fieldref 8 9), (0, .class_ 10), (0, .nameAndType 11 12), (0, u "java/util/AbstractList"), (0, u "modCount"), (0, u "I"), (64, .class_ 78), (0, u "java/util/AbstractList$Itr"), (3, .class_ 83), (0, u "java/util/AbstractList$ListItr"), (9, .class_ 94), (0, u "java/util/AbstractList$RandomAccessSubList"), (3, .class_ 99), (0, u "java/util/AbstractList$SubList"), (33, .class_ 134), (0, u "java/util/List"), (73, .class_ 209), (0, u "java/util/AbstractList$SubList$1"), (0, .class_ 211), (0, u "java/util/AbstractList$RandomAccessSpliterator")] 6

def k14c0 : Code := { maxStack := 2, maxLocals := 1, code := jdk_39_method_1_code, exceptionTable := #[], attributes := #[] }
def k14m0 : Method := { name := "<init>", desc := "()V", sig := { parameters := [], returnType := none }, accessFlags := 4, code := some k14c0 }
/-- java/util/AbstractList -/
def k14 : Class := { plain "java/util/AbstractList" (some 11) with
  accessFlags := 1057
  interfaces := #[13]
  cf := some (fileOf pool14 8 #[.nestMembers #[93, 98, 208, 210, 82, 77]] #[{ accessFlags := 4, nameIndex := 5, descriptorIndex := 6, attributes := #[] }] 1057 2 #[133] #[{ accessFlags := 132, nameIndex := 11, descriptorIndex := 12, attributes := #[] }])
  fields := #[{ name := "modCount", type := .int, accessFlags := 132, slot := 0, constantValue := 0 }]
  methods := #[k14m0]
  instanceTypes := #[.int]
  staticTypes := #[]
  resolved := Array.replicate 218 none
  statics := none }

def pool15 : Array CpInfo := pool [(1, .class_ 2), (0, u "java/util/RandomAccess"), (0, .class_ 4), (0, u "java/lang/Object")] 2

/-- java/util/RandomAccess -/
def k15 : Class := { plain "java/util/RandomAccess" (some 0) with
  accessFlags := 1537
  interfaces := #[]
  cf := some (fileOf pool15 1 #[] #[] 1537 3 #[] #[])
  fields := #[]
  methods := #[]
  instanceTypes := #[]
  staticTypes := #[]
  resolved := Array.replicate 7 none
  statics := none }

def pool16 : Array CpInfo := pool [(1, .class_ 2), (0, u "java/lang/Cloneable"), (0, .class_ 4), (0, u "java/lang/Object")] 2

/-- java/lang/Cloneable -/
def k16 : Class := { plain "java/lang/Cloneable" (some 0) with
  accessFlags := 1537
  interfaces := #[]
  cf := some (fileOf pool16 1 #[] #[] 1537 3 #[] #[])
  fields := #[]
  methods := #[]
  instanceTypes := #[]
  staticTypes := #[]
  resolved := Array.replicate 7 none
  statics := none }

def pool17 : Array CpInfo := pool [(1, .methodref 2 3), (0, .class_ 4), (0, .nameAndType 5 6), (0, u "java/util/AbstractList"), (0, u "<init>"), (0, u "()V"), (0, .class_ 8), (0, u "java/lang/Object"), (0, .fieldref 10 11), (0, .class_ 12), (0, .nameAndType 13 14), (0, u "java/util/ArrayList"), (0, u "elementData"), (0, u "[Ljava/lang/Object;"), (2, u "EMPTY_ELEMENTDATA"), (21, .fieldref 10 40), (0, .nameAndType 41 14), (0, u "DEFAULTCAPACITY_EMPTY_ELEMENTDATA"), (5, u "()[Ljava/lang/Object;"), (0, .fieldref 10 49), (0, .nameAndType 50 51), (0, u "size"), (0, u "I"), (11, .fieldref 10 64), (0, .nameAndType 65 51), (0, u "modCount"), (3, .methodref 10 70), (0, .nameAndType 71 72), (0, u "grow"), (0, u "(I)[Ljava/lang/Object;"), (6, .methodref 80 81), (0, .class_ 82), (0, .nameAndType 83 84), (0, u "java/lang/Math"), (0, u "max"), (0, u "(II)I"), (11, u "(Ljava/lang/Object;)Z"), (32, .methodref 10 130), (0, .nameAndType 71 47), (0, .methodref 10 132), (0, .nameAndType 133 134), (0, u "add"), (0, u "(Ljava/lang/Object;[Ljava/lang/Object;I)V"), (13, .class_ 149), (0, u "java/util/List"), (112, .class_ 263), (0, u "java/util/ArrayList$ListItr"), (3, .class_ 268), (0, u "java/util/ArrayList$Itr"), (7, .class_ 277), (0, u "java/util/ArrayList$SubList"), (12, .class_ 291), (0, u "java/util/ArrayList$ArrayListSpliterator"), (37, .class_ 330), (0, u "java/util/RandomAccess"), (0, .class_ 332), (0, u "java/lang/Cloneable"), (0, .class_ 334), (0, u "java/io/Serializable"), (0, u "serialVersionUID"), (0, u "J"), (3, u "DEFAULT_CAPACITY"), (159, .class_ 501), (0, u "java/util/ArrayList$SubList$2"), (0, .class_ 503), (0, u "java/util/ArrayList$SubList$1")] 5

def k17c0 : Code := { maxStack := 2, maxLocals := 1, code := jdk_38_method_2_code, exceptionTable := #[], attributes := #[] }
def k17m0 : Method := { name := "<init>", desc := "()V", sig := { parameters := [], returnType := none }, accessFlags := 1, code := some k17c0 }
def k17c1 : Code := { maxStack := 4, maxLocals := 4, code := jdk_38_method_6_code, exceptionTable := #[], attributes := #[] }
def k17m1 : Method := { name := "grow", desc := "(I)[Ljava/lang/Object;", sig := { parameters := [.int], returnType := some (.array (.object "java/lang/Object")) }, accessFlags := 2, code := some k17c1 }
def k17c2 : Code := { maxStack := 3, maxLocals := 1, code := jdk_38_method_7_code, exceptionTable := #[], attributes := #[] }
def k17m2 : Method := { name := "grow", desc := "()[Ljava/lang/Object;", sig := { parameters := [], returnType := some (.array (.object "java/lang/Object")) }, accessFlags := 2, code := some k17c2 }
def k17c3 : Code := { maxStack := 3, maxLocals := 4, code := jdk_38_method_24_code, exceptionTable := #[], attributes := #[] }
def k17m3 : Method := { name := "add", desc := "(Ljava/lang/Object;[Ljava/lang/Object;I)V", sig := { parameters := [(.object "java/lang/Object"), (.array (.object "java/lang/Object")), .int], returnType := none }, accessFlags := 2, code := some k17c3 }
def k17c4 : Code := { maxStack := 4, maxLocals := 2, code := jdk_38_method_25_code, exceptionTable := #[], attributes := #[] }
def k17m4 : Method := { name := "add", desc := "(Ljava/lang/Object;)Z", sig := { parameters := [(.object "java/lang/Object")], returnType := some .boolean }, accessFlags := 1, code := some k17c4 }
/-- java/util/ArrayList -/
def k17 : Class := { plain "java/util/ArrayList" (some 14) with
  accessFlags := 33
  interfaces := #[13, 15, 16, 2]
  cf := some (fileOf pool17 10 #[.nestMembers #[290, 276, 500, 502, 262, 267]] #[{ accessFlags := 1, nameIndex := 5, descriptorIndex := 6, attributes := #[] }, { accessFlags := 2, nameIndex := 71, descriptorIndex := 72, attributes := #[] }, { accessFlags := 2, nameIndex := 71, descriptorIndex := 47, attributes := #[] }, { accessFlags := 2, nameIndex := 133, descriptorIndex := 134, attributes := #[] }, { accessFlags := 1, nameIndex := 133, descriptorIndex := 96, attributes := #[] }] 33 2 #[148, 329, 331, 333] #[{ accessFlags := 26, nameIndex := 335, descriptorIndex := 336, attributes := #[] }, { accessFlags := 26, nameIndex := 340, descriptorIndex := 51, attributes := #[] }, { accessFlags := 26, nameIndex := 17, descriptorIndex := 14, attributes := #[] }, { accessFlags := 26, nameIndex := 41, descriptorIndex := 14, attributes := #[] }, { accessFlags := 128, nameIndex := 13, descriptorIndex := 14, attributes := #[] }, { accessFlags := 2, nameIndex := 50, descriptorIndex := 51, attributes := #[] }])
  fields := #[{ name := "serialVersionUID", type := .long, accessFlags := 26, slot := 0, constantValue := 0 }, { name := "DEFAULT_CAPACITY", type := .int, accessFlags := 26, slot := 1, constantValue := 0 }, { name := "EMPTY_ELEMENTDATA", type := (.array (.object "java/lang/Object")), accessFlags := 26, slot := 2, constantValue := 0 }, { name := "DEFAULTCAPACITY_EMPTY_ELEMENTDATA", type := (.array (.object "java/lang/Object")), accessFlags := 26, slot := 3, constantValue := 0 }, { name := "elementData", type := (.array (.object "java/lang/Object")), accessFlags := 128, slot := 1, constantValue := 0 }, { name := "size", type := .int, accessFlags := 2, slot := 2, constantValue := 0 }]
  methods := #[k17m0, k17m1, k17m2, k17m3, k17m4]
  instanceTypes := #[.int, (.array (.object "java/lang/Object")), .int]
  staticTypes := #[.long, .int, (.array (.object "java/lang/Object")), (.array (.object "java/lang/Object"))]
  resolved := Array.replicate 509 none
  statics := some 1 }

def pool18 : Array CpInfo := pool [(1, .class_ 2), (0, u "java/lang/Math"), (1, .class_ 6), (1, u "java/lang/Object"), (0, u "<init>"), (0, u "()V"), (89, .class_ 100), (1, u "java/lang/Math$RandomNumberGeneratorHolder"), (71, u "negativeZeroFloatBits"), (0, u "J"), (2, u "negativeZeroDoubleBits"), (21, u "max"), (46, u "$assertionsDisabled"), (0, u "Z"), (88, u "(II)I"), (2, u "twoToTheDoubleScaleDown"), (0, u "D"), (4, u "twoToTheDoubleScaleUp"), (9, u "E"), (3, u "PI"), (2, u "TAU"), (2, u "DEGREES_TO_RADIANS"), (0, u "RADIANS_TO_DEGREES")] 94

def k18m0 : Method := { name := "<init>", desc := "()V", sig := { parameters := [], returnType := none }, accessFlags := 2, code := none }
def k18c1 : Code := { maxStack := 2, maxLocals := 2, code := jdk_29_method_65_code, exceptionTable := #[], attributes := #[] }
def k18m1 : Method := { name := "max", desc := "(II)I", sig := { parameters := [.int, .int], returnType := some .int }, accessFlags := 9, code := some k18c1 }
/-- java/lang/Math -/
def k18 : Class := { plain "java/lang/Math" (some 0) with
  accessFlags := 49
  interfaces := #[]
  cf := some (fileOf pool18 1 #[.nestMembers #[98]] #[{ accessFlags := 2, nameIndex := 7, descriptorIndex := 8, attributes := #[] }, { accessFlags := 9, nameIndex := 198, descriptorIndex := 335, attributes := #[] }] 49 4 #[] #[{ accessFlags := 25, nameIndex := 354, descriptorIndex := 339, attributes := #[] }, { accessFlags := 25, nameIndex := 358, descriptorIndex := 339, attributes := #[] }, { accessFlags := 25, nameIndex := 361, descriptorIndex := 339, attributes := #[] }, { accessFlags := 26, nameIndex := 364, descriptorIndex := 339, attributes := #[] }, { accessFlags := 26, nameIndex := 365, descriptorIndex := 339, attributes := #[] }, { accessFlags := 26, nameIndex := 172, descriptorIndex := 173, attributes := #[] }, { accessFlags := 26, nameIndex := 176, descriptorIndex := 173, attributes := #[] }, { accessFlags := 8, nameIndex := 344, descriptorIndex := 339, attributes := #[] }, { accessFlags := 8, nameIndex := 338, descriptorIndex := 339, attributes := #[] }, { accessFlags := 4120, nameIndex := 245, descriptorIndex := 246, attributes := #[] }])
  fields := #[{ name := "E", type := .double, accessFlags := 25, slot := 0, constantValue := 0 }, { name := "PI", type := .double, accessFlags := 25, slot := 1, constantValue := 0 }, { name := "TAU", type := .double, accessFlags := 25, slot := 2, constantValue := 0 }, { name := "DEGREES_TO_RADIANS", type := .double, accessFlags := 26, slot := 3, constantValue := 0 }, { name := "RADIANS_TO_DEGREES", type := .double, accessFlags := 26, slot := 4, constantValue := 0 }, { name := "negativeZeroFloatBits", type := .long, accessFlags := 26, slot := 5, constantValue := 0 }, { name := "negativeZeroDoubleBits", type := .long, accessFlags := 26, slot := 6, constantValue := 0 }, { name := "twoToTheDoubleScaleUp", type := .double, accessFlags := 8, slot := 7, constantValue := 0 }, { name := "twoToTheDoubleScaleDown", type := .double, accessFlags := 8, slot := 8, constantValue := 0 }, { name := "$assertionsDisabled", type := .boolean, accessFlags := 4120, slot := 9, constantValue := 0 }]
  methods := #[k18m0, k18m1]
  instanceTypes := #[]
  staticTypes := #[.double, .double, .double, .double, .double, .long, .long, .double, .double, .boolean]
  resolved := Array.replicate 460 none
  statics := none }

def pool19 : Array CpInfo := pool [(1, .methodref 2 3), (0, .class_ 4), (0, .nameAndType 5 6), (0, u "java/lang/Object"), (0, u "<init>"), (0, u "()V"), (0, .class_ 8), (0, u "java/lang/Record")] 13

def k19c0 : Code := { maxStack := 1, maxLocals := 1, code := jdk_30_method_1_code, exceptionTable := #[], attributes := #[] }
def k19m0 : Method := { name := "<init>", desc := "()V", sig := { parameters := [], returnType := none }, accessFlags := 4, code := some k19c0 }
/-- java/lang/Record -/
def k19 : Class := { plain "java/lang/Record" (some 0) with
  accessFlags := 1057
  interfaces := #[]
  cf := some (fileOf pool19 7 #[] #[{ accessFlags := 4, nameIndex := 5, descriptorIndex := 6, attributes := #[] }] 1057 2 #[] #[])
  fields := #[]
  methods := #[k19m0]
  instanceTypes := #[]
  staticTypes := #[]
  resolved := Array.replicate 22 none
  statics := none }

def pool20 : Array CpInfo := pool [(1, .methodref 2 3), (0, .class_ 4), (0, .nameAndType 5 6), (0, u "java/lang/Record"), (0, u "<init>"), (0, u "()V"), (0, .fieldref 8 9), (0, .class_ 10), (0, .nameAndType 11 12), (0, u "com/example/pocket_context/pocketcontext/internal/Walk$Step"), (0, u "parts"), (0, u "Ljava/util/List;"), (0, .fieldref 8 14), (0, .nameAndType 15 16), (0, u "settles"), (0, u "Ljava/util/function/Predicate;"), (0, .fieldref 8 18), (0, .nameAndType 19 20), (0, u "result"), (0, u "Ljava/util/function/Function;"), (0, .invokeDynamic 0 22), (0, .nameAndType 23 24), (0, u "test"), (0, u "()Ljava/util/function/Predicate;"), (0, .methodref 8 26), (0, .nameAndType 5 27), (0, u "(Ljava/util/List;Ljava/util/function/Predicate;Ljava/util/function/Function;)V"), (0, .interfaceMethodref 29 30), (0, .class_ 31), (0, .nameAndType 32 33), (0, u "java/util/List"), (0, u "of"), (0, u "()Ljava/util/List;"), (0, .invokeDynamic 1 35), (0, .nameAndType 36 37), (0, u "apply"), (0, u "(Ljava/lang/Object;)Ljava/util/function/Function;"), (0, .methodref 8 39), (0, .nameAndType 5 40), (0, u "(Ljava/util/List;Ljava/util/function/Function;)V"), (21, u "done"), (0, u "(Ljava/lang/Object;)Lcom/example/pocket_context/pocketcontext/internal/Walk$Step;"), (3, u "(Ljava/lang/Object;)Z"), (2, u "()Ljava/util/function/Function;"), (1, u "lambda$done$1"), (0, u "(Ljava/lang/Object;Ljava/util/List;)Ljava/lang/Object;"), (0, u "lambda$new$0"), (4, .class_ 80), (0, u "com/example/pocket_context/pocketcontext/internal/Walk"), (2, .methodType 67), (0, .methodHandle 6 85), (0, .methodref 8 86), (0, .nameAndType 74 67), (0, .methodType 88), (0, u "(Ljava/lang/Object;)Ljava/lang/Object;"), (0, .methodHandle 6 90), (0, .methodref 8 91), (0, .nameAndType 72 73), (0, .methodType 93), (0, u "(Ljava/util/List;)Ljava/lang/Object;"), (5, .methodHandle 6 100), (0, .methodref 101 102), (0, .class_ 103), (0, .nameAndType 104 105), (0, u "java/lang/invoke/LambdaMetafactory"), (0, u "metafactory"), (0, u "(Ljava/lang/invoke/MethodHandles$Lookup;Ljava/lang/String;Ljava/lang/invoke/MethodType;Ljava/lang/invoke/MethodType;Ljava/lang/invoke/MethodHandle;Ljava/lang/invoke/MethodType;)Ljava/lang/invoke/CallSite;")] 14

def k20c0 : Code := { maxStack := 4, maxLocals := 3, code := prog_52_method_1_code, exceptionTable := #[], attributes := #[] }
def k20m0 : Method := { name := "<init>", desc := "(Ljava/util/List;Ljava/util/function/Function;)V", sig := { parameters := [(.object "java/util/List"), (.object "java/util/function/Function")], returnType := none }, accessFlags := 0, code := some k20c0 }
def k20c1 : Code := { maxStack := 2, maxLocals := 4, code := prog_52_method_2_code, exceptionTable := #[], attributes := #[] }
def k20m1 : Method := { name := "<init>", desc := "(Ljava/util/List;Ljava/util/function/Predicate;Ljava/util/function/Function;)V", sig := { parameters := [(.object "java/util/List"), (.object "java/util/function/Predicate"), (.object "java/util/function/Function")], returnType := none }, accessFlags := 0, code := some k20c1 }
def k20c2 : Code := { maxStack := 4, maxLocals := 1, code := prog_52_method_3_code, exceptionTable := #[], attributes := #[] }
def k20m2 : Method := { name := "done", desc := "(Ljava/lang/Object;)Lcom/example/pocket_context/pocketcontext/internal/Walk$Step;", sig := { parameters := [(.object "java/lang/Object")], returnType := some (.object "com/example/pocket_context/pocketcontext/internal/Walk$Step") }, accessFlags := 8, code := some k20c2 }
def k20c3 : Code := { maxStack := 1, maxLocals := 1, code := prog_52_method_7_code, exceptionTable := #[], attributes := #[] }
def k20m3 : Method := { name := "parts", desc := "()Ljava/util/List;", sig := { parameters := [], returnType := some (.object "java/util/List") }, accessFlags := 1, code := some k20c3 }
def k20c4 : Code := { maxStack := 1, maxLocals := 1, code := prog_52_method_8_code, exceptionTable := #[], attributes := #[] }
def k20m4 : Method := { name := "settles", desc := "()Ljava/util/function/Predicate;", sig := { parameters := [], returnType := some (.object "java/util/function/Predicate") }, accessFlags := 1, code := some k20c4 }
def k20c5 : Code := { maxStack := 1, maxLocals := 1, code := prog_52_method_9_code, exceptionTable := #[], attributes := #[] }
def k20m5 : Method := { name := "result", desc := "()Ljava/util/function/Function;", sig := { parameters := [], returnType := some (.object "java/util/function/Function") }, accessFlags := 1, code := some k20c5 }
def k20c6 : Code := { maxStack := 1, maxLocals := 2, code := prog_52_method_10_code, exceptionTable := #[], attributes := #[] }
def k20m6 : Method := { name := "lambda$done$1", desc := "(Ljava/lang/Object;Ljava/util/List;)Ljava/lang/Object;", sig := { parameters := [(.object "java/lang/Object"), (.object "java/util/List")], returnType := some (.object "java/lang/Object") }, accessFlags := 4106, code := some k20c6 }
def k20c7 : Code := { maxStack := 1, maxLocals := 1, code := prog_52_method_11_code, exceptionTable := #[], attributes := #[] }
def k20m7 : Method := { name := "lambda$new$0", desc := "(Ljava/lang/Object;)Z", sig := { parameters := [(.object "java/lang/Object")], returnType := some .boolean }, accessFlags := 4106, code := some k20c7 }
/-- com/example/pocket_context/pocketcontext/internal/Walk$Step -/
def k20 : Class := { plain "com/example/pocket_context/pocketcontext/internal/Walk$Step" (some 19) with
  accessFlags := 48
  interfaces := #[]
  cf := some (fileOf pool20 8 #[.nestHost 79, .bootstrapMethods #[⟨99, #[83, 84, 83]⟩, ⟨99, #[87, 89, 92]⟩, ⟨0, #[]⟩]] #[{ accessFlags := 0, nameIndex := 5, descriptorIndex := 40, attributes := #[] }, { accessFlags := 0, nameIndex := 5, descriptorIndex := 27, attributes := #[] }, { accessFlags := 8, nameIndex := 62, descriptorIndex := 63, attributes := #[] }, { accessFlags := 1, nameIndex := 11, descriptorIndex := 33, attributes := #[] }, { accessFlags := 1, nameIndex := 15, descriptorIndex := 24, attributes := #[] }, { accessFlags := 1, nameIndex := 19, descriptorIndex := 70, attributes := #[] }, { accessFlags := 4106, nameIndex := 72, descriptorIndex := 73, attributes := #[] }, { accessFlags := 4106, nameIndex := 74, descriptorIndex := 67, attributes := #[] }] 48 2 #[] #[{ accessFlags := 18, nameIndex := 11, descriptorIndex := 12, attributes := #[] }, { accessFlags := 18, nameIndex := 15, descriptorIndex := 16, attributes := #[] }, { accessFlags := 18, nameIndex := 19, descriptorIndex := 20, attributes := #[] }])
  fields := #[{ name := "parts", type := (.object "java/util/List"), accessFlags := 18, slot := 0, constantValue := 0 }, { name := "settles", type := (.object "java/util/function/Predicate"), accessFlags := 18, slot := 1, constantValue := 0 }, { name := "result", type := (.object "java/util/function/Function"), accessFlags := 18, slot := 2, constantValue := 0 }]
  methods := #[k20m0, k20m1, k20m2, k20m3, k20m4, k20m5, k20m6, k20m7]
  instanceTypes := #[(.object "java/util/List"), (.object "java/util/function/Predicate"), (.object "java/util/function/Function")]
  staticTypes := #[]
  resolved := Array.replicate 120 none
  callSites := [(2, 8, .makes 31), (0, 2, .constant 3)]
  statics := none }

def pool21 : Array CpInfo := pool [(2, .class_ 4), (1, u "java/lang/Object"), (0, u "<init>"), (0, u "()V"), (3, .class_ 11), (0, u "java/util/ImmutableCollections$List12"), (0, .class_ 13), (0, u "java/util/ImmutableCollections$ListN"), (3, u "Z"), (29, .class_ 49), (1, u "java/util/ImmutableCollections"), (0, u "$assertionsDisabled"), (5, u "[Ljava/lang/Object;"), (5, u "EMPTY_LIST"), (0, u "Ljava/util/ImmutableCollections$ListN;"), (8, u "EMPTY_LIST_NULLS"), (22, u "SALT32L"), (0, u "J"), (2, u "REVERSE"), (6, u "archivedObjects"), (2, u "EMPTY"), (0, u "Ljava/lang/Object;"), (0, .class_ 112), (0, u "java/util/ImmutableCollections$SetN"), (5, u "EMPTY_SET"), (0, u "Ljava/util/ImmutableCollections$SetN;"), (0, .class_ 121), (0, u "java/util/ImmutableCollections$MapN"), (3, u "EMPTY_MAP"), (0, u "Ljava/util/ImmutableCollections$MapN;"), (4, u "EXPAND_FACTOR"), (0, u "I"), (36, .class_ 170), (0, u "java/util/ImmutableCollections$MapN$MapNIterator"), (0, .class_ 172), (0, u "java/util/ImmutableCollections$MapN$1"), (0, .class_ 174), (0, u "java/util/ImmutableCollections$Map1"), (0, .class_ 176), (0, u "java/util/ImmutableCollections$AbstractImmutableMap"), (0, .class_ 178), (0, u "java/util/ImmutableCollections$SetN$SetNIterator"), (0, .class_ 180), (0, u "java/util/ImmutableCollections$Set12"), (0, .class_ 182), (0, u "java/util/ImmutableCollections$Set12$1"), (0, .class_ 184), (0, u "java/util/ImmutableCollections$AbstractImmutableSet"), (0, .class_ 186), (0, u "java/util/ImmutableCollections$SubList"), (0, .class_ 188), (0, u "java/util/ImmutableCollections$ListItr"), (0, .class_ 190), (0, u "java/util/ImmutableCollections$AbstractImmutableList"), (0, .class_ 192), (0, u "java/util/ImmutableCollections$AbstractImmutableCollection"), (0, .class_ 194), (0, u "java/util/ImmutableCollections$Access"), (0, .class_ 196), (0, u "java/util/ImmutableCollections$Access$1")] 16

def k21m0 : Method := { name := "<init>", desc := "()V", sig := { parameters := [], returnType := none }, accessFlags := 2, code := none }
/-- java/util/ImmutableCollections -/
def k21 : Class := { plain "java/util/ImmutableCollections" (some 0) with
  accessFlags := 32
  interfaces := #[]
  cf := some (fileOf pool21 47 #[.nestMembers #[120, 169, 171, 173, 175, 111, 177, 179, 181, 183, 12, 10, 185, 187, 189, 191, 193, 195]] #[{ accessFlags := 2, nameIndex := 5, descriptorIndex := 6, attributes := #[] }] 32 2 #[] #[{ accessFlags := 26, nameIndex := 95, descriptorIndex := 96, attributes := #[] }, { accessFlags := 26, nameIndex := 99, descriptorIndex := 17, attributes := #[] }, { accessFlags := 10, nameIndex := 106, descriptorIndex := 56, attributes := #[] }, { accessFlags := 26, nameIndex := 109, descriptorIndex := 110, attributes := #[] }, { accessFlags := 24, nameIndex := 62, descriptorIndex := 63, attributes := #[] }, { accessFlags := 24, nameIndex := 72, descriptorIndex := 63, attributes := #[] }, { accessFlags := 24, nameIndex := 118, descriptorIndex := 119, attributes := #[] }, { accessFlags := 24, nameIndex := 125, descriptorIndex := 126, attributes := #[] }, { accessFlags := 24, nameIndex := 131, descriptorIndex := 132, attributes := #[] }, { accessFlags := 4120, nameIndex := 50, descriptorIndex := 17, attributes := #[] }])
  fields := #[{ name := "SALT32L", type := .long, accessFlags := 26, slot := 0, constantValue := 0 }, { name := "REVERSE", type := .boolean, accessFlags := 26, slot := 1, constantValue := 0 }, { name := "archivedObjects", type := (.array (.object "java/lang/Object")), accessFlags := 10, slot := 2, constantValue := 0 }, { name := "EMPTY", type := (.object "java/lang/Object"), accessFlags := 26, slot := 3, constantValue := 0 }, { name := "EMPTY_LIST", type := (.object "java/util/ImmutableCollections$ListN"), accessFlags := 24, slot := 4, constantValue := 0 }, { name := "EMPTY_LIST_NULLS", type := (.object "java/util/ImmutableCollections$ListN"), accessFlags := 24, slot := 5, constantValue := 0 }, { name := "EMPTY_SET", type := (.object "java/util/ImmutableCollections$SetN"), accessFlags := 24, slot := 6, constantValue := 0 }, { name := "EMPTY_MAP", type := (.object "java/util/ImmutableCollections$MapN"), accessFlags := 24, slot := 7, constantValue := 0 }, { name := "EXPAND_FACTOR", type := .int, accessFlags := 24, slot := 8, constantValue := 0 }, { name := "$assertionsDisabled", type := .boolean, accessFlags := 4120, slot := 9, constantValue := 0 }]
  methods := #[k21m0]
  instanceTypes := #[]
  staticTypes := #[.long, .boolean, (.array (.object "java/lang/Object")), (.object "java/lang/Object"), (.object "java/util/ImmutableCollections$ListN"), (.object "java/util/ImmutableCollections$ListN"), (.object "java/util/ImmutableCollections$SetN"), (.object "java/util/ImmutableCollections$MapN"), .int, .boolean]
  resolved := Array.replicate 213 none
  statics := some 2 }

def pool22 : Array CpInfo := pool [(6, u "(Ljava/lang/Object;)Ljava/lang/Object;"), (2, u "apply"), (6, .class_ 18), (1, u "java/util/function/Function"), (0, .class_ 20), (0, u "java/lang/Object")] 56

def k22m0 : Method := { name := "apply", desc := "(Ljava/lang/Object;)Ljava/lang/Object;", sig := { parameters := [(.object "java/lang/Object")], returnType := some (.object "java/lang/Object") }, accessFlags := 1025, code := none }
/-- java/util/function/Function -/
def k22 : Class := { plain "java/util/function/Function" (some 0) with
  accessFlags := 1537
  interfaces := #[]
  cf := some (fileOf pool22 16 #[] #[{ accessFlags := 1025, nameIndex := 9, descriptorIndex := 6, attributes := #[] }] 1537 19 #[] #[])
  fields := #[]
  methods := #[k22m0]
  instanceTypes := #[]
  staticTypes := #[]
  resolved := Array.replicate 77 none
  statics := none }

def pool23 : Array CpInfo := pool [(9, u "test"), (12, .class_ 24), (1, u "java/util/function/Predicate"), (2, .class_ 29), (1, u "java/lang/Object"), (1, u "(Ljava/lang/Object;)Z")] 69

def k23m0 : Method := { name := "test", desc := "(Ljava/lang/Object;)Z", sig := { parameters := [(.object "java/lang/Object")], returnType := some .boolean }, accessFlags := 1025, code := none }
/-- java/util/function/Predicate -/
def k23 : Class := { plain "java/util/function/Predicate" (some 0) with
  accessFlags := 1537
  interfaces := #[]
  cf := some (fileOf pool23 22 #[] #[{ accessFlags := 1025, nameIndex := 9, descriptorIndex := 31, attributes := #[] }] 1537 27 #[] #[])
  fields := #[]
  methods := #[k23m0]
  instanceTypes := #[]
  staticTypes := #[]
  resolved := Array.replicate 101 none
  statics := none }

def pool24 : Array CpInfo := pool [(2, .class_ 4), (1, u "java/util/AbstractCollection"), (0, u "<init>"), (0, u "()V"), (1, .class_ 10), (1, u "java/util/ImmutableCollections"), (2, .class_ 14), (0, u "java/util/ImmutableCollections$AbstractImmutableCollection")] 41

def k24m0 : Method := { name := "<init>", desc := "()V", sig := { parameters := [], returnType := none }, accessFlags := 0, code := none }
/-- java/util/ImmutableCollections$AbstractImmutableCollection -/
def k24 : Class := { plain "java/util/ImmutableCollections$AbstractImmutableCollection" (some 11) with
  accessFlags := 1056
  interfaces := #[]
  cf := some (fileOf pool24 13 #[.nestHost 8] #[{ accessFlags := 0, nameIndex := 5, descriptorIndex := 6, attributes := #[] }] 1056 2 #[] #[])
  fields := #[]
  methods := #[k24m0]
  instanceTypes := #[]
  staticTypes := #[]
  resolved := Array.replicate 56 none
  statics := none }

def pool25 : Array CpInfo := pool [(2, .class_ 4), (1, u "java/util/ImmutableCollections$AbstractImmutableCollection"), (0, u "<init>"), (0, u "()V"), (1, .class_ 10), (1, u "java/util/ImmutableCollections"), (3, .class_ 16), (1, u "java/util/ImmutableCollections$AbstractImmutableList"), (60, .class_ 78), (0, u "java/util/List"), (45, .class_ 125), (0, u "java/util/RandomAccess")] 70

def k25m0 : Method := { name := "<init>", desc := "()V", sig := { parameters := [], returnType := none }, accessFlags := 0, code := none }
/-- java/util/ImmutableCollections$AbstractImmutableList -/
def k25 : Class := { plain "java/util/ImmutableCollections$AbstractImmutableList" (some 24) with
  accessFlags := 1056
  interfaces := #[13, 15]
  cf := some (fileOf pool25 14 #[.nestHost 8] #[{ accessFlags := 0, nameIndex := 5, descriptorIndex := 6, attributes := #[] }] 1056 2 #[77, 124] #[])
  fields := #[]
  methods := #[k25m0]
  instanceTypes := #[]
  staticTypes := #[]
  resolved := Array.replicate 196 none
  statics := none }

def pool26 : Array CpInfo := pool [(2, .class_ 4), (1, u "java/util/ImmutableCollections$AbstractImmutableList"), (2, .fieldref 8 9), (0, .class_ 10), (0, .nameAndType 11 12), (0, u "java/util/ImmutableCollections$ListN"), (0, u "elements"), (0, u "[Ljava/lang/Object;"), (2, u "allowNulls"), (0, u "Z"), (42, .class_ 60), (0, u "java/io/Serializable"), (16, u "size"), (0, u "()I"), (35, .class_ 115), (0, u "java/util/ImmutableCollections")] 3

def k26c0 : Code := { maxStack := 1, maxLocals := 1, code := jdk_45_method_3_code, exceptionTable := #[], attributes := #[] }
def k26m0 : Method := { name := "size", desc := "()I", sig := { parameters := [], returnType := some .int }, accessFlags := 1, code := some k26c0 }
/-- java/util/ImmutableCollections$ListN -/
def k26 : Class := { plain "java/util/ImmutableCollections$ListN" (some 25) with
  accessFlags := 48
  interfaces := #[2]
  cf := some (fileOf pool26 8 #[.nestHost 114] #[{ accessFlags := 1, nameIndex := 77, descriptorIndex := 78, attributes := #[] }] 48 2 #[59] #[{ accessFlags := 18, nameIndex := 11, descriptorIndex := 12, attributes := #[] }, { accessFlags := 18, nameIndex := 15, descriptorIndex := 16, attributes := #[] }])
  fields := #[{ name := "elements", type := (.array (.object "java/lang/Object")), accessFlags := 18, slot := 0, constantValue := 0 }, { name := "allowNulls", type := .boolean, accessFlags := 18, slot := 1, constantValue := 0 }]
  methods := #[k26m0]
  instanceTypes := #[(.array (.object "java/lang/Object")), .boolean]
  staticTypes := #[]
  resolved := Array.replicate 119 none
  statics := none }

/-- the primitive byte -/
def k27 : Class := { plain "byte" none with kind := .primitive 'B', accessFlags := 0x411 }
/-- [B -/
def k28 : Class := { plain "[B" (some 0) with kind := .array 27 .byte, interfaces := #[16, 2], accessFlags := 1041 }

/-- [Ljava/lang/Integer; -/
def k29 : Class := { plain "[Ljava/lang/Integer;" (some 0) with kind := .array 7 (.object "java/lang/Integer"), interfaces := #[16, 2], accessFlags := 1041 }

/-- [Ljava/lang/Object; -/
def k30 : Class := { plain "[Ljava/lang/Object;" (some 0) with kind := .array 0 (.object "java/lang/Object"), interfaces := #[16, 2], accessFlags := 1041 }

def classes0 : Array Class := #[k0, k1, k2, k3, k4, k5, k6, k7, k8, k9, k10, k11, k12, k13, k14, k15, k16, k17, k18, k19, k20, k21, k22, k23, k24, k25, k26, k27, k28, k29, k30]
/-- the class that the rule has made for the site at 8 of com/example/pocket_context/pocketcontext/internal/Walk$Step.done -/
def k31 : Class := Jvm.LamKit.madeRec { classes := classes0 } "com/example/pocket_context/pocketcontext/internal/Walk$Step" (Jvm.Lambda.Shape.mk "java/util/function/Function" "apply" (Jvm.ClassFile.MethodDescriptor.mk ([(Jvm.ClassFile.FieldType.object "java/lang/Object")] : List Jvm.ClassFile.FieldType) (Option.some (Jvm.ClassFile.FieldType.object "java/lang/Object"))) ([(Jvm.ClassFile.FieldType.object "java/lang/Object")] : List Jvm.ClassFile.FieldType) (6 : Nat) "com/example/pocket_context/pocketcontext/internal/Walk$Step" "lambda$done$1" (Jvm.ClassFile.MethodDescriptor.mk ([(Jvm.ClassFile.FieldType.object "java/lang/Object"), (Jvm.ClassFile.FieldType.object "java/util/List")] : List Jvm.ClassFile.FieldType) (Option.some (Jvm.ClassFile.FieldType.object "java/lang/Object"))) false (Jvm.ClassFile.MethodDescriptor.mk ([(Jvm.ClassFile.FieldType.object "java/util/List")] : List Jvm.ClassFile.FieldType) (Option.some (Jvm.ClassFile.FieldType.object "java/lang/Object")))) 31

/-- the class that the rule has made for the site at 2 of com/example/pocket_context/pocketcontext/internal/Walk$Step.<init> -/
def k32 : Class := Jvm.LamKit.madeRec { classes := classes0 } "com/example/pocket_context/pocketcontext/internal/Walk$Step" (Jvm.Lambda.Shape.mk "java/util/function/Predicate" "test" (Jvm.ClassFile.MethodDescriptor.mk ([(Jvm.ClassFile.FieldType.object "java/lang/Object")] : List Jvm.ClassFile.FieldType) (Option.some Jvm.ClassFile.FieldType.boolean)) ([] : List Jvm.ClassFile.FieldType) (6 : Nat) "com/example/pocket_context/pocketcontext/internal/Walk$Step" "lambda$new$0" (Jvm.ClassFile.MethodDescriptor.mk ([(Jvm.ClassFile.FieldType.object "java/lang/Object")] : List Jvm.ClassFile.FieldType) (Option.some Jvm.ClassFile.FieldType.boolean)) false (Jvm.ClassFile.MethodDescriptor.mk ([(Jvm.ClassFile.FieldType.object "java/lang/Object")] : List Jvm.ClassFile.FieldType) (Option.some Jvm.ClassFile.FieldType.boolean))) 32

def heap : Heap := #[{ cls := 8, slots := #[.int 0, .int 127, .ref 4, .null, .int 0], vm := .statics 8 },
  { cls := 17, slots := #[.long 0, .int 0, .ref 263, .ref 264], vm := .statics 17 },
  { cls := 21, slots := #[.long 0, .int 0, .null, .null, .ref 262, .null, .null, .null, .int 0, .int 0], vm := .statics 21 },
  { cls := 32, slots := #[], vm := .none },
  { cls := 29, slots := #[.ref 6, .ref 7, .ref 8, .ref 9, .ref 10, .ref 11, .ref 12, .ref 13, .ref 14, .ref 15, .ref 16, .ref 17, .ref 18, .ref 19, .ref 20, .ref 21, .ref 22, .ref 23, .ref 24, .ref 25, .ref 26, .ref 27, .ref 28, .ref 29, .ref 30, .ref 31, .ref 32, .ref 33, .ref 34, .ref 35, .ref 36, .ref 37, .ref 38, .ref 39, .ref 40, .ref 41, .ref 42, .ref 43, .ref 44, .ref 45, .ref 46, .ref 47, .ref 48, .ref 49, .ref 50, .ref 51, .ref 52, .ref 53, .ref 54, .ref 55, .ref 56, .ref 57, .ref 58, .ref 59, .ref 60, .ref 61, .ref 62, .ref 63, .ref 64, .ref 65, .ref 66, .ref 67, .ref 68, .ref 69, .ref 70, .ref 71, .ref 72, .ref 73, .ref 74, .ref 75, .ref 76, .ref 77, .ref 78, .ref 79, .ref 80, .ref 81, .ref 82, .ref 83, .ref 84, .ref 85, .ref 86, .ref 87, .ref 88, .ref 89, .ref 90, .ref 91, .ref 92, .ref 93, .ref 94, .ref 95, .ref 96, .ref 97, .ref 98, .ref 99, .ref 100, .ref 101, .ref 102, .ref 103, .ref 104, .ref 105, .ref 106, .ref 107, .ref 108, .ref 109, .ref 110, .ref 111, .ref 112, .ref 113, .ref 114, .ref 115, .ref 116, .ref 117, .ref 118, .ref 119, .ref 120, .ref 121, .ref 122, .ref 123, .ref 124, .ref 125, .ref 126, .ref 127, .ref 128, .ref 129, .ref 130, .ref 131, .ref 132, .ref 133, .ref 134, .ref 135, .ref 136, .ref 137, .ref 138, .ref 139, .ref 140, .ref 141, .ref 142, .ref 143, .ref 144, .ref 145, .ref 146, .ref 147, .ref 148, .ref 149, .ref 150, .ref 151, .ref 152, .ref 153, .ref 154, .ref 155, .ref 156, .ref 157, .ref 158, .ref 159, .ref 160, .ref 161, .ref 162, .ref 163, .ref 164, .ref 165, .ref 166, .ref 167, .ref 168, .ref 169, .ref 170, .ref 171, .ref 172, .ref 173, .ref 174, .ref 175, .ref 176, .ref 177, .ref 178, .ref 179, .ref 180, .ref 181, .ref 182, .ref 183, .ref 184, .ref 185, .ref 186, .ref 187, .ref 188, .ref 189, .ref 190, .ref 191, .ref 192, .ref 193, .ref 194, .ref 195, .ref 196, .ref 197, .ref 198, .ref 199, .ref 200, .ref 201, .ref 202, .ref 203, .ref 204, .ref 205, .ref 206, .ref 207, .ref 208, .ref 209, .ref 210, .ref 211, .ref 212, .ref 213, .ref 214, .ref 215, .ref 216, .ref 217, .ref 218, .ref 219, .ref 220, .ref 221, .ref 222, .ref 223, .ref 224, .ref 225, .ref 226, .ref 227, .ref 228, .ref 229, .ref 230, .ref 231, .ref 232, .ref 233, .ref 234, .ref 235, .ref 236, .ref 237, .ref 238, .ref 239, .ref 240, .ref 241, .ref 242, .ref 243, .ref 244, .ref 245, .ref 246, .ref 247, .ref 248, .ref 249, .ref 250, .ref 251, .ref 252, .ref 253, .ref 254, .ref 255, .ref 256, .ref 257, .ref 258, .ref 259, .ref 260, .ref 261], vm := .none },
  { cls := 30, slots := #[], vm := .none },
  { cls := 7, slots := #[.int (-128)], vm := .none },
  { cls := 7, slots := #[.int (-127)], vm := .none },
  { cls := 7, slots := #[.int (-126)], vm := .none },
  { cls := 7, slots := #[.int (-125)], vm := .none },
  { cls := 7, slots := #[.int (-124)], vm := .none },
  { cls := 7, slots := #[.int (-123)], vm := .none },
  { cls := 7, slots := #[.int (-122)], vm := .none },
  { cls := 7, slots := #[.int (-121)], vm := .none },
  { cls := 7, slots := #[.int (-120)], vm := .none },
  { cls := 7, slots := #[.int (-119)], vm := .none },
  { cls := 7, slots := #[.int (-118)], vm := .none },
  { cls := 7, slots := #[.int (-117)], vm := .none },
  { cls := 7, slots := #[.int (-116)], vm := .none },
  { cls := 7, slots := #[.int (-115)], vm := .none },
  { cls := 7, slots := #[.int (-114)], vm := .none },
  { cls := 7, slots := #[.int (-113)], vm := .none },
  { cls := 7, slots := #[.int (-112)], vm := .none },
  { cls := 7, slots := #[.int (-111)], vm := .none },
  { cls := 7, slots := #[.int (-110)], vm := .none },
  { cls := 7, slots := #[.int (-109)], vm := .none },
  { cls := 7, slots := #[.int (-108)], vm := .none },
  { cls := 7, slots := #[.int (-107)], vm := .none },
  { cls := 7, slots := #[.int (-106)], vm := .none },
  { cls := 7, slots := #[.int (-105)], vm := .none },
  { cls := 7, slots := #[.int (-104)], vm := .none },
  { cls := 7, slots := #[.int (-103)], vm := .none },
  { cls := 7, slots := #[.int (-102)], vm := .none },
  { cls := 7, slots := #[.int (-101)], vm := .none },
  { cls := 7, slots := #[.int (-100)], vm := .none },
  { cls := 7, slots := #[.int (-99)], vm := .none },
  { cls := 7, slots := #[.int (-98)], vm := .none },
  { cls := 7, slots := #[.int (-97)], vm := .none },
  { cls := 7, slots := #[.int (-96)], vm := .none },
  { cls := 7, slots := #[.int (-95)], vm := .none },
  { cls := 7, slots := #[.int (-94)], vm := .none },
  { cls := 7, slots := #[.int (-93)], vm := .none },
  { cls := 7, slots := #[.int (-92)], vm := .none },
  { cls := 7, slots := #[.int (-91)], vm := .none },
  { cls := 7, slots := #[.int (-90)], vm := .none },
  { cls := 7, slots := #[.int (-89)], vm := .none },
  { cls := 7, slots := #[.int (-88)], vm := .none },
  { cls := 7, slots := #[.int (-87)], vm := .none },
  { cls := 7, slots := #[.int (-86)], vm := .none },
  { cls := 7, slots := #[.int (-85)], vm := .none },
  { cls := 7, slots := #[.int (-84)], vm := .none },
  { cls := 7, slots := #[.int (-83)], vm := .none },
  { cls := 7, slots := #[.int (-82)], vm := .none },
  { cls := 7, slots := #[.int (-81)], vm := .none },
  { cls := 7, slots := #[.int (-80)], vm := .none },
  { cls := 7, slots := #[.int (-79)], vm := .none },
  { cls := 7, slots := #[.int (-78)], vm := .none },
  { cls := 7, slots := #[.int (-77)], vm := .none },
  { cls := 7, slots := #[.int (-76)], vm := .none },
  { cls := 7, slots := #[.int (-75)], vm := .none },
  { cls := 7, slots := #[.int (-74)], vm := .none },
  { cls := 7, slots := #[.int (-73)], vm := .none },
  { cls := 7, slots := #[.int (-72)], vm := .none },
  { cls := 7, slots := #[.int (-71)], vm := .none },
  { cls := 7, slots := #[.int (-70)], vm := .none },
  { cls := 7, slots := #[.int (-69)], vm := .none },
  { cls := 7, slots := #[.int (-68)], vm := .none },
  { cls := 7, slots := #[.int (-67)], vm := .none },
  { cls := 7, slots := #[.int (-66)], vm := .none },
  { cls := 7, slots := #[.int (-65)], vm := .none },
  { cls := 7, slots := #[.int (-64)], vm := .none },
  { cls := 7, slots := #[.int (-63)], vm := .none },
  { cls := 7, slots := #[.int (-62)], vm := .none },
  { cls := 7, slots := #[.int (-61)], vm := .none },
  { cls := 7, slots := #[.int (-60)], vm := .none },
  { cls := 7, slots := #[.int (-59)], vm := .none },
  { cls := 7, slots := #[.int (-58)], vm := .none },
  { cls := 7, slots := #[.int (-57)], vm := .none },
  { cls := 7, slots := #[.int (-56)], vm := .none },
  { cls := 7, slots := #[.int (-55)], vm := .none },
  { cls := 7, slots := #[.int (-54)], vm := .none },
  { cls := 7, slots := #[.int (-53)], vm := .none },
  { cls := 7, slots := #[.int (-52)], vm := .none },
  { cls := 7, slots := #[.int (-51)], vm := .none },
  { cls := 7, slots := #[.int (-50)], vm := .none },
  { cls := 7, slots := #[.int (-49)], vm := .none },
  { cls := 7, slots := #[.int (-48)], vm := .none },
  { cls := 7, slots := #[.int (-47)], vm := .none },
  { cls := 7, slots := #[.int (-46)], vm := .none },
  { cls := 7, slots := #[.int (-45)], vm := .none },
  { cls := 7, slots := #[.int (-44)], vm := .none },
  { cls := 7, slots := #[.int (-43)], vm := .none },
  { cls := 7, slots := #[.int (-42)], vm := .none },
  { cls := 7, slots := #[.int (-41)], vm := .none },
  { cls := 7, slots := #[.int (-40)], vm := .none },
  { cls := 7, slots := #[.int (-39)], vm := .none },
  { cls := 7, slots := #[.int (-38)], vm := .none },
  { cls := 7, slots := #[.int (-37)], vm := .none },
  { cls := 7, slots := #[.int (-36)], vm := .none },
  { cls := 7, slots := #[.int (-35)], vm := .none },
  { cls := 7, slots := #[.int (-34)], vm := .none },
  { cls := 7, slots := #[.int (-33)], vm := .none },
  { cls := 7, slots := #[.int (-32)], vm := .none },
  { cls := 7, slots := #[.int (-31)], vm := .none },
  { cls := 7, slots := #[.int (-30)], vm := .none },
  { cls := 7, slots := #[.int (-29)], vm := .none },
  { cls := 7, slots := #[.int (-28)], vm := .none },
  { cls := 7, slots := #[.int (-27)], vm := .none },
  { cls := 7, slots := #[.int (-26)], vm := .none },
  { cls := 7, slots := #[.int (-25)], vm := .none },
  { cls := 7, slots := #[.int (-24)], vm := .none },
  { cls := 7, slots := #[.int (-23)], vm := .none },
  { cls := 7, slots := #[.int (-22)], vm := .none },
  { cls := 7, slots := #[.int (-21)], vm := .none },
  { cls := 7, slots := #[.int (-20)], vm := .none },
  { cls := 7, slots := #[.int (-19)], vm := .none },
  { cls := 7, slots := #[.int (-18)], vm := .none },
  { cls := 7, slots := #[.int (-17)], vm := .none },
  { cls := 7, slots := #[.int (-16)], vm := .none },
  { cls := 7, slots := #[.int (-15)], vm := .none },
  { cls := 7, slots := #[.int (-14)], vm := .none },
  { cls := 7, slots := #[.int (-13)], vm := .none },
  { cls := 7, slots := #[.int (-12)], vm := .none },
  { cls := 7, slots := #[.int (-11)], vm := .none },
  { cls := 7, slots := #[.int (-10)], vm := .none },
  { cls := 7, slots := #[.int (-9)], vm := .none },
  { cls := 7, slots := #[.int (-8)], vm := .none },
  { cls := 7, slots := #[.int (-7)], vm := .none },
  { cls := 7, slots := #[.int (-6)], vm := .none },
  { cls := 7, slots := #[.int (-5)], vm := .none },
  { cls := 7, slots := #[.int (-4)], vm := .none },
  { cls := 7, slots := #[.int (-3)], vm := .none },
  { cls := 7, slots := #[.int (-2)], vm := .none },
  { cls := 7, slots := #[.int (-1)], vm := .none },
  { cls := 7, slots := #[.int (0)], vm := .none },
  { cls := 7, slots := #[.int (1)], vm := .none },
  { cls := 7, slots := #[.int (2)], vm := .none },
  { cls := 7, slots := #[.int (3)], vm := .none },
  { cls := 7, slots := #[.int (4)], vm := .none },
  { cls := 7, slots := #[.int (5)], vm := .none },
  { cls := 7, slots := #[.int (6)], vm := .none },
  { cls := 7, slots := #[.int (7)], vm := .none },
  { cls := 7, slots := #[.int (8)], vm := .none },
  { cls := 7, slots := #[.int (9)], vm := .none },
  { cls := 7, slots := #[.int (10)], vm := .none },
  { cls := 7, slots := #[.int (11)], vm := .none },
  { cls := 7, slots := #[.int (12)], vm := .none },
  { cls := 7, slots := #[.int (13)], vm := .none },
  { cls := 7, slots := #[.int (14)], vm := .none },
  { cls := 7, slots := #[.int (15)], vm := .none },
  { cls := 7, slots := #[.int (16)], vm := .none },
  { cls := 7, slots := #[.int (17)], vm := .none },
  { cls := 7, slots := #[.int (18)], vm := .none },
  { cls := 7, slots := #[.int (19)], vm := .none },
  { cls := 7, slots := #[.int (20)], vm := .none },
  { cls := 7, slots := #[.int (21)], vm := .none },
  { cls := 7, slots := #[.int (22)], vm := .none },
  { cls := 7, slots := #[.int (23)], vm := .none },
  { cls := 7, slots := #[.int (24)], vm := .none },
  { cls := 7, slots := #[.int (25)], vm := .none },
  { cls := 7, slots := #[.int (26)], vm := .none },
  { cls := 7, slots := #[.int (27)], vm := .none },
  { cls := 7, slots := #[.int (28)], vm := .none },
  { cls := 7, slots := #[.int (29)], vm := .none },
  { cls := 7, slots := #[.int (30)], vm := .none },
  { cls := 7, slots := #[.int (31)], vm := .none },
  { cls := 7, slots := #[.int (32)], vm := .none },
  { cls := 7, slots := #[.int (33)], vm := .none },
  { cls := 7, slots := #[.int (34)], vm := .none },
  { cls := 7, slots := #[.int (35)], vm := .none },
  { cls := 7, slots := #[.int (36)], vm := .none },
  { cls := 7, slots := #[.int (37)], vm := .none },
  { cls := 7, slots := #[.int (38)], vm := .none },
  { cls := 7, slots := #[.int (39)], vm := .none },
  { cls := 7, slots := #[.int (40)], vm := .none },
  { cls := 7, slots := #[.int (41)], vm := .none },
  { cls := 7, slots := #[.int (42)], vm := .none },
  { cls := 7, slots := #[.int (43)], vm := .none },
  { cls := 7, slots := #[.int (44)], vm := .none },
  { cls := 7, slots := #[.int (45)], vm := .none },
  { cls := 7, slots := #[.int (46)], vm := .none },
  { cls := 7, slots := #[.int (47)], vm := .none },
  { cls := 7, slots := #[.int (48)], vm := .none },
  { cls := 7, slots := #[.int (49)], vm := .none },
  { cls := 7, slots := #[.int (50)], vm := .none },
  { cls := 7, slots := #[.int (51)], vm := .none },
  { cls := 7, slots := #[.int (52)], vm := .none },
  { cls := 7, slots := #[.int (53)], vm := .none },
  { cls := 7, slots := #[.int (54)], vm := .none },
  { cls := 7, slots := #[.int (55)], vm := .none },
  { cls := 7, slots := #[.int (56)], vm := .none },
  { cls := 7, slots := #[.int (57)], vm := .none },
  { cls := 7, slots := #[.int (58)], vm := .none },
  { cls := 7, slots := #[.int (59)], vm := .none },
  { cls := 7, slots := #[.int (60)], vm := .none },
  { cls := 7, slots := #[.int (61)], vm := .none },
  { cls := 7, slots := #[.int (62)], vm := .none },
  { cls := 7, slots := #[.int (63)], vm := .none },
  { cls := 7, slots := #[.int (64)], vm := .none },
  { cls := 7, slots := #[.int (65)], vm := .none },
  { cls := 7, slots := #[.int (66)], vm := .none },
  { cls := 7, slots := #[.int (67)], vm := .none },
  { cls := 7, slots := #[.int (68)], vm := .none },
  { cls := 7, slots := #[.int (69)], vm := .none },
  { cls := 7, slots := #[.int (70)], vm := .none },
  { cls := 7, slots := #[.int (71)], vm := .none },
  { cls := 7, slots := #[.int (72)], vm := .none },
  { cls := 7, slots := #[.int (73)], vm := .none },
  { cls := 7, slots := #[.int (74)], vm := .none },
  { cls := 7, slots := #[.int (75)], vm := .none },
  { cls := 7, slots := #[.int (76)], vm := .none },
  { cls := 7, slots := #[.int (77)], vm := .none },
  { cls := 7, slots := #[.int (78)], vm := .none },
  { cls := 7, slots := #[.int (79)], vm := .none },
  { cls := 7, slots := #[.int (80)], vm := .none },
  { cls := 7, slots := #[.int (81)], vm := .none },
  { cls := 7, slots := #[.int (82)], vm := .none },
  { cls := 7, slots := #[.int (83)], vm := .none },
  { cls := 7, slots := #[.int (84)], vm := .none },
  { cls := 7, slots := #[.int (85)], vm := .none },
  { cls := 7, slots := #[.int (86)], vm := .none },
  { cls := 7, slots := #[.int (87)], vm := .none },
  { cls := 7, slots := #[.int (88)], vm := .none },
  { cls := 7, slots := #[.int (89)], vm := .none },
  { cls := 7, slots := #[.int (90)], vm := .none },
  { cls := 7, slots := #[.int (91)], vm := .none },
  { cls := 7, slots := #[.int (92)], vm := .none },
  { cls := 7, slots := #[.int (93)], vm := .none },
  { cls := 7, slots := #[.int (94)], vm := .none },
  { cls := 7, slots := #[.int (95)], vm := .none },
  { cls := 7, slots := #[.int (96)], vm := .none },
  { cls := 7, slots := #[.int (97)], vm := .none },
  { cls := 7, slots := #[.int (98)], vm := .none },
  { cls := 7, slots := #[.int (99)], vm := .none },
  { cls := 7, slots := #[.int (100)], vm := .none },
  { cls := 7, slots := #[.int (101)], vm := .none },
  { cls := 7, slots := #[.int (102)], vm := .none },
  { cls := 7, slots := #[.int (103)], vm := .none },
  { cls := 7, slots := #[.int (104)], vm := .none },
  { cls := 7, slots := #[.int (105)], vm := .none },
  { cls := 7, slots := #[.int (106)], vm := .none },
  { cls := 7, slots := #[.int (107)], vm := .none },
  { cls := 7, slots := #[.int (108)], vm := .none },
  { cls := 7, slots := #[.int (109)], vm := .none },
  { cls := 7, slots := #[.int (110)], vm := .none },
  { cls := 7, slots := #[.int (111)], vm := .none },
  { cls := 7, slots := #[.int (112)], vm := .none },
  { cls := 7, slots := #[.int (113)], vm := .none },
  { cls := 7, slots := #[.int (114)], vm := .none },
  { cls := 7, slots := #[.int (115)], vm := .none },
  { cls := 7, slots := #[.int (116)], vm := .none },
  { cls := 7, slots := #[.int (117)], vm := .none },
  { cls := 7, slots := #[.int (118)], vm := .none },
  { cls := 7, slots := #[.int (119)], vm := .none },
  { cls := 7, slots := #[.int (120)], vm := .none },
  { cls := 7, slots := #[.int (121)], vm := .none },
  { cls := 7, slots := #[.int (122)], vm := .none },
  { cls := 7, slots := #[.int (123)], vm := .none },
  { cls := 7, slots := #[.int (124)], vm := .none },
  { cls := 7, slots := #[.int (125)], vm := .none },
  { cls := 7, slots := #[.int (126)], vm := .none },
  { cls := 7, slots := #[.int (127)], vm := .none },
  { cls := 26, slots := #[.ref 5, .int 0], vm := .none },
  { cls := 30, slots := #[], vm := .none },
  { cls := 30, slots := #[], vm := .none }]
def classes : Array Class := #[k0, k1, k2, k3, k4, k5, k6, k7, k8, k9, k10, k11, k12, k13, k14, k15, k16, k17, k18, k19, k20, k21, k22, k23, k24, k25, k26, k27, k28, k29, k30, k31, k32]
def interned : List (Array UInt16 × Addr) := []
def slotsUsed : Nat := 533
def theMethod : MethodId := ⟨1, 1⟩
def args0 : Array Value := #[.int 5, .int 7, .int 9, .int 2]
def aboutOver (below : List Frame) : State where
  vm := { classes := classes, interned := interned.toArray }
  heap := heap
  slotsUsed := slotsUsed
  threads := #[{ frames := .invoking theMethod args0 :: below }]
def below0 : List Frame := [.native { method := ⟨0, 0⟩, args := #[] }]
def about1 : State := aboutOver below0
def p0 : Program := .bare "" "" ""
def e0 : Env := launch0.env 0 0 0
theorem w_frames : about1.frames = Frame.invoking theMethod args0 :: below0 := rfl
set_option maxRecDepth 65536 in
theorem w_args : argsFit about1.vm theMethod args0 = true := by decide +kernel
set_option maxRecDepth 65536 in
theorem w_heap : heapFits about1 = true := by decide +kernel
set_option maxRecDepth 65536 in
theorem w_runnable : about1.curStatus? = some .runnable := by decide +kernel
set_option maxRecDepth 65536 in
theorem w_alone : about1.alone = true := by decide +kernel
set_option maxRecDepth 65536 in
theorem w_named : about1.methodNamed? x = some theMethod := by decide +kernel
set_option maxRecDepth 65536 in
theorem w_hears : about1.hears theMethod below0 = true := by decide +kernel
set_option maxRecDepth 65536 in
theorem w_ripe : about1.ripe theMethod args0 below0 = true := by decide +kernel
theorem w_running : about1.status = .running := rfl
set_option maxRecDepth 65536 in
theorem w_room : about1.hasRoom e0.platform room_1 = true :=
  launch0.hasRoom_least _ room_1 (by decide +kernel) (by decide +kernel) (by decide +kernel) (by decide +kernel) (by decide +kernel) (by decide +kernel)
theorem allAtoms_all (ts : List Jvm.Cond) (a : Array Jvm.Value) (st : Jvm.State) : (allAtoms ts).before a st = ts.all (fun c => c.before a st) := by
  induction ts with
  | nil => rfl
  | cons c t ih =>
    show (Jvm.Cond.and c (allAtoms t)).before a st = _
    rw [Jvm.Cond.before_and, ih, List.all_cons]
def words1 : List Jvm.Cond := Jvm.Cond.code x code maxLocals ret :: tables_1
/-- a 'code' word, met by the world's own term for the bytes: nothing is compared byte by byte -/
theorem code_word {y : MethodName} {bytes : ByteArray} {mx : Nat} {rt : Option FieldType} {a : Array Value} {s : State} {m : MethodId} {meth : Method} {c : Code} (h1 : s.methodNamed? y = some m) (h2 : s.vm.method? m = some meth) (h3 : meth.code = some c) (h4 : c.code = bytes)
    (h5 : (c.maxLocals == mx && c.exceptionTable.isEmpty && decide (c.maxStack ≤ mostOperands) && decide (meth.sig.returnType = rt) && !meth.locks && decide (parseMethodDescriptor y.desc = some meth.sig)) = true) : (Jvm.Cond.code y bytes mx rt).before a s = true := by
  simp only [Bool.and_eq_true, beq_iff_eq, Bool.not_eq_true', decide_eq_true_eq] at h5
  obtain ⟨⟨⟨⟨⟨g1, g2⟩, g3⟩, g4⟩, g5⟩, g6⟩ := h5
  simp [Cond.before, Cond.holds, Cond.value, h1, h2, h3, h4, g1, g2, g3, g4, g5, g6]
def isCode : Jvm.Cond → Bool
  | .code _ _ _ _ => true
  | _ => false
theorem all_split {L : List Jvm.Cond} {P : Jvm.Cond → Bool} (h1 : L.all (fun c => isCode c || P c) = true) (h2 : ∀ c ∈ L.filter isCode, P c = true) : L.all P = true := by
  refine List.all_eq_true.mpr fun c hc => ?_
  have h := List.all_eq_true.mp h1 c hc
  rcases Bool.eq_false_or_eq_true (isCode c) with hi | hi
  · exact h2 c (List.mem_filter.mpr ⟨hc, hi⟩)
  · simpa [hi] using h
set_option maxRecDepth 65536 in
theorem w_c0 : (Jvm.Cond.code x code maxLocals ret).before args0 about1 = true := code_word (m := ⟨1, 1⟩) (meth := k1m1) (c := k1c1) (by decide +kernel) rfl rfl rfl (by decide +kernel)
set_option maxRecDepth 65536 in
theorem w_c1 : (Jvm.Cond.code ({ cls := "java/lang/Integer", name := "valueOf", desc := "(I)Ljava/lang/Integer;" } : Jvm.MethodName) jdk_33_method_22_code (1 : Nat) (Option.some (Jvm.ClassFile.FieldType.object "java/lang/Integer"))).before args0 about1 = true := code_word (m := ⟨7, 0⟩) (meth := k7m0) (c := k7c0) (by decide +kernel) rfl rfl rfl (by decide +kernel)
set_option maxRecDepth 65536 in
theorem w_c2 : (Jvm.Cond.code ({ cls := "java/util/ArrayList", name := "<init>", desc := "()V" } : Jvm.MethodName) jdk_38_method_2_code (1 : Nat) (Option.none : Option Jvm.ClassFile.FieldType)).before args0 about1 = true := code_word (m := ⟨17, 0⟩) (meth := k17m0) (c := k17c0) (by decide +kernel) rfl rfl rfl (by decide +kernel)
set_option maxRecDepth 65536 in
theorem w_c3 : (Jvm.Cond.code ({ cls := "java/util/AbstractList", name := "<init>", desc := "()V" } : Jvm.MethodName) jdk_39_method_1_code (1 : Nat) (Option.none : Option Jvm.ClassFile.FieldType)).before args0 about1 = true := code_word (m := ⟨14, 0⟩) (meth := k14m0) (c := k14c0) (by decide +kernel) rfl rfl rfl (by decide +kernel)
set_option maxRecDepth 65536 in
theorem w_c4 : (Jvm.Cond.code ({ cls := "java/util/AbstractCollection", name := "<init>", desc := "()V" } : Jvm.MethodName) jdk_22_method_1_code (1 : Nat) (Option.none : Option Jvm.ClassFile.FieldType)).before args0 about1 = true := code_word (m := ⟨11, 0⟩) (meth := k11m0) (c := k11c0) (by decide +kernel) rfl rfl rfl (by decide +kernel)
set_option maxRecDepth 65536 in
theorem w_c5 : (Jvm.Cond.code ({ cls := "java/lang/Object", name := "<init>", desc := "()V" } : Jvm.MethodName) object_method_1_code (1 : Nat) (Option.none : Option Jvm.ClassFile.FieldType)).before args0 about1 = true := code_word (m := ⟨0, 0⟩) (meth := k0m0) (c := k0c0) (by decide +kernel) rfl rfl rfl (by decide +kernel)
set_option maxRecDepth 65536 in
theorem w_c6 : (Jvm.Cond.code ({ cls := "java/util/ArrayList", name := "add", desc := "(Ljava/lang/Object;)Z" } : Jvm.MethodName) jdk_38_method_25_code (2 : Nat) (Option.some Jvm.ClassFile.FieldType.boolean)).before args0 about1 = true := code_word (m := ⟨17, 4⟩) (meth := k17m4) (c := k17c4) (by decide +kernel) rfl rfl rfl (by decide +kernel)
set_option maxRecDepth 65536 in
theorem w_c7 : (Jvm.Cond.code ({ cls := "java/util/ArrayList", name := "add", desc := "(Ljava/lang/Object;[Ljava/lang/Object;I)V" } : Jvm.MethodName) jdk_38_method_24_code (4 : Nat) (Option.none : Option Jvm.ClassFile.FieldType)).before args0 about1 = true := code_word (m := ⟨17, 3⟩) (meth := k17m3) (c := k17c3) (by decide +kernel) rfl rfl rfl (by decide +kernel)
set_option maxRecDepth 65536 in
theorem w_c8 : (Jvm.Cond.code ({ cls := "java/util/ArrayList", name := "grow", desc := "()[Ljava/lang/Object;" } : Jvm.MethodName) jdk_38_method_7_code (1 : Nat) (Option.some (Jvm.ClassFile.FieldType.array (Jvm.ClassFile.FieldType.object "java/lang/Object")))).before args0 about1 = true := code_word (m := ⟨17, 2⟩) (meth := k17m2) (c := k17c2) (by decide +kernel) rfl rfl rfl (by decide +kernel)
set_option maxRecDepth 65536 in
theorem w_c9 : (Jvm.Cond.code ({ cls := "java/util/ArrayList", name := "grow", desc := "(I)[Ljava/lang/Object;" } : Jvm.MethodName) jdk_38_method_6_code (4 : Nat) (Option.some (Jvm.ClassFile.FieldType.array (Jvm.ClassFile.FieldType.object "java/lang/Object")))).before args0 about1 = true := code_word (m := ⟨17, 1⟩) (meth := k17m1) (c := k17c1) (by decide +kernel) rfl rfl rfl (by decide +kernel)
set_option maxRecDepth 65536 in
theorem w_c10 : (Jvm.Cond.code ({ cls := "java/lang/Math", name := "max", desc := "(II)I" } : Jvm.MethodName) jdk_29_method_65_code (2 : Nat) (Option.some Jvm.ClassFile.FieldType.int)).before args0 about1 = true := code_word (m := ⟨18, 1⟩) (meth := k18m1) (c := k18c1) (by decide +kernel) rfl rfl rfl (by decide +kernel)
set_option maxRecDepth 65536 in
theorem w_c11 : (Jvm.Cond.code ({ cls := "com/example/pocket_context/pocketcontext/internal/Walk$Step", name := "done", desc := "(Ljava/lang/Object;)Lcom/example/pocket_context/pocketcontext/internal/Walk$Step;" } : Jvm.MethodName) prog_52_method_3_code (1 : Nat) (Option.some (Jvm.ClassFile.FieldType.object "com/example/pocket_context/pocketcontext/internal/Walk$Step"))).before args0 about1 = true := code_word (m := ⟨20, 2⟩) (meth := k20m2) (c := k20c2) (by decide +kernel) rfl rfl rfl (by decide +kernel)
set_option maxRecDepth 65536 in
theorem w_c12 : (Jvm.Cond.code ({ cls := "java/util/List", name := "of", desc := "()Ljava/util/List;" } : Jvm.MethodName) jdk_40_method_36_code (0 : Nat) (Option.some (Jvm.ClassFile.FieldType.object "java/util/List"))).before args0 about1 = true := code_word (m := ⟨13, 1⟩) (meth := k13m1) (c := k13c1) (by decide +kernel) rfl rfl rfl (by decide +kernel)
set_option maxRecDepth 65536 in
theorem w_c13 : (Jvm.Cond.code ({ cls := "com/example/pocket_context/pocketcontext/internal/Walk$Step", name := "<init>", desc := "(Ljava/util/List;Ljava/util/function/Function;)V" } : Jvm.MethodName) prog_52_method_1_code (3 : Nat) (Option.none : Option Jvm.ClassFile.FieldType)).before args0 about1 = true := code_word (m := ⟨20, 0⟩) (meth := k20m0) (c := k20c0) (by decide +kernel) rfl rfl rfl (by decide +kernel)
set_option maxRecDepth 65536 in
theorem w_c14 : (Jvm.Cond.code ({ cls := "com/example/pocket_context/pocketcontext/internal/Walk$Step", name := "<init>", desc := "(Ljava/util/List;Ljava/util/function/Predicate;Ljava/util/function/Function;)V" } : Jvm.MethodName) prog_52_method_2_code (4 : Nat) (Option.none : Option Jvm.ClassFile.FieldType)).before args0 about1 = true := code_word (m := ⟨20, 1⟩) (meth := k20m1) (c := k20c1) (by decide +kernel) rfl rfl rfl (by decide +kernel)
set_option maxRecDepth 65536 in
theorem w_c15 : (Jvm.Cond.code ({ cls := "java/lang/Record", name := "<init>", desc := "()V" } : Jvm.MethodName) jdk_30_method_1_code (1 : Nat) (Option.none : Option Jvm.ClassFile.FieldType)).before args0 about1 = true := code_word (m := ⟨19, 0⟩) (meth := k19m0) (c := k19c0) (by decide +kernel) rfl rfl rfl (by decide +kernel)
set_option maxRecDepth 65536 in
theorem w_c16 : (Jvm.Cond.code ({ cls := "com/example/pocket_context/pocketcontext/internal/Walk$Step", name := "parts", desc := "()Ljava/util/List;" } : Jvm.MethodName) prog_52_method_7_code (1 : Nat) (Option.some (Jvm.ClassFile.FieldType.object "java/util/List"))).before args0 about1 = true := code_word (m := ⟨20, 3⟩) (meth := k20m3) (c := k20c3) (by decide +kernel) rfl rfl rfl (by decide +kernel)
set_option maxRecDepth 65536 in
theorem w_c17 : (Jvm.Cond.code ({ cls := "java/util/ImmutableCollections$ListN", name := "size", desc := "()I" } : Jvm.MethodName) jdk_45_method_3_code (1 : Nat) (Option.some Jvm.ClassFile.FieldType.int)).before args0 about1 = true := code_word (m := ⟨26, 0⟩) (meth := k26m0) (c := k26c0) (by decide +kernel) rfl rfl rfl (by decide +kernel)
set_option maxRecDepth 65536 in
theorem w_c18 : (Jvm.Cond.code ({ cls := "com/example/pocket_context/pocketcontext/internal/Walk$Step", name := "settles", desc := "()Ljava/util/function/Predicate;" } : Jvm.MethodName) prog_52_method_8_code (1 : Nat) (Option.some (Jvm.ClassFile.FieldType.object "java/util/function/Predicate"))).before args0 about1 = true := code_word (m := ⟨20, 4⟩) (meth := k20m4) (c := k20c4) (by decide +kernel) rfl rfl rfl (by decide +kernel)
set_option maxRecDepth 65536 in
theorem w_c19 : (Jvm.Cond.code ({ cls := "com/example/pocket_context/pocketcontext/internal/Walk$Step", name := "lambda$new$0", desc := "(Ljava/lang/Object;)Z" } : Jvm.MethodName) prog_52_method_11_code (1 : Nat) (Option.some Jvm.ClassFile.FieldType.boolean)).before args0 about1 = true := code_word (m := ⟨20, 7⟩) (meth := k20m7) (c := k20c7) (by decide +kernel) rfl rfl rfl (by decide +kernel)
set_option maxRecDepth 65536 in
theorem w_c20 : (Jvm.Cond.code ({ cls := "com/example/pocket_context/pocketcontext/internal/Walk$Step", name := "result", desc := "()Ljava/util/function/Function;" } : Jvm.MethodName) prog_52_method_9_code (1 : Nat) (Option.some (Jvm.ClassFile.FieldType.object "java/util/function/Function"))).before args0 about1 = true := code_word (m := ⟨20, 5⟩) (meth := k20m5) (c := k20c5) (by decide +kernel) rfl rfl rfl (by decide +kernel)
set_option maxRecDepth 65536 in
theorem w_c21 : (Jvm.Cond.code ({ cls := "com/example/pocket_context/pocketcontext/internal/Walk$Step", name := "lambda$done$1", desc := "(Ljava/lang/Object;Ljava/util/List;)Ljava/lang/Object;" } : Jvm.MethodName) prog_52_method_10_code (2 : Nat) (Option.some (Jvm.ClassFile.FieldType.object "java/lang/Object"))).before args0 about1 = true := code_word (m := ⟨20, 6⟩) (meth := k20m6) (c := k20c6) (by decide +kernel) rfl rfl rfl (by decide +kernel)
set_option maxRecDepth 65536 in
theorem w_c22 : (Jvm.Cond.code ({ cls := "java/lang/Integer", name := "intValue", desc := "()I" } : Jvm.MethodName) jdk_33_method_27_code (1 : Nat) (Option.some Jvm.ClassFile.FieldType.int)).before args0 about1 = true := code_word (m := ⟨7, 2⟩) (meth := k7m2) (c := k7c2) (by decide +kernel) rfl rfl rfl (by decide +kernel)
set_option maxRecDepth 65536 in
theorem w_c23 : (Jvm.Cond.code ({ cls := "java/lang/Integer", name := "<init>", desc := "(I)V" } : Jvm.MethodName) jdk_33_method_23_code (2 : Nat) (Option.none : Option Jvm.ClassFile.FieldType)).before args0 about1 = true := code_word (m := ⟨7, 1⟩) (meth := k7m1) (c := k7c1) (by decide +kernel) rfl rfl rfl (by decide +kernel)
set_option maxRecDepth 65536 in
theorem w_c24 : (Jvm.Cond.code ({ cls := "java/lang/Number", name := "<init>", desc := "()V" } : Jvm.MethodName) jdk_18_method_1_code (1 : Nat) (Option.none : Option Jvm.ClassFile.FieldType)).before args0 about1 = true := code_word (m := ⟨3, 0⟩) (meth := k3m0) (c := k3c0) (by decide +kernel) rfl rfl rfl (by decide +kernel)
def codes1 : List Jvm.Cond := [Jvm.Cond.code x code maxLocals ret, Jvm.Cond.code ({ cls := "java/lang/Integer", name := "valueOf", desc := "(I)Ljava/lang/Integer;" } : Jvm.MethodName) jdk_33_method_22_code (1 : Nat) (Option.some (Jvm.ClassFile.FieldType.object "java/lang/Integer")), Jvm.Cond.code ({ cls := "java/util/ArrayList", name := "<init>", desc := "()V" } : Jvm.MethodName) jdk_38_method_2_code (1 : Nat) (Option.none : Option Jvm.ClassFile.FieldType), Jvm.Cond.code ({ cls := "java/util/AbstractList", name := "<init>", desc := "()V" } : Jvm.MethodName) jdk_39_method_1_code (1 : Nat) (Option.none : Option Jvm.ClassFile.FieldType), Jvm.Cond.code ({ cls := "java/util/AbstractCollection", name := "<init>", desc := "()V" } : Jvm.MethodName) jdk_22_method_1_code (1 : Nat) (Option.none : Option Jvm.ClassFile.FieldType), Jvm.Cond.code ({ cls := "java/lang/Object", name := "<init>", desc := "()V" } : Jvm.MethodName) object_method_1_code (1 : Nat) (Option.none : Option Jvm.ClassFile.FieldType), Jvm.Cond.code ({ cls := "java/util/ArrayList", name := "add", desc := "(Ljava/lang/Object;)Z" } : Jvm.MethodName) jdk_38_method_25_code (2 : Nat) (Option.some Jvm.ClassFile.FieldType.boolean), Jvm.Cond.code ({ cls := "java/util/ArrayList", name := "add", desc := "(Ljava/lang/Object;[Ljava/lang/Object;I)V" } : Jvm.MethodName) jdk_38_method_24_code (4 : Nat) (Option.none : Option Jvm.ClassFile.FieldType), Jvm.Cond.code ({ cls := "java/util/ArrayList", name := "grow", desc := "()[Ljava/lang/Object;" } : Jvm.MethodName) jdk_38_method_7_code (1 : Nat) (Option.some (Jvm.ClassFile.FieldType.array (Jvm.ClassFile.FieldType.object "java/lang/Object"))), Jvm.Cond.code ({ cls := "java/util/ArrayList", name := "grow", desc := "(I)[Ljava/lang/Object;" } : Jvm.MethodName) jdk_38_method_6_code (4 : Nat) (Option.some (Jvm.ClassFile.FieldType.array (Jvm.ClassFile.FieldType.object "java/lang/Object"))), Jvm.Cond.code ({ cls := "java/lang/Math", name := "max", desc := "(II)I" } : Jvm.MethodName) jdk_29_method_65_code (2 : Nat) (Option.some Jvm.ClassFile.FieldType.int), Jvm.Cond.code ({ cls := "com/example/pocket_context/pocketcontext/internal/Walk$Step", name := "done", desc := "(Ljava/lang/Object;)Lcom/example/pocket_context/pocketcontext/internal/Walk$Step;" } : Jvm.MethodName) prog_52_method_3_code (1 : Nat) (Option.some (Jvm.ClassFile.FieldType.object "com/example/pocket_context/pocketcontext/internal/Walk$Step")), Jvm.Cond.code ({ cls := "java/util/List", name := "of", desc := "()Ljava/util/List;" } : Jvm.MethodName) jdk_40_method_36_code (0 : Nat) (Option.some (Jvm.ClassFile.FieldType.object "java/util/List")), Jvm.Cond.code ({ cls := "com/example/pocket_context/pocketcontext/internal/Walk$Step", name := "<init>", desc := "(Ljava/util/List;Ljava/util/function/Function;)V" } : Jvm.MethodName) prog_52_method_1_code (3 : Nat) (Option.none : Option Jvm.ClassFile.FieldType), Jvm.Cond.code ({ cls := "com/example/pocket_context/pocketcontext/internal/Walk$Step", name := "<init>", desc := "(Ljava/util/List;Ljava/util/function/Predicate;Ljava/util/function/Function;)V" } : Jvm.MethodName) prog_52_method_2_code (4 : Nat) (Option.none : Option Jvm.ClassFile.FieldType), Jvm.Cond.code ({ cls := "java/lang/Record", name := "<init>", desc := "()V" } : Jvm.MethodName) jdk_30_method_1_code (1 : Nat) (Option.none : Option Jvm.ClassFile.FieldType), Jvm.Cond.code ({ cls := "com/example/pocket_context/pocketcontext/internal/Walk$Step", name := "parts", desc := "()Ljava/util/List;" } : Jvm.MethodName) prog_52_method_7_code (1 : Nat) (Option.some (Jvm.ClassFile.FieldType.object "java/util/List")), Jvm.Cond.code ({ cls := "java/util/ImmutableCollections$ListN", name := "size", desc := "()I" } : Jvm.MethodName) jdk_45_method_3_code (1 : Nat) (Option.some Jvm.ClassFile.FieldType.int), Jvm.Cond.code ({ cls := "com/example/pocket_context/pocketcontext/internal/Walk$Step", name := "settles", desc := "()Ljava/util/function/Predicate;" } : Jvm.MethodName) prog_52_method_8_code (1 : Nat) (Option.some (Jvm.ClassFile.FieldType.object "java/util/function/Predicate")), Jvm.Cond.code ({ cls := "com/example/pocket_context/pocketcontext/internal/Walk$Step", name := "lambda$new$0", desc := "(Ljava/lang/Object;)Z" } : Jvm.MethodName) prog_52_method_11_code (1 : Nat) (Option.some Jvm.ClassFile.FieldType.boolean), Jvm.Cond.code ({ cls := "com/example/pocket_context/pocketcontext/internal/Walk$Step", name := "result", desc := "()Ljava/util/function/Function;" } : Jvm.MethodName) prog_52_method_9_code (1 : Nat) (Option.some (Jvm.ClassFile.FieldType.object "java/util/function/Function")), Jvm.Cond.code ({ cls := "com/example/pocket_context/pocketcontext/internal/Walk$Step", name := "lambda$done$1", desc := "(Ljava/lang/Object;Ljava/util/List;)Ljava/lang/Object;" } : Jvm.MethodName) prog_52_method_10_code (2 : Nat) (Option.some (Jvm.ClassFile.FieldType.object "java/lang/Object")), Jvm.Cond.code ({ cls := "java/lang/Integer", name := "intValue", desc := "()I" } : Jvm.MethodName) jdk_33_method_27_code (1 : Nat) (Option.some Jvm.ClassFile.FieldType.int), Jvm.Cond.code ({ cls := "java/lang/Integer", name := "<init>", desc := "(I)V" } : Jvm.MethodName) jdk_33_method_23_code (2 : Nat) (Option.none : Option Jvm.ClassFile.FieldType), Jvm.Cond.code ({ cls := "java/lang/Number", name := "<init>", desc := "()V" } : Jvm.MethodName) jdk_18_method_1_code (1 : Nat) (Option.none : Option Jvm.ClassFile.FieldType)]
set_option maxRecDepth 65536 in
theorem codes_eq : words1.filter isCode = codes1 := rfl
theorem w_codes : ∀ c ∈ words1.filter isCode, c.before args0 about1 = true := by
  rw [codes_eq]
  intro c hc
  simp only [codes1, List.mem_cons, List.not_mem_nil, or_false] at hc
  rcases hc with rfl | rfl | rfl | rfl | rfl | rfl | rfl | rfl | rfl | rfl | rfl | rfl | rfl | rfl | rfl | rfl | rfl | rfl | rfl | rfl | rfl | rfl | rfl | rfl | rfl
  · exact w_c0
  · exact w_c1
  · exact w_c2
  · exact w_c3
  · exact w_c4
  · exact w_c5
  · exact w_c6
  · exact w_c7
  · exact w_c8
  · exact w_c9
  · exact w_c10
  · exact w_c11
  · exact w_c12
  · exact w_c13
  · exact w_c14
  · exact w_c15
  · exact w_c16
  · exact w_c17
  · exact w_c18
  · exact w_c19
  · exact w_c20
  · exact w_c21
  · exact w_c22
  · exact w_c23
  · exact w_c24
set_option maxRecDepth 65536 in
theorem w_t1 : (words1.take 24).all (fun c => isCode c || c.before args0 about1) = true := by decide +kernel
set_option maxRecDepth 65536 in
theorem w_t2 : ((words1.drop 24).take 24).all (fun c => isCode c || c.before args0 about1) = true := by decide +kernel
set_option maxRecDepth 65536 in
theorem w_t3 : (((words1.drop 24).drop 24).take 24).all (fun c => isCode c || c.before args0 about1) = true := by decide +kernel
set_option maxRecDepth 65536 in
theorem w_t4 : ((((words1.drop 24).drop 24).drop 24).take 24).all (fun c => isCode c || c.before args0 about1) = true := by decide +kernel
set_option maxRecDepth 65536 in
theorem w_t5 : (((((words1.drop 24).drop 24).drop 24).drop 24).take 24).all (fun c => isCode c || c.before args0 about1) = true := by decide +kernel
set_option maxRecDepth 65536 in
theorem w_t6 : ((((((words1.drop 24).drop 24).drop 24).drop 24).drop 24).take 24).all (fun c => isCode c || c.before args0 about1) = true := by decide +kernel
set_option maxRecDepth 65536 in
theorem w_t7 : ((((((words1.drop 24).drop 24).drop 24).drop 24).drop 24).drop 24).all (fun c => isCode c || c.before args0 about1) = true := by decide +kernel
theorem w_tables : (allAtoms (Jvm.Cond.code x code maxLocals ret :: tables_1)).before args0 about1 = true := by
  rw [allAtoms_all]
  show words1.all (fun c => c.before args0 about1) = true
  refine all_split ?_ w_codes
  rw [← List.take_append_drop 24 words1, List.all_append, w_t1, ← List.take_append_drop 24 (words1.drop 24), List.all_append, w_t2, ← List.take_append_drop 24 ((words1.drop 24).drop 24), List.all_append, w_t3, ← List.take_append_drop 24 (((words1.drop 24).drop 24).drop 24), List.all_append, w_t4, ← List.take_append_drop 24 ((((words1.drop 24).drop 24).drop 24).drop 24), List.all_append, w_t5, ← List.take_append_drop 24 (((((words1.drop 24).drop 24).drop 24).drop 24).drop 24), List.all_append, w_t6, w_t7]
  rfl
set_option maxRecDepth 65536 in
theorem w_rest : rest_1_c.before args0 about1 = true := by decide +kernel
set_option maxRecDepth 65536 in
theorem w_case : (Jvm.Cond.and given_1 narrow_1).before args0 about1 = true := by decide +kernel
theorem w_applies : (headSpec (Jvm.Cond.code x code maxLocals ret :: tables_1) room_1).applies x e0.platform about1 = true :=
  (Spec.applies_iff w_frames).mpr ⟨w_running, w_runnable, w_alone, w_named, w_hears, w_ripe, w_room, w_tables⟩
theorem atStart : AtStart classFile x code maxLocals ret World_1 tables_1 room_1 Calls_1 rest_1 Pre_1 launch0 p0 e0 about1 theMethod args0 below0 :=
  ⟨lists_1, trivial, launch0.admits_env _ _ _, launch0.least_env, fairChoices_fair.cas, fairChoices_fair.clock, w_frames, w_args, w_heap, w_applies, trivial, w_rest, w_case⟩
end start1
theorem witness_1 : WitnessClaimed_1 := ⟨start1.p0, start1.e0, start1.about1, start1.theMethod, start1.args0, start1.below0, start1.atStart⟩
end Jvm.Pilot.@@N@@
