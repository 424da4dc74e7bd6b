import JvmDerived
import JvmDerived.Pilot.@@N@@Statement
import JvmDerived.Pilot.@@N@@Code
set_option linter.unusedVariables false
set_option linter.unusedSimpArgs false
namespace Jvm.Own
open Sem ClassFile Op Lib Bundle Jvm.Stand Jvm.Free Jvm.LawKit Jvm.RoadKit
/-- the run from V comes to an end of which Φ holds -/
def Go (p : Program) (e : Env) (below : List Frame) (Φ : Outcome → State → Prop) (V : State) : Prop :=
  ∃ s₂ o, Steps p.tables e below V s₂ ∧ s₂.status = .running ∧ Ended s₂ below o ∧ Φ o s₂
/-- the end of a walk that interns nothing -/
def EndP (s : State) (Q : Option Value → Heap → List Loc → Prop) (C S : Nat) (o : Outcome) (U : State) : Prop :=
  ∃ v L, o = .returned v ∧ Q v U.heap L ∧ FrameEnd s o U L C S
/-- the end of a walk that may intern constants of EL -/
def EndH (Z : State) (EL : List (String × Nat)) (s : State) (Q : Option Value → Heap → List Loc → Prop) (C S : Nat) (o : Outcome) (U : State) : Prop :=
  ∃ v L, o = .returned v ∧ Q v U.heap L ∧ CHr Z EL s.vm s.heap U.vm U.heap ∧ ReturnedEndW s o U L C S
/-- what such a walk bears along -/
def HW (Z : State) (EL : List (String × Nat)) (s : State) (vm : Vm) (h : Heap) : Prop :=
  (∃ k0, s.Since vm k0 ∧ k0 ≤ h.size) ∧ CHr Z EL s.vm s.heap vm h
section G
variable {p : Program} {l : Launch} {e : Env} {R : Room} {s : State} {m : MethodId} {args : Array Value} {below : List Frame} {meth : Method} {c : Code} {T : State} {locs : List Loc} {cells slots : Nat}
  {Φ : Outcome → State → Prop} {V V' : State} {Z : State} {a0 : Array Value} {h h' : Heap} {EL : List (String × Nat)} {vm : Vm} {Q : Option Value → Heap → List Loc → Prop} {C S : Nat}
theorem Go.st (k : ∀ target, Steps p.tables e below V' target → Steps p.tables e below V target) (g : Go p e below Φ V') : Go p e below Φ V := by
  obtain ⟨s₂, o, h1, h2⟩ := g
  exact ⟨s₂, o, k _ h1, h2⟩
theorem Go.tr (k : Steps p.tables e below V V') (g : Go p e below Φ V') : Go p e below Φ V := by
  obtain ⟨s₂, o, h1, h2⟩ := g
  exact ⟨s₂, o, k.trans h1, h2⟩
theorem HW.ext (H : HW Z EL s vm h) (E : Ext h h') : HW Z EL s vm h' := by
  obtain ⟨⟨k0, h1, h2⟩, h3⟩ := H
  exact ⟨⟨k0, h1, Nat.le_trans h2 E.1⟩, h3.trans (CHr.ext E h3.1)⟩
theorem HW.wr (H : HW Z EL s vm h) {a : Addr} {sl : Nat} {v : Value} (W : Wr h h' a sl v) (S : Safe Z EL vm h a) : HW Z EL s vm h' := by
  obtain ⟨⟨k0, h1, h2⟩, h3⟩ := H
  exact ⟨⟨k0, h1, by rw [W.size]; exact h2⟩, h3.trans (CHr.wr W S h3.1)⟩
theorem HW.keep (H : HW Z EL s vm h) {ws : List Addr} (K : Keep h h' ws) (S : ∀ x ∈ ws, Safe Z EL vm h x) : HW Z EL s vm h' := by
  obtain ⟨⟨k0, h1, h2⟩, h3⟩ := H
  exact ⟨⟨k0, h1, Nat.le_trans h2 K.1⟩, h3.trans (CHr.keep K S h3.1)⟩
theorem keepE (K : Keep h h' []) : Ext h h' := ⟨K.1, fun a c q => K.2.1 a c q (fun z => nomatch z)⟩
theorem extK (E : Ext h h') : Keep h h' [] := (Keep.refl h []).ext E
/-- a String under construction, its value still null, is no booked one -/
theorem Safe.blank {x : Addr} (hal : Z.vm.Alike vm) (E : Exa Z h x "java/lang/String") (F : Fld Z h x "java/lang/String" "value" "[B" .null) : Safe Z EL vm h x := by
  rintro ⟨p, hp, u, a, hb, q, hq, F0, hy⟩
  obtain ⟨cS, ⟨⟨s1, s2, s3, ⟨cv, kv, iv, s4, s4'⟩, ⟨cc, kc, ic, s5, s5'⟩, s6, s7, s8, s9, s10, s11, s12, s13, s14, s15, s16⟩, hfS, hcS⟩, ⟨kS, k1, k2, k3⟩, hB, hbyt⟩ := F0
  rcases hy with rfl | rfl
  · obtain ⟨kv', z4⟩ := ff_back (U := Wst Z vm h) hal s4
    obtain ⟨cell, cf, k, i, f, f1, f2, f3, f4, f5, f6, f7⟩ := F
    cases f2.symm.trans z4
    have s1 : h[q.sa]? = some q.sC := s1
    cases f1.symm.trans s1
    have := f7.symm.trans s8
    simp at this
  · obtain ⟨cell, k, e1, e2, e3, e4, e5⟩ := E
    have s10 : h[q.sd]? = some q.SA := s10
    cases e1.symm.trans s10
    have hB : vm.findClass "[B" = some q.SA.cls := hB
    have hBZ : Z.vm.findClass "[B" = some q.SA.cls := by rw [← hal.findClass]; exact hB
    exact absurd (ids_ne e2 hBZ (by decide) rfl) (fun z => z)
/-- the contract of a body that interns nothing, from its walk -/
theorem openP {y : MethodName} {bytes : ByteArray} {maxL : Nat} {ret : Option FieldType} {ws : List Cond} {rm : Room} {as' : Array Value} (hp : plainFor y = true)
    (body : ∀ (p : Program) (e : Env) (s : State) (m : MethodId) (below : List Frame) (meth : Method) (c : Code) (T : State), p.tables.exec = Jvm.exec → c.code = bytes → c.maxLocals = maxL → meth.sig.returnType = ret → meth.locks = false → meth.name = y.name →
      Z.Warmed39 s.vm → s.vm.findClass y.cls = some m.cls → Stand p l e rm s m as' below meth c T [] 0 0 → T.heap = h → Go p e below (EndP s Q rm.cells rm.slots) (T.setTop (entryFrame m as' maxL))) :
    MetFree l y (head1 (Cond.code y bytes maxL ret :: ws) rm) (fun a U => a = as' ∧ Z.Warmed39 U.vm ∧ U.heap = h) (fun _ _ _ _ _ => True) (fun _ U o U' => ∃ v L, o = .returned v ∧ Q v U'.heap L ∧ FrameEnd U o U' L rm.cells rm.slots) := by
  refine MetFree.of_bodySF hp hisR ?_
  intro p e s m args below meth c s₁ Bd hml0 hP hK
  obtain ⟨rfl, hZ, hh⟩ := hP
  exact body p e s m below meth c s₁ Bd.exec Bd.bytes hml0 Bd.returns (BodyLoose.notSynchronized Bd) (name_of_methodNamed Bd.named Bd.method).1 hZ (findClass_of_methodNamed Bd.named) (Stand.of_body Bd) (by rw [← hh, Bd.state]; rfl)
/-- the contract of a body that may intern -/
theorem openH {y : MethodName} {bytes : ByteArray} {maxL : Nat} {ret : Option FieldType} {ws : List Cond} {rm : Room} {as' : Array Value} (hp : plainFor y = true)
    (body : ∀ (p : Program) (e : Env) (s : State) (m : MethodId) (below : List Frame) (meth : Method) (c : Code) (T : State) (vm : Vm), p.tables.exec = Jvm.exec → c.code = bytes → c.maxLocals = maxL → meth.sig.returnType = ret → meth.locks = false → meth.name = y.name →
      Z.Warmed39 vm → vm.findClass y.cls = some m.cls → Stand p l e rm (s.setVm vm) m as' below meth c T [] 0 0 → T.heap = h → HW Z EL s vm h → Go p e below (EndH Z EL s Q rm.cells rm.slots) (T.setTop (entryFrame m as' maxL))) :
    MetFree l y (head1 (Cond.code y bytes maxL ret :: ws) rm) (fun a U => a = as' ∧ Z.Warmed39 U.vm ∧ U.heap = h ∧ CHv Z EL U.vm h) (fun _ _ _ _ _ => True)
      (fun _ U o U' => ∃ v L, o = .returned v ∧ Q v U'.heap L ∧ CHr Z EL U.vm U.heap U'.vm U'.heap ∧ ReturnedEndW U o U' L rm.cells rm.slots) := by
  refine MetFree.of_bodySF hp hisR ?_
  intro p e s m args below meth c s₁ Bd hml0 hP hK
  obtain ⟨rfl, hZ, hh, hC⟩ := hP
  have hH : HW Z EL s s.vm h := ⟨⟨0, (State.WarmedH.refl s).since 0, Nat.zero_le _⟩, by rw [hh]; exact CHr.refl hC⟩
  exact body p e s m below meth c s₁ s.vm Bd.exec Bd.bytes hml0 Bd.returns (BodyLoose.notSynchronized Bd) (name_of_methodNamed Bd.named Bd.method).1 hZ (findClass_of_methodNamed Bd.named) (Stand.of_body Bd) (by rw [← hh, Bd.state]; rfl) hH
/-- a value is returned -/
theorem Go.ret (X : Stand p l e R s m args below meth c T locs cells slots) (hx : p.tables.exec = Jvm.exec) (hlk : meth.locks = false) (hT : T.heap = h) {pc : Nat} {Ls : Array Slot} {w : Value} {t : FieldType} {i : Instr} {rest : List Value} (hret : meth.sig.returnType = some t) (hn : narrow t w = w)
    (hi : (i = .ireturn ∧ (t = .int ∨ t = .boolean ∨ t = .byte ∨ t = .char ∨ t = .short) ∧ ∃ z, w = .int z) ∨ (i = .lreturn ∧ t = .long ∧ ∃ z, w = .long z) ∨ (i = .dreturn ∧ t = .double ∧ ∃ z, w = .double z) ∨ (i = .freturn ∧ t = .float ∧ ∃ z, w = .float z) ∨ (i = .areturn ∧ t.isReference = true ∧ w.isRef = true))
    (hd : decode c.code pc = .ok (i, 1)) (hc : cells ≤ C) (hs : slots ≤ S) (hQ : Q (some w) h locs) : Go p e below (EndP s Q C S) (T.setTop (mkF m pc Ls (w :: rest))) := by
  obtain ⟨fs, hr, hrun, hended, hW, hsame⟩ := X.leave (v := some w) (fun h => by rw [hret] at h; cases h) hlk
  refine ⟨_, _, retOut X hx hret hn hi hd hr, hrun, hended, _, _, rfl, ?_, ⟨_, rfl⟩, hW, hsame.mono hc hs⟩
  show Q (some w) T.heap locs
  rw [hT]; exact hQ
theorem Go.retV (X : Stand p l e R s m args below meth c T locs cells slots) (hx : p.tables.exec = Jvm.exec) (hlk : meth.locks = false) (hT : T.heap = h) {pc : Nat} {Ls : Array Slot} (hret : meth.sig.returnType = none)
    (hd : decode c.code pc = .ok (.return_, 1)) (hc : cells ≤ C) (hs : slots ≤ S) (hQ : Q none h locs) : Go p e below (EndP s Q C S) (T.setTop (mkF m pc Ls [])) := by
  obtain ⟨fs, hr, hrun, hended, hW, hsame⟩ := X.leave (v := none) (fun _ => rfl) hlk
  refine ⟨_, _, X.returnOut hx hret hd hr, hrun, hended, _, _, rfl, ?_, ⟨_, rfl⟩, hW, hsame.mono hc hs⟩
  show Q none T.heap locs
  rw [hT]; exact hQ
theorem endW_mono {o : Outcome} {U : State} {L : List Loc} {k n : Nat} (q : ReturnedEndW s o U L k n) (hc : k ≤ C) (hs : n ≤ S) : ReturnedEndW s o U L C S := ⟨q.1, q.2.1, q.2.2.1, q.2.2.2.mono hc hs⟩
theorem Go.retH (hEL : EW Z a0 EL) (H : HW Z EL s vm h) (hZ : Z.Warmed39 vm) (X : Stand p l e R (s.setVm vm) m args below meth c T locs cells slots) (hx : p.tables.exec = Jvm.exec) (hlk : meth.locks = false) (hT : T.heap = h) {pc : Nat} {Ls : Array Slot} {w : Value} {t : FieldType} {i : Instr} {rest : List Value} (hret : meth.sig.returnType = some t) (hn : narrow t w = w)
    (hi : (i = .ireturn ∧ (t = .int ∨ t = .boolean ∨ t = .byte ∨ t = .char ∨ t = .short) ∧ ∃ z, w = .int z) ∨ (i = .lreturn ∧ t = .long ∧ ∃ z, w = .long z) ∨ (i = .dreturn ∧ t = .double ∧ ∃ z, w = .double z) ∨ (i = .freturn ∧ t = .float ∧ ∃ z, w = .float z) ∨ (i = .areturn ∧ t.isReference = true ∧ w.isRef = true))
    (hd : decode c.code pc = .ok (i, 1)) (hc : cells ≤ C) (hs : slots ≤ S) (hQ : Q (some w) h locs) : Go p e below (EndH Z EL s Q C S) (T.setTop (mkF m pc Ls (w :: rest))) := by
  obtain ⟨⟨k0, h1, h2⟩, h3⟩ := H
  obtain ⟨fs, hr, hrun, hended, hE⟩ := X.leaveW h1 (by rw [hT]; exact h2) (v := some w) (fun h => by rw [hret] at h; cases h) hlk
  refine ⟨_, _, retOut X hx hret hn hi hd hr, hrun, hended, _, _, rfl, ?_, ?_, endW_mono hE hc hs⟩
  · show Q (some w) T.heap locs
    rw [hT]; exact hQ
  · show CHr Z EL s.vm s.heap T.vm T.heap
    rw [hT]; exact h3.trans (CHv.at X hZ hEL h3.1)
theorem Go.retVH (hEL : EW Z a0 EL) (H : HW Z EL s vm h) (hZ : Z.Warmed39 vm) (X : Stand p l e R (s.setVm vm) m args below meth c T locs cells slots) (hx : p.tables.exec = Jvm.exec) (hlk : meth.locks = false) (hT : T.heap = h) {pc : Nat} {Ls : Array Slot} (hret : meth.sig.returnType = none)
    (hd : decode c.code pc = .ok (.return_, 1)) (hc : cells ≤ C) (hs : slots ≤ S) (hQ : Q none h locs) : Go p e below (EndH Z EL s Q C S) (T.setTop (mkF m pc Ls [])) := by
  obtain ⟨⟨k0, h1, h2⟩, h3⟩ := H
  obtain ⟨fs, hr, hrun, hended, hE⟩ := X.leaveW h1 (by rw [hT]; exact h2) (v := none) (fun _ => rfl) hlk
  refine ⟨_, _, X.returnOut hx hret hd hr, hrun, hended, _, _, rfl, ?_, ?_, endW_mono hE hc hs⟩
  · show Q none T.heap locs
    rw [hT]; exact hQ
  · show CHr Z EL s.vm s.heap T.vm T.heap
    rw [hT]; exact h3.trans (CHv.at X hZ hEL h3.1)
theorem riI {z : Int32} {t : FieldType} (ht : t = .int ∨ t = .boolean ∨ t = .byte ∨ t = .char ∨ t = .short) : ((Instr.ireturn = .ireturn ∧ (t = .int ∨ t = .boolean ∨ t = .byte ∨ t = .char ∨ t = .short) ∧ ∃ z', Value.int z = .int z') ∨ (Instr.ireturn = .lreturn ∧ t = .long ∧ ∃ z', Value.int z = .long z') ∨ (Instr.ireturn = .dreturn ∧ t = .double ∧ ∃ z', Value.int z = .double z') ∨ (Instr.ireturn = .freturn ∧ t = .float ∧ ∃ z', Value.int z = .float z') ∨ (Instr.ireturn = .areturn ∧ t.isReference = true ∧ (Value.int z).isRef = true)) := Or.inl ⟨rfl, ht, z, rfl⟩
theorem riA {w : Value} {t : FieldType} (ht : t.isReference = true) (hw : w.isRef = true) : ((Instr.areturn = .ireturn ∧ (t = .int ∨ t = .boolean ∨ t = .byte ∨ t = .char ∨ t = .short) ∧ ∃ z', w = .int z') ∨ (Instr.areturn = .lreturn ∧ t = .long ∧ ∃ z', w = .long z') ∨ (Instr.areturn = .dreturn ∧ t = .double ∧ ∃ z', w = .double z') ∨ (Instr.areturn = .freturn ∧ t = .float ∧ ∃ z', w = .float z') ∨ (Instr.areturn = .areturn ∧ t.isReference = true ∧ w.isRef = true)) := Or.inr (Or.inr (Or.inr (Or.inr ⟨rfl, ht, hw⟩)))
/-- the shape that every payer here has -/
abbrev PB (l : Launch) (R : Room) (p : Program) (e : Env) (below : List Frame) (s : State) (args : Array Value) (y : MethodName) (W : Nat) (as' : Array Value) (h : Heap) (ck sk : Nat) (Q : Option Value → Heap → List Loc → Prop) : Prop :=
  Back l R p e below s args y 3 W (fun A a => a = as' ∧ A.U.heap = h ∧ A.cells + ck ≤ R.cells ∧ A.slots + sk ≤ R.slots) (fun A _ v B => ∃ L, Q v B.U.heap L ∧ B.locs = A.locs ++ L ∧ B.cells = A.cells + ck ∧ B.slots = A.slots + sk)
variable {own : String} {index W ck sk pc : Nat} {y : MethodName} {bytes : ByteArray} {maxL : Nat} {ret : Option FieldType} {Ls : Array Slot} {argsL rest st : List Value} {ps : List FieldType} {rr : Option FieldType} {a : Addr}
/-- invokestatic of a callee that interns nothing -/
theorem Go.callP (X : Stand p l e R s m args below meth c T locs cells slots) (hx : p.tables.exec = Jvm.exec) (hZ : Z.Warmed39 s.vm) (hown : s.vm.findClass own = some m.cls) (hml : c.maxLocals = Ls.size) (hT : T.heap = h)
    (w1 : (Cond.methodLink own index y).before a0 Z = true) (w2 : (Cond.static y).before a0 Z = true) (w3 : (Cond.initialized y.cls).before a0 Z = true) (w4 : (Cond.code y bytes maxL ret).before a0 Z = true) (hy : y.cls ≠ "java/lang/invoke/MethodHandle" ∧ y.cls ≠ "java/lang/invoke/VarHandle")
    (hpd : parseMethodDescriptor y.desc = some ⟨ps, rr⟩) (hlen : argsL.length = ps.length) (hst : st = argsL.reverse ++ rest) (hW : (rest.map fun v => v.category).sum ≤ W) (hd : decode c.code pc = .ok (.invokestatic index, 3))
    (hB : PB l R p e below s args y W argsL.toArray h ck sk Q) (hc : cells + ck ≤ R.cells) (hs : slots + sk ≤ R.slots)
    (k : ∀ (v : Option Value) (T' : State) (h' : Heap) (L : List Loc), T'.heap = h' → Q v h' L → Stand p l e R s m args below meth c T' (locs ++ L) (cells + ck) (slots + sk) → Go p e below Φ (T'.setTop (mkF m (pc + 3) Ls (v.toList ++ rest)))) :
    Go p e below Φ (T.setTop (mkF m pc Ls st)) := by
  subst hst
  obtain ⟨v, vm₁, ⟨T', L', k', n'⟩, -, X', ⟨L, hQ, l', y', z'⟩, st⟩ := Jvm.LawKit.callS X hx (y := y) hown (mvT hZ w1) (mvT hZ w2) (mvT hZ w3) (mvT hZ w4) hy hB (g := mkF m pc Ls (argsL.reverse ++ rest)) rfl hml.symm (argsL := argsL) (rest := rest) (lenOf hpd hlen) rfl (by show 2 * 0 + _ ≤ _; omega) hd (fun _ _ => ⟨rfl, hT, hc, hs⟩)
  dsimp only [Pt.U, Pt.locs, Pt.cells, Pt.slots] at X' l' y' z' st hQ
  subst l' y' z'
  exact Go.st st (k v T' _ L rfl hQ X')
/-- invokespecial of a constructor that interns nothing -/
theorem Go.specP (X : Stand p l e R s m args below meth c T locs cells slots) (hx : p.tables.exec = Jvm.exec) (hZ : Z.Warmed39 s.vm) (hown : s.vm.findClass own = some m.cls) (hml : c.maxLocals = Ls.size) (hT : T.heap = h) (hy1 : y.name = "<init>")
    (w1 : (Cond.methodLink own index y).before a0 Z = true) (w2 : (Cond.instanceMethod y).before a0 Z = true) (w4 : (Cond.code y bytes maxL none).before a0 Z = true) (hy : y.cls ≠ "java/lang/invoke/MethodHandle" ∧ y.cls ≠ "java/lang/invoke/VarHandle")
    (hpd : parseMethodDescriptor y.desc = some ⟨ps, rr⟩) (hlen : argsL.length = ps.length) (hst : st = argsL.reverse ++ .ref a :: rest) (hW : (rest.map fun v => v.category).sum ≤ W) (hd : decode c.code pc = .ok (.invokespecial index, 3))
    (hB : PB l R p e below s args y W (.ref a :: argsL).toArray h ck sk Q) (hc : cells + ck ≤ R.cells) (hs : slots + sk ≤ R.slots)
    (k : ∀ (v : Option Value) (T' : State) (h' : Heap) (L : List Loc), T'.heap = h' → Q v h' L → Stand p l e R s m args below meth c T' (locs ++ L) (cells + ck) (slots + sk) → Go p e below Φ (T'.setTop (mkF m (pc + 3) Ls (v.toList ++ rest)))) :
    Go p e below Φ (T.setTop (mkF m pc Ls st)) := by
  subst hst
  obtain ⟨v, vm₁, ⟨T', L', k', n'⟩, -, X', ⟨L, hQ, l', y', z'⟩, st⟩ := X.specialBack hx (y := y) hy1 hown (mvT hZ w1) (mvT hZ w2) (mvT hZ w4) hy hB (g := mkF m pc Ls (argsL.reverse ++ .ref a :: rest)) rfl hml.symm (Steps.refl _) (a := a) (argsL := argsL) (rest := rest) (lenOf hpd hlen) rfl (by show 2 * 0 + _ ≤ _; omega) hd (fun _ _ => ⟨rfl, hT, hc, hs⟩)
  dsimp only [Pt.U, Pt.locs, Pt.cells, Pt.slots] at X' l' y' z' st hQ
  subst l' y' z'
  exact Go.tr st (k v T' _ L rfl hQ X')
/-- invokevirtual of a callee that interns nothing, on an object exactly of class K -/
theorem Go.virtP {K : String} {z : MethodName} (X : Stand p l e R s m args below meth c T locs cells slots) (hx : p.tables.exec = Jvm.exec) (hZ : Z.Warmed39 s.vm) (hown : s.vm.findClass own = some m.cls) (hml : c.maxLocals = Ls.size) (hT : T.heap = h) (E : Exa Z h a K)
    (w1 : (Cond.methodLink own index y).before a0 Z = true) (w2 : (Cond.declares y).before a0 Z = true) (w3 : (Cond.selects K y z).before a0 Z = true) (w4 : (Cond.instanceMethod z).before a0 Z = true) (hy : y.cls ≠ "java/lang/invoke/MethodHandle" ∧ y.cls ≠ "java/lang/invoke/VarHandle")
    (hpd : parseMethodDescriptor y.desc = some ⟨ps, rr⟩) (hlen : argsL.length = ps.length) (hst : st = argsL.reverse ++ .ref a :: rest) (hW : (rest.map fun v => v.category).sum ≤ W) (hd : decode c.code pc = .ok (.invokevirtual index, 3))
    (hnf : NotFace s y)
    (hB : PB l R p e below s args z W (.ref a :: argsL).toArray h ck sk Q) (hc : cells + ck ≤ R.cells) (hs : slots + sk ≤ R.slots)
    (k : ∀ (v : Option Value) (T' : State) (h' : Heap) (L : List Loc), T'.heap = h' → Q v h' L → Stand p l e R s m args below meth c T' (locs ++ L) (cells + ck) (slots + sk) → Go p e below Φ (T'.setTop (mkF m (pc + 3) Ls (v.toList ++ rest)))) :
    Go p e below Φ (T.setTop (mkF m pc Ls st)) := by
  subst hst
  obtain ⟨cq, kq, qa, qb, qc⟩ := isOf (s := s) (T := T) hZ hT E
  obtain ⟨v, vm₁, ⟨T', L', k', n'⟩, -, X', ⟨L, hQ, l', y', z'⟩, st⟩ := X.virtualBack hx (y := y) (z := z) hown (mvT hZ w1) (mvT hZ w2) hnf (mvT hZ w3) (mvT hZ w4) hy hB qa qc (g := mkF m pc Ls (argsL.reverse ++ .ref a :: rest)) rfl hml.symm (Steps.refl _) (argsL := argsL) (rest := rest) (lenOf hpd hlen) rfl (by show 2 * 0 + _ ≤ _; omega) hd (fun _ _ => ⟨rfl, hT, hc, hs⟩)
  dsimp only [Pt.U, Pt.locs, Pt.cells, Pt.slots] at X' l' y' z' st hQ
  subst l' y' z'
  exact Go.tr st (k v T' _ L rfl hQ X')
/-- the shape of a payer that may intern -/
abbrev PBH (Z : State) (EL : List (String × Nat)) (l : Launch) (R : Room) (p : Program) (e : Env) (below : List Frame) (s : State) (vm : Vm) (args : Array Value) (y : MethodName) (W : Nat) (as' : Array Value) (h : Heap) (ck sk : Nat) (Q : Option Value → Heap → List Loc → Prop) : Prop :=
  BackS l R p e below (s.setVm vm) args y 3 W (fun A a => a = as' ∧ A.U.heap = h ∧ A.cells + ck ≤ R.cells ∧ A.slots + sk ≤ R.slots) (fun A _ v B => ∃ L, Q v B.U.heap L ∧ B.locs = A.locs ++ L ∧ B.cells = A.cells + ck ∧ B.slots = A.slots + sk ∧ CHr Z EL vm h B.U.vm B.U.heap)
theorem HW.call (H : HW Z EL s vm h) (hT : T.heap = h) {U : State} (h1 : (s.setVm vm).Since U.vm U.heap.size) (h2 : T.heap.size ≤ U.heap.size) (h3 : CHr Z EL vm h U.vm U.heap) : HW Z EL s U.vm U.heap := by
  obtain ⟨⟨k0, g1, g2⟩, g3⟩ := H
  exact ⟨⟨_, g1.trans h1 (Nat.le_trans g2 (by rw [← hT]; exact h2)), Nat.le_refl _⟩, g3.trans h3⟩
/-- invokestatic of a callee that may intern -/
theorem Go.callH (H : HW Z EL s vm h) (X : Stand p l e R (s.setVm vm) m args below meth c T locs cells slots) (hx : p.tables.exec = Jvm.exec) (hZ : Z.Warmed39 vm) (hown : vm.findClass own = some m.cls) (hml : c.maxLocals = Ls.size) (hT : T.heap = h)
    (w1 : (Cond.methodLink own index y).before a0 Z = true) (w2 : (Cond.static y).before a0 Z = true) (w3 : (Cond.initialized y.cls).before a0 Z = true) (w4 : (Cond.code y bytes maxL ret).before a0 Z = true) (hy : y.cls ≠ "java/lang/invoke/MethodHandle" ∧ y.cls ≠ "java/lang/invoke/VarHandle")
    (hpd : parseMethodDescriptor y.desc = some ⟨ps, rr⟩) (hlen : argsL.length = ps.length) (hst : st = argsL.reverse ++ rest) (hW : (rest.map fun v => v.category).sum ≤ W) (hd : decode c.code pc = .ok (.invokestatic index, 3))
    (hB : PBH Z EL l R p e below s vm args y W argsL.toArray h ck sk Q) (hc : cells + ck ≤ R.cells) (hs : slots + sk ≤ R.slots)
    (k : ∀ (v : Option Value) (T' : State) (h' : Heap) (L : List Loc) (vm' : Vm), T'.heap = h' → Q v h' L → Z.Warmed39 vm' → vm'.findClass own = some m.cls → HW Z EL s vm' h' → CHr Z EL vm h vm' h' → Stand p l e R (s.setVm vm') m args below meth c T' (locs ++ L) (cells + ck) (slots + sk) → Go p e below Φ (T'.setTop (mkF m (pc + 3) Ls (v.toList ++ rest)))) :
    Go p e below Φ (T.setTop (mkF m pc Ls st)) := by
  subst hst
  obtain ⟨v, vm₁, ⟨T', L', k', n'⟩, -, X', hS', hG', ⟨L, hQ, l', y', z', hR⟩, st⟩ := callSS X hx (y := y) hown (mvT (s := s.setVm vm) hZ w1) (mvT (s := s.setVm vm) hZ w2) (mvT (s := s.setVm vm) hZ w3) (mvT (s := s.setVm vm) hZ w4) hy hB (g := mkF m pc Ls (argsL.reverse ++ rest)) rfl hml.symm (argsL := argsL) (rest := rest) (lenOf hpd hlen) rfl (by show 2 * 0 + _ ≤ _; omega) hd (fun _ _ => ⟨rfl, hT, hc, hs⟩)
  dsimp only [Pt.U, Pt.locs, Pt.cells, Pt.slots] at X' l' y' z' st hQ hS' hG' hR
  subst l' y' z'
  have hW' : Z.Warmed39 T'.vm := State.Warmed39.trans (t := s.setVm vm) hZ hS'.1
  exact Go.tr st (k v T' _ L T'.vm rfl hQ hW' ((hS'.1.alike.findClass _ _).trans hown) (H.call hT hS' hG' hR) hR X')
/-- invokespecial of a constructor that may intern -/
theorem Go.specH (H : HW Z EL s vm h) (X : Stand p l e R (s.setVm vm) m args below meth c T locs cells slots) (hx : p.tables.exec = Jvm.exec) (hZ : Z.Warmed39 vm) (hown : vm.findClass own = some m.cls) (hml : c.maxLocals = Ls.size) (hT : T.heap = h) (hy1 : y.name = "<init>")
    (w1 : (Cond.methodLink own index y).before a0 Z = true) (w2 : (Cond.instanceMethod y).before a0 Z = true) (w4 : (Cond.code y bytes maxL none).before a0 Z = true) (hy : y.cls ≠ "java/lang/invoke/MethodHandle" ∧ y.cls ≠ "java/lang/invoke/VarHandle")
    (hpd : parseMethodDescriptor y.desc = some ⟨ps, rr⟩) (hlen : argsL.length = ps.length) (hst : st = argsL.reverse ++ .ref a :: rest) (hW : (rest.map fun v => v.category).sum ≤ W) (hd : decode c.code pc = .ok (.invokespecial index, 3))
    (hB : PBH Z EL l R p e below s vm args y W (.ref a :: argsL).toArray h ck sk Q) (hc : cells + ck ≤ R.cells) (hs : slots + sk ≤ R.slots)
    (k : ∀ (v : Option Value) (T' : State) (h' : Heap) (L : List Loc) (vm' : Vm), T'.heap = h' → Q v h' L → Z.Warmed39 vm' → vm'.findClass own = some m.cls → HW Z EL s vm' h' → CHr Z EL vm h vm' h' → Stand p l e R (s.setVm vm') m args below meth c T' (locs ++ L) (cells + ck) (slots + sk) → Go p e below Φ (T'.setTop (mkF m (pc + 3) Ls (v.toList ++ rest)))) :
    Go p e below Φ (T.setTop (mkF m pc Ls st)) := by
  subst hst
  obtain ⟨v, vm₁, ⟨T', L', k', n'⟩, -, X', hS', hG', ⟨L, hQ, l', y', z', hR⟩, st⟩ := X.specialBackS hx (y := y) hy1 hown (mvT (s := s.setVm vm) hZ w1) (mvT (s := s.setVm vm) hZ w2) (mvT (s := s.setVm vm) hZ w4) hy hB (g := mkF m pc Ls (argsL.reverse ++ .ref a :: rest)) rfl hml.symm (Steps.refl _) (a := a) (argsL := argsL) (rest := rest) (lenOf hpd hlen) rfl (by show 2 * 0 + _ ≤ _; omega) hd (fun _ _ => ⟨rfl, hT, hc, hs⟩)
  dsimp only [Pt.U, Pt.locs, Pt.cells, Pt.slots] at X' l' y' z' st hQ hS' hG' hR
  subst l' y' z'
  have hW' : Z.Warmed39 T'.vm := State.Warmed39.trans (t := s.setVm vm) hZ hS'.1
  exact Go.tr st (k v T' _ L T'.vm rfl hQ hW' ((hS'.1.alike.findClass _ _).trans hown) (H.call hT hS' hG' hR) hR X')
/-- what a body leaves that answers w and touches nothing -/
abbrev QV (w : Value) (h0 : Heap) (v : Option Value) (h : Heap) (L : List Loc) : Prop := v = some w ∧ L = [] ∧ h = h0
/-- invokestatic of such a body -/
theorem Go.callV {w : Value} (X : Stand p l e R s m args below meth c T locs cells slots) (hx : p.tables.exec = Jvm.exec) (hZ : Z.Warmed39 s.vm) (hown : s.vm.findClass own = some m.cls) (hml : c.maxLocals = Ls.size) (hT : T.heap = h)
    (w1 : (Cond.methodLink own index y).before a0 Z = true) (w2 : (Cond.static y).before a0 Z = true) (w3 : (Cond.initialized y.cls).before a0 Z = true) (w4 : (Cond.code y bytes maxL ret).before a0 Z = true) (hy : y.cls ≠ "java/lang/invoke/MethodHandle" ∧ y.cls ≠ "java/lang/invoke/VarHandle")
    (hpd : parseMethodDescriptor y.desc = some ⟨ps, rr⟩) (hlen : argsL.length = ps.length) (hst : st = argsL.reverse ++ rest) (hW : (rest.map fun v => v.category).sum ≤ W) (hd : decode c.code pc = .ok (.invokestatic index, 3))
    (hB : PB l R p e below s args y W argsL.toArray h 0 0 (QV w h)) (hc : cells ≤ R.cells) (hs : slots ≤ R.slots)
    (k : ∀ (T' : State), T'.heap = h → Stand p l e R s m args below meth c T' locs cells slots → Go p e below Φ (T'.setTop (mkF m (pc + 3) Ls (w :: rest)))) :
    Go p e below Φ (T.setTop (mkF m pc Ls st)) := by
  refine Go.callP X hx hZ hown hml hT w1 w2 w3 w4 hy hpd hlen hst hW hd hB hc hs ?_
  rintro v T' h' L hT' ⟨rfl, rfl, rfl⟩ X'
  rw [List.append_nil] at X'
  exact k T' hT' X'
/-- invokevirtual of such a body -/
theorem Go.virtV {K : String} {z : MethodName} {w : Value} (X : Stand p l e R s m args below meth c T locs cells slots) (hx : p.tables.exec = Jvm.exec) (hZ : Z.Warmed39 s.vm) (hown : s.vm.findClass own = some m.cls) (hml : c.maxLocals = Ls.size) (hT : T.heap = h) (E : Exa Z h a K)
    (w1 : (Cond.methodLink own index y).before a0 Z = true) (w2 : (Cond.declares y).before a0 Z = true) (w3 : (Cond.selects K y z).before a0 Z = true) (w4 : (Cond.instanceMethod z).before a0 Z = true) (hy : y.cls ≠ "java/lang/invoke/MethodHandle" ∧ y.cls ≠ "java/lang/invoke/VarHandle")
    (hpd : parseMethodDescriptor y.desc = some ⟨ps, rr⟩) (hlen : argsL.length = ps.length) (hst : st = argsL.reverse ++ .ref a :: rest) (hW : (rest.map fun v => v.category).sum ≤ W) (hd : decode c.code pc = .ok (.invokevirtual index, 3))
    (hnf : NotFace s y)
    (hB : PB l R p e below s args z W (.ref a :: argsL).toArray h 0 0 (QV w h)) (hc : cells ≤ R.cells) (hs : slots ≤ R.slots)
    (k : ∀ (T' : State), T'.heap = h → Stand p l e R s m args below meth c T' locs cells slots → Go p e below Φ (T'.setTop (mkF m (pc + 3) Ls (w :: rest)))) :
    Go p e below Φ (T.setTop (mkF m pc Ls st)) := by
  refine Go.virtP X hx hZ hown hml hT E w1 w2 w3 w4 hy hpd hlen hst hW hd hnf hB hc hs ?_
  rintro v T' h' L hT' ⟨rfl, rfl, rfl⟩ X'
  rw [List.append_nil] at X'
  exact k T' hT' X'
/-- ldc of a String constant of EL, its text read -/
theorem Go.ldcS (H : HW Z EL s vm h) (X : Stand p l e R (s.setVm vm) m args below meth c T locs cells slots) (hx : p.tables.exec = Jvm.exec) (hZ : Z.Warmed39 vm) (hown : vm.findClass own = some m.cls) (hT : T.heap = h) {text : String}
    (w : (Cond.stringLink own index text).before a0 Z = true) (wS : ∀ a ∈ Bundle.stringAtoms, a.before a0 Z = true) (hEL : EW Z a0 EL) (hmem : (own, index) ∈ EL) {vs : List Value} {z : Int32}
    (ht : (∀ c ∈ text.toList, c.toNat < 256) ∧ text.toList.map (fun c => Value.int (Jvm.Lit.byteI c.toNat.toUInt16)) = vs) (hz : ¬ z < 0) (hl : z.toNatClampNeg = vs.length) (hd : decode c.code pc = .ok (.ldc index, 2)) {n : Nat} (hn : 4 * text.toList.length ≤ n) (hbig : n ≤ 536870912) (hc : cells + 2 ≤ R.cells) (hl' : slots + (n + 4) ≤ R.slots)
    (k : ∀ (a : Addr) (T' : State) (h' : Heap) (vm' : Vm) (b : Addr) (kb : ClassId), T'.heap = h' → Ext h h' → Z.Warmed39 vm' → vm'.findClass own = some m.cls → HW Z EL s vm' h' → CHr Z EL vm h vm' h' →
      Exa Z h' a "java/lang/String" → Fld Z h' a "java/lang/String" "coder" "B" (.int 0) → Fld Z h' a "java/lang/String" "value" "[B" (.ref b) → Arv Z h' b kb .byte z vs (.int 0) → Stand p l e R (s.setVm vm') m args below meth c T' locs (cells + 2) (slots + (n + 4)) → Go p e below Φ (T'.setTop (mkF m (pc + 2) Ls (.ref a :: st)))) :
    Go p e below Φ (T.setTop (mkF m pc Ls st)) := by
  obtain ⟨⟨k0, g1, g2⟩, g3⟩ := H
  obtain ⟨a, T', h', k1, b, kb, X', hT', E', hS', hk', hZ', hown', LE, LC, LV, LA, -, -, hR, -, -, st'⟩ := ldcCH X hx hZ hown w wS hT g1 g2 hEL hmem g3.1 ht hz hl (g := mkF m pc Ls st) rfl hd hn hbig hc hl'
  exact Go.st st' (k a T' h' T'.vm b kb hT' E' hZ' hown' ⟨⟨k1, hS', hk'⟩, g3.trans hR⟩ hR LE LC LV LA X')
/-- roads that meet: what differs becomes a variable -/
theorem own_cutT {h : Heap} (X : Stand p l e R s m args below meth c T locs cells slots) (hT : T.heap = h) (F : Int32 → JFrame) (a : Int32)
    (K : ∀ (v : Int32) (T' : State), v = a → T'.heap = h → Stand p l e R s m args below meth c T' locs cells slots → Go p e below Φ (T'.setTop (F v)))
    (g : (∀ (v : Int32) (T' : State), v = a → T'.heap = h → Stand p l e R s m args below meth c T' locs cells slots → Go p e below Φ (T'.setTop (F v))) → Go p e below Φ V) : Go p e below Φ V := g K
/-! arrays, by natural indices -/
theorem own_int {n : Nat} (h : n < 2147483648) : (Int32.ofNat n).toInt = n := Int32.toInt_ofNat_small h
theorem own_clamp {n : Nat} (h : n < 2147483648) : (Int32.ofNat n).toNatClampNeg = n := by
  rw [Int32.toNatClampNeg, own_int h]; rfl
theorem own_nn {n : Nat} (h : n < 2147483648) : ¬ Int32.ofNat n < 0 := by
  rw [Int32.lt_iff_toInt_lt, own_int h]; show ¬ (n : Int) < 0; omega
theorem own_lt {a b : Nat} (ha : a < 2147483648) (hb : b < 2147483648) : Int32.ofNat a < Int32.ofNat b ↔ a < b := by
  rw [Int32.lt_iff_toInt_lt, own_int ha, own_int hb]; omega
theorem own_eqN {a b : Nat} (ha : a < 2147483648) (hb : b < 2147483648) : Int32.ofNat a = Int32.ofNat b ↔ a = b := by
  rw [← Int32.toInt_inj, own_int ha, own_int hb]; omega
theorem own_succ (n : Nat) : Int32.ofNat n + (1 : Int32) = Int32.ofNat (n + 1) := by
  show _ + Int32.ofNat 1 = _
  rw [← Int32.ofNat_add]
theorem own_dbl {n : Nat} (h : 2 * n < 2147483648) : Int32.ofNat n <<< ((1 : Int32) &&& 31) = Int32.ofNat (2 * n) := by
  rw [shlm (x := Int32.ofNat n) (k := 1) (m := 2) (by decide)]
  show _ * Int32.ofNat 2 = _
  rw [← Int32.ofNat_mul, Nat.mul_comm]
variable {k : ClassId} {N : Int32} {vs : List Value} {dv : Value} {ty : FieldType} {i : Nat} {w : Value}
theorem Go.caloadN (X : Stand p l e R s m args below meth c T locs cells slots) (hx : p.tables.exec = Jvm.exec) (hZ : Z.Warmed39 s.vm) (hT : T.heap = h) (F : Arv Z h a k .char N vs dv) (hi : i < N.toNatClampNeg) (hi2 : i < 2147483648) (hv : vs.getD i dv = w) (hd : decode c.code pc = .ok (.caload, 1))
    (g : Go p e below Φ (T.setTop (mkF m (pc + 1) Ls (w :: rest)))) : Go p e below Φ (T.setTop (mkF m pc Ls (.int (Int32.ofNat i) :: .ref a :: rest))) := by
  obtain ⟨cl, A, -, S0, M0, H0, U0⟩ := F
  have hin : ¬ (Int32.ofNat i < 0 ∨ cl.slots.size ≤ (Int32.ofNat i).toNatClampNeg) := by
    rw [own_clamp hi2, S0]; rintro (q | q)
    · exact own_nn hi2 q
    · omega
  have hat : cl.slots[(Int32.ofNat i).toNatClampNeg]? = some w := H0.at hin (by rw [own_clamp hi2]; exact hv)
  exact Go.st (fun t kk => X.caload hx (j := Int32.ofNat i) (v := w) (by rw [hT]; exact A.1) (State.isArrayOf_alike hZ.alike A.2.1) A.2.2 hin hat (g := mkF m pc Ls (.int (Int32.ofNat i) :: .ref a :: rest)) rfl rfl hd t kk) g
theorem Go.baloadN (X : Stand p l e R s m args below meth c T locs cells slots) (hx : p.tables.exec = Jvm.exec) (hZ : Z.Warmed39 s.vm) (hT : T.heap = h) (F : Arv Z h a k .byte N vs dv) (hi : i < N.toNatClampNeg) (hi2 : i < 2147483648) (hv : vs.getD i dv = w) (hd : decode c.code pc = .ok (.baload, 1))
    (g : Go p e below Φ (T.setTop (mkF m (pc + 1) Ls (w :: rest)))) : Go p e below Φ (T.setTop (mkF m pc Ls (.int (Int32.ofNat i) :: .ref a :: rest))) := by
  obtain ⟨cl, A, -, S0, M0, H0, U0⟩ := F
  have hin : ¬ (Int32.ofNat i < 0 ∨ cl.slots.size ≤ (Int32.ofNat i).toNatClampNeg) := by
    rw [own_clamp hi2, S0]; rintro (q | q)
    · exact own_nn hi2 q
    · omega
  have hat : cl.slots[(Int32.ofNat i).toNatClampNeg]? = some w := H0.at hin (by rw [own_clamp hi2]; exact hv)
  exact Go.st (fun t kk => X.baloadBytes hx (j := Int32.ofNat i) (v := w) (by rw [hT]; exact A.1) (State.isArrayOf_alike hZ.alike A.2.1) A.2.2 hin hat (g := mkF m pc Ls (.int (Int32.ofNat i) :: .ref a :: rest)) rfl rfl hd t kk) g
theorem Go.alen (X : Stand p l e R s m args below meth c T locs cells slots) (hx : p.tables.exec = Jvm.exec) (hZ : Z.Warmed39 s.vm) (hT : T.heap = h) (F : Arv Z h a k ty N vs dv) (hd : decode c.code pc = .ok (.arraylength, 1))
    (g : Go p e below Φ (T.setTop (mkF m (pc + 1) Ls (.int N :: rest)))) : Go p e below Φ (T.setTop (mkF m pc Ls (.ref a :: rest))) := by
  obtain ⟨cl, A, -, S0, M0, H0, U0⟩ := F
  refine Go.st (fun t kk => X.arraylength hx (by rw [hT]; exact A.1) (State.isArrayOf_alike hZ.alike A.2.1) (g := mkF m pc Ls (.ref a :: rest)) rfl rfl hd t kk) ?_
  rw [len_of S0 M0]; exact g
theorem own_getD_set (vs : List Value) (i : Nat) (x dv : Value) (h : i < vs.length) : ∀ j, (vs.set i x).getD j dv = if j = i then x else vs.getD j dv := fun j => by
  simp only [List.getD_eq_getElem?_getD, List.getElem?_set]
  by_cases q : i = j
  · subst q; simp [h]
  · rw [if_neg q, if_neg (fun z => q z.symm)]
/-- bastore at a natural index -/
theorem Go.stBN {x : Int32} (X : Stand p l e R s m args below meth c T locs cells slots) (hx : p.tables.exec = Jvm.exec) (hZ : Z.Warmed39 s.vm) (hT : T.heap = h) (F : Arv Z h a k .byte N vs dv) (hi : i < N.toNatClampNeg) (hi2 : i < 2147483648) (hl : i < vs.length) (hd : decode c.code pc = .ok (.bastore, 1))
    (g : ∀ (T' : State) (h' : Heap), T'.heap = h' → Wr h h' a i (.int x.toInt8.toInt32) → Arv Z h' a k .byte N (vs.set i (.int x.toInt8.toInt32)) dv → Stand p l e R s m args below meth c T' (locs ++ [⟨a, i⟩]) cells slots → Go p e below Φ (T'.setTop (mkF m (pc + 1) Ls rest))) :
    Go p e below Φ (T.setTop (mkF m pc Ls (.int x :: .int (Int32.ofNat i) :: .ref a :: rest))) := by
  obtain ⟨cl, A, q0, S0, M0, H0, U0⟩ := F
  have hin : ¬ (Int32.ofNat i < 0 ∨ cl.slots.size ≤ (Int32.ofNat i).toNatClampNeg) := by
    rw [own_clamp hi2, S0]; rintro (q | q)
    · exact own_nn hi2 q
    · omega
  obtain ⟨T', h', X', hT', W', st⟩ := stB X hx hZ hT A (j := Int32.ofNat i) hin (g := mkF m pc Ls (.int x :: .int (Int32.ofNat i) :: .ref a :: rest)) rfl rfl hd
  have V' := Arv.set A q0 S0 M0 H0 U0 (fits_nar_byte x) W' i (own_clamp hi2) hl
  rw [own_clamp hi2] at W' X'
  exact Go.st st (g T' h' hT' W' V' X')
/-- castore at a natural index -/
theorem Go.stCN {x : Int32} (X : Stand p l e R s m args below meth c T locs cells slots) (hx : p.tables.exec = Jvm.exec) (hZ : Z.Warmed39 s.vm) (hT : T.heap = h) (F : Arv Z h a k .char N vs dv) (hi : i < N.toNatClampNeg) (hi2 : i < 2147483648) (hl : i < vs.length) (hd : decode c.code pc = .ok (.castore, 1))
    (g : ∀ (T' : State) (h' : Heap), T'.heap = h' → Wr h h' a i (.int (nar .char x)) → Arv Z h' a k .char N (vs.set i (.int (nar .char x))) dv → Stand p l e R s m args below meth c T' (locs ++ [⟨a, i⟩]) cells slots → Go p e below Φ (T'.setTop (mkF m (pc + 1) Ls rest))) :
    Go p e below Φ (T.setTop (mkF m pc Ls (.int x :: .int (Int32.ofNat i) :: .ref a :: rest))) := by
  obtain ⟨cl, A, q0, S0, M0, H0, U0⟩ := F
  have hin : ¬ (Int32.ofNat i < 0 ∨ cl.slots.size ≤ (Int32.ofNat i).toNatClampNeg) := by
    rw [own_clamp hi2, S0]; rintro (q | q)
    · exact own_nn hi2 q
    · omega
  obtain ⟨T', h', X', hT', W', st⟩ := stC X hx hZ hT A (j := Int32.ofNat i) hin (g := mkF m pc Ls (.int x :: .int (Int32.ofNat i) :: .ref a :: rest)) rfl rfl hd
  have V' := Arv.set A q0 S0 M0 H0 U0 (fits_nar_char x) W' i (own_clamp hi2) hl
  rw [own_clamp hi2] at W' X'
  exact Go.st st (g T' h' hT' W' V' X')
/-- newarray of n components -/
theorem Go.newA {aty : ArrayType} {n cap : Nat} (X : Stand p l e R s m args below meth c T locs cells slots) (hx : p.tables.exec = Jvm.exec) (hZ : Z.Warmed39 s.vm) (hT : T.heap = h) (w : (Cond.arrayClass (newarray.typeOf aty)).before a0 Z = true) (hd : decode c.code pc = .ok (.newarray aty, 2))
    (hn : n < 2147483648) (hcap : n ≤ cap) (hb : cap * 8 ≤ 536870912) (hc : cells + 1 ≤ R.cells) (hl : slots + cap ≤ R.slots)
    (g : ∀ (b : Addr) (T' : State) (h' : Heap) (kb : ClassId), b = h.size → T'.heap = h' → Ext h h' → Arv Z h' b kb (newarray.typeOf aty) (Int32.ofNat n) [] (defaultValue (newarray.typeOf aty)) → Stand p l e R s m args below meth c T' locs (cells + 1) (slots + cap) → Go p e below Φ (T'.setTop (mkF m (pc + 2) Ls (.ref b :: rest)))) :
    Go p e below Φ (T.setTop (mkF m pc Ls (.int (Int32.ofNat n) :: rest))) := by
  obtain ⟨T', h', kb, X', hT', E', A', st⟩ := newP X hx hZ w hT (g := mkF m pc Ls (.int (Int32.ofNat n) :: rest)) rfl hd rfl (own_nn hn) (cap := cap) (by rw [own_clamp hn]; exact hcap) hb hc hl
  exact Go.st st (g _ T' h' kb rfl hT' E' (Arv.new A' (own_nn hn)) X')
end G
end Jvm.Own
/- laws to paste: Road.backV, Road.lenW, Road.eqW, Road.codOf (cut by pick.py; bodies as the Statement names them) -/
namespace Jvm.Pilot.@@N@@
namespace StrChars
open Jvm Sem ClassFile Op Lib Jvm.Stand Jvm.Free.XT Jvm.Free.ALB Jvm.Free.JM Jvm.Free
open Jvm.Lib.Cold (StaticIs)
/-- a char array whose places are chars -/
def Ch (a : Addr) (A : Cell) (U : State) : Prop := Arr .char a A U ∧ Typed .char A
theorem Ch.mv {a : Addr} {A : Cell} {U U' : State} (h : Ch a A U) (hal : U.vm.Alike U'.vm) (hh : U'.heap = U.heap) : Ch a A U' := ⟨h.1.mv hal hh, h.2⟩
theorem Ch.keep {a : Addr} {A : Cell} {U U' : State} (h : Ch a A U) (hal : U.vm.Alike U'.vm) (hk : U'.heap[a]? = some A) : Ch a A U' := ⟨h.1.keep hal hk, h.2⟩
/-- what place i of a char[]'s cell holds -/
def cv (A : Cell) (i : Nat) : Int32 := match A.slots[i]? with | some (.int x) => x | _ => 0
theorem Ch.get {a : Addr} {A : Cell} {U : State} (h : Ch a A U) {i : Nat} (hi : i < A.slots.size) : A.slots[i]? = some (.int (cv A i)) := by
  have e := Array.getElem?_eq_getElem hi
  have f := h.2 i _ e
  unfold cv; rw [e]
  generalize A.slots[i] = v at f
  cases v <;> simp [fits] at f ⊢
/-- the byte that i2b leaves of a char -/
def lo8 (x : Int32) : Int32 := x.toInt8.toInt32
theorem fits_lo8 (y : Int32) : fits .byte (.int (lo8 y)) = true := by
  have h1 := y.toInt8.le_toInt
  have h2 := y.toInt8.toInt_lt
  simp only [lo8, fits, Bool.and_eq_true, decide_eq_true_eq, Int32.le_iff_toInt_le, Int8.toInt_toInt32, show (-128 : Int32).toInt = -128 from by decide, show (127 : Int32).toInt = 127 from by decide]
  omega
/-- A' is A but that each place j of lo .. hi - 1 holds f j -/
def Laid (A A' : Cell) (lo hi : Nat) (f : Nat → Value) : Prop := A'.cls = A.cls ∧ A'.vm = A.vm ∧ A'.slots.size = A.slots.size ∧ ∀ i, A'.slots[i]? = if lo ≤ i ∧ i < hi then some (f i) else A.slots[i]?
theorem Laid.zero (A : Cell) (lo : Nat) (f : Nat → Value) : Laid A A lo (lo + 0) f := ⟨rfl, rfl, rfl, fun i => by rw [if_neg (by omega)]⟩
theorem Laid.step {A Ak : Cell} {lo k : Nat} {f : Nat → Value} {v : Value} (h : Laid A Ak lo k f) (hlo : lo ≤ k) (hk : k < Ak.slots.size) (hv : v = f k) : Laid A (Ak.setSlot k v) lo (k + 1) f := by
  refine ⟨h.1, h.2.1, by simpa [Cell.setSlot] using h.2.2.1, fun i => ?_⟩
  by_cases e : k = i
  · subst e; rw [Cell.slots_setSlot_self v hk, if_pos (by omega), hv]
  · rw [Cell.slots_setSlot_ne v e, h.2.2.2 i]
    by_cases q : lo ≤ i ∧ i < k
    · rw [if_pos q, if_pos (by omega)]
    · rw [if_neg q, if_neg (by omega)]
def U16 : String := "java/lang/StringUTF16"
namespace Cmp5
def yN : MethodName := ⟨"java/lang/StringUTF16", "compress", "([CI[BII)I"⟩
abbrev yB : ByteArray := jdk_52_method_21_code
theorem d0 : decode yB 0 = .ok (.iconst 0, 1) := by decide +kernel
theorem d1 : decode yB 1 = .ok (.istore 5, 2) := by decide +kernel
theorem d3 : decode yB 3 = .ok (.iload 5, 2) := by decide +kernel
theorem d5 : decode yB 5 = .ok (.iload 4, 2) := by decide +kernel
theorem d7 : decode yB 7 = .ok (.if_icmp (.ge) 37, 3) := by decide +kernel
theorem d10 : decode yB 10 = .ok (.aload_n 0, 1) := by decide +kernel
theorem d11 : decode yB 11 = .ok (.iload_n 1, 1) := by decide +kernel
theorem d12 : decode yB 12 = .ok (.caload, 1) := by decide +kernel
theorem d13 : decode yB 13 = .ok (.istore 6, 2) := by decide +kernel
theorem d15 : decode yB 15 = .ok (.iload 6, 2) := by decide +kernel
theorem d17 : decode yB 17 = .ok (.sipush 255, 3) := by decide +kernel
theorem d20 : decode yB 20 = .ok (.if_icmp (.le) 6, 3) := by decide +kernel
theorem d26 : decode yB 26 = .ok (.aload_n 2, 1) := by decide +kernel
theorem d27 : decode yB 27 = .ok (.iload_n 3, 1) := by decide +kernel
theorem d28 : decode yB 28 = .ok (.iload 6, 2) := by decide +kernel
theorem d30 : decode yB 30 = .ok (.i2b, 1) := by decide +kernel
theorem d31 : decode yB 31 = .ok (.bastore, 1) := by decide +kernel
theorem d32 : decode yB 32 = .ok (.iinc 1 1, 3) := by decide +kernel
theorem d35 : decode yB 35 = .ok (.iinc 3 1, 3) := by decide +kernel
theorem d38 : decode yB 38 = .ok (.iinc 5 1, 3) := by decide +kernel
theorem d41 : decode yB 41 = .ok (.goto (-38), 3) := by decide +kernel
theorem d44 : decode yB 44 = .ok (.iload 4, 2) := by decide +kernel
theorem d46 : decode yB 46 = .ok (.ireturn, 1) := by decide +kernel
def site : List Cond := []
def tab : Cond := tabOf yN yB 7 (some .int) site
def P (b : Addr) (A : Cell) (d : Addr) (B : Cell) (o q len : Nat) (args : Array Value) (s : State) : Prop := args = #[.ref b, .int (Int32.ofNat o), .ref d, .int (Int32.ofNat q), .int (Int32.ofNat len)] ∧ Ch b A s ∧ Arr .byte d B s ∧ b ≠ d ∧ o + len ≤ A.slots.size ∧ q + len ≤ B.slots.size ∧ ∀ i, i < len → ¬ 255 < cv A (o + i)
def E (b : Addr) (A : Cell) (d : Addr) (B : Cell) (o q len : Nat) (r : Option Value) (s u : State) : Prop := r = some (.int (Int32.ofNat len)) ∧ ∃ B', Put d B' s u ∧ Laid B B' q (q + len) (fun j => Value.int (lo8 (cv A (o + (j - q)))))
/-- no char of the range above 255: len; the places written hold each char's low byte -/
theorem law (l : Launch) (b : Addr) (A : Cell) (d : Addr) (B : Cell) (o q len : Nat) : Law l yN 5 5 0 0 yB 7 (some .int) site (P b A d B o q len) (E b A d B o q len) (copyLocs d q len) 0 0 := by
  refine Law.of_walk (plainFor_of_name (by decide +kernel)) (by decide +kernel) (by decide +kernel) (by decide) (fun _ _ h => by rw [h.1]; rfl) (fun _ U U' hal hh h => ⟨h.1, h.2.1.mv hal hh, h.2.2.1.mv hal hh, h.2.2.2⟩) (fun r U U' V V' h1 hal h2 h => ⟨h.1, h.2.elim fun B' q => ⟨B', q.1.mv h1 h2, q.2⟩⟩) ?_
  intro p e s m args below meth c s₁ X0 hexec hbytes hml hret hlk hnm hown hh0 W hP
  obtain ⟨rfl, hA, hB, hne, l1, l2, hp⟩ := hP
  have c1 : Steps p.tables e below (s₁.setTop (entryFrame m #[.ref b, .int (Int32.ofNat o), .ref d, .int (Int32.ofNat q), .int (Int32.ofNat len)] 7)) (s₁.setTop (mkF m 0 #[.val (.ref b), .val (.int (Int32.ofNat o)), .val (.ref d), .val (.int (Int32.ofNat q)), .val (.int (Int32.ofNat len)), .unset, .unset] [])) := entry rfl
  have hA0 := hA.1.mv X0.warmed.alike hh0
  have hB0 := hB.mv X0.warmed.alike hh0
  have a31 := hA.1.2.2.2
  have c2 : Steps p.tables e below (s₁.setTop (entryFrame m #[.ref b, .int (Int32.ofNat o), .ref d, .int (Int32.ofNat q), .int (Int32.ofNat len)] 7)) (s₁.setTop (mkF m 3 #[.val (.ref b), .val (.int (Int32.ofNat o)), .val (.ref d), .val (.int (Int32.ofNat q)), .val (.int (Int32.ofNat len)), .val (.int 0), .unset] [])) := c1.trans (by
    refine iconstV X0.here hexec rfl 0 (hb hbytes d0) (by decide) ?_
    refine XS.istore X0.here hexec rfl (hb hbytes d1) rfl rfl ?_
    exact Steps.refl _)
  have loop : ∀ (r i : Nat), i + r = len → ∀ (z : Slot), (z = .unset ∨ ∃ w, z = .val w ∧ w.category = 1) → ∀ (Tl : State) (Bk : Cell), Stand p l e { frames := 0, locals := 0, cells := 0, slots := 0 } s m #[.ref b, .int (Int32.ofNat o), .ref d, .int (Int32.ofNat q), .int (Int32.ofNat len)] below meth c Tl ([] ++ copyLocs d q i) 0 0 → Put d Bk s₁ Tl → Laid B Bk q (q + i) (fun j => Value.int (lo8 (cv A (o + (j - q))))) →
      Steps p.tables e below (s₁.setTop (entryFrame m #[.ref b, .int (Int32.ofNat o), .ref d, .int (Int32.ofNat q), .int (Int32.ofNat len)] 7)) (Tl.setTop (mkF m 3 #[.val (.ref b), .val (.int (Int32.ofNat (o + i))), .val (.ref d), .val (.int (Int32.ofNat (q + i))), .val (.int (Int32.ofNat len)), .val (.int (Int32.ofNat i)), z] [])) → ∃ (T' : State) (B' : Cell) (z' : Slot), Stand p l e { frames := 0, locals := 0, cells := 0, slots := 0 } s m #[.ref b, .int (Int32.ofNat o), .ref d, .int (Int32.ofNat q), .int (Int32.ofNat len)] below meth c T' ([] ++ copyLocs d q len) 0 0 ∧ Put d B' s₁ T' ∧ Laid B B' q (q + len) (fun j => Value.int (lo8 (cv A (o + (j - q))))) ∧
      Steps p.tables e below (s₁.setTop (entryFrame m #[.ref b, .int (Int32.ofNat o), .ref d, .int (Int32.ofNat q), .int (Int32.ofNat len)] 7)) (T'.setTop (mkF m 3 #[.val (.ref b), .val (.int (Int32.ofNat (o + len))), .val (.ref d), .val (.int (Int32.ofNat (q + len))), .val (.int (Int32.ofNat len)), .val (.int (Int32.ofNat len)), z'] [])) := by
    intro r
    induction r with
    | zero =>
      intro i hi z hz Tl Bk Xl pl fl cl
      have hil : i = len := by omega
      rw [hil] at Xl fl cl
      exact ⟨Tl, Bk, z, Xl, pl, fl, cl⟩
    | succ r ih =>
      intro i hi z hz Tl Bk Xl pl fl cl
      have all := X0.warmed.alike.symm.trans Xl.warmed.alike
      have hAl := hA0.keep all (pl.other hne hA0.1)
      have hBk := hB0.like all pl.1 fl.1 fl.2.1 fl.2.2.1
      have hlt : q + i < Bk.slots.size := by rw [fl.2.2.1]; omega
      have c3 : Steps p.tables e below (s₁.setTop (entryFrame m #[.ref b, .int (Int32.ofNat o), .ref d, .int (Int32.ofNat q), .int (Int32.ofNat len)] 7)) (Tl.setTop (mkF m 12 #[.val (.ref b), .val (.int (Int32.ofNat (o + i))), .val (.ref d), .val (.int (Int32.ofNat (q + i))), .val (.int (Int32.ofNat len)), .val (.int (Int32.ofNat i)), z] [.int (Int32.ofNat (o + i)), .ref b])) := cl.trans (by
        refine XS.iload Xl.here hexec rfl (hb hbytes d3) rfl ?_
        refine XS.iload Xl.here hexec rfl (hb hbytes d5) rfl ?_
        refine XS.icmpNo Xl.here hexec rfl (hb hbytes d7) rfl (ii_ge_f (lt32 (by omega) (by omega))) ?_
        refine XS.aloadN Xl.here hexec rfl (hb hbytes d10) rfl rfl ?_
        refine XS.iloadN Xl.here hexec rfl (hb hbytes d11) rfl ?_
        exact Steps.refl _)
      have c4 : Steps p.tables e below (s₁.setTop (entryFrame m #[.ref b, .int (Int32.ofNat o), .ref d, .int (Int32.ofNat q), .int (Int32.ofNat len)] 7)) (Tl.setTop (mkF m 13 #[.val (.ref b), .val (.int (Int32.ofNat (o + i))), .val (.ref d), .val (.int (Int32.ofNat (q + i))), .val (.int (Int32.ofNat len)), .val (.int (Int32.ofNat i)), z] [.int (cv A (o + i))])) := c3.trans (by
        refine Xl.aget hexec hAl rfl (hA.get (i := o + i) (by omega)) rfl rfl (hb hbytes d12) ?_
        exact Steps.refl _)
      have c5 : Steps p.tables e below (s₁.setTop (entryFrame m #[.ref b, .int (Int32.ofNat o), .ref d, .int (Int32.ofNat q), .int (Int32.ofNat len)] 7)) (Tl.setTop (mkF m 15 #[.val (.ref b), .val (.int (Int32.ofNat (o + i))), .val (.ref d), .val (.int (Int32.ofNat (q + i))), .val (.int (Int32.ofNat len)), .val (.int (Int32.ofNat i)), .val (.int (cv A (o + i)))] [])) := c4.trans (by
        refine XS.istoreS Xl.here hexec rfl (hb hbytes d13) rfl rfl hz ?_
        exact Steps.refl _)
      have c6 : Steps p.tables e below (s₁.setTop (entryFrame m #[.ref b, .int (Int32.ofNat o), .ref d, .int (Int32.ofNat q), .int (Int32.ofNat len)] 7)) (Tl.setTop (mkF m 31 #[.val (.ref b), .val (.int (Int32.ofNat (o + i))), .val (.ref d), .val (.int (Int32.ofNat (q + i))), .val (.int (Int32.ofNat len)), .val (.int (Int32.ofNat i)), .val (.int (cv A (o + i)))] [.int (lo8 (cv A (o + i))), .int (Int32.ofNat (q + i)), .ref d])) := c5.trans (by
        refine XS.iload Xl.here hexec rfl (hb hbytes d15) rfl ?_
        refine sipushV Xl.here hexec rfl 255 (hb hbytes d17) (by decide) ?_
        refine XS.icmpYes Xl.here hexec rfl (pc0 := 20) rfl (hb hbytes d20) rfl (ii_le_t (hp i (by omega))) (by decide) rfl ?_
        refine XS.aloadN Xl.here hexec rfl (hb hbytes d26) rfl rfl ?_
        refine XS.iloadN Xl.here hexec rfl (hb hbytes d27) rfl ?_
        refine XS.iload Xl.here hexec rfl (hb hbytes d28) rfl ?_
        refine i2b Xl.here hexec rfl (hb hbytes d30) rfl ?_
        exact Steps.refl _)
      obtain ⟨T7, X7, p7, st7⟩ := Xl.aput hexec hBk rfl hlt rfl (fits_lo8 (cv A (o + i))) (g := (mkF m 31 #[.val (.ref b), .val (.int (Int32.ofNat (o + i))), .val (.ref d), .val (.int (Int32.ofNat (q + i))), .val (.int (Int32.ofNat len)), .val (.int (Int32.ofNat i)), .val (.int (cv A (o + i)))] [.int (lo8 (cv A (o + i))), .int (Int32.ofNat (q + i)), .ref d])) rfl (rest := []) rfl (hb hbytes d31)
      have c8 : Steps p.tables e below (s₁.setTop (entryFrame m #[.ref b, .int (Int32.ofNat o), .ref d, .int (Int32.ofNat q), .int (Int32.ofNat len)] 7)) (T7.setTop (mkF m 32 #[.val (.ref b), .val (.int (Int32.ofNat (o + i))), .val (.ref d), .val (.int (Int32.ofNat (q + i))), .val (.int (Int32.ofNat len)), .val (.int (Int32.ofNat i)), .val (.int (cv A (o + i)))] [])) := c6.trans (st7 _ (Steps.refl _))
      have c9 : Steps p.tables e below (s₁.setTop (entryFrame m #[.ref b, .int (Int32.ofNat o), .ref d, .int (Int32.ofNat q), .int (Int32.ofNat len)] 7)) (T7.setTop (mkF m 3 #[.val (.ref b), .val (.int (Int32.ofNat (o + i) + 1)), .val (.ref d), .val (.int (Int32.ofNat (q + i) + 1)), .val (.int (Int32.ofNat len)), .val (.int (Int32.ofNat i + 1)), .val (.int (cv A (o + i)))] [])) := c8.trans (by
        refine iincV X7.here hexec rfl 1 (hb hbytes d32) (by decide) rfl rfl ?_
        refine iincV X7.here hexec rfl 1 (hb hbytes d35) (by decide) rfl rfl ?_
        refine iincV X7.here hexec rfl 1 (hb hbytes d38) (by decide) rfl rfl ?_
        refine XS.goto X7.here hexec rfl (pc0 := 41) rfl (hb hbytes d41) (by decide) rfl ?_
        exact Steps.refl _)
      have c10 : Steps p.tables e below (s₁.setTop (entryFrame m #[.ref b, .int (Int32.ofNat o), .ref d, .int (Int32.ofNat q), .int (Int32.ofNat len)] 7)) (T7.setTop (mkF m 3 #[.val (.ref b), .val (.int (Int32.ofNat (o + (i + 1)))), .val (.ref d), .val (.int (Int32.ofNat (q + (i + 1)))), .val (.int (Int32.ofNat len)), .val (.int (Int32.ofNat (i + 1))), .val (.int (cv A (o + i)))] [])) := by
        have := c9
        rw [succ32, succ32, succ32] at this
        exact this
      exact ih (i + 1) (by omega) _ (Or.inr ⟨_, rfl, rfl⟩) T7 _ (by rw [copyLocs_step, ← List.append_assoc]; exact X7) (pl.trans p7) (fl.step (by omega) hlt (by simp)) c10
  obtain ⟨T9, B9, z9, X9, p9, f9, g9⟩ := loop len 0 (by omega) .unset (Or.inl rfl) s₁ B (by simpa [copyLocs] using X0) ⟨hB0.1, fun _ _ => rfl, rfl⟩ (Laid.zero _ _ _) c2
  have c11 : Steps p.tables e below (s₁.setTop (entryFrame m #[.ref b, .int (Int32.ofNat o), .ref d, .int (Int32.ofNat q), .int (Int32.ofNat len)] 7)) (T9.setTop (mkF m 46 #[.val (.ref b), .val (.int (Int32.ofNat (o + len))), .val (.ref d), .val (.int (Int32.ofNat (q + len))), .val (.int (Int32.ofNat len)), .val (.int (Int32.ofNat len)), z9] [.int (Int32.ofNat len)])) := g9.trans (by
    refine XS.iload X9.here hexec rfl (hb hbytes d3) rfl ?_
    refine XS.iload X9.here hexec rfl (hb hbytes d5) rfl ?_
    refine XS.icmpYes X9.here hexec rfl (pc0 := 7) rfl (hb hbytes d7) rfl (ii_ge_t (nlt32 (by omega) (Nat.le_refl _))) (by decide) rfl ?_
    refine XS.iload X9.here hexec rfl (hb hbytes d44) rfl ?_
    exact Steps.refl _)
  exact ⟨T9, some (.int (Int32.ofNat len)), _, _, _, X9, by simp, rfl, rfl, (fun h => by cases h), ⟨rfl, B9, p9.from hh0, f9⟩, fun fs hl => c11.trans (X9.ireturnOut hexec hret rfl (Or.inl rfl) (hb hbytes d46) hl)⟩
end Cmp5
namespace Cmp3
def yN : MethodName := ⟨"java/lang/StringUTF16", "compress", "([CII)[B"⟩
abbrev yB : ByteArray := jdk_52_method_16_code
theorem d0 : decode yB 0 = .ok (.iload_n 2, 1) := by decide +kernel
theorem d1 : decode yB 1 = .ok (.newarray .byte, 2) := by decide +kernel
theorem d3 : decode yB 3 = .ok (.astore_n 3, 1) := by decide +kernel
theorem d4 : decode yB 4 = .ok (.aload_n 0, 1) := by decide +kernel
theorem d5 : decode yB 5 = .ok (.iload_n 1, 1) := by decide +kernel
theorem d6 : decode yB 6 = .ok (.aload_n 3, 1) := by decide +kernel
theorem d7 : decode yB 7 = .ok (.iconst 0, 1) := by decide +kernel
theorem d8 : decode yB 8 = .ok (.iload_n 2, 1) := by decide +kernel
theorem d9 : decode yB 9 = .ok (.invokestatic 115, 3) := by decide +kernel
theorem d12 : decode yB 12 = .ok (.istore 4, 2) := by decide +kernel
theorem d14 : decode yB 14 = .ok (.iload 4, 2) := by decide +kernel
theorem d16 : decode yB 16 = .ok (.iload_n 2, 1) := by decide +kernel
theorem d17 : decode yB 17 = .ok (.if_icmp (.eq) 40, 3) := by decide +kernel
theorem d57 : decode yB 57 = .ok (.aload_n 3, 1) := by decide +kernel
theorem d58 : decode yB 58 = .ok (.areturn, 1) := by decide +kernel
def site : List Cond := [.arrayClass .byte, Cmp5.tab] ++ staticW U16 115 Cmp5.yN
def tab : Cond := tabOf yN yB 6 (some (.array .byte)) site
def P (b : Addr) (A : Cell) (o len : Nat) (args : Array Value) (s : State) : Prop := args = #[.ref b, .int (Int32.ofNat o), .int (Int32.ofNat len)] ∧ Ch b A s ∧ o + len ≤ A.slots.size ∧ len ≤ 536870912 ∧ ∀ i, i < len → ¬ 255 < cv A (o + i)
def E (b : Addr) (A : Cell) (o len : Nat) (r : Option Value) (s u : State) : Prop := NewArr .byte "[B" len (fun j => .int (lo8 (cv A (o + j)))) r s u ∧ u.heap.size = s.heap.size + 1
/-- no char of the range above 255: a new byte[] of their low bytes -/
theorem law (l : Launch) (b : Addr) (A : Cell) (o len : Nat) : Law l yN 3 3 1 18 yB 6 (some (.array .byte)) site (P b A o len) (E b A o len) [] 1 len := by
  refine Law.of_walk (plainFor_of_name (by decide +kernel)) (by decide +kernel) (by decide +kernel) (by decide) (fun _ _ h => by rw [h.1]; rfl) (fun _ U U' hal hh h => ⟨h.1, h.2.1.mv hal hh, h.2.2⟩) (fun r U U' V V' h1 hal h2 h => ⟨NewArr.mv r U U' V V' h1 hal h2 h.1, by rw [h1, h2]; exact h.2⟩) ?_
  intro p e s m args below meth c s₁ X0 hexec hbytes hml hret hlk hnm hown hh0 W hP
  obtain ⟨rfl, hA, l1, l2, hp⟩ := hP
  have a31 := hA.1.2.2.2
  have c1 : Steps p.tables e below (s₁.setTop (entryFrame m #[.ref b, .int (Int32.ofNat o), .int (Int32.ofNat len)] 6)) (s₁.setTop (mkF m 0 #[.val (.ref b), .val (.int (Int32.ofNat o)), .val (.int (Int32.ofNat len)), .unset, .unset, .unset] [])) := entry rfl
  have c2 : Steps p.tables e below (s₁.setTop (entryFrame m #[.ref b, .int (Int32.ofNat o), .int (Int32.ofNat len)] 6)) (s₁.setTop (mkF m 1 #[.val (.ref b), .val (.int (Int32.ofNat o)), .val (.int (Int32.ofNat len)), .unset, .unset, .unset] [.int (Int32.ofNat len)])) := c1.trans (by
    refine XS.iloadN X0.here hexec rfl (hb hbytes d0) rfl ?_
    exact Steps.refl _)
  obtain ⟨T3, B3, X3, ba3, bs3, bv3, bh3, bf3, st3⟩ := X0.anew hexec (atype := .byte) (wk W (.arrayClass .byte)) rfl (by show len * 1 ≤ _; omega) (by omega) (g := (mkF m 1 #[.val (.ref b), .val (.int (Int32.ofNat o)), .val (.int (Int32.ofNat len)), .unset, .unset, .unset] [.int (Int32.ofNat len)])) rfl (hb hbytes d1) (rest := []) rfl (Nat.le_refl _) (by show 0 + len ≤ len; omega)
  rw [hh0] at ba3 st3
  have kp3 : XT.Kept s T3 := (XT.Kept.of_eq hh0).push bh3
  have hA3 := hA.keep X3.warmed.alike (kp3 _ _ hA.1.1)
  have hne : b ≠ s.heap.size := hA.1.ne
  have c4 : Steps p.tables e below (s₁.setTop (entryFrame m #[.ref b, .int (Int32.ofNat o), .int (Int32.ofNat len)] 6)) (T3.setTop (mkF m 3 #[.val (.ref b), .val (.int (Int32.ofNat o)), .val (.int (Int32.ofNat len)), .unset, .unset, .unset] [.ref s.heap.size])) := c2.trans (st3 _ (Steps.refl _))
  have c5 : Steps p.tables e below (s₁.setTop (entryFrame m #[.ref b, .int (Int32.ofNat o), .int (Int32.ofNat len)] 6)) (T3.setTop (mkF m 9 #[.val (.ref b), .val (.int (Int32.ofNat o)), .val (.int (Int32.ofNat len)), .val (.ref s.heap.size), .unset, .unset] [.int (Int32.ofNat len), .int 0, .ref s.heap.size, .int (Int32.ofNat o), .ref b])) := c4.trans (by
    refine XS.astoreN X3.here hexec rfl (hb hbytes d3) rfl rfl rfl ?_
    refine XS.aloadN X3.here hexec rfl (hb hbytes d4) rfl rfl ?_
    refine XS.iloadN X3.here hexec rfl (hb hbytes d5) rfl ?_
    refine XS.aloadN X3.here hexec rfl (hb hbytes d6) rfl rfl ?_
    refine iconstV X3.here hexec rfl 0 (hb hbytes d7) (by decide) ?_
    refine XS.iloadN X3.here hexec rfl (hb hbytes d8) rfl ?_
    exact Steps.refl _)
  obtain ⟨v6, T6, X6, E6, g6⟩ := X3.callS hexec (Cmp5.law l b A s.heap.size B3 o 0 len) hown (wks W (staticW U16 115 Cmp5.yN)) (wk W Cmp5.tab) (W := 0) (Nat.le_of_ble_eq_true rfl) (Nat.le_of_ble_eq_true rfl) (Nat.le_refl _) (by show 0 + len + 0 ≤ len; omega) (g := (mkF m 9 #[.val (.ref b), .val (.int (Int32.ofNat o)), .val (.int (Int32.ofNat len)), .val (.ref s.heap.size), .unset, .unset] [.int (Int32.ofNat len), .int (Int32.ofNat 0), .ref s.heap.size, .int (Int32.ofNat o), .ref b])) rfl (by rw [hml]; rfl) c5 (argsL := [.ref b, .int (Int32.ofNat o), .ref s.heap.size, .int (Int32.ofNat 0), .int (Int32.ofNat len)]) (rest := []) rfl rfl (by show 2 * 0 + 0 ≤ _; decide) (hb hbytes d9) (⟨rfl, hA3, ba3, hne, l1, by rw [bs3]; simp, hp⟩)
  obtain ⟨rfl, B6, p6, f6⟩ := E6
  have c7 : Steps p.tables e below (s₁.setTop (entryFrame m #[.ref b, .int (Int32.ofNat o), .int (Int32.ofNat len)] 6)) (T6.setTop (mkF m 12 #[.val (.ref b), .val (.int (Int32.ofNat o)), .val (.int (Int32.ofNat len)), .val (.ref s.heap.size), .unset, .unset] [.int (Int32.ofNat len)])) := g6
  have c8 : Steps p.tables e below (s₁.setTop (entryFrame m #[.ref b, .int (Int32.ofNat o), .int (Int32.ofNat len)] 6)) (T6.setTop (mkF m 58 #[.val (.ref b), .val (.int (Int32.ofNat o)), .val (.int (Int32.ofNat len)), .val (.ref s.heap.size), .val (.int (Int32.ofNat len)), .unset] [.ref s.heap.size])) := c7.trans (by
    refine XS.istore X6.here hexec rfl (hb hbytes d12) rfl rfl ?_
    refine XS.iload X6.here hexec rfl (hb hbytes d14) rfl ?_
    refine XS.iloadN X6.here hexec rfl (hb hbytes d16) rfl ?_
    refine XS.icmpYes X6.here hexec rfl (pc0 := 17) rfl (hb hbytes d17) rfl (ii_eq_t rfl) (by decide) rfl ?_
    refine XS.aloadN X6.here hexec rfl (hb hbytes d57) rfl rfl ?_
    exact Steps.refl _)
  have X8 := X6.wide (L' := []) (cells' := 1) (slots' := len) (fun x hx hlt => by
    simp only [List.nil_append, copyLocs, List.mem_map, List.mem_range] at hx
    obtain ⟨i, -, rfl⟩ := hx
    exact absurd hlt (Nat.lt_irrefl _)) (Nat.le_refl _) (by omega)
  exact ⟨T6, some (.ref s.heap.size), _, _, _, X8, rfl, rfl, rfl, (fun h => by cases h), ⟨⟨rfl, B6, ba3.like (X3.warmed.alike.symm.trans X6.warmed.alike) p6.1 f6.1 f6.2.1 f6.2.2.1, f6.2.1.trans bv3, by rw [X6.warmed.alike.findClass, f6.1]; exact bf3, by rw [f6.2.2.1, bs3]; simp, fun j hj => by rw [f6.2.2.2 j, if_pos (by omega)]; rfl, kp3.put p6 (Nat.le_refl _)⟩, by rw [p6.2.2, bh3, hh0]; simp⟩, fun fs hl => c8.trans (X8.areturnOut hexec rfl hret rfl (hb hbytes d58) hl)⟩
end Cmp3
namespace CodL
def yN : MethodName := ⟨"java/lang/StringUTF16", "coderFromArrayLen", "([BI)B"⟩
abbrev yB : ByteArray := jdk_52_method_15_code
theorem d0 : decode yB 0 = .ok (.iload_n 1, 1) := by decide +kernel
theorem d1 : decode yB 1 = .ok (.aload_n 0, 1) := by decide +kernel
theorem d2 : decode yB 2 = .ok (.arraylength, 1) := by decide +kernel
theorem d3 : decode yB 3 = .ok (.isub, 1) := by decide +kernel
theorem d4 : decode yB 4 = .ok (.bipush 31, 2) := by decide +kernel
theorem d6 : decode yB 6 = .ok (.iushr, 1) := by decide +kernel
theorem d7 : decode yB 7 = .ok (.i2b, 1) := by decide +kernel
theorem d8 : decode yB 8 = .ok (.ireturn, 1) := by decide +kernel
def site : List Cond := []
def tab : Cond := tabOf yN yB 2 (some .byte) site
def P (d : Addr) (B : Cell) (args : Array Value) (s : State) : Prop := args = #[.ref d, .int (Int32.ofNat B.slots.size)] ∧ Arr .byte d B s
def E (r : Option Value) (s u : State) : Prop := XT.PureE (some (.int 0)) r s u
/-- an array as long as the number of chars: LATIN1 -/
theorem law (l : Launch) (d : Addr) (B : Cell) : Law l yN 2 2 0 0 yB 2 (some .byte) site (P d B) E [] 0 0 := by
  refine Law.of_walk (plainFor_of_name (by decide +kernel)) (by decide +kernel) (by decide +kernel) (by decide) (fun _ _ h => by rw [h.1]; rfl) (fun _ U U' hal hh h => ⟨h.1, h.2.mv hal hh⟩) (fun r U U' V V' h1 hal h2 h => XT.PureE.mv r U U' V V' h1 hal h2 h) ?_
  intro p e s m args below meth c s₁ X0 hexec hbytes hml hret hlk hnm hown hh0 W hP
  obtain ⟨rfl, hB⟩ := hP
  have hB0 := hB.mv X0.warmed.alike hh0
  have c1 : Steps p.tables e below (s₁.setTop (entryFrame m #[.ref d, .int (Int32.ofNat B.slots.size)] 2)) (s₁.setTop (mkF m 0 #[.val (.ref d), .val (.int (Int32.ofNat B.slots.size))] [])) := entry rfl
  have c2 : Steps p.tables e below (s₁.setTop (entryFrame m #[.ref d, .int (Int32.ofNat B.slots.size)] 2)) (s₁.setTop (mkF m 2 #[.val (.ref d), .val (.int (Int32.ofNat B.slots.size))] [.ref d, .int (Int32.ofNat B.slots.size)])) := c1.trans (by
    refine XS.iloadN X0.here hexec rfl (hb hbytes d0) rfl ?_
    refine XS.aloadN X0.here hexec rfl (hb hbytes d1) rfl rfl ?_
    exact Steps.refl _)
  have c3 : Steps p.tables e below (s₁.setTop (entryFrame m #[.ref d, .int (Int32.ofNat B.slots.size)] 2)) (s₁.setTop (mkF m 8 #[.val (.ref d), .val (.int (Int32.ofNat B.slots.size))] [.int (lo8 (ushr (Int32.ofNat B.slots.size - Int32.ofNat B.slots.size) 31))])) := c2.trans (by
    refine X0.alen hexec hB0 rfl rfl (hb hbytes d2) ?_
    refine XS.isub X0.here hexec rfl (hb hbytes d3) rfl ?_
    refine bipushV X0.here hexec rfl 31 (hb hbytes d4) (by decide) ?_
    refine iushr X0.here hexec rfl (hb hbytes d6) rfl ?_
    refine i2b X0.here hexec rfl (hb hbytes d7) rfl ?_
    exact Steps.refl _)
  have e0 : lo8 (ushr (Int32.ofNat B.slots.size - Int32.ofNat B.slots.size) 31) = 0 := by rw [Int32.sub_self]; decide
  rw [e0] at c3
  exact ⟨s₁, some (.int 0), _, _, _, X0, rfl, rfl, rfl, (fun h => by cases h), ⟨rfl, hh0⟩, fun fs hl => c3.trans (X0.ireturnOut hexec hret rfl (Or.inr (Or.inr (Or.inl rfl))) (hb hbytes d8) hl)⟩
end CodL
/-- the String at a is Latin-1 over a new byte[] (the heap's one new cell): the low bytes of the len chars of A from o on; every cell but a is kept -/
def Got (a : Addr) (D : Cell) (fV fC : Field) (A : Cell) (o len : Nat) (r : Option Value) (s u : State) : Prop := r = none ∧ ∃ D' V : Cell, Blank "java/lang/String" a D' u ∧ Same D D' [fV.slot, fC.slot] ∧ D'.slots[fV.slot]? = some (.ref s.heap.size) ∧ D'.slots[fC.slot]? = some (.int 0) ∧ Arr .byte s.heap.size V u ∧ V.vm = .none ∧ u.vm.findClass "[B" = some V.cls ∧ V.slots.size = len ∧ (∀ j, j < len → V.slots[j]? = some (.int (lo8 (cv A (o + j))))) ∧ (∀ (y : Addr) (c : Cell), y ≠ a → s.heap[y]? = some c → u.heap[y]? = some c) ∧ u.heap.size = s.heap.size + 1
theorem Got.mv {a : Addr} {D A : Cell} {fV fC : Field} {o len : Nat} : ∀ r (U U' V V' : State), U'.heap = U.heap → V.vm.Alike V'.vm → V'.heap = V.heap → Got a D fV fC A o len r U V → Got a D fV fC A o len r U' V' :=
  fun r U U' V V' h1 hal h2 ⟨e0, D', X, a1, a2, a3, a4, a5, a6, a7, a8, a9, a10, a11⟩ => ⟨e0, D', X, a1.mv hal h2, a2, by rw [h1]; exact a3, a4, by rw [h1]; exact a5.mv hal h2, a6, by rw [hal.findClass]; exact a7, a8, a9, by rw [h1, h2]; exact a10, by rw [h1, h2]; exact a11⟩
namespace New4
def yN : MethodName := ⟨"java/lang/String", "<init>", "([CIILjava/lang/Void;)V"⟩
abbrev yB : ByteArray := jdk_42_method_149_code
theorem d0 : decode yB 0 = .ok (.aload_n 0, 1) := by decide +kernel
theorem d1 : decode yB 1 = .ok (.invokespecial 1, 3) := by decide +kernel
theorem d4 : decode yB 4 = .ok (.iload_n 3, 1) := by decide +kernel
theorem d5 : decode yB 5 = .ok (.ifCond (.ne) 22, 3) := by decide +kernel
theorem d27 : decode yB 27 = .ok (.getstatic 38, 3) := by decide +kernel
theorem d30 : decode yB 30 = .ok (.ifCond (.eq) 28, 3) := by decide +kernel
theorem d33 : decode yB 33 = .ok (.aload_n 1, 1) := by decide +kernel
theorem d34 : decode yB 34 = .ok (.iload_n 2, 1) := by decide +kernel
theorem d35 : decode yB 35 = .ok (.iload_n 3, 1) := by decide +kernel
theorem d36 : decode yB 36 = .ok (.invokestatic 177, 3) := by decide +kernel
theorem d39 : decode yB 39 = .ok (.astore 5, 2) := by decide +kernel
theorem d41 : decode yB 41 = .ok (.aload_n 0, 1) := by decide +kernel
theorem d42 : decode yB 42 = .ok (.aload 5, 2) := by decide +kernel
theorem d44 : decode yB 44 = .ok (.iload_n 3, 1) := by decide +kernel
theorem d45 : decode yB 45 = .ok (.invokestatic 47, 3) := by decide +kernel
theorem d48 : decode yB 48 = .ok (.putfield 15, 3) := by decide +kernel
theorem d51 : decode yB 51 = .ok (.aload_n 0, 1) := by decide +kernel
theorem d52 : decode yB 52 = .ok (.aload 5, 2) := by decide +kernel
theorem d54 : decode yB 54 = .ok (.putfield 9, 3) := by decide +kernel
theorem d57 : decode yB 57 = .ok (.return_, 1) := by decide +kernel
def site : List Cond := [.fieldLink "java/lang/String" 38 "java/lang/String" "COMPACT_STRINGS" "Z", Cmp3.tab, CodL.tab, .laysFinal "java/lang/String" "java/lang/String" "value" "[B", .fieldLink "java/lang/String" 9 "java/lang/String" "value" "[B", .laysFinal "java/lang/String" "java/lang/String" "coder" "B", .fieldLink "java/lang/String" 15 "java/lang/String" "coder" "B"] ++ objW "java/lang/String" 1 ++ staticW "java/lang/String" 177 Cmp3.yN ++ staticW "java/lang/String" 47 CodL.yN
def tab : Cond := tabOf yN yB 6 none site
def P (a : Addr) (D : Cell) (fV fC : Field) (b : Addr) (A : Cell) (z : Int32) (o len : Nat) (args : Array Value) (s : State) : Prop := args = #[.ref a, .ref b, .int (Int32.ofNat o), .int (Int32.ofNat len), .null] ∧ Blank "java/lang/String" a D s ∧ Found "java/lang/String" "value" "[B" fV s ∧ Found "java/lang/String" "coder" "B" fC s ∧ Ch b A s ∧ StaticIs s "java/lang/String" "COMPACT_STRINGS" "Z" (.int z) ∧ ¬ z = 0 ∧ 0 < len ∧ o + len ≤ A.slots.size ∧ len ≤ 536870912 ∧ ∀ i, i < len → ¬ 255 < cv A (o + i)
def E (a : Addr) (D : Cell) (fV fC : Field) (A : Cell) (o len : Nat) (r : Option Value) (s u : State) : Prop := Got a D fV fC A o len r s u
/-- len > 0, no char of the range above 255: a Latin-1 String of their low bytes -/
theorem law (l : Launch) (a : Addr) (D : Cell) (fV fC : Field) (b : Addr) (A : Cell) (z : Int32) (o len : Nat) : Law l yN 5 4 2 35 yB 6 none site (P a D fV fC b A z o len) (E a D fV fC A o len) [⟨a, fC.slot⟩, ⟨a, fV.slot⟩] 1 len := by
  refine Law.of_walk (plainFor_of_name (by decide +kernel)) (by decide +kernel) (by decide +kernel) (by decide) (fun _ _ h => by rw [h.1]; rfl) (fun _ U U' hal hh h => ⟨h.1, h.2.1.mv hal hh, h.2.2.1.al hal, h.2.2.2.1.al hal, h.2.2.2.2.1.mv hal hh, h.2.2.2.2.2.1.there hal hh, h.2.2.2.2.2.2⟩) (fun r U U' V V' h1 hal h2 h => Got.mv r U U' V V' h1 hal h2 h) ?_
  intro p e s m args below meth c s₁ X0 hexec hbytes hml hret hlk hnm hown hh0 W hP
  obtain ⟨rfl, hB, f1, f2, hA, s1, hz, l0, l1, l2, hp⟩ := hP
  have a31 := hA.1.2.2.2
  have c1 : Steps p.tables e below (s₁.setTop (entryFrame m #[.ref a, .ref b, .int (Int32.ofNat o), .int (Int32.ofNat len), .null] 6)) (s₁.setTop (mkF m 0 #[.val (.ref a), .val (.ref b), .val (.int (Int32.ofNat o)), .val (.int (Int32.ofNat len)), .val .null, .unset] [])) := entry rfl
  have c2 : Steps p.tables e below (s₁.setTop (entryFrame m #[.ref a, .ref b, .int (Int32.ofNat o), .int (Int32.ofNat len), .null] 6)) (s₁.setTop (mkF m 1 #[.val (.ref a), .val (.ref b), .val (.int (Int32.ofNat o)), .val (.int (Int32.ofNat len)), .val .null, .unset] [.ref a])) := c1.trans (by
    refine XS.aloadN X0.here hexec rfl (hb hbytes d0) rfl rfl ?_
    exact Steps.refl _)
  obtain ⟨T3, X3, q3, st3⟩ := X0.oinit hexec hown (wks W (objW "java/lang/String" 1)) (g := (mkF m 1 #[.val (.ref a), .val (.ref b), .val (.int (Int32.ofNat o)), .val (.int (Int32.ofNat len)), .val .null, .unset] [.ref a])) rfl (by rw [hml]; rfl) (rest := []) rfl (hb hbytes d1) (W := 0) (by show 2 * 0 + 0 ≤ _; decide) (Nat.le_of_ble_eq_true rfl) (Nat.le_of_ble_eq_true rfl)
  have hh3 := q3.trans hh0
  have c4 : Steps p.tables e below (s₁.setTop (entryFrame m #[.ref a, .ref b, .int (Int32.ofNat o), .int (Int32.ofNat len), .null] 6)) (T3.setTop (mkF m 27 #[.val (.ref a), .val (.ref b), .val (.int (Int32.ofNat o)), .val (.int (Int32.ofNat len)), .val .null, .unset] [])) := (c2.trans (st3 _ (Steps.refl _))).trans (by
    refine XS.iloadN X3.here hexec rfl (hb hbytes d4) rfl ?_
    refine XS.ifYes X3.here hexec rfl (pc0 := 5) rfl (hb hbytes d5) rfl (i0_ne_t (nz32 (by omega) l0)) (by decide) rfl ?_
    exact Steps.refl _)
  obtain ⟨T5, X5, q5, st5⟩ := X3.sget hexec hown (wk W (.fieldLink "java/lang/String" 38 "java/lang/String" "COMPACT_STRINGS" "Z")) s1 (fun _ _ h => by rw [hh3]; exact h) (g := (mkF m 27 #[.val (.ref a), .val (.ref b), .val (.int (Int32.ofNat o)), .val (.int (Int32.ofNat len)), .val .null, .unset] [])) rfl (hb hbytes d27)
  have hh5 := q5.trans hh3
  have c6 : Steps p.tables e below (s₁.setTop (entryFrame m #[.ref a, .ref b, .int (Int32.ofNat o), .int (Int32.ofNat len), .null] 6)) (T5.setTop (mkF m 30 #[.val (.ref a), .val (.ref b), .val (.int (Int32.ofNat o)), .val (.int (Int32.ofNat len)), .val .null, .unset] [.int z])) := c4.trans (st5 _ (Steps.refl _))
  have c7 : Steps p.tables e below (s₁.setTop (entryFrame m #[.ref a, .ref b, .int (Int32.ofNat o), .int (Int32.ofNat len), .null] 6)) (T5.setTop (mkF m 36 #[.val (.ref a), .val (.ref b), .val (.int (Int32.ofNat o)), .val (.int (Int32.ofNat len)), .val .null, .unset] [.int (Int32.ofNat len), .int (Int32.ofNat o), .ref b])) := c6.trans (by
    refine XS.ifNo X5.here hexec rfl (hb hbytes d30) rfl (i0_eq_f hz) ?_
    refine XS.aloadN X5.here hexec rfl (hb hbytes d33) rfl rfl ?_
    refine XS.iloadN X5.here hexec rfl (hb hbytes d34) rfl ?_
    refine XS.iloadN X5.here hexec rfl (hb hbytes d35) rfl ?_
    exact Steps.refl _)
  obtain ⟨v8, T8, X8, E8, g8⟩ := X5.callS hexec (Cmp3.law l b A o len) hown (wks W (staticW "java/lang/String" 177 Cmp3.yN)) (wk W Cmp3.tab) (W := 0) (Nat.le_of_ble_eq_true rfl) (Nat.le_of_ble_eq_true rfl) (Nat.le_refl _) (by show 0 + len ≤ len; omega) (g := (mkF m 36 #[.val (.ref a), .val (.ref b), .val (.int (Int32.ofNat o)), .val (.int (Int32.ofNat len)), .val .null, .unset] [.int (Int32.ofNat len), .int (Int32.ofNat o), .ref b])) rfl (by rw [hml]; rfl) c7 (argsL := [.ref b, .int (Int32.ofNat o), .int (Int32.ofNat len)]) (rest := []) rfl rfl (by show 2 * 0 + 0 ≤ _; decide) (hb hbytes d36) (⟨rfl, hA.mv X5.warmed.alike hh5, l1, l2, hp⟩)
  obtain ⟨e8, z8⟩ := E8
  obtain ⟨rfl, N, n1, n2, n3, n4, n5, n6⟩ := NewArr.mv _ T5 s _ _ hh5.symm (Vm.Alike.refl _) rfl e8
  rw [hh5] at z8
  have hB1 := hB.keep X8.warmed.alike (n6 _ _ hB.1)
  have hne : s.heap.size ≠ a := (Nat.ne_of_lt (Array.getElem?_eq_some_iff.mp hB.1).1).symm
  have c9 : Steps p.tables e below (s₁.setTop (entryFrame m #[.ref a, .ref b, .int (Int32.ofNat o), .int (Int32.ofNat len), .null] 6)) (T8.setTop (mkF m 39 #[.val (.ref a), .val (.ref b), .val (.int (Int32.ofNat o)), .val (.int (Int32.ofNat len)), .val .null, .unset] [.ref s.heap.size])) := g8
  have c10 : Steps p.tables e below (s₁.setTop (entryFrame m #[.ref a, .ref b, .int (Int32.ofNat o), .int (Int32.ofNat len), .null] 6)) (T8.setTop (mkF m 45 #[.val (.ref a), .val (.ref b), .val (.int (Int32.ofNat o)), .val (.int (Int32.ofNat len)), .val .null, .val (.ref s.heap.size)] [.int (Int32.ofNat N.slots.size), .ref s.heap.size, .ref a])) := by
    have hc : Steps p.tables e below (s₁.setTop (entryFrame m #[.ref a, .ref b, .int (Int32.ofNat o), .int (Int32.ofNat len), .null] 6)) (T8.setTop (mkF m 45 #[.val (.ref a), .val (.ref b), .val (.int (Int32.ofNat o)), .val (.int (Int32.ofNat len)), .val .null, .val (.ref s.heap.size)] [.int (Int32.ofNat len), .ref s.heap.size, .ref a])) := c9.trans (by
      refine XS.astore X8.here hexec rfl (hb hbytes d39) rfl rfl rfl ?_
      refine XS.aloadN X8.here hexec rfl (hb hbytes d41) rfl rfl ?_
      refine XS.aload X8.here hexec rfl (hb hbytes d42) rfl rfl ?_
      refine XS.iloadN X8.here hexec rfl (hb hbytes d44) rfl ?_
      exact Steps.refl _)
    rw [n4]; exact hc
  obtain ⟨v11, T11, X11, E11, g11⟩ := X8.callS hexec (CodL.law l s.heap.size N) hown (wks W (staticW "java/lang/String" 47 CodL.yN)) (wk W CodL.tab) (W := 1) (Nat.le_of_ble_eq_true rfl) (Nat.le_of_ble_eq_true rfl) (Nat.le_refl _) (by show 0 + len + 0 ≤ len; omega) (g := (mkF m 45 #[.val (.ref a), .val (.ref b), .val (.int (Int32.ofNat o)), .val (.int (Int32.ofNat len)), .val .null, .val (.ref s.heap.size)] [.int (Int32.ofNat N.slots.size), .ref s.heap.size, .ref a])) rfl (by rw [hml]; rfl) c10 (argsL := [.ref s.heap.size, .int (Int32.ofNat N.slots.size)]) (rest := [.ref a]) rfl rfl (by show 2 * 0 + (1 + 0) ≤ _; decide) (hb hbytes d45) (⟨rfl, n1⟩)
  obtain ⟨rfl, q11⟩ := E11
  have hB11 := hB1.mv (X8.warmed.alike.symm.trans X11.warmed.alike) q11
  have c12 : Steps p.tables e below (s₁.setTop (entryFrame m #[.ref a, .ref b, .int (Int32.ofNat o), .int (Int32.ofNat len), .null] 6)) (T11.setTop (mkF m 48 #[.val (.ref a), .val (.ref b), .val (.int (Int32.ofNat o)), .val (.int (Int32.ofNat len)), .val .null, .val (.ref s.heap.size)] [.int 0, .ref a])) := g11
  obtain ⟨T13, X13, p13, bl13, sl13, st13⟩ := X11.finit hexec hown (wk W (.fieldLink "java/lang/String" 15 "java/lang/String" "coder" "B")) (Or.inr ⟨_, (wk W (.laysFinal "java/lang/String" "java/lang/String" "coder" "B"))⟩) (Or.inl ⟨rfl, hnm⟩) f2 (Or.inl rfl) hB11 (t := .byte) (by decide +kernel) rfl (g := (mkF m 48 #[.val (.ref a), .val (.ref b), .val (.int (Int32.ofNat o)), .val (.int (Int32.ofNat len)), .val .null, .val (.ref s.heap.size)] [.int 0, .ref a])) rfl (rest := []) rfl (hb hbytes d48)
  have c14 : Steps p.tables e below (s₁.setTop (entryFrame m #[.ref a, .ref b, .int (Int32.ofNat o), .int (Int32.ofNat len), .null] 6)) (T13.setTop (mkF m 54 #[.val (.ref a), .val (.ref b), .val (.int (Int32.ofNat o)), .val (.int (Int32.ofNat len)), .val .null, .val (.ref s.heap.size)] [.ref s.heap.size, .ref a])) := (c12.trans (st13 _ (Steps.refl _))).trans (by
    refine XS.aloadN X13.here hexec rfl (hb hbytes d51) rfl rfl ?_
    refine XS.aload X13.here hexec rfl (hb hbytes d52) rfl rfl ?_
    exact Steps.refl _)
  obtain ⟨T15, X15, p15, bl15, sl15, st15⟩ := X13.finit hexec hown (wk W (.fieldLink "java/lang/String" 9 "java/lang/String" "value" "[B")) (Or.inr ⟨_, (wk W (.laysFinal "java/lang/String" "java/lang/String" "value" "[B"))⟩) (Or.inl ⟨rfl, hnm⟩) f1 (Or.inl rfl) bl13 (t := (.array .byte)) (by decide +kernel) rfl (g := (mkF m 54 #[.val (.ref a), .val (.ref b), .val (.int (Int32.ofNat o)), .val (.int (Int32.ofNat len)), .val .null, .val (.ref s.heap.size)] [.ref s.heap.size, .ref a])) rfl (rest := []) rfl (hb hbytes d54)
  have c16 : Steps p.tables e below (s₁.setTop (entryFrame m #[.ref a, .ref b, .int (Int32.ofNat o), .int (Int32.ofNat len), .null] 6)) (T15.setTop (mkF m 57 #[.val (.ref a), .val (.ref b), .val (.int (Int32.ofNat o)), .val (.int (Int32.ofNat len)), .val .null, .val (.ref s.heap.size)] [])) := c14.trans (st15 _ (Steps.refl _))
  have ap := apart (Or.inr ⟨_, (wk W (.laysFinal "java/lang/String" "java/lang/String" "value" "[B"))⟩) (Or.inr ⟨_, (wk W (.laysFinal "java/lang/String" "java/lang/String" "coder" "B"))⟩) f1 f2 (t₁ := .array .byte) (t₂ := .byte) (by decide +kernel) (by decide +kernel) (by decide)
  have al := X8.warmed.alike.symm.trans X15.warmed.alike
  have n7 : T11.heap[s.heap.size]? = some N := by rw [q11]; exact n1.1
  exact ⟨T15, none, _, _, _, X15, by simp, rfl, by omega, (fun _ => rfl), ⟨rfl, _, N, bl15, ((Same.refl D _).set _ (by simp)).set _ (by simp), sl15, (Cell.slots_setSlot_ne _ ap).trans sl13, n1.keep al (p15.other hne (p13.other hne n7)), n2, by rw [al.findClass]; exact n3, n4, n5, fun y c h1 h2 => p15.other h1 (p13.other h1 (by rw [q11]; exact n6 y c h2)), by rw [p15.2.2, p13.2.2, q11]; exact z8⟩, fun fs hl => c16.trans (X15.returnOut hexec hret (hb hbytes d57) hl)⟩
end New4
namespace New1
def yN : MethodName := ⟨"java/lang/String", "<init>", "([C)V"⟩
abbrev yB : ByteArray := jdk_42_method_3_code
theorem d0 : decode yB 0 = .ok (.aload_n 0, 1) := by decide +kernel
theorem d1 : decode yB 1 = .ok (.aload_n 1, 1) := by decide +kernel
theorem d2 : decode yB 2 = .ok (.iconst 0, 1) := by decide +kernel
theorem d3 : decode yB 3 = .ok (.aload_n 1, 1) := by decide +kernel
theorem d4 : decode yB 4 = .ok (.arraylength, 1) := by decide +kernel
theorem d5 : decode yB 5 = .ok (.aconst_null, 1) := by decide +kernel
theorem d6 : decode yB 6 = .ok (.invokespecial 27, 3) := by decide +kernel
theorem d9 : decode yB 9 = .ok (.return_, 1) := by decide +kernel
def site : List Cond := [New4.tab] ++ initW "java/lang/String" 27 New4.yN
def tab : Cond := tabOf yN yB 2 none site
def P (a : Addr) (D : Cell) (fV fC : Field) (b : Addr) (A : Cell) (z : Int32) (args : Array Value) (s : State) : Prop := args = #[.ref a, .ref b] ∧ Blank "java/lang/String" a D s ∧ Found "java/lang/String" "value" "[B" fV s ∧ Found "java/lang/String" "coder" "B" fC s ∧ Ch b A s ∧ StaticIs s "java/lang/String" "COMPACT_STRINGS" "Z" (.int z) ∧ ¬ z = 0 ∧ 0 < A.slots.size ∧ A.slots.size ≤ 536870912 ∧ ∀ i, i < A.slots.size → ¬ 255 < cv A i
def E (a : Addr) (D : Cell) (fV fC : Field) (A : Cell) (r : Option Value) (s u : State) : Prop := Got a D fV fC A 0 A.slots.size r s u
/-- new String(chars), not empty, no char above 255: a Latin-1 String of their low bytes -/
theorem law (l : Launch) (a : Addr) (D : Cell) (fV fC : Field) (b : Addr) (A : Cell) (z : Int32) : Law l yN 2 1 3 52 yB 2 none site (P a D fV fC b A z) (E a D fV fC A) [⟨a, fC.slot⟩, ⟨a, fV.slot⟩] 1 A.slots.size := by
  refine Law.of_walk (plainFor_of_name (by decide +kernel)) (by decide +kernel) (by decide +kernel) (by decide) (fun _ _ h => by rw [h.1]; rfl) (fun _ U U' hal hh h => ⟨h.1, h.2.1.mv hal hh, h.2.2.1.al hal, h.2.2.2.1.al hal, h.2.2.2.2.1.mv hal hh, h.2.2.2.2.2.1.there hal hh, h.2.2.2.2.2.2⟩) (fun r U U' V V' h1 hal h2 h => Got.mv r U U' V V' h1 hal h2 h) ?_
  intro p e s m args below meth c s₁ X0 hexec hbytes hml hret hlk hnm hown hh0 W hP
  obtain ⟨rfl, hB, f1, f2, hA, s1, hz, l0, l2, hp⟩ := hP
  have c1 : Steps p.tables e below (s₁.setTop (entryFrame m #[.ref a, .ref b] 2)) (s₁.setTop (mkF m 0 #[.val (.ref a), .val (.ref b)] [])) := entry rfl
  have c2 : Steps p.tables e below (s₁.setTop (entryFrame m #[.ref a, .ref b] 2)) (s₁.setTop (mkF m 6 #[.val (.ref a), .val (.ref b)] [.null, .int (Int32.ofNat A.slots.size), .int 0, .ref b, .ref a])) := c1.trans (by
    refine XS.aloadN X0.here hexec rfl (hb hbytes d0) rfl rfl ?_
    refine XS.aloadN X0.here hexec rfl (hb hbytes d1) rfl rfl ?_
    refine iconstV X0.here hexec rfl 0 (hb hbytes d2) (by decide) ?_
    refine XS.aloadN X0.here hexec rfl (hb hbytes d3) rfl rfl ?_
    refine X0.alen hexec (hA.1.mv X0.warmed.alike hh0) rfl rfl (hb hbytes d4) ?_
    refine XS.aconstNull X0.here hexec rfl (hb hbytes d5) ?_
    exact Steps.refl _)
  obtain ⟨v3, T3, X3, E3, g3⟩ := X0.callN hexec (New4.law l a D fV fC b A z 0 A.slots.size) rfl hown (wks W (initW "java/lang/String" 27 New4.yN)) (W New4.tab (by simp only [site, List.mem_cons, List.mem_append, true_or, or_true])) (W := 0) (Nat.le_of_ble_eq_true rfl) (Nat.le_of_ble_eq_true rfl) (Nat.le_refl _) (by show 0 + A.slots.size ≤ A.slots.size; omega) (g := (mkF m 6 #[.val (.ref a), .val (.ref b)] [.null, .int (Int32.ofNat A.slots.size), .int (Int32.ofNat 0), .ref b, .ref a])) rfl (by rw [hml]; rfl) c2 (argsL := [.ref b, .int (Int32.ofNat 0), .int (Int32.ofNat A.slots.size), .null]) (rest := []) rfl rfl (by show 2 * 0 + 0 ≤ _; decide) (hb hbytes d6) (⟨rfl, hB.mv X0.warmed.alike hh0, f1.al X0.warmed.alike, f2.al X0.warmed.alike, hA.mv X0.warmed.alike hh0, s1.there X0.warmed.alike hh0, hz, l0, by omega, l2, fun i hi => by rw [Nat.zero_add]; exact hp i hi⟩)
  have e0 := Got.mv _ s₁ s _ _ hh0.symm (Vm.Alike.refl _) rfl E3
  obtain rfl := e0.1
  have c4 : Steps p.tables e below (s₁.setTop (entryFrame m #[.ref a, .ref b] 2)) (T3.setTop (mkF m 9 #[.val (.ref a), .val (.ref b)] [])) := g3
  exact ⟨T3, none, _, _, _, X3, by simp, rfl, by omega, (fun _ => rfl), e0, fun fs hl => c4.trans (X3.returnOut hexec hret (hb hbytes d9) hl)⟩
theorem pays {l : Launch} {R : Room} {p : Program} {e : Env} {below : List Frame} {s : State} {sargs : Array Value} {len W : Nat} (a : Addr) (D : Cell) (fV fC : Field) (b : Addr) (A : Cell) (z : Int32) (htab : tab.before sargs s = true) (hfr : 4 ≤ R.frames) (hlo : W + 65 ≤ R.locals) :
    Back l R p e below s sargs yN len W (fun A₁ a₁ => A₁.cells + 1 ≤ R.cells ∧ A₁.slots + A.slots.size ≤ R.slots ∧ P a D fV fC b A z a₁ A₁.U) (fun A₁ _ v₁ B₁ => E a D fV fC A v₁ A₁.U B₁.U ∧ B₁.locs = A₁.locs ++ [⟨a, fC.slot⟩, ⟨a, fV.slot⟩] ∧ B₁.cells = A₁.cells + 1 ∧ B₁.slots = A₁.slots + A.slots.size) :=
  (law l a D fV fC b A z).pays htab hfr (by omega)
end New1
/-- the byte, read back as charAt reads it, is the char -/
theorem lo8_mask {x : Int32} (h0 : ¬ x < 0) (h1 : ¬ 255 < x) : lo8 x &&& 255 = x := by
  have t : ∀ k : Fin 256, lo8 (Int32.ofNat k.val) &&& 255 = Int32.ofNat k.val := by decide +kernel
  rw [Int32.lt_iff_toInt_lt] at h0 h1
  have e0 : (0 : Int32).toInt = 0 := rfl
  have e1 : (255 : Int32).toInt = 255 := rfl
  obtain ⟨k, hk⟩ : ∃ k : Nat, x.toInt = k := ⟨x.toInt.toNat, by omega⟩
  have hx : x = Int32.ofNat k := Int32.toInt_inj.mp (by rw [hk, Int32.toInt_ofNat_small (by omega)])
  rw [hx]
  exact t ⟨k, by omega⟩
end StrChars
namespace StrChars.Road
open Jvm Sem ClassFile Op Lib Jvm.Stand Jvm.Free Jvm.Free.XT
open Jvm.Lib.Cold (StaticIs)
abbrev ST : String := "java/lang/String"
/-- every table word that New1's law asks, flat -/
abbrev words : List Jvm.Cond := [.code New1.yN New1.yB 2 none, .initialized ST, .methodLink ST 27 New4.yN, .instanceMethod New4.yN,
  .code New4.yN New4.yB 6 none, .fieldLink ST 38 ST "COMPACT_STRINGS" "Z", .laysFinal ST ST "value" "[B", .fieldLink ST 9 ST "value" "[B", .laysFinal ST ST "coder" "B", .fieldLink ST 15 ST "coder" "B",
  .methodLink ST 1 Lib.objectInit, .instanceMethod Lib.objectInit, .code Lib.objectInit ⟨#[0xb1]⟩ 1 none, .methodLink ST 177 Cmp3.yN, .static Cmp3.yN, .methodLink ST 47 CodL.yN, .static CodL.yN,
  .code Cmp3.yN Cmp3.yB 6 (some (.array .byte)), .initialized U16, .arrayClass .byte, .methodLink U16 115 Cmp5.yN, .static Cmp5.yN, .code Cmp5.yN Cmp5.yB 7 (some .int), .code CodL.yN CodL.yB 2 (some .byte)]
theorem tab_of {a : Array Value} {s : State} (h : ∀ w ∈ words, w.before a s = true) : New1.tab.before a s = true := by
  have h5 : Cmp5.tab.before a s = true := unparts (wk h (.code Cmp5.yN Cmp5.yB 7 (some .int))) (wks h (.initialized Cmp5.yN.cls :: Cmp5.site))
  have hc : CodL.tab.before a s = true := unparts (wk h (.code CodL.yN CodL.yB 2 (some .byte))) (wks h (.initialized CodL.yN.cls :: CodL.site))
  have q5 : ∀ w ∈ Cmp5.tab :: words, w.before a s = true := fun w hw => (List.mem_cons.mp hw).elim (fun e => e ▸ h5) (h w)
  have h3 : Cmp3.tab.before a s = true := unparts (wk q5 (.code Cmp3.yN Cmp3.yB 6 (some (.array .byte)))) (wks q5 (.initialized Cmp3.yN.cls :: Cmp3.site))
  have q3 : ∀ w ∈ Cmp3.tab :: CodL.tab :: words, w.before a s = true := fun w hw => (List.mem_cons.mp hw).elim (fun e => e ▸ h3) fun hw => (List.mem_cons.mp hw).elim (fun e => e ▸ hc) (h w)
  have h4 : New4.tab.before a s = true := unparts (wk q3 (.code New4.yN New4.yB 6 none)) (wks q3 (.initialized New4.yN.cls :: New4.site))
  have q4 : ∀ w ∈ New4.tab :: words, w.before a s = true := fun w hw => (List.mem_cons.mp hw).elim (fun e => e ▸ h4) (h w)
  exact unparts (wk q4 (.code New1.yN New1.yB 2 none)) (wks q4 (.initialized New1.yN.cls :: New1.site))
/-- the words ride from the start Z to the walk's own state -/
theorem moved {Z s : State} {a0 args : Array Value} (hZ : Z.Warmed39 s.vm) (hw : ∀ d ∈ words, d.before a0 Z = true) : ∀ d ∈ words, d.before args s = true := fun d hd => by
  have q := hw d hd
  have t : ∀ d ∈ words, d = .arrayClass .byte ∨ (d.onTables && d.keepsFace) = true := by decide +kernel
  rcases t d hd with rfl | t
  · exact RoadKit.mvA hZ q
  · exact RoadKit.mv hZ q t
/-- WHAT COMES BACK, over the tables of the start Z: h the heap at the call, h' behind it -/
def Q (Z : State) (x : Addr) (A : Cell) (h : Heap) (v : Option Value) (h' : Heap) (L : List Loc) : Prop := v = none ∧ (∀ y ∈ L, y.base = x) ∧ RoadKit.Keep h h' [x] ∧ h'.size = h.size + 1 ∧ RoadKit.Exa Z h' x ST ∧ RoadKit.Fld Z h' x ST "value" "[B" (.ref h.size) ∧ RoadKit.Fld Z h' x ST "coder" "B" (.int 0) ∧
  (∃ V : Cell, RoadKit.Arr Z h' h.size V .byte ∧ V.vm = .none ∧ Z.vm.findClass "[B" = some V.cls ∧ V.slots.size = A.slots.size ∧ ∀ j, j < A.slots.size → V.slots[j]? = some (.int (lo8 (cv A j)))) ∧
  ∀ (O n d : String) (w : Value), RoadKit.Fld Z h x O n d w → RoadKit.slotOf Z O n d ≠ RoadKit.slotOf Z ST "value" "[B" → RoadKit.slotOf Z O n d ≠ RoadKit.slotOf Z ST "coder" "B" → RoadKit.Fld Z h' x O n d w
/-- **new String(chars) AT A CALL, IN THE ROAD'S FORM**: for specialBack behind newO: x the fresh String, b the char[] with the cell A -/
theorem back {p : Program} {l : Launch} {e : Env} {R : Room} {s : State} {args : Array Value} {below : List Frame} {len W : Nat} {Z : State} {a0 : Array Value} {h : Heap} (hZ : Z.Warmed39 s.vm) (hw : ∀ d ∈ words, d.before a0 Z = true) {kI : Nat} (wi : (Jvm.Cond.instantiable ST kI).before a0 Z = true)
    {x b : Addr} {A : Cell} {z : Int32} {v0 c0 : Value} (E : RoadKit.Exa Z h x ST) (V : RoadKit.Fld Z h x ST "value" "[B" v0) (C : RoadKit.Fld Z h x ST "coder" "B" c0) (K : RoadKit.Arr Z h b A .char) (hty : Typed .char A) (S : RoadKit.Sta Z h ST "COMPACT_STRINGS" "Z" (.int z)) (hz : ¬ z = 0)
    (l0 : 0 < A.slots.size) (l2 : A.slots.size ≤ 536870912) (hp : ∀ i, i < A.slots.size → ¬ 255 < cv A i) (hfr : 4 ≤ R.frames) (hlo : W + 65 ≤ R.locals) :
    Back l R p e below s args New1.yN len W (fun P a => a = #[.ref x, .ref b] ∧ P.U.heap = h ∧ P.cells + 1 ≤ R.cells ∧ P.slots + A.slots.size ≤ R.slots)
      (fun P _ v B => ∃ L, Q Z x A h v B.U.heap L ∧ B.locs = P.locs ++ L ∧ B.cells = P.cells + 1 ∧ B.slots = P.slots + A.slots.size) := by
  intro m meth c P g ig mk a X hg hsize hdg hW hn hp'
  obtain ⟨rfl, rfl, r1, r2⟩ := hp'
  have al : Z.vm.Alike P.U.vm := hZ.alike.trans X.warmed.alike
  obtain ⟨D, cfV, kV, iV, fV, hD, gV, stV, knV, obV, asV, slV⟩ := id V
  obtain ⟨D', cfC, kC, iC, fC, hD', gC, stC, -, -, asC, slC⟩ := id C
  cases hD.symm.trans hD'
  obtain ⟨D2, kD, e1, e2, e3, e4, e5⟩ := id E
  cases hD.symm.trans e1
  obtain ⟨c2, k2, i1, i2, i3, -⟩ := Cond.instantiable_spec wi
  cases e2.symm.trans i1
  cases e3.symm.trans i2
  obtain ⟨kU, u1, u2⟩ := al.2.2 _ _ e3
  have hB : Blank ST x D P.U := ⟨hD, ⟨knV, fun q hq => by rw [hq] at obV; cases obV⟩, by rw [al.findClass]; exact e2, kU, u1, by rw [u2]; exact i3, by rw [u2]; exact e5 i3⟩
  have F1 : Found ST "value" "[B" fV P.U := ⟨SBG.found_only al ⟨cfV, kV, iV, gV⟩, stV⟩
  have F2 : Found ST "coder" "B" fC P.U := ⟨SBG.found_only al ⟨cfC, kC, iC, gC⟩, stC⟩
  have hA : Ch b A P.U := ⟨⟨K.1, State.isArrayOf_alike al K.2.1, K.2.2, by omega⟩, hty⟩
  have hS : StaticIs P.U ST "COMPACT_STRINGS" "Z" (.int z) := by
    obtain ⟨cfS, iS, kS, fS, st, cS, t1, t2, t3, t4, t5, t6, t7⟩ := S
    exact StaticIs.there (s := { Z with heap := P.U.heap }) ⟨cfS, iS, kS, fS, st, cS, t1, t2, t3, t4, t5, (fun q => by rw [q] at t6; cases t6), t7⟩ al rfl
  obtain ⟨v, B, X', ⟨⟨hv, E', V', q1, q2, q3, q4, q5, q6, q7, q8, q9, q10, q11⟩, hl, hc, hs⟩, st⟩ := New1.pays x D fV fC b A z (tab_of (moved hZ hw)) hfr hlo m meth c P g ig mk _ X hg hsize hdg hW hn ⟨r1, r2, rfl, hB, F1, F2, hA, hS, hz, l0, l2, hp⟩
  have al' : Z.vm.Alike B.U.vm := hZ.alike.trans X'.warmed.alike
  have hsz : E'.slots.size = D.slots.size := by
    obtain ⟨-, -, -, kB, w1, w2, w3⟩ := q1
    obtain ⟨kB', y1, y2⟩ := al'.2.2 _ _ e3
    rw [q2.2.1] at w1
    cases w1.symm.trans y1
    rw [w3, e5 i3, y2]
  refine ⟨v, B, X', ⟨_, ⟨hv, ?_, ⟨by omega, fun y cy hy hn' => q10 y cy (by simpa using hn') hy, fun y cy hy => ?_⟩, q11, ⟨E', _, q1.1, by rw [q2.2.1]; exact e2, by rw [q2.2.1]; exact e3, by rw [q2.1]; exact obV, fun _ => by rw [hsz]; exact e5 i3⟩,
    ⟨E', cfV, kV, iV, fV, q1.1, gV, stV, by rw [q2.1]; exact knV, by rw [q2.1]; exact obV, by rw [q2.2.1]; exact asV, q3⟩, ⟨E', cfC, kC, iC, fC, q1.1, gC, stC, by rw [q2.1]; exact knV, by rw [q2.1]; exact obV, by rw [q2.2.1]; exact asC, q4⟩,
    ⟨V', ⟨q5.1, State.isArrayOf_alike al'.symm q5.2.1, q5.2.2.1⟩, q6, by rw [← al'.findClass]; exact q7, q8, fun j hj => by have := q9 j hj; rwa [Nat.zero_add] at this⟩, fun O n d w F n1 n2 => ?_⟩, hl, hc, hs⟩, st⟩
  · intro y hy
    simp only [List.mem_cons, List.not_mem_nil, or_false] at hy
    rcases hy with rfl | rfl <;> rfl
  · by_cases q : y = x
    · subst q
      cases hD.symm.trans hy
      exact ⟨E', q1.1, q2.2.1, q2.1, hsz⟩
    · exact ⟨cy, q10 y cy q hy, rfl, rfl, rfl⟩
  · obtain ⟨D3, cf, k, i, f, g1, g2, g3, g4, g5, g6, g7⟩ := F
    cases hD.symm.trans g1
    simp only [RoadKit.slotOf, g2, gV, gC, Option.map_some, Option.getD_some] at n1 n2
    exact ⟨E', cf, k, i, f, q1.1, g2, g3, by rw [q2.1]; exact g4, by rw [q2.1]; exact g5, by rw [q2.2.1]; exact g6, by rw [q2.2.2 f.slot (by simp [n1, n2])]; exact g7⟩
end StrChars.Road
namespace StrChars.Road
open Jvm Sem ClassFile Op Lib Jvm.Stand Jvm.Free Jvm.Free.XT
/-- WHAT COMES BACK, the byte[] as a list of values -/
def QA (Z : State) (x : Addr) (zn : Int32) (cs : List Int32) (h : Heap) (v : Option Value) (h' : Heap) (L : List Loc) : Prop := v = none ∧ (∀ y ∈ L, y.base = x) ∧ RoadKit.Keep h h' [x] ∧ h'.size = h.size + 1 ∧ RoadKit.Exa Z h' x ST ∧ RoadKit.Fld Z h' x ST "value" "[B" (.ref h.size) ∧ RoadKit.Fld Z h' x ST "coder" "B" (.int 0) ∧
  (∃ kb, Z.vm.findClass "[B" = some kb ∧ RoadKit.Arv Z h' h.size kb .byte zn (cs.map fun c => .int (lo8 c)) (.int 0)) ∧
  ∀ (O n d : String) (w : Value), RoadKit.Fld Z h x O n d w → RoadKit.slotOf Z O n d ≠ RoadKit.slotOf Z ST "value" "[B" → RoadKit.slotOf Z O n d ≠ RoadKit.slotOf Z ST "coder" "B" → RoadKit.Fld Z h' x O n d w
/-- **new String(chars) AT A CALL, THE ARRAYS AS LISTS**: the char[] at b holds cs, not empty, no char above 255 -/
theorem backArv {p : Program} {l : Launch} {e : Env} {R : Room} {s : State} {args : Array Value} {below : List Frame} {len W : Nat} {Z : State} {a0 : Array Value} {h : Heap} (hZ : Z.Warmed39 s.vm) (hw : ∀ d ∈ words, d.before a0 Z = true) {kI : Nat} (wi : (Jvm.Cond.instantiable ST kI).before a0 Z = true)
    {x b : Addr} {k : ClassId} {zn z : Int32} {cs : List Int32} {dv v0 c0 : Value} (E : RoadKit.Exa Z h x ST) (V : RoadKit.Fld Z h x ST "value" "[B" v0) (C : RoadKit.Fld Z h x ST "coder" "B" c0) (K : RoadKit.Arv Z h b k .char zn (cs.map Value.int) dv) (S : RoadKit.Sta Z h ST "COMPACT_STRINGS" "Z" (.int z)) (hz : ¬ z = 0)
    (hlen : zn.toNatClampNeg = cs.length) (h0 : 0 < cs.length) (hbig : cs.length ≤ 536870912) (hall : ∀ c ∈ cs, ¬ 255 < c) (hfr : 4 ≤ R.frames) (hlo : W + 65 ≤ R.locals) :
    Back l R p e below s args New1.yN len W (fun P a => a = #[.ref x, .ref b] ∧ P.U.heap = h ∧ P.cells + 1 ≤ R.cells ∧ P.slots + cs.length ≤ R.slots)
      (fun P _ v B => ∃ L, QA Z x zn cs h v B.U.heap L ∧ B.locs = P.locs ++ L ∧ B.cells = P.cells + 1 ∧ B.slots = P.slots + cs.length) := by
  obtain ⟨A, K1, K2, K3, K4, K5, K6⟩ := K
  have e : A.slots.size = cs.length := K3.trans hlen
  have hat : ∀ (i : Nat) (hi : i < cs.length), A.slots[i]? = some (.int cs[i]) := fun i hi => by rw [K5 i (by omega)]; simp [List.getD_eq_getElem?_getD, hi]
  have hcv : ∀ (i : Nat) (hi : i < cs.length), cv A i = cs[i] := fun i hi => by unfold cv; rw [hat i hi]
  have hty : Typed .char A := fun i v hv => by
    have hi : i < A.slots.size := (Array.getElem?_eq_some_iff.mp hv).1
    have q := K5 i hi
    rw [hv] at q
    rw [Option.some.inj q]
    exact K6 i hi
  refine Back.mono (back hZ hw wi E V C K1 hty S hz (by omega) (by omega) (fun i hi => by rw [hcv i (by omega)]; exact hall _ (List.getElem_mem _)) hfr hlo) (fun P a hp => ⟨hp.1, hp.2.1, hp.2.2.1, by rw [e]; exact hp.2.2.2⟩) (fun P a v B hp hq => ?_)
  obtain ⟨L, ⟨q1, q2, q3, q4, q5, q6, q7, ⟨V', v1, v2, v3, v4, v5⟩, q9⟩, hl, hc, hs⟩ := hq
  refine ⟨L, ⟨q1, q2, q3, q4, q5, q6, q7, ⟨V'.cls, v3, V', v1, rfl, by rw [v4, e, hlen], K4, fun i hi => ?_, fun i hi => ?_⟩, q9⟩, hl, hc, by rw [hs, e]⟩
  · have hi' : i < cs.length := by omega
    rw [v5 i (by omega), hcv i hi']; simp [List.getD_eq_getElem?_getD, hi']
  · have hi' : i < cs.length := by omega
    simp only [List.getD_eq_getElem?_getD, List.getElem?_map, List.getElem?_eq_getElem hi', Option.map_some, Option.getD_some]
    exact fits_lo8 _
end StrChars.Road
namespace StrChars.Road
open Jvm Sem ClassFile Op Lib Jvm.Stand Jvm.Free Jvm.Free.XT
/-- WHAT COMES BACK, in the writer's own shape -/
def QV (Z : State) (x : Addr) (N : Int32) (bs : List Int32) (h : Heap) (n0 : Nat) (v : Option Value) (h' : Heap) (L : List Loc) : Prop := v = none ∧ RoadKit.Fr n0 L ∧ RoadKit.Keep h h' [x] ∧ RoadKit.Exa Z h' x ST ∧ RoadKit.Fld Z h' x ST "coder" "B" (.int 0) ∧
  ∃ (t : Addr) (kb : ClassId), n0 ≤ t ∧ h.size ≤ t ∧ ¬ t = x ∧ RoadKit.Fld Z h' x ST "value" "[B" (.ref t) ∧ RoadKit.Arv Z h' t kb .byte N (bs.map Value.int) (.int 0)
/-- **new String(chars) AT A CALL, FOR THE WRITER**: a char[] of n known ints, each 0 to 255 -/
theorem backV {p : Program} {l : Launch} {e : Env} {R : Room} {s : State} {args : Array Value} {below : List Frame} {len W : Nat} {Z : State} {a0 : Array Value} {h : Heap} (hZ : Z.Warmed39 s.vm) (hw : ∀ d ∈ words, d.before a0 Z = true) {kI : Nat} (wi : (Jvm.Cond.instantiable ST kI).before a0 Z = true)
    {x b : Addr} {kC : ClassId} {cs bs : List Int32} {d v0 c0 : Value} {z N : Int32} {n n0 : Nat} (hx0 : n0 ≤ x) (hh0 : n0 ≤ h.size) (E : RoadKit.Exa Z h x ST) (V : RoadKit.Fld Z h x ST "value" "[B" v0) (C : RoadKit.Fld Z h x ST "coder" "B" c0) (K : RoadKit.Arv Z h b kC .char N (cs.map Value.int) d) (S : RoadKit.Sta Z h ST "COMPACT_STRINGS" "Z" (.int z)) (hz : ¬ z = 0)
    (hn : cs.length = n) (hN : N = Int32.ofNat n) (l0 : 0 < n) (l2 : n ≤ 4000) (hp : ∀ c ∈ cs, ¬ c < 0 ∧ ¬ (255 : Int32) < c) (hb : bs = cs.map (fun c => c.toInt8.toInt32)) (hfr : 4 ≤ R.frames) (hlo : W + 65 ≤ R.locals) :
    Back l R p e below s args (⟨"java/lang/String", "<init>", "([C)V"⟩ : MethodName) len W (fun P a => a = #[.ref x, .ref b] ∧ P.U.heap = h ∧ P.cells + 1 ≤ R.cells ∧ P.slots + n ≤ R.slots)
      (fun P _ v B => ∃ L, QV Z x N bs h n0 v B.U.heap L ∧ B.locs = P.locs ++ L ∧ B.cells = P.cells + 1 ∧ B.slots = P.slots + n) := by
  subst hn hN hb
  refine Back.mono (backArv hZ hw wi E V C K S hz (n32 (by omega)) l0 (by omega) (fun c hc => (hp c hc).2) hfr hlo) (fun P a hp => hp) (fun P a v B hp hq => ?_)
  obtain ⟨L, ⟨q1, q2, q3, q4, q5, q6, q7, ⟨kb, v1, v2⟩, q9⟩, hl, hc, hs⟩ := hq
  exact ⟨L, ⟨q1, fun y hy => by rw [q2 y hy]; exact hx0, q3, q5, q7, h.size, kb, hh0, Nat.le_refl _, Nat.ne_of_gt E.lt, q6, by rw [List.map_map]; exact v2⟩, hl, hc, hs⟩
end StrChars.Road
namespace StrChars
open Jvm Sem ClassFile Op Lib Jvm.Stand Jvm.Free.XT Jvm.Free.ALB Jvm.Free.JM Jvm.Free
open Jvm.Lib.Cold (StaticIs)
def hi8 (x : Int32) : Int32 := lo8 (x >>> ((8 : Int32) &&& 31))
/-- what StringUTF16.getChar makes of two bytes -/
def pairCh (u v : Int32) : Int32 := (((u &&& 255) <<< ((0 : Int32) &&& 31)) ||| ((v &&& 255) <<< ((8 : Int32) &&& 31))).toUInt32.toUInt16.toUInt32.toInt32
theorem shr0 (c : Int32) : c >>> ((0 : Int32) &&& 31) = c := by
  have e : ((0 : Int32) &&& 31) = 0 := by decide
  rw [e]
  apply Int32.toBitVec_inj.mp
  rw [Int32.toBitVec_shiftRight]
  have e1 : ((0 : Int32).toBitVec.smod 32) = 0#32 := by decide
  rw [e1, BitVec.sshiftRight_eq']
  exact BitVec.sshiftRight_zero
theorem lo8_and (x : Int32) : (lo8 x &&& 255).toBitVec.toNat = x.toBitVec.toNat % 256 := by
  have h : (lo8 x).toBitVec = (x.toBitVec.signExtend 8).signExtend 32 := by rw [lo8, Int8.toBitVec_toInt32, Int32.toBitVec_toInt8]
  rw [Int32.toBitVec_and, BitVec.toNat_and, h]
  have e : ((x.toBitVec.signExtend 8).signExtend 32).toNat % 256 = x.toBitVec.toNat % 256 := by
    rw [BitVec.toNat_signExtend]
    have hlt := x.toBitVec.isLt
    simp only [BitVec.toNat_setWidth, BitVec.toNat_signExtend]
    split <;> split <;> omega
  rw [← e]
  exact Nat.and_two_pow_sub_one_eq_mod _ 8
theorem pair_says {c : Int32} (h0 : ¬ c < 0) (h1 : ¬ 65535 < c) : pairCh (lo8 c) (hi8 c) = c := by
  rw [Int32.lt_iff_toInt_lt] at h0 h1
  have e0 : (0 : Int32).toInt = 0 := rfl
  have e1 : (65535 : Int32).toInt = 65535 := rfl
  have hc : c.toInt = c.toBitVec.toNat := by
    have := c.toBitVec.isLt
    have e : c.toInt = c.toBitVec.toInt := rfl
    rw [e] at h0 h1
    rw [e]
    rw [BitVec.toInt_eq_toNat_cond] at h0 h1 ⊢
    split at h0 <;> split <;> omega
  have hn : c.toBitVec.toNat < 65536 := by omega
  have a1 := lo8_and c
  have a2 : (hi8 c &&& 255).toBitVec.toNat = c.toBitVec.toNat / 256 := by
    rw [hi8, lo8_and]
    have e : ((8 : Int32) &&& 31) = 8 := by decide
    rw [e, Int32.toBitVec_shiftRight]
    have e2 : ((8 : Int32).toBitVec.smod 32) = 8#32 := by decide
    rw [e2, BitVec.sshiftRight_eq', BitVec.toNat_sshiftRight_of_msb_false (by rw [BitVec.msb_eq_false_iff_two_mul_lt]; omega)]
    show c.toBitVec.toNat >>> 8 % 256 = _
    rw [Nat.shiftRight_eq_div_pow]
    omega
  unfold pairCh
  apply Int32.toBitVec_inj.mp
  apply BitVec.eq_of_toNat_eq
  have f0 : ((0 : Int32) &&& 31) = 0 := by decide
  have f8 : ((8 : Int32) &&& 31) = 8 := by decide
  rw [f0, f8]
  have g : (((lo8 c &&& 255) <<< (0 : Int32)) ||| ((hi8 c &&& 255) <<< (8 : Int32))).toBitVec.toNat = c.toBitVec.toNat := by
    rw [Int32.toBitVec_or, Int32.toBitVec_shiftLeft, Int32.toBitVec_shiftLeft]
    have s0 : ((0 : Int32).toBitVec.smod 32) = 0#32 := by decide
    have s8 : ((8 : Int32).toBitVec.smod 32) = 8#32 := by decide
    rw [s0, s8, BitVec.toNat_or]
    simp only [BitVec.shiftLeft_eq', BitVec.toNat_shiftLeft, a1, a2]
    show (c.toBitVec.toNat % 256) <<< 0 % 2 ^ 32 ||| (c.toBitVec.toNat / 256) <<< 8 % 2 ^ 32 = _
    rw [Nat.shiftLeft_zero, Nat.mod_eq_of_lt (show c.toBitVec.toNat % 256 < 2 ^ 32 by omega), Nat.mod_eq_of_lt (show (c.toBitVec.toNat / 256) <<< 8 < 2 ^ 32 by rw [Nat.shiftLeft_eq]; omega), Nat.or_comm, ← Nat.shiftLeft_add_eq_or_of_lt (by omega), Nat.shiftLeft_eq]
    omega
  show BitVec.toNat (((((lo8 c &&& 255) <<< (0 : Int32)) ||| ((hi8 c &&& 255) <<< (8 : Int32))).toBitVec.setWidth 16).setWidth 32) = _
  rw [BitVec.toNat_setWidth, BitVec.toNat_setWidth, g]
  omega
end StrChars
namespace StrChars
open Jvm Sem ClassFile Op Lib Jvm.Stand Jvm.Free.XT Jvm.Free.ALB Jvm.Free.JM Jvm.Free
open Jvm.Lib.Cold (StaticIs)
theorem shr1 {n : Nat} (h : 2 * n < 2 ^ 31) : Int32.ofNat (2 * n) >>> ((1 : Int32) &&& 31) = Int32.ofNat n := by
  have e : ((1 : Int32) &&& 31) = 1 := by decide
  rw [e]
  apply Int32.toBitVec_inj.mp
  rw [Int32.toBitVec_shiftRight]
  have e1 : ((1 : Int32).toBitVec.smod 32) = 1#32 := by decide
  have hm : (BitVec.ofNat 32 (2 * n)).toNat = 2 * n := by rw [BitVec.toNat_ofNat, Nat.mod_eq_of_lt (by omega)]
  rw [e1, BitVec.sshiftRight_eq']
  apply BitVec.eq_of_toNat_eq
  show ((BitVec.ofNat 32 (2 * n)).sshiftRight 1).toNat = (BitVec.ofNat 32 n).toNat
  rw [BitVec.toNat_sshiftRight_of_msb_false (by rw [BitVec.msb_eq_false_iff_two_mul_lt, hm]; omega), hm, BitVec.toNat_ofNat, Nat.shiftRight_eq_div_pow]
  omega
/-- the array's cell V codes the n chars f 0 .. f (n - 1) by the coder cd, as the JDK does: coder 1 just where some char is above 255 -/
def Cod (cd : Int32) (n : Nat) (f : Nat → Int32) (V : Cell) : Prop := (cd = 0 ∧ V.slots.size = n ∧ ∀ j, j < n → V.slots[j]? = some (.int (lo8 (f j))) ∧ ¬ 255 < f j) ∨ (cd = 1 ∧ V.slots.size = 2 * n ∧ (∀ j, j < n → V.slots[2 * j]? = some (.int (lo8 (f j))) ∧ V.slots[2 * j + 1]? = some (.int (hi8 (f j)))) ∧ ∃ j, j < n ∧ 255 < f j)
theorem Cod.cd {cd : Int32} {n : Nat} {f : Nat → Int32} {V : Cell} (h : Cod cd n f V) : cd = 0 ∨ cd = 1 := h.imp (fun q => q.1) fun q => q.1
theorem Cod.len {cd : Int32} {n : Nat} {f : Nat → Int32} {V : Cell} (h : Cod cd n f V) (hs : V.slots.size < 2 ^ 31) : Int32.ofNat V.slots.size >>> (cd &&& 31) = Int32.ofNat n := by
  rcases h with ⟨rfl, h, -⟩ | ⟨rfl, h, -⟩
  · rw [shr0, h]
  · rw [h, shr1 (by omega)]
/-- **x is a String of the n chars f 0 .. f (n - 1)**, Latin-1 or UTF-16; its array at t has the cell V -/
def Txt (x t : Addr) (V : Cell) (cd : Int32) (n : Nat) (f : Nat → Int32) (U : State) : Prop := Exact "java/lang/String" x U ∧ Has x "java/lang/String" "value" "[B" (.ref t) U ∧ Has x "java/lang/String" "coder" "B" (.int cd) U ∧ XT.Arr .byte t V U ∧ Cod cd n f V ∧ ∀ j, j < n → ¬ f j < 0 ∧ ¬ 65535 < f j
theorem Txt.mv {x t : Addr} {V : Cell} {cd : Int32} {n : Nat} {f : Nat → Int32} {U U' : State} (h : Txt x t V cd n f U) (hal : U.vm.Alike U'.vm) (hh : U'.heap = U.heap) : Txt x t V cd n f U' := ⟨h.1.mv hal hh, h.2.1.mv hal hh, h.2.2.1.mv hal hh, h.2.2.2.1.mv hal hh, h.2.2.2.2⟩
namespace Cdr
def yN : MethodName := ⟨"java/lang/String", "coder", "()B"⟩
abbrev yB : ByteArray := jdk_42_method_152_code
theorem d0 : decode yB 0 = .ok (.getstatic 38, 3) := by decide +kernel
theorem d3 : decode yB 3 = .ok (.ifCond (.eq) 10, 3) := by decide +kernel
theorem d6 : decode yB 6 = .ok (.aload_n 0, 1) := by decide +kernel
theorem d7 : decode yB 7 = .ok (.getfield 15, 3) := by decide +kernel
theorem d10 : decode yB 10 = .ok (.goto 4, 3) := by decide +kernel
theorem d14 : decode yB 14 = .ok (.ireturn, 1) := by decide +kernel
def site : List Cond := [.fieldLink "java/lang/String" 38 "java/lang/String" "COMPACT_STRINGS" "Z", .fieldLink "java/lang/String" 15 "java/lang/String" "coder" "B"]
def tab : Cond := tabOf yN yB 1 (some .byte) site
def P (x : Addr) (cd z : Int32) (args : Array Value) (s : State) : Prop := args = #[.ref x] ∧ Has x "java/lang/String" "coder" "B" (.int cd) s ∧ (cd = 0 ∨ cd = 1) ∧ StaticIs s "java/lang/String" "COMPACT_STRINGS" "Z" (.int z) ∧ ¬ z = 0
def E (cd : Int32) (r : Option Value) (s u : State) : Prop := XT.PureE (some (.int cd)) r s u
theorem law (l : Launch) (x : Addr) (cd z : Int32) : Law l yN 1 0 0 0 yB 1 (some .byte) site (P x cd z) (E cd) [] 0 0 := by
  refine Law.of_walk (plainFor_of_name (by decide +kernel)) (by decide +kernel) (by decide +kernel) (by decide) (fun _ _ h => by rw [h.1]; rfl) (fun _ U U' hal hh h => ⟨h.1, h.2.1.mv hal hh, h.2.2.1, h.2.2.2.1.there hal hh, h.2.2.2.2⟩) (fun r U U' V V' h1 hal h2 h => XT.PureE.mv r U U' V V' h1 hal h2 h) ?_
  intro p e s m args below meth c s₁ X0 hexec hbytes hml hret hlk hnm hown hh0 W hP
  obtain ⟨rfl, hx, hc, s1, hz⟩ := hP
  have c1 : Steps p.tables e below (s₁.setTop (entryFrame m #[.ref x] 1)) (s₁.setTop (mkF m 0 #[.val (.ref x)] [])) := entry rfl
  obtain ⟨T2, X2, q2, st2⟩ := X0.sget hexec hown (wk W (.fieldLink "java/lang/String" 38 "java/lang/String" "COMPACT_STRINGS" "Z")) s1 (fun _ _ h => by rw [hh0]; exact h) (g := (mkF m 0 #[.val (.ref x)] [])) rfl (hb hbytes d0)
  have hh2 := q2.trans hh0
  have c3 : Steps p.tables e below (s₁.setTop (entryFrame m #[.ref x] 1)) (T2.setTop (mkF m 7 #[.val (.ref x)] [.ref x])) := (c1.trans (st2 _ (Steps.refl _))).trans (by
    refine XS.ifNo X2.here hexec rfl (hb hbytes d3) rfl (i0_eq_f hz) ?_
    refine XS.aloadN X2.here hexec rfl (hb hbytes d6) rfl rfl ?_
    exact Steps.refl _)
  obtain ⟨T4, X4, q4, st4⟩ := X2.hget hexec hown (wk W (.fieldLink "java/lang/String" 15 "java/lang/String" "coder" "B")) (hx.mv X2.warmed.alike hh2) (g := (mkF m 7 #[.val (.ref x)] [.ref x])) rfl (rest := []) rfl (hb hbytes d7)
  have c5 : Steps p.tables e below (s₁.setTop (entryFrame m #[.ref x] 1)) (T4.setTop (mkF m 14 #[.val (.ref x)] [.int cd])) := (c3.trans (st4 _ (Steps.refl _))).trans (by
    refine XS.goto X4.here hexec rfl (pc0 := 10) rfl (hb hbytes d10) (by decide) rfl ?_
    exact Steps.refl _)
  exact ⟨T4, some (.int cd), _, _, _, X4, rfl, rfl, rfl, (fun h => by cases h), ⟨rfl, q4.trans hh2⟩, fun fs hl => c5.trans (X4.ireturnOut hexec hret (by rcases hc with rfl | rfl <;> rfl) (Or.inr (Or.inr (Or.inl rfl))) (hb hbytes d14) hl)⟩
end Cdr
namespace Len
def yN : MethodName := ⟨"java/lang/String", "length", "()I"⟩
abbrev yB : ByteArray := jdk_42_method_54_code
theorem d0 : decode yB 0 = .ok (.aload_n 0, 1) := by decide +kernel
theorem d1 : decode yB 1 = .ok (.getfield 9, 3) := by decide +kernel
theorem d4 : decode yB 4 = .ok (.arraylength, 1) := by decide +kernel
theorem d5 : decode yB 5 = .ok (.aload_n 0, 1) := by decide +kernel
theorem d6 : decode yB 6 = .ok (.invokevirtual 335, 3) := by decide +kernel
theorem d9 : decode yB 9 = .ok (.ishr, 1) := by decide +kernel
theorem d10 : decode yB 10 = .ok (.ireturn, 1) := by decide +kernel
def site : List Cond := [.fieldLink "java/lang/String" 9 "java/lang/String" "value" "[B", Cdr.tab] ++ virtW "java/lang/String" 335 "java/lang/String" Cdr.yN Cdr.yN
def tab : Cond := tabOf yN yB 1 (some .int) site
def P (x t : Addr) (V : Cell) (cd : Int32) (n : Nat) (f : Nat → Int32) (z : Int32) (args : Array Value) (s : State) : Prop := args = #[.ref x] ∧ Txt x t V cd n f s ∧ StaticIs s "java/lang/String" "COMPACT_STRINGS" "Z" (.int z) ∧ ¬ z = 0
def E (n : Nat) (r : Option Value) (s u : State) : Prop := XT.PureE (some (.int (Int32.ofNat n))) r s u
/-- length() of a String of n chars, in either coding -/
theorem law (l : Launch) (x t : Addr) (V : Cell) (cd : Int32) (n : Nat) (f : Nat → Int32) (z : Int32) : Law l yN 1 0 1 13 yB 1 (some .int) site (P x t V cd n f z) (E n) [] 0 0 := by
  refine Law.of_walk (plainFor_of_name (by decide +kernel)) (by decide +kernel) (by decide +kernel) (by decide) (fun _ _ h => by rw [h.1]; rfl) (fun _ U U' hal hh h => ⟨h.1, h.2.1.mv hal hh, h.2.2.1.there hal hh, h.2.2.2⟩) (fun r U U' V V' h1 hal h2 h => XT.PureE.mv r U U' V V' h1 hal h2 h) ?_
  intro p e s m args below meth c s₁ X0 hexec hbytes hml hret hlk hnm hown hh0 W hP
  obtain ⟨rfl, hx, s1, hz⟩ := hP
  have v31 := hx.2.2.2.1.2.2.2
  have c1 : Steps p.tables e below (s₁.setTop (entryFrame m #[.ref x] 1)) (s₁.setTop (mkF m 1 #[.val (.ref x)] [.ref x])) := Steps.trans (entry rfl) (by
    show Steps p.tables e below (s₁.setTop (mkF m 0 #[.val (.ref x)] [])) _
    refine XS.aloadN X0.here hexec rfl (hb hbytes d0) rfl rfl ?_
    exact Steps.refl _)
  obtain ⟨T2, X2, q2, st2⟩ := X0.hget hexec hown (wk W (.fieldLink "java/lang/String" 9 "java/lang/String" "value" "[B")) (hx.mv X0.warmed.alike hh0).2.1 (g := (mkF m 1 #[.val (.ref x)] [.ref x])) rfl (rest := []) rfl (hb hbytes d1)
  have hh2 := q2.trans hh0
  have hx2 := hx.mv X2.warmed.alike hh2
  have c3 : Steps p.tables e below (s₁.setTop (entryFrame m #[.ref x] 1)) (T2.setTop (mkF m 6 #[.val (.ref x)] [.ref x, .int (Int32.ofNat V.slots.size)])) := (c1.trans (st2 _ (Steps.refl _))).trans (by
    refine X2.alen hexec hx2.2.2.2.1 rfl rfl (hb hbytes d4) ?_
    refine XS.aloadN X2.here hexec rfl (hb hbytes d5) rfl rfl ?_
    exact Steps.refl _)
  obtain ⟨v4, T4, X4, E4, g4⟩ := X2.callV hexec (Cdr.law l x cd z) hown (wks W (virtW "java/lang/String" 335 "java/lang/String" Cdr.yN Cdr.yN)) rfl (by decide) (wk W Cdr.tab) (W := 1) (Nat.le_of_ble_eq_true rfl) (Nat.le_of_ble_eq_true rfl) (Nat.le_refl _) (Nat.le_refl _) (hx2.1.fc X2.warmed.alike) hx2.1.is (g := (mkF m 6 #[.val (.ref x)] [.ref x, .int (Int32.ofNat V.slots.size)])) rfl (by rw [hml]; rfl) c3 (argsL := []) (rest := [.int (Int32.ofNat V.slots.size)]) rfl rfl (by show 2 * 0 + (1 + 0) ≤ _; decide) (hb hbytes d6) (⟨rfl, hx2.2.2.1, hx.2.2.2.2.1.cd, s1.there X2.warmed.alike hh2, hz⟩)
  obtain ⟨rfl, q4⟩ := E4
  have c5 : Steps p.tables e below (s₁.setTop (entryFrame m #[.ref x] 1)) (T4.setTop (mkF m 10 #[.val (.ref x)] [.int (Int32.ofNat V.slots.size >>> (cd &&& 31))])) := Steps.trans g4 (by
    refine ishr X4.here hexec rfl (hb hbytes d9) rfl ?_
    exact Steps.refl _)
  rw [hx.2.2.2.2.1.len v31] at c5
  exact ⟨T4, some (.int (Int32.ofNat n)), _, _, _, X4, rfl, rfl, rfl, (fun h => by cases h), ⟨rfl, q4.trans hh2⟩, fun fs hl => c5.trans (X4.ireturnOut hexec hret rfl (Or.inl rfl) (hb hbytes d10) hl)⟩
theorem pays {l : Launch} {R : Room} {p : Program} {e : Env} {below : List Frame} {s : State} {sargs : Array Value} {len W : Nat} (x t : Addr) (V : Cell) (cd : Int32) (n : Nat) (f : Nat → Int32) (z : Int32) (htab : tab.before sargs s = true) (hfr : 2 ≤ R.frames) (hlo : W + 25 ≤ R.locals) :
    Back l R p e below s sargs yN len W (fun A₁ a₁ => A₁.cells + 0 ≤ R.cells ∧ A₁.slots + 0 ≤ R.slots ∧ P x t V cd n f z a₁ A₁.U) (fun A₁ _ v₁ B₁ => E n v₁ A₁.U B₁.U ∧ B₁.locs = A₁.locs ++ [] ∧ B₁.cells = A₁.cells + 0 ∧ B₁.slots = A₁.slots + 0) :=
  (law l x t V cd n f z).pays htab hfr (by omega)
end Len
end StrChars
namespace StrChars.Road
open Jvm Sem ClassFile Op Lib Jvm.Stand Jvm.Free Jvm.Free.XT
open Jvm.Lib.Cold (StaticIs)
theorem consq {a : Array Value} {s : State} {c : Jvm.Cond} {L : List Jvm.Cond} (h0 : c.before a s = true) (h : ∀ w ∈ L, w.before a s = true) : ∀ w ∈ c :: L, w.before a s = true := fun w hw => (List.mem_cons.mp hw).elim (fun e => e ▸ h0) (h w)
/-- the words of String.length(), either coding -/
abbrev wordsLen : List Jvm.Cond := [.code Len.yN Len.yB 1 (some .int), .initialized ST, .fieldLink ST 9 ST "value" "[B", .fieldLink ST 38 ST "COMPACT_STRINGS" "Z", .fieldLink ST 15 ST "coder" "B", .code Cdr.yN Cdr.yB 1 (some .byte), .methodLink ST 335 Cdr.yN, .declares Cdr.yN, .selects ST Cdr.yN Cdr.yN, .instanceMethod Cdr.yN]
theorem tabLen_of {a : Array Value} {s : State} (h : ∀ w ∈ wordsLen, w.before a s = true) : Len.tab.before a s = true := by
  have hc : Cdr.tab.before a s = true := unparts (wk h (.code Cdr.yN Cdr.yB 1 (some .byte))) (wks h (.initialized Cdr.yN.cls :: Cdr.site))
  have q := consq hc h
  exact unparts (wk q (.code Len.yN Len.yB 1 (some .int))) (wks q (.initialized Len.yN.cls :: Len.site))
theorem movedLen {Z s : State} {a0 args : Array Value} (hZ : Z.Warmed39 s.vm) (hw : ∀ d ∈ wordsLen, d.before a0 Z = true) : ∀ d ∈ wordsLen, d.before args s = true := fun d hd => by
  have q := hw d hd
  have t : ∀ d ∈ wordsLen, d = .arrayClass .byte ∨ (d.onTables && d.keepsFace) = true := by decide +kernel
  rcases t d hd with rfl | t
  · exact RoadKit.mvA hZ q
  · exact RoadKit.mv hZ q t
/-- the bytes of the chars cs, low before high -/
def wideBytes : List Int32 → List Value
  | [] => []
  | c :: cs => .int (lo8 c) :: .int (hi8 c) :: wideBytes cs
theorem wide_lo (d : Value) : ∀ (cs : List Int32) (j : Nat), j < cs.length → (wideBytes cs).getD (2 * j) d = .int (lo8 (cs.getD j 0))
  | [], j, h => absurd h (Nat.not_lt_zero j)
  | c :: cs, 0, _ => rfl
  | c :: cs, j + 1, h => by
    have q := wide_lo d cs j (by simpa using h)
    rw [show 2 * (j + 1) = 2 * j + 1 + 1 from by omega]
    simpa [wideBytes] using q
theorem wide_hi (d : Value) : ∀ (cs : List Int32) (j : Nat), j < cs.length → (wideBytes cs).getD (2 * j + 1) d = .int (hi8 (cs.getD j 0))
  | [], j, h => absurd h (Nat.not_lt_zero j)
  | c :: cs, 0, _ => rfl
  | c :: cs, j + 1, h => by
    have q := wide_hi d cs j (by simpa using h)
    rw [show 2 * (j + 1) + 1 = 2 * j + 1 + 1 + 1 from by omega]
    simpa [wideBytes] using q
theorem low_at (d : Value) (cs : List Int32) (j : Nat) (h : j < cs.length) : (cs.map fun c => Value.int (lo8 c)).getD j d = .int (lo8 (cs.getD j 0)) := by
  simp [List.getD_eq_getElem?_getD, h]
/-- an array of N2 bytes vs codes the chars cs by the coder cd -/
def CodA (cs : List Int32) (cd N2 : Int32) (vs : List Value) : Prop := (cd = 0 ∧ N2 = Int32.ofNat cs.length ∧ vs = (cs.map fun c => Value.int (lo8 c)) ∧ ∀ c ∈ cs, ¬ 255 < c) ∨ (cd = 1 ∧ N2 = Int32.ofNat (2 * cs.length) ∧ vs = wideBytes cs ∧ ∃ c ∈ cs, 255 < c)
theorem CodA.cod {cs : List Int32} {cd N2 : Int32} {vs : List Value} {V : Cell} (h : CodA cs cd N2 vs) (hn : 2 * cs.length < 2 ^ 31) (hs : V.slots.size = N2.toNatClampNeg) (hv : RoadKit.Has V vs (.int 0)) : Cod cd cs.length (fun j => cs.getD j 0) V := by
  rcases h with ⟨rfl, rfl, rfl, h⟩ | ⟨rfl, rfl, rfl, c, hc, hw⟩
  · rw [n32 (by omega)] at hs
    exact Or.inl ⟨rfl, hs, fun j hj => ⟨by rw [hv j (by omega), low_at _ _ _ hj], by
      have e : cs.getD j 0 = cs[j] := by simp [List.getD_eq_getElem?_getD, hj]
      show ¬ 255 < cs.getD j 0
      rw [e]; exact h _ (List.getElem_mem _)⟩⟩
  · rw [n32 (by omega)] at hs
    obtain ⟨j, hj, rfl⟩ := List.getElem_of_mem hc
    exact Or.inr ⟨rfl, hs, fun j hj => ⟨by rw [hv _ (by omega), wide_lo _ _ _ hj], by rw [hv _ (by omega), wide_hi _ _ _ hj]⟩, j, hj, by
      have e : cs.getD j 0 = cs[j] := by simp [List.getD_eq_getElem?_getD, hj]
      show 255 < cs.getD j 0
      rw [e]; exact hw⟩
/-- an object of exactly java/lang/String, its two fields found: as the laws ask it -/
theorem strObj {Z U : State} {a0 : Array Value} {kI : Nat} (wi : (Jvm.Cond.instantiable ST kI).before a0 Z = true) (al : Z.vm.Alike U.vm) {x : Addr} {v0 c0 : Value} (E : RoadKit.Exa Z U.heap x ST) (V : RoadKit.Fld Z U.heap x ST "value" "[B" v0) (C : RoadKit.Fld Z U.heap x ST "coder" "B" c0) :
    ∃ (D : Cell) (fV fC : Field), Blank ST x D U ∧ Found ST "value" "[B" fV U ∧ Found ST "coder" "B" fC U ∧ D.slots[fV.slot]? = some v0 ∧ D.slots[fC.slot]? = some c0 ∧ RoadKit.slotOf Z ST "value" "[B" = fV.slot ∧ RoadKit.slotOf Z ST "coder" "B" = fC.slot := by
  obtain ⟨D, cfV, kV, iV, fV, hD, gV, stV, knV, obV, asV, slV⟩ := V
  obtain ⟨D', cfC, kC, iC, fC, hD', gC, stC, -, -, asC, slC⟩ := C
  cases hD.symm.trans hD'
  obtain ⟨D2, kD, e1, e2, e3, e4, e5⟩ := E
  cases hD.symm.trans e1
  obtain ⟨c2, k2, i1, i2, i3, -⟩ := Cond.instantiable_spec wi
  cases e2.symm.trans i1
  cases e3.symm.trans i2
  obtain ⟨kU, u1, u2⟩ := al.2.2 _ _ e3
  exact ⟨D, fV, fC, ⟨hD, ⟨knV, fun q hq => by rw [hq] at obV; cases obV⟩, by rw [al.findClass]; exact e2, kU, u1, by rw [u2]; exact i3, by rw [u2]; exact e5 i3⟩, ⟨SBG.found_only al ⟨cfV, kV, iV, gV⟩, stV⟩, ⟨SBG.found_only al ⟨cfC, kC, iC, gC⟩, stC⟩, slV, slC, by simp [RoadKit.slotOf, gV], by simp [RoadKit.slotOf, gC]⟩
theorem sta_is {Z U : State} (al : Z.vm.Alike U.vm) {C n d : String} {v : Value} (S : RoadKit.Sta Z U.heap C n d v) : StaticIs U C n d v := by
  obtain ⟨cfS, iS, kS, fS, st, cS, t1, t2, t3, t4, t5, t6, t7⟩ := S
  exact StaticIs.there (s := { Z with heap := U.heap }) ⟨cfS, iS, kS, fS, st, cS, t1, t2, t3, t4, t5, (fun q => by rw [q] at t6; cases t6), t7⟩ al rfl
/-- **length() OF SUCH A STRING** -/
theorem lenW {p : Program} {l : Launch} {e : Env} {R : Room} {s : State} {args : Array Value} {below : List Frame} {len W : Nat} {Z : State} {a0 : Array Value} {h : Heap} (hZ : Z.Warmed39 s.vm) (hw : ∀ d ∈ wordsLen, d.before a0 Z = true) {kI : Nat} (wi : (Jvm.Cond.instantiable ST kI).before a0 Z = true)
    {x t : Addr} {kb : ClassId} {cs : List Int32} {cd N2 z : Int32} {vs : List Value} (E : RoadKit.Exa Z h x ST) (V : RoadKit.Fld Z h x ST "value" "[B" (.ref t)) (C : RoadKit.Fld Z h x ST "coder" "B" (.int cd)) (K : RoadKit.Arv Z h t kb .byte N2 vs (.int 0)) (hc : CodA cs cd N2 vs) (hb : ∀ c ∈ cs, ¬ c < 0 ∧ ¬ (65535 : Int32) < c)
    (S : RoadKit.Sta Z h ST "COMPACT_STRINGS" "Z" (.int z)) (hz : ¬ z = 0) (l2 : cs.length ≤ 4000) (hfr : 2 ≤ R.frames) (hlo : W + 25 ≤ R.locals) :
    Back l R p e below s args (⟨"java/lang/String", "length", "()I"⟩ : MethodName) len W (fun P a => a = #[.ref x] ∧ P.U.heap = h ∧ P.cells + 0 ≤ R.cells ∧ P.slots + 0 ≤ R.slots)
      (fun P _ v B => ∃ L, (v = some (.int (Int32.ofNat cs.length)) ∧ L = [] ∧ B.U.heap = h) ∧ B.locs = P.locs ++ L ∧ B.cells = P.cells + 0 ∧ B.slots = P.slots + 0) := by
  obtain ⟨A, K1, K2, K3, K4, K5, K6⟩ := K
  have hcod := hc.cod (by omega) K3 K5
  intro m meth c P g ig mk a X hg hsize hdg hW hn hp'
  obtain ⟨rfl, rfl, r1, r2⟩ := hp'
  have al : Z.vm.Alike P.U.vm := hZ.alike.trans X.warmed.alike
  obtain ⟨D, fV, fC, hB, F1, F2, g1, g2, -, -⟩ := strObj wi al E V C
  have hx : Txt x t A cd cs.length (fun j => cs.getD j 0) P.U := ⟨⟨_, hB.2.2.1, D, hB.1, rfl, by cases q : D.vm <;> first | rfl | exact absurd q (hB.2.1.2 _)⟩, Has.of hB F1 g1, Has.of hB F2 g2, ⟨K1.1, State.isArrayOf_alike al K1.2.1, K1.2.2, by rcases hcod with ⟨-, q, -⟩ | ⟨-, q, -⟩ <;> omega⟩, hcod, fun j hj => by
    have e : cs.getD j 0 = cs[j] := by simp [List.getD_eq_getElem?_getD, hj]
    show ¬ cs.getD j 0 < 0 ∧ ¬ 65535 < cs.getD j 0
    rw [e]; exact hb _ (List.getElem_mem _)⟩
  obtain ⟨v, B, X', ⟨⟨hv, hh⟩, hl, hk, hs⟩, st⟩ := Len.pays x t A cd cs.length (fun j => cs.getD j 0) z (tabLen_of (movedLen hZ hw)) hfr hlo m meth c P g ig mk _ X hg hsize hdg hW hn ⟨r1, r2, rfl, hx, sta_is al S, hz⟩
  exact ⟨v, B, X', ⟨[], ⟨hv, rfl, hh⟩, hl, hk, hs⟩, st⟩
end StrChars.Road
namespace StrChars
open Jvm Sem ClassFile Op Lib Jvm.Stand Jvm.Free.XT Jvm.Free.ALB Jvm.Free.JM Jvm.Free
open Jvm.Lib.Cold (StaticIs)
/-- what place i of a byte[]'s cell holds -/
def yv (A : Cell) (i : Nat) : Int32 := match A.slots[i]? with | some (.int x) => x | _ => 0
theorem yv_get {a : Addr} {A : Cell} {U : State} (h : XT.Arr .byte a A U) (ht : Typed .byte A) {i : Nat} (hi : i < A.slots.size) : A.slots[i]? = some (.int (yv A i)) := by
  have e := Array.getElem?_eq_getElem hi
  have f := ht i _ e
  unfold yv; rw [e]
  generalize A.slots[i] = v at f
  cases v <;> simp [fits] at f ⊢
/-- the two arrays are equal, place for place -/
def EqC (A B : Cell) : Prop := A.slots.size = B.slots.size ∧ ∀ i, i < A.slots.size → yv A i = yv B i
/-- a boolean that says whether p -/
def Says01 (q : Prop) (r : Option Value) (s u : State) : Prop := ∃ v : Int32, r = some (.int v) ∧ u.heap = s.heap ∧ ((v = 1 ∧ q) ∨ (v = 0 ∧ ¬ q))
theorem Says01.mv {q : Prop} : ∀ r (U U' V V' : State), U'.heap = U.heap → V.vm.Alike V'.vm → V'.heap = V.heap → Says01 q r U V → Says01 q r U' V' :=
  fun r U U' V V' h1 _ h2 ⟨v, a, b, c⟩ => ⟨v, a, by rw [h1, h2]; exact b, c⟩
namespace LEq
def yN : MethodName := ⟨"java/lang/StringLatin1", "equals", "([B[B)Z"⟩
abbrev yB : ByteArray := jdk_43_method_13_code
theorem d0 : decode yB 0 = .ok (.aload_n 0, 1) := by decide +kernel
theorem d1 : decode yB 1 = .ok (.arraylength, 1) := by decide +kernel
theorem d2 : decode yB 2 = .ok (.aload_n 1, 1) := by decide +kernel
theorem d3 : decode yB 3 = .ok (.arraylength, 1) := by decide +kernel
theorem d4 : decode yB 4 = .ok (.if_icmp (.ne) 30, 3) := by decide +kernel
theorem d7 : decode yB 7 = .ok (.iconst 0, 1) := by decide +kernel
theorem d8 : decode yB 8 = .ok (.istore_n 2, 1) := by decide +kernel
theorem d9 : decode yB 9 = .ok (.iload_n 2, 1) := by decide +kernel
theorem d10 : decode yB 10 = .ok (.aload_n 0, 1) := by decide +kernel
theorem d11 : decode yB 11 = .ok (.arraylength, 1) := by decide +kernel
theorem d12 : decode yB 12 = .ok (.if_icmp (.ge) 20, 3) := by decide +kernel
theorem d15 : decode yB 15 = .ok (.aload_n 0, 1) := by decide +kernel
theorem d16 : decode yB 16 = .ok (.iload_n 2, 1) := by decide +kernel
theorem d17 : decode yB 17 = .ok (.baload, 1) := by decide +kernel
theorem d18 : decode yB 18 = .ok (.aload_n 1, 1) := by decide +kernel
theorem d19 : decode yB 19 = .ok (.iload_n 2, 1) := by decide +kernel
theorem d20 : decode yB 20 = .ok (.baload, 1) := by decide +kernel
theorem d21 : decode yB 21 = .ok (.if_icmp (.eq) 5, 3) := by decide +kernel
theorem d24 : decode yB 24 = .ok (.iconst 0, 1) := by decide +kernel
theorem d25 : decode yB 25 = .ok (.ireturn, 1) := by decide +kernel
theorem d26 : decode yB 26 = .ok (.iinc 2 1, 3) := by decide +kernel
theorem d29 : decode yB 29 = .ok (.goto (-20), 3) := by decide +kernel
theorem d32 : decode yB 32 = .ok (.iconst 1, 1) := by decide +kernel
theorem d33 : decode yB 33 = .ok (.ireturn, 1) := by decide +kernel
theorem d34 : decode yB 34 = .ok (.iconst 0, 1) := by decide +kernel
theorem d35 : decode yB 35 = .ok (.ireturn, 1) := by decide +kernel
def site : List Cond := []
def tab : Cond := tabOf yN yB 3 (some .boolean) site
def P (a : Addr) (A : Cell) (b : Addr) (B : Cell) (args : Array Value) (s : State) : Prop := args = #[.ref a, .ref b] ∧ XT.Arr .byte a A s ∧ Typed .byte A ∧ XT.Arr .byte b B s ∧ Typed .byte B
/-- whether two byte[] are equal, place for place -/
theorem law (l : Launch) (a : Addr) (A : Cell) (b : Addr) (B : Cell) : Law l yN 2 2 0 0 yB 3 (some .boolean) site (P a A b B) (Says01 (EqC A B)) [] 0 0 := by
  refine Law.of_walk (plainFor_of_name (by decide +kernel)) (by decide +kernel) (by decide +kernel) (by decide) (fun _ _ h => by rw [h.1]; rfl) (fun _ U U' hal hh h => ⟨h.1, h.2.1.mv hal hh, h.2.2.1, h.2.2.2.1.mv hal hh, h.2.2.2.2⟩) (fun r U U' V V' h1 hal h2 h => Says01.mv r U U' V V' h1 hal h2 h) ?_
  intro p e s m args below meth c s₁ X0 hexec hbytes hml hret hlk hnm hown hh0 W hP
  obtain ⟨rfl, hA, tA, hB, tB⟩ := hP
  have a31 := hA.2.2.2
  have b31 := hB.2.2.2
  have hA0 := hA.mv X0.warmed.alike hh0
  have hB0 := hB.mv X0.warmed.alike hh0
  have c1 : Steps p.tables e below (s₁.setTop (entryFrame m #[.ref a, .ref b] 3)) (s₁.setTop (mkF m 0 #[.val (.ref a), .val (.ref b), .unset] [])) := entry rfl
  have c2 : Steps p.tables e below (s₁.setTop (entryFrame m #[.ref a, .ref b] 3)) (s₁.setTop (mkF m 4 #[.val (.ref a), .val (.ref b), .unset] [.int (Int32.ofNat B.slots.size), .int (Int32.ofNat A.slots.size)])) := c1.trans (by
    refine XS.aloadN X0.here hexec rfl (hb hbytes d0) rfl rfl ?_
    refine X0.alen hexec hA0 rfl rfl (hb hbytes d1) ?_
    refine XS.aloadN X0.here hexec rfl (hb hbytes d2) rfl rfl ?_
    refine X0.alen hexec hB0 rfl rfl (hb hbytes d3) ?_
    exact Steps.refl _)
  by_cases hs : A.slots.size = B.slots.size
  · have c3 : Steps p.tables e below (s₁.setTop (entryFrame m #[.ref a, .ref b] 3)) (s₁.setTop (mkF m 9 #[.val (.ref a), .val (.ref b), .val (.int 0)] [])) := c2.trans (by
      refine XS.icmpNo X0.here hexec rfl (hb hbytes d4) rfl (ii_ne_f (by rw [hs])) ?_
      refine iconstV X0.here hexec rfl 0 (hb hbytes d7) (by decide) ?_
      refine XS.istoreN X0.here hexec rfl (hb hbytes d8) rfl rfl ?_
      exact Steps.refl _)
    have loop : ∀ (r i : Nat), i + r = A.slots.size → (∀ j, j < i → yv A j = yv B j) → Steps p.tables e below (s₁.setTop (entryFrame m #[.ref a, .ref b] 3)) (s₁.setTop (mkF m 9 #[.val (.ref a), .val (.ref b), .val (.int (Int32.ofNat i))] [])) → ∃ (pc : Nat) (Ls : Array Slot) (v : Int32), (pc = 25 ∨ pc = 33) ∧ ((v = 1 ∧ EqC A B) ∨ (v = 0 ∧ ¬ EqC A B)) ∧ Steps p.tables e below (s₁.setTop (entryFrame m #[.ref a, .ref b] 3)) (s₁.setTop (mkF m pc Ls [.int v])) := by
      intro r
      induction r with
      | zero =>
        intro i hi he cl
        exact ⟨33, _, 1, Or.inr rfl, Or.inl ⟨rfl, hs, fun j hj => he j (by omega)⟩, cl.trans (by
          refine XS.iloadN X0.here hexec rfl (hb hbytes d9) rfl ?_
          refine XS.aloadN X0.here hexec rfl (hb hbytes d10) rfl rfl ?_
          refine X0.alen hexec hA0 rfl rfl (hb hbytes d11) ?_
          refine XS.icmpYes X0.here hexec rfl (pc0 := 12) rfl (hb hbytes d12) rfl (ii_ge_t (nlt32 (by omega) (by omega))) (by decide) rfl ?_
          refine iconstV X0.here hexec rfl 1 (hb hbytes d32) (by decide) ?_
          exact Steps.refl _)⟩
      | succ r ih =>
        intro i hi he cl
        have c4 : Steps p.tables e below (s₁.setTop (entryFrame m #[.ref a, .ref b] 3)) (s₁.setTop (mkF m 21 #[.val (.ref a), .val (.ref b), .val (.int (Int32.ofNat i))] [.int (yv B i), .int (yv A i)])) := cl.trans (by
          refine XS.iloadN X0.here hexec rfl (hb hbytes d9) rfl ?_
          refine XS.aloadN X0.here hexec rfl (hb hbytes d10) rfl rfl ?_
          refine X0.alen hexec hA0 rfl rfl (hb hbytes d11) ?_
          refine XS.icmpNo X0.here hexec rfl (hb hbytes d12) rfl (ii_ge_f (lt32 (by omega) (by omega))) ?_
          refine XS.aloadN X0.here hexec rfl (hb hbytes d15) rfl rfl ?_
          refine XS.iloadN X0.here hexec rfl (hb hbytes d16) rfl ?_
          refine X0.aget hexec hA0 rfl (yv_get hA tA (i := i) (by omega)) rfl rfl (hb hbytes d17) ?_
          refine XS.aloadN X0.here hexec rfl (hb hbytes d18) rfl rfl ?_
          refine XS.iloadN X0.here hexec rfl (hb hbytes d19) rfl ?_
          refine X0.aget hexec hB0 rfl (yv_get hB tB (i := i) (by omega)) rfl rfl (hb hbytes d20) ?_
          exact Steps.refl _)
        by_cases hv : yv A i = yv B i
        · have c5 : Steps p.tables e below (s₁.setTop (entryFrame m #[.ref a, .ref b] 3)) (s₁.setTop (mkF m 9 #[.val (.ref a), .val (.ref b), .val (.int (Int32.ofNat i + 1))] [])) := c4.trans (by
            refine XS.icmpYes X0.here hexec rfl (pc0 := 21) rfl (hb hbytes d21) rfl (ii_eq_t hv) (by decide) rfl ?_
            refine iincV X0.here hexec rfl 1 (hb hbytes d26) (by decide) rfl rfl ?_
            refine XS.goto X0.here hexec rfl (pc0 := 29) rfl (hb hbytes d29) (by decide) rfl ?_
            exact Steps.refl _)
          rw [succ32] at c5
          exact ih (i + 1) (by omega) (fun j hj => by
            by_cases e : j = i
            · rw [e]; exact hv
            · exact he j (by omega)) c5
        · exact ⟨25, _, 0, Or.inl rfl, Or.inr ⟨rfl, fun q => hv (q.2 i (by omega))⟩, c4.trans (by
            refine XS.icmpNo X0.here hexec rfl (hb hbytes d21) rfl (ii_eq_f hv) ?_
            refine iconstV X0.here hexec rfl 0 (hb hbytes d24) (by decide) ?_
            exact Steps.refl _)⟩
    obtain ⟨pc, Ls, v, hpc, hv, cz⟩ := loop A.slots.size 0 (by omega) (fun j hj => absurd hj (Nat.not_lt_zero j)) c3
    have nv : narrow .boolean (.int v) = .int v := by rcases hv with ⟨rfl, -⟩ | ⟨rfl, -⟩ <;> rfl
    rcases hpc with rfl | rfl
    · exact ⟨s₁, some (.int v), _, _, _, X0, rfl, rfl, rfl, (fun h => by cases h), ⟨v, rfl, hh0, hv⟩, fun fs hl => cz.trans (X0.ireturnOut hexec hret nv (Or.inr (Or.inl rfl)) (hb hbytes d25) hl)⟩
    · exact ⟨s₁, some (.int v), _, _, _, X0, rfl, rfl, rfl, (fun h => by cases h), ⟨v, rfl, hh0, hv⟩, fun fs hl => cz.trans (X0.ireturnOut hexec hret nv (Or.inr (Or.inl rfl)) (hb hbytes d33) hl)⟩
  · have c3 : Steps p.tables e below (s₁.setTop (entryFrame m #[.ref a, .ref b] 3)) (s₁.setTop (mkF m 35 #[.val (.ref a), .val (.ref b), .unset] [.int 0])) := c2.trans (by
      refine XS.icmpYes X0.here hexec rfl (pc0 := 4) rfl (hb hbytes d4) rfl (ii_ne_t (ne32 a31 b31 hs)) (by decide) rfl ?_
      refine iconstV X0.here hexec rfl 0 (hb hbytes d34) (by decide) ?_
      exact Steps.refl _)
    exact ⟨s₁, some (.int 0), _, _, _, X0, rfl, rfl, rfl, (fun h => by cases h), ⟨0, rfl, hh0, Or.inr ⟨rfl, fun q => hs q.1⟩⟩, fun fs hl => c3.trans (X0.ireturnOut hexec hret rfl (Or.inr (Or.inl rfl)) (hb hbytes d35) hl)⟩
end LEq
theorem Cod.ty {cd : Int32} {n : Nat} {f : Nat → Int32} {V : Cell} (h : Cod cd n f V) : Typed .byte V := fun i v hv => by
  have hi : i < V.slots.size := (Array.getElem?_eq_some_iff.mp hv).1
  rcases h with ⟨-, k1, k2⟩ | ⟨-, k1, k2, -⟩
  · rw [(k2 i (by omega)).1] at hv; cases hv; exact fits_lo8 _
  · rcases Nat.mod_two_eq_zero_or_one i with e | e
    · obtain ⟨j, rfl⟩ : ∃ j, i = 2 * j := ⟨i / 2, by omega⟩
      rw [(k2 j (by omega)).1] at hv; cases hv; exact fits_lo8 _
    · obtain ⟨j, rfl⟩ : ∃ j, i = 2 * j + 1 := ⟨i / 2, by omega⟩
      rw [(k2 j (by omega)).2] at hv; cases hv; exact fits_lo8 _
/-- the same text -/
def SameT (n : Nat) (f : Nat → Int32) (k : Nat) (g : Nat → Int32) : Prop := n = k ∧ ∀ j, j < n → f j = g j
theorem lo8_inj {x y : Int32} (h0 : ¬ x < 0) (h1 : ¬ 255 < x) (k0 : ¬ y < 0) (k1 : ¬ 255 < y) (h : lo8 x = lo8 y) : x = y := by
  rw [← lo8_mask h0 h1, ← lo8_mask k0 k1, h]
/-- arrays coded by one coder are equal just where the texts are -/
theorem Cod.eqv {cd : Int32} {n k : Nat} {f g : Nat → Int32} {V V' : Cell} (h : Cod cd n f V) (h' : Cod cd k g V') (hf : ∀ j, j < n → ¬ f j < 0 ∧ ¬ 65535 < f j) (hg : ∀ j, j < k → ¬ g j < 0 ∧ ¬ 65535 < g j) : EqC V V' ↔ SameT n f k g := by
  have yvv : ∀ {W : Cell} {i : Nat} {x : Int32}, W.slots[i]? = some (.int x) → yv W i = x := fun q => by unfold yv; rw [q]
  rcases h with ⟨rfl, k1, k2⟩ | ⟨rfl, k1, k2, -⟩
  · rcases h' with ⟨-, m1, m2⟩ | ⟨e, -⟩
    · constructor
      · rintro ⟨e1, e2⟩
        refine ⟨by omega, fun j hj => ?_⟩
        have q := e2 j (by omega)
        rw [yvv (k2 j hj).1, yvv (m2 j (by omega)).1] at q
        exact lo8_inj (hf j hj).1 (k2 j hj).2 (hg j (by omega)).1 (m2 j (by omega)).2 q
      · rintro ⟨rfl, e2⟩
        refine ⟨by omega, fun j hj => ?_⟩
        rw [yvv (k2 j (by omega)).1, yvv (m2 j (by omega)).1, e2 j (by omega)]
    · exact absurd e (by decide)
  · rcases h' with ⟨e, -⟩ | ⟨-, m1, m2, -⟩
    · exact absurd e (by decide)
    · constructor
      · rintro ⟨e1, e2⟩
        refine ⟨by omega, fun j hj => ?_⟩
        have q1 := e2 (2 * j) (by omega)
        have q2 := e2 (2 * j + 1) (by omega)
        rw [yvv (k2 j hj).1, yvv (m2 j (by omega)).1] at q1
        rw [yvv (k2 j hj).2, yvv (m2 j (by omega)).2] at q2
        rw [← pair_says (hf j hj).1 (hf j hj).2, ← pair_says (hg j (by omega)).1 (hg j (by omega)).2, q1, q2]
      · rintro ⟨rfl, e2⟩
        refine ⟨by omega, fun i hi => ?_⟩
        rcases Nat.mod_two_eq_zero_or_one i with e | e
        · obtain ⟨j, rfl⟩ : ∃ j, i = 2 * j := ⟨i / 2, by omega⟩
          rw [yvv (k2 j (by omega)).1, yvv (m2 j (by omega)).1, e2 j (by omega)]
        · obtain ⟨j, rfl⟩ : ∃ j, i = 2 * j + 1 := ⟨i / 2, by omega⟩
          rw [yvv (k2 j (by omega)).2, yvv (m2 j (by omega)).2, e2 j (by omega)]
/-- two codings differ: so do the texts -/
theorem Cod.dif {cd cd' : Int32} {n k : Nat} {f g : Nat → Int32} {V V' : Cell} (h : Cod cd n f V) (h' : Cod cd' k g V') (hne : ¬ cd = cd') : ¬ SameT n f k g := by
  rintro ⟨rfl, e⟩
  rcases h with ⟨rfl, -, k2⟩ | ⟨rfl, -, -, j, hj, hw⟩
  · rcases h' with ⟨rfl, -⟩ | ⟨-, -, -, j, hj, hw⟩
    · exact hne rfl
    · exact (k2 j hj).2 (by rw [e j hj]; exact hw)
  · rcases h' with ⟨-, -, m2⟩ | ⟨rfl, -⟩
    · exact (m2 j hj).2 (by rw [← e j hj]; exact hw)
    · exact hne rfl
/-- an object of exactly C is an instance of C -/
theorem cinst {p : Program} {l : Launch} {e : Env} {R : Room} {s : State} {m : MethodId} {args : Array Value} {below : List Frame} {meth : Method} {c : Code} {T : State} {locs : List Loc} {cells slots : Nat} (X : Stand p l e R s m args below meth c T locs cells slots) (hexec : p.tables.exec = Jvm.exec) {own C : String} {index : Nat} (hown : s.vm.findClass own = some m.cls) (hlink : (Cond.classLink own index C).before args s = true) {a : Addr} (hE : Exact C a T)
    {g : JFrame} (hg : g.method = m) {rest : List Value} (hstack : g.stack = .ref a :: rest) (hdg : decode c.code g.pc = .ok (.instanceof index, 3)) :
    ∃ T', Stand p l e R s m args below meth c T' locs cells slots ∧ T'.heap = T.heap ∧ ∀ target, Steps p.tables e below (T'.setTop { g with pc := g.pc + 3, stack := .int 1 :: rest }) target → Steps p.tables e below (T.setTop g) target := by
  obtain ⟨cB, h1, D, h2, h3, h4⟩ := hE
  have h1' : s.vm.findClass C = some cB := by rw [← X.warmed.alike.findClass]; exact h1
  obtain ⟨vm', X', st⟩ := X.instanceofYes hexec hown hlink h2 h4 h1' (by rw [h3]; exact Jvm.Free.SB.assignable_self _ _) hg hstack hdg
  exact ⟨_, X', rfl, st⟩
theorem cself {p : Program} {l : Launch} {e : Env} {R : Room} {s : State} {m : MethodId} {args : Array Value} {below : List Frame} {meth : Method} {c : Code} {T : State} {locs : List Loc} {cells slots : Nat} (X : Stand p l e R s m args below meth c T locs cells slots) (hexec : p.tables.exec = Jvm.exec) {own C : String} {index : Nat} (hown : s.vm.findClass own = some m.cls) (hlink : (Cond.classLink own index C).before args s = true) {a : Addr} (hE : Exact C a T)
    {g : JFrame} (hg : g.method = m) {rest : List Value} (hstack : g.stack = .ref a :: rest) (hdg : decode c.code g.pc = .ok (.checkcast index, 3)) :
    ∃ T', Stand p l e R s m args below meth c T' locs cells slots ∧ T'.heap = T.heap ∧ ∀ target, Steps p.tables e below (T'.setTop { g with pc := g.pc + 3, stack := .ref a :: rest }) target → Steps p.tables e below (T.setTop g) target := by
  obtain ⟨cB, h1, D, h2, h3, h4⟩ := hE
  have h1' : s.vm.findClass C = some cB := by rw [← X.warmed.alike.findClass]; exact h1
  obtain ⟨vm', X', st⟩ := X.checkcastYes hexec hown hlink h2 h4 h1' (by rw [h3]; exact Jvm.Free.SB.assignable_self _ _) hg hstack hdg
  exact ⟨_, X', rfl, fun t h => st t (by rw [← hstack] at h; exact h)⟩
namespace SEq
def yN : MethodName := ⟨"java/lang/String", "equals", "(Ljava/lang/Object;)Z"⟩
abbrev yB : ByteArray := jdk_42_method_66_code
theorem d0 : decode yB 0 = .ok (.aload_n 0, 1) := by decide +kernel
theorem d1 : decode yB 1 = .ok (.aload_n 1, 1) := by decide +kernel
theorem d2 : decode yB 2 = .ok (.if_acmp (.ne) 5, 3) := by decide +kernel
theorem d5 : decode yB 5 = .ok (.iconst 1, 1) := by decide +kernel
theorem d6 : decode yB 6 = .ok (.ireturn, 1) := by decide +kernel
theorem d7 : decode yB 7 = .ok (.aload_n 1, 1) := by decide +kernel
theorem d8 : decode yB 8 = .ok (.instanceof 10, 3) := by decide +kernel
theorem d11 : decode yB 11 = .ok (.ifCond (.eq) 43, 3) := by decide +kernel
theorem d14 : decode yB 14 = .ok (.aload_n 1, 1) := by decide +kernel
theorem d15 : decode yB 15 = .ok (.checkcast 10, 3) := by decide +kernel
theorem d18 : decode yB 18 = .ok (.astore_n 2, 1) := by decide +kernel
theorem d19 : decode yB 19 = .ok (.getstatic 38, 3) := by decide +kernel
theorem d22 : decode yB 22 = .ok (.ifCond (.eq) 14, 3) := by decide +kernel
theorem d25 : decode yB 25 = .ok (.aload_n 0, 1) := by decide +kernel
theorem d26 : decode yB 26 = .ok (.getfield 15, 3) := by decide +kernel
theorem d29 : decode yB 29 = .ok (.aload_n 2, 1) := by decide +kernel
theorem d30 : decode yB 30 = .ok (.getfield 15, 3) := by decide +kernel
theorem d33 : decode yB 33 = .ok (.if_icmp (.ne) 21, 3) := by decide +kernel
theorem d36 : decode yB 36 = .ok (.aload_n 0, 1) := by decide +kernel
theorem d37 : decode yB 37 = .ok (.getfield 9, 3) := by decide +kernel
theorem d40 : decode yB 40 = .ok (.aload_n 2, 1) := by decide +kernel
theorem d41 : decode yB 41 = .ok (.getfield 9, 3) := by decide +kernel
theorem d44 : decode yB 44 = .ok (.invokestatic 541, 3) := by decide +kernel
theorem d47 : decode yB 47 = .ok (.ifCond (.eq) 7, 3) := by decide +kernel
theorem d50 : decode yB 50 = .ok (.iconst 1, 1) := by decide +kernel
theorem d51 : decode yB 51 = .ok (.goto 4, 3) := by decide +kernel
theorem d54 : decode yB 54 = .ok (.iconst 0, 1) := by decide +kernel
theorem d55 : decode yB 55 = .ok (.ireturn, 1) := by decide +kernel
def site : List Cond := [.classLink "java/lang/String" 10 "java/lang/String", .fieldLink "java/lang/String" 38 "java/lang/String" "COMPACT_STRINGS" "Z", .fieldLink "java/lang/String" 15 "java/lang/String" "coder" "B", .fieldLink "java/lang/String" 9 "java/lang/String" "value" "[B", LEq.tab] ++ staticW "java/lang/String" 541 LEq.yN
def tab : Cond := tabOf yN yB 3 (some .boolean) site
def P (x t : Addr) (V : Cell) (cd : Int32) (n : Nat) (f : Nat → Int32) (y t' : Addr) (V' : Cell) (cd' : Int32) (k : Nat) (g : Nat → Int32) (z : Int32) (args : Array Value) (s : State) : Prop := args = #[.ref x, .ref y] ∧ Txt x t V cd n f s ∧ Txt y t' V' cd' k g s ∧ StaticIs s "java/lang/String" "COMPACT_STRINGS" "Z" (.int z) ∧ ¬ z = 0
/-- equals(Object) of two Strings: whether the texts are the same -/
theorem law (l : Launch) (x t : Addr) (V : Cell) (cd : Int32) (n : Nat) (f : Nat → Int32) (y t' : Addr) (V' : Cell) (cd' : Int32) (k : Nat) (g : Nat → Int32) (z : Int32) : Law l yN 2 1 1 14 yB 3 (some .boolean) site (P x t V cd n f y t' V' cd' k g z) (Says01 (SameT n f k g)) [] 0 0 := by
  refine Law.of_walk (plainFor_of_name (by decide +kernel)) (by decide +kernel) (by decide +kernel) (by decide) (fun _ _ h => by rw [h.1]; rfl) (fun _ U U' hal hh h => ⟨h.1, h.2.1.mv hal hh, h.2.2.1.mv hal hh, h.2.2.2.1.there hal hh, h.2.2.2.2⟩) (fun r U U' V V' h1 hal h2 h => Says01.mv r U U' V V' h1 hal h2 h) ?_
  intro p e s m args below meth c s₁ X0 hexec hbytes hml hret hlk hnm hown hh0 W hP
  obtain ⟨rfl, hx, hy, s1, hz⟩ := hP
  have c1 : Steps p.tables e below (s₁.setTop (entryFrame m #[.ref x, .ref y] 3)) (s₁.setTop (mkF m 2 #[.val (.ref x), .val (.ref y), .unset] [.ref y, .ref x])) := Steps.trans (entry rfl) (by
    show Steps p.tables e below (s₁.setTop (mkF m 0 #[.val (.ref x), .val (.ref y), .unset] [])) _
    refine XS.aloadN X0.here hexec rfl (hb hbytes d0) rfl rfl ?_
    refine XS.aloadN X0.here hexec rfl (hb hbytes d1) rfl rfl ?_
    exact Steps.refl _)
  by_cases hxy : x = y
  · have c2 : Steps p.tables e below (s₁.setTop (entryFrame m #[.ref x, .ref y] 3)) (s₁.setTop (mkF m 6 #[.val (.ref x), .val (.ref y), .unset] [.int 1])) := c1.trans (by
      refine acmpNo X0.here hexec rfl (hb hbytes d2) rfl rfl rfl (by simp [acmp, hxy]) ?_
      refine iconstV X0.here hexec rfl 1 (hb hbytes d5) (by decide) ?_
      exact Steps.refl _)
    subst hxy
    have ec : cd = cd' := by
      obtain ⟨D, fd, a1, a2, a3⟩ := hx.2.2.1
      obtain ⟨D', fd', b1, b2, b3⟩ := hy.2.2.1
      cases a1.symm.trans b1
      obtain ⟨q1, q2, q3, q4⟩ := a2.1
      obtain ⟨r1, r2, r3, r4⟩ := b2.1
      cases q4.symm.trans r4
      cases a3.symm.trans b3; rfl
    have et : t = t' := by
      obtain ⟨D, fd, a1, a2, a3⟩ := hx.2.1
      obtain ⟨D', fd', b1, b2, b3⟩ := hy.2.1
      cases a1.symm.trans b1
      obtain ⟨q1, q2, q3, q4⟩ := a2.1
      obtain ⟨r1, r2, r3, r4⟩ := b2.1
      cases q4.symm.trans r4
      cases a3.symm.trans b3; rfl
    subst ec et
    have ev : V = V' := by cases hx.2.2.2.1.1.symm.trans hy.2.2.2.1.1; rfl
    subst ev
    have hs : SameT n f k g := (Cod.eqv hx.2.2.2.2.1 hy.2.2.2.2.1 hx.2.2.2.2.2 hy.2.2.2.2.2).mp ⟨rfl, fun _ _ => rfl⟩
    exact ⟨s₁, some (.int 1), _, _, _, X0, rfl, rfl, rfl, (fun h => by cases h), ⟨1, rfl, hh0, Or.inl ⟨rfl, hs⟩⟩, fun fs hl => c2.trans (X0.ireturnOut hexec hret rfl (Or.inr (Or.inl rfl)) (hb hbytes d6) hl)⟩
  · have c2 : Steps p.tables e below (s₁.setTop (entryFrame m #[.ref x, .ref y] 3)) (s₁.setTop (mkF m 8 #[.val (.ref x), .val (.ref y), .unset] [.ref y])) := c1.trans (by
      refine acmpYes X0.here hexec rfl (pc0 := 2) rfl (hb hbytes d2) rfl rfl rfl (by simp [acmp, hxy]) (by decide) rfl ?_
      refine XS.aloadN X0.here hexec rfl (hb hbytes d7) rfl rfl ?_
      exact Steps.refl _)
    obtain ⟨T3, X3, q3, st3⟩ := cinst X0 hexec hown (wk W (.classLink "java/lang/String" 10 "java/lang/String")) (hy.mv X0.warmed.alike hh0).1 (g := (mkF m 8 #[.val (.ref x), .val (.ref y), .unset] [.ref y])) rfl (rest := []) rfl (hb hbytes d8)
    have hh3 := q3.trans hh0
    have c4 : Steps p.tables e below (s₁.setTop (entryFrame m #[.ref x, .ref y] 3)) (T3.setTop (mkF m 15 #[.val (.ref x), .val (.ref y), .unset] [.ref y])) := (c2.trans (st3 _ (Steps.refl _))).trans (by
      refine XS.ifNo X3.here hexec rfl (hb hbytes d11) rfl (i0_eq_f (by decide)) ?_
      refine XS.aloadN X3.here hexec rfl (hb hbytes d14) rfl rfl ?_
      exact Steps.refl _)
    obtain ⟨T5, X5, q5, st5⟩ := cself X3 hexec hown (wk W (.classLink "java/lang/String" 10 "java/lang/String")) (hy.mv X3.warmed.alike hh3).1 (g := (mkF m 15 #[.val (.ref x), .val (.ref y), .unset] [.ref y])) rfl (rest := []) rfl (hb hbytes d15)
    have hh5 := q5.trans hh3
    have c6 : Steps p.tables e below (s₁.setTop (entryFrame m #[.ref x, .ref y] 3)) (T5.setTop (mkF m 19 #[.val (.ref x), .val (.ref y), .val (.ref y)] [])) := (c4.trans (st5 _ (Steps.refl _))).trans (by
      refine XS.astoreN X5.here hexec rfl (hb hbytes d18) rfl rfl rfl ?_
      exact Steps.refl _)
    obtain ⟨T7, X7, q7, st7⟩ := X5.sget hexec hown (wk W (.fieldLink "java/lang/String" 38 "java/lang/String" "COMPACT_STRINGS" "Z")) s1 (fun _ _ h => by rw [hh5]; exact h) (g := (mkF m 19 #[.val (.ref x), .val (.ref y), .val (.ref y)] [])) rfl (hb hbytes d19)
    have hh7 := q7.trans hh5
    have c8 : Steps p.tables e below (s₁.setTop (entryFrame m #[.ref x, .ref y] 3)) (T7.setTop (mkF m 26 #[.val (.ref x), .val (.ref y), .val (.ref y)] [.ref x])) := (c6.trans (st7 _ (Steps.refl _))).trans (by
      refine XS.ifNo X7.here hexec rfl (hb hbytes d22) rfl (i0_eq_f hz) ?_
      refine XS.aloadN X7.here hexec rfl (hb hbytes d25) rfl rfl ?_
      exact Steps.refl _)
    obtain ⟨T9, X9, q9, st9⟩ := X7.hget hexec hown (wk W (.fieldLink "java/lang/String" 15 "java/lang/String" "coder" "B")) (hx.mv X7.warmed.alike hh7).2.2.1 (g := (mkF m 26 #[.val (.ref x), .val (.ref y), .val (.ref y)] [.ref x])) rfl (rest := []) rfl (hb hbytes d26)
    have hh9 := q9.trans hh7
    have c10 : Steps p.tables e below (s₁.setTop (entryFrame m #[.ref x, .ref y] 3)) (T9.setTop (mkF m 30 #[.val (.ref x), .val (.ref y), .val (.ref y)] [.ref y, .int cd])) := (c8.trans (st9 _ (Steps.refl _))).trans (by
      refine XS.aloadN X9.here hexec rfl (hb hbytes d29) rfl rfl ?_
      exact Steps.refl _)
    obtain ⟨T11, X11, q11, st11⟩ := X9.hget hexec hown (wk W (.fieldLink "java/lang/String" 15 "java/lang/String" "coder" "B")) (hy.mv X9.warmed.alike hh9).2.2.1 (g := (mkF m 30 #[.val (.ref x), .val (.ref y), .val (.ref y)] [.ref y, .int cd])) rfl (rest := [.int cd]) rfl (hb hbytes d30)
    have hh11 := q11.trans hh9
    have c12 : Steps p.tables e below (s₁.setTop (entryFrame m #[.ref x, .ref y] 3)) (T11.setTop (mkF m 33 #[.val (.ref x), .val (.ref y), .val (.ref y)] [.int cd', .int cd])) := c10.trans (st11 _ (Steps.refl _))
    by_cases hcd : cd = cd'
    · subst hcd
      have c13 : Steps p.tables e below (s₁.setTop (entryFrame m #[.ref x, .ref y] 3)) (T11.setTop (mkF m 37 #[.val (.ref x), .val (.ref y), .val (.ref y)] [.ref x])) := c12.trans (by
        refine XS.icmpNo X11.here hexec rfl (hb hbytes d33) rfl (ii_ne_f rfl) ?_
        refine XS.aloadN X11.here hexec rfl (hb hbytes d36) rfl rfl ?_
        exact Steps.refl _)
      obtain ⟨T14, X14, q14, st14⟩ := X11.hget hexec hown (wk W (.fieldLink "java/lang/String" 9 "java/lang/String" "value" "[B")) (hx.mv X11.warmed.alike hh11).2.1 (g := (mkF m 37 #[.val (.ref x), .val (.ref y), .val (.ref y)] [.ref x])) rfl (rest := []) rfl (hb hbytes d37)
      have hh14 := q14.trans hh11
      have c15 : Steps p.tables e below (s₁.setTop (entryFrame m #[.ref x, .ref y] 3)) (T14.setTop (mkF m 41 #[.val (.ref x), .val (.ref y), .val (.ref y)] [.ref y, .ref t])) := (c13.trans (st14 _ (Steps.refl _))).trans (by
        refine XS.aloadN X14.here hexec rfl (hb hbytes d40) rfl rfl ?_
        exact Steps.refl _)
      obtain ⟨T16, X16, q16, st16⟩ := X14.hget hexec hown (wk W (.fieldLink "java/lang/String" 9 "java/lang/String" "value" "[B")) (hy.mv X14.warmed.alike hh14).2.1 (g := (mkF m 41 #[.val (.ref x), .val (.ref y), .val (.ref y)] [.ref y, .ref t])) rfl (rest := [.ref t]) rfl (hb hbytes d41)
      have hh16 := q16.trans hh14
      have c17 : Steps p.tables e below (s₁.setTop (entryFrame m #[.ref x, .ref y] 3)) (T16.setTop (mkF m 44 #[.val (.ref x), .val (.ref y), .val (.ref y)] [.ref t', .ref t])) := c15.trans (st16 _ (Steps.refl _))
      obtain ⟨v18, T18, X18, E18, g18⟩ := X16.callS hexec (LEq.law l t V t' V') hown (wks W (staticW "java/lang/String" 541 LEq.yN)) (wk W LEq.tab) (W := 0) (Nat.le_of_ble_eq_true rfl) (Nat.le_of_ble_eq_true rfl) (Nat.le_refl _) (Nat.le_refl _) (g := (mkF m 44 #[.val (.ref x), .val (.ref y), .val (.ref y)] [.ref t', .ref t])) rfl (by rw [hml]; rfl) c17 (argsL := [.ref t, .ref t']) (rest := []) rfl rfl (by show 2 * 0 + 0 ≤ _; decide) (hb hbytes d44) (⟨rfl, hx.2.2.2.1.mv X16.warmed.alike hh16, hx.2.2.2.2.1.ty, hy.2.2.2.1.mv X16.warmed.alike hh16, hy.2.2.2.2.1.ty⟩)
      obtain ⟨v, rfl, q18, hv⟩ := E18
      have iff := Cod.eqv hx.2.2.2.2.1 hy.2.2.2.2.1 hx.2.2.2.2.2 hy.2.2.2.2.2
      rcases hv with ⟨rfl, he⟩ | ⟨rfl, he⟩
      · have c19 : Steps p.tables e below (s₁.setTop (entryFrame m #[.ref x, .ref y] 3)) (T18.setTop (mkF m 55 #[.val (.ref x), .val (.ref y), .val (.ref y)] [.int 1])) := Steps.trans g18 (by
          refine XS.ifNo X18.here hexec rfl (hb hbytes d47) rfl (i0_eq_f (by decide)) ?_
          refine iconstV X18.here hexec rfl 1 (hb hbytes d50) (by decide) ?_
          refine XS.goto X18.here hexec rfl (pc0 := 51) rfl (hb hbytes d51) (by decide) rfl ?_
          exact Steps.refl _)
        exact ⟨T18, some (.int 1), _, _, _, X18, rfl, rfl, rfl, (fun h => by cases h), ⟨1, rfl, q18.trans hh16, Or.inl ⟨rfl, iff.mp he⟩⟩, fun fs hl => c19.trans (X18.ireturnOut hexec hret rfl (Or.inr (Or.inl rfl)) (hb hbytes d55) hl)⟩
      · have c19 : Steps p.tables e below (s₁.setTop (entryFrame m #[.ref x, .ref y] 3)) (T18.setTop (mkF m 55 #[.val (.ref x), .val (.ref y), .val (.ref y)] [.int 0])) := Steps.trans g18 (by
          refine XS.ifYes X18.here hexec rfl (pc0 := 47) rfl (hb hbytes d47) rfl (i0_eq_t rfl) (by decide) rfl ?_
          refine iconstV X18.here hexec rfl 0 (hb hbytes d54) (by decide) ?_
          exact Steps.refl _)
        exact ⟨T18, some (.int 0), _, _, _, X18, rfl, rfl, rfl, (fun h => by cases h), ⟨0, rfl, q18.trans hh16, Or.inr ⟨rfl, fun q => he (iff.mpr q)⟩⟩, fun fs hl => c19.trans (X18.ireturnOut hexec hret rfl (Or.inr (Or.inl rfl)) (hb hbytes d55) hl)⟩
    · have c13 : Steps p.tables e below (s₁.setTop (entryFrame m #[.ref x, .ref y] 3)) (T11.setTop (mkF m 55 #[.val (.ref x), .val (.ref y), .val (.ref y)] [.int 0])) := c12.trans (by
        refine XS.icmpYes X11.here hexec rfl (pc0 := 33) rfl (hb hbytes d33) rfl (ii_ne_t hcd) (by decide) rfl ?_
        refine iconstV X11.here hexec rfl 0 (hb hbytes d54) (by decide) ?_
        exact Steps.refl _)
      exact ⟨T11, some (.int 0), _, _, _, X11, rfl, rfl, rfl, (fun h => by cases h), ⟨0, rfl, hh11, Or.inr ⟨rfl, Cod.dif hx.2.2.2.2.1 hy.2.2.2.2.1 hcd⟩⟩, fun fs hl => c13.trans (X11.ireturnOut hexec hret rfl (Or.inr (Or.inl rfl)) (hb hbytes d55) hl)⟩
theorem pays {l : Launch} {R : Room} {p : Program} {e : Env} {below : List Frame} {s : State} {sargs : Array Value} {len W : Nat} (x t : Addr) (V : Cell) (cd : Int32) (n : Nat) (f : Nat → Int32) (y t' : Addr) (V' : Cell) (cd' : Int32) (k : Nat) (g : Nat → Int32) (z : Int32) (htab : tab.before sargs s = true) (hfr : 2 ≤ R.frames) (hlo : W + 28 ≤ R.locals) :
    Back l R p e below s sargs yN len W (fun A₁ a₁ => A₁.cells + 0 ≤ R.cells ∧ A₁.slots + 0 ≤ R.slots ∧ P x t V cd n f y t' V' cd' k g z a₁ A₁.U) (fun A₁ _ v₁ B₁ => Says01 (SameT n f k g) v₁ A₁.U B₁.U ∧ B₁.locs = A₁.locs ++ [] ∧ B₁.cells = A₁.cells + 0 ∧ B₁.slots = A₁.slots + 0) :=
  (law l x t V cd n f y t' V' cd' k g z).pays htab hfr (by omega)
end SEq
end StrChars
namespace StrChars.Road
open Jvm Sem ClassFile Op Lib Jvm.Stand Jvm.Free Jvm.Free.XT
open Jvm.Lib.Cold (StaticIs)
/-- the words of String.equals(Object) -/
abbrev wordsEq : List Jvm.Cond := [.code SEq.yN SEq.yB 3 (some .boolean), .initialized ST, .classLink ST 10 ST, .fieldLink ST 38 ST "COMPACT_STRINGS" "Z", .fieldLink ST 15 ST "coder" "B", .fieldLink ST 9 ST "value" "[B", .methodLink ST 541 LEq.yN, .static LEq.yN, .code LEq.yN LEq.yB 3 (some .boolean), .initialized "java/lang/StringLatin1"]
theorem tabEq_of {a : Array Value} {s : State} (h : ∀ w ∈ wordsEq, w.before a s = true) : SEq.tab.before a s = true := by
  have hl : LEq.tab.before a s = true := unparts (wk h (.code LEq.yN LEq.yB 3 (some .boolean))) (wks h (.initialized LEq.yN.cls :: LEq.site))
  have q := consq hl h
  exact unparts (wk q (.code SEq.yN SEq.yB 3 (some .boolean))) (wks q (.initialized SEq.yN.cls :: SEq.site))
theorem movedEq {Z s : State} {a0 args : Array Value} (hZ : Z.Warmed39 s.vm) (hw : ∀ d ∈ wordsEq, d.before a0 Z = true) : ∀ d ∈ wordsEq, d.before args s = true := fun d hd => by
  have t : ∀ d ∈ wordsEq, (d.onTables && d.keepsFace) = true := by decide +kernel
  exact RoadKit.mv hZ (hw d hd) (t d hd)
/-- the road's facts of a String, as the laws ask it -/
theorem txt_of {Z U : State} {a0 : Array Value} {kI : Nat} (wi : (Jvm.Cond.instantiable ST kI).before a0 Z = true) (al : Z.vm.Alike U.vm) {x t : Addr} {kb : ClassId} {cs : List Int32} {cd N2 : Int32} {vs : List Value} (E : RoadKit.Exa Z U.heap x ST) (V : RoadKit.Fld Z U.heap x ST "value" "[B" (.ref t)) (C : RoadKit.Fld Z U.heap x ST "coder" "B" (.int cd)) (K : RoadKit.Arv Z U.heap t kb .byte N2 vs (.int 0)) (hc : CodA cs cd N2 vs) (hb : ∀ c ∈ cs, ¬ c < 0 ∧ ¬ (65535 : Int32) < c) (l2 : cs.length ≤ 4000) :
    ∃ A, Txt x t A cd cs.length (fun j => cs.getD j 0) U := by
  obtain ⟨A, K1, K2, K3, K4, K5, K6⟩ := K
  have hcod := hc.cod (by omega) K3 K5
  obtain ⟨D, fV, fC, hB, F1, F2, g1, g2, -, -⟩ := strObj wi al E V C
  exact ⟨A, ⟨_, hB.2.2.1, D, hB.1, rfl, by cases q : D.vm <;> first | rfl | exact absurd q (hB.2.1.2 _)⟩, Has.of hB F1 g1, Has.of hB F2 g2, ⟨K1.1, State.isArrayOf_alike al K1.2.1, K1.2.2, by rcases hcod with ⟨-, q, -⟩ | ⟨-, q, -⟩ <;> omega⟩, hcod, fun j hj => by
    have e : cs.getD j 0 = cs[j] := by simp [List.getD_eq_getElem?_getD, hj]
    show ¬ cs.getD j 0 < 0 ∧ ¬ 65535 < cs.getD j 0
    rw [e]; exact hb _ (List.getElem_mem _)⟩
theorem same_list (cs ds : List Int32) : SameT cs.length (fun j => cs.getD j 0) ds.length (fun j => ds.getD j 0) ↔ cs = ds := by
  constructor
  · rintro ⟨e, q⟩
    refine List.ext_getElem e fun j h1 h2 => ?_
    have := q j h1
    simpa [List.getD_eq_getElem?_getD, h1, h2] using this
  · rintro rfl
    exact ⟨rfl, fun _ _ => rfl⟩
/-- **equals(Object) OF TWO SUCH STRINGS**: 1 just where the chars are the same -/
theorem eqW {p : Program} {l : Launch} {e : Env} {R : Room} {s : State} {args : Array Value} {below : List Frame} {len W : Nat} {Z : State} {a0 : Array Value} {h : Heap} (hZ : Z.Warmed39 s.vm) (hw : ∀ d ∈ wordsEq, d.before a0 Z = true) {kI : Nat} (wi : (Jvm.Cond.instantiable ST kI).before a0 Z = true)
    {x t : Addr} {kb : ClassId} {cs : List Int32} {cd N2 : Int32} {vs : List Value} (E : RoadKit.Exa Z h x ST) (V : RoadKit.Fld Z h x ST "value" "[B" (.ref t)) (C : RoadKit.Fld Z h x ST "coder" "B" (.int cd)) (K : RoadKit.Arv Z h t kb .byte N2 vs (.int 0)) (hc : CodA cs cd N2 vs) (hb : ∀ c ∈ cs, ¬ c < 0 ∧ ¬ (65535 : Int32) < c) (l2 : cs.length ≤ 4000)
    {y t' : Addr} {kb' : ClassId} {ds : List Int32} {cd' N2' : Int32} {vs' : List Value} (E' : RoadKit.Exa Z h y ST) (V' : RoadKit.Fld Z h y ST "value" "[B" (.ref t')) (C' : RoadKit.Fld Z h y ST "coder" "B" (.int cd')) (K' : RoadKit.Arv Z h t' kb' .byte N2' vs' (.int 0)) (hc' : CodA ds cd' N2' vs') (hb' : ∀ c ∈ ds, ¬ c < 0 ∧ ¬ (65535 : Int32) < c) (l2' : ds.length ≤ 4000)
    {z : Int32} (S : RoadKit.Sta Z h ST "COMPACT_STRINGS" "Z" (.int z)) (hz : ¬ z = 0) (hfr : 2 ≤ R.frames) (hlo : W + 28 ≤ R.locals) :
    Back l R p e below s args (⟨"java/lang/String", "equals", "(Ljava/lang/Object;)Z"⟩ : MethodName) len W (fun P a => a = #[.ref x, .ref y] ∧ P.U.heap = h ∧ P.cells + 0 ≤ R.cells ∧ P.slots + 0 ≤ R.slots)
      (fun P _ v B => ∃ L, (((v = some (.int 1) ∧ cs = ds) ∨ (v = some (.int 0) ∧ ¬ cs = ds)) ∧ L = [] ∧ B.U.heap = h) ∧ B.locs = P.locs ++ L ∧ B.cells = P.cells + 0 ∧ B.slots = P.slots + 0) := by
  intro m meth c P g ig mk a X hg hsize hdg hW hn hp'
  obtain ⟨rfl, rfl, r1, r2⟩ := hp'
  have al : Z.vm.Alike P.U.vm := hZ.alike.trans X.warmed.alike
  obtain ⟨A, hx⟩ := txt_of wi al E V C K hc hb l2
  obtain ⟨A', hy⟩ := txt_of wi al E' V' C' K' hc' hb' l2'
  obtain ⟨v, B, X', ⟨⟨w, hv, hh, hq⟩, hl, hk, hs⟩, st⟩ := SEq.pays x t A cd cs.length (fun j => cs.getD j 0) y t' A' cd' ds.length (fun j => ds.getD j 0) z (tabEq_of (movedEq hZ hw)) hfr hlo m meth c P g ig mk _ X hg hsize hdg hW hn ⟨r1, r2, rfl, hx, hy, sta_is al S, hz⟩
  refine ⟨v, B, X', ⟨[], ⟨?_, rfl, hh⟩, hl, hk, hs⟩, st⟩
  rcases hq with ⟨rfl, q⟩ | ⟨rfl, q⟩
  · exact Or.inl ⟨hv, (same_list cs ds).mp q⟩
  · exact Or.inr ⟨hv, fun e => q ((same_list cs ds).mpr e)⟩
end StrChars.Road
namespace StrChars.Road
open Jvm Sem ClassFile Op Lib Jvm.Stand Jvm.Free Jvm.Free.XT
open Jvm.Lib.Cold (StaticIs)
/-- what backV says of its String, as the contracts of this text ask it: cs's low bytes, coder 0 -/
theorem codOf {cs : List Int32} {n : Nat} (hn : cs.length = n) (hb : ∀ c ∈ cs, ¬ 255 < c) : CodA cs 0 (Int32.ofNat n) ((cs.map lo8).map Value.int) := Or.inl ⟨rfl, by rw [hn], by simp [List.map_map, Function.comp_def], hb⟩
end StrChars.Road
end Jvm.Pilot.@@N@@
namespace Jvm.Pilot.@@N@@
open Jvm Jvm.ClassFile Sem Op Lib Jvm.Free Jvm.Stand Jvm.LawKit Jvm.RoadKit Bundle Jvm.Own Jvm.Pilot.@@N@@.Jvm.D
abbrev ST : String := "java/lang/String"
abbrev EL0 : List (String × Nat) := consts_1
/-- x is a String of the chars cs -/
def Str (Z : State) (h : Heap) (x : Addr) (cs : List Int32) : Prop := ∃ (t : Addr) (kb : ClassId) (cd N2 : Int32) (vs : List Value), Exa Z h x ST ∧ Fld Z h x ST "value" "[B" (.ref t) ∧ Fld Z h x ST "coder" "B" (.int cd) ∧ Arv Z h t kb .byte N2 vs (.int 0) ∧
  StrChars.Road.CodA cs cd N2 vs ∧ (∀ c ∈ cs, ¬ c < 0 ∧ ¬ (65535 : Int32) < c) ∧ cs.length ≤ 4000
section S
variable {Z : State} {h h' : Heap} {x a : Addr} {cs ds : List Int32} {C : String} {n : Nat} {a0 : Array Value} {p : Program} {l : Launch} {e : Env} {R : Room} {s : State} {args : Array Value} {below : List Frame} {W : Nat} {z : Int32}
theorem Str.ext (S : Str Z h x cs) (E : Ext h h') : Str Z h' x cs := by
  obtain ⟨t, kb, cd, N2, vs, h1, h2, h3, h4, h5⟩ := S
  exact ⟨t, kb, cd, N2, vs, h1.ext E, h2.ext E, h3.ext E, h4.ext E, h5⟩
theorem Str.exa (S : Str Z h x cs) : Exa Z h x ST := by
  obtain ⟨t, kb, cd, N2, vs, h1, h2, h3, h4, h5⟩ := S
  exact h1
/-- nothing but an object of another class is written -/
theorem Str.keepE (S : Str Z h x cs) (K : Keep h h' [a]) (E : Exa Z h a C) (hC : C ≠ ST) (wi : (Cond.instantiable C n).before a0 Z = true) : Str Z h' x cs := by
  obtain ⟨t, kb, cd, N2, vs, h1, h2, h3, h4, h5⟩ := S
  have q1 : x ≠ a := (ne_exa E h1 hC).symm
  have q2 : t ≠ a := (Exa.neArv E h4 wi).symm
  exact ⟨t, kb, cd, N2, vs, h1.keep K, h2.keep K (ninS q1 nin0), h3.keep K (ninS q1 nin0), h4.keep K (ninS q2 nin0), h5⟩
/-- the statics of String, as the sheet says them -/
def Stat (Z : State) (z : Int32) : Prop := Sta Z Z.heap ST "COMPACT_STRINGS" "Z" (.int z) ∧ ¬ z = 0
end S
end Jvm.Pilot.@@N@@
namespace Jvm.Pilot.@@N@@
open Jvm Jvm.ClassFile Sem Op Lib Jvm.Free Jvm.Stand Jvm.LawKit Jvm.RoadKit Bundle Jvm.Own Jvm.Pilot.@@N@@.Jvm.D
def QU (h0 : Heap) (v : Option Value) (h : Heap) (L : List Loc) : Prop := v = none ∧ L = [] ∧ h = h0
theorem own_le {Z : State} {n0 : Nat} {h : Heap} (O : Old Z n0 h) : n0 ≤ h.size := O.1 ▸ O.2.1
theorem own_nc (x : Int32) : narrow .char (.int x.toUInt32.toUInt16.toUInt32.toInt32) = .int x.toUInt32.toUInt16.toUInt32.toInt32 := Jvm.Free.XT.narrow_c x
theorem own_nar (x : Int32) : nar .char x.toUInt32.toUInt16.toUInt32.toInt32 = x.toUInt32.toUInt16.toUInt32.toInt32 := by simp only [nar, UInt32.toUInt32_toInt32, UInt16.toUInt16_toUInt32]
theorem own_atoms : ∀ d ∈ Bundle.stringAtoms, d ∈ tables_1 := by decide +kernel
theorem own_wS {Z : State} {a0 : Array Value} (hw : ∀ d ∈ tables_1, d.before a0 Z = true) : ∀ d ∈ Bundle.stringAtoms, d.before a0 Z = true := fun d hd => hw d (own_atoms d hd)
theorem own_EW {Z : State} {a0 : Array Value} (hw : ∀ d ∈ tables_1, d.before a0 Z = true) : EW Z a0 EL0 := EW.cons (text := ":") (hw _ (List.mem_of_getElem? (i := 90) rfl)) (by decide) (EW.cons (text := "") (hw _ (List.mem_of_getElem? (i := 199) rfl)) (by simp) EW.nil)
def QStr (Z : State) (n0 : Nat) (cs : List Int32) (h0 : Heap) (v : Option Value) (h : Heap) (L : List Loc) : Prop := ∃ r, v = some (.ref r) ∧ Fr n0 L ∧ Ext h0 h ∧ Str Z h r cs
section E
variable {p : Program} {l : Launch} {e : Env} {R : Room} {s : State} {m : MethodId} {args : Array Value} {below : List Frame} {meth : Method} {c : Code} {T : State} {locs : List Loc} {cells slots : Nat} {Φ : Outcome → State → Prop} {Z : State} {a0 : Array Value} {h : Heap}
theorem own_getR (X : Stand p l e R s m args below meth c T locs cells slots) (hx : p.tables.exec = Jvm.exec) (hZ : Z.Warmed39 s.vm) {own O n d : String} {index : Nat} (hown : s.vm.findClass own = some m.cls) (w : (Cond.fieldRef own index O n d).before a0 Z = true)
    (eT : T.heap = h) {a : Addr} {v : Value} (F : Fld Z h a O n d v) {g : JFrame} (hg : g.method = m) {rest : List Value} (hs : g.stack = .ref a :: rest) (hd : decode c.code g.pc = .ok (.getfield index, 3)) (target : State)
    (hrest : Steps p.tables e below (T.setTop { g with pc := g.pc + 3, stack := v :: rest }) target) : Steps p.tables e below (T.setTop g) target := by
  obtain ⟨cell, cf, k, i, f, h1, h2, h3, h4, -, -, h7⟩ := F
  have hZT : Z.Warmed39 T.vm := State.Warmed39.trans (t := s) hZ X.warmed.wide
  have w' := Cond.fieldRef_warmed39 hZT w
  have hcur : (Z.setVm T.vm).vm.findClass own = some m.cls := (X.warmed.alike.findClass _ _).trans hown
  obtain ⟨cf', k', i', f', e1, hr⟩ := Cond.fieldRef_spec (s := Z.setVm T.vm) hcur w'
  obtain ⟨k2, hi, -⟩ := State.fieldFound?_setVm (s := Z) hZT.alike h2
  cases e1.symm.trans hi
  subst hg
  jvm_step X.here [hx, hd, getfield.wp_ready (e := e) (s := T) (f := g) X.here.top hr h3 hs (show T.heap[a]? = some cell by rw [eT]; exact h1) h4 h7]
  exact hrest
theorem Go.aaloadN {k : ClassId} {N : Int32} {vs : List Value} {dv w : Value} {ty : FieldType} {i pc : Nat} {Ls : Array Slot} {rest : List Value} {a : Addr} (X : Stand p l e R s m args below meth c T locs cells slots) (hx : p.tables.exec = Jvm.exec) (hZ : Z.Warmed39 s.vm) (hT : T.heap = h) (F : Arv Z h a k ty N vs dv) (hty : ty.isReference = true) (hi : i < N.toNatClampNeg) (hi2 : i < 2147483648) (hv : vs.getD i dv = w) (hd : decode c.code pc = .ok (.aaload, 1))
    (g : Go p e below Φ (T.setTop (mkF m (pc + 1) Ls (w :: rest)))) : Go p e below Φ (T.setTop (mkF m pc Ls (.int (Int32.ofNat i) :: .ref a :: rest))) := by
  obtain ⟨cl, A, -, S0, M0, H0, U0⟩ := F
  have hin : ¬ (Int32.ofNat i < 0 ∨ cl.slots.size ≤ (Int32.ofNat i).toNatClampNeg) := by
    rw [own_clamp hi2, S0]; rintro (q | q)
    · exact own_nn hi2 q
    · omega
  have hat : cl.slots[(Int32.ofNat i).toNatClampNeg]? = some w := H0.at hin (by rw [own_clamp hi2]; exact hv)
  exact Go.st (fun t kk => X.aaload hx (j := Int32.ofNat i) (v := w) (by rw [hT]; exact A.1) (State.isArrayOf_alike hZ.alike A.2.1) hty A.2.2 hin hat (g := mkF m pc Ls (.int (Int32.ofNat i) :: .ref a :: rest)) rfl rfl hd t kk) g
theorem own_eqr {Z : State} {args : Array Value} {X F : Term} {idx : List Nat} {y : Addr} (hF : F.eval args Z none idx Z = some (.ref y)) (h : (Cond.eq X F).value args Z none Z idx = some true) : X.eval args Z none idx Z = some (.ref y) := by
  simp only [Cond.value, hF] at h
  cases hx : X.eval args Z none idx Z with
  | none => simp [hx] at h
  | some v => cases v <;> simp [hx] at h ⊢ <;> exact h
theorem own_len31 {t : Term} {args : Array Value} {first s : State} {o : Option Outcome} {idx : List Nat} {x : Addr} {cl : Cell} {z : Int32} (ht : t.eval args first o idx s = some (.ref x)) (ha : s.arrayAt? x = some cl) (h : (Term.length t).eval args first o idx s = some (.int z)) : cl.slots.size < 2 ^ 31 ∧ cl.slots.size.toInt32 = z := by
  by_cases hl : cl.slots.size < 2 ^ 31
  · have q := (len_f (first := first) (o := o) ht ha hl).symm.trans h
    exact ⟨hl, Value.int.inj (Option.some.inj q)⟩
  · simp [Term.eval, ht, ha, hl] at h
end E
def QS (Z : State) (x : Addr) (cs : List Int32) (n0 : Nat) (h0 : Heap) (v : Option Value) (h : Heap) (L : List Loc) : Prop := v = none ∧ Fr n0 L ∧ Keep h0 h [x] ∧ Str Z h x cs
theorem d3_0 : decode jdk_42_method_149_code 0 = .ok (.aload_n 0, 1) := by decide +kernel
theorem d3_1 : decode jdk_42_method_149_code 1 = .ok (.invokespecial 1, 3) := by decide +kernel
theorem d3_4 : decode jdk_42_method_149_code 4 = .ok (.iload_n 3, 1) := by decide +kernel
theorem d3_5 : decode jdk_42_method_149_code 5 = .ok (.ifCond .ne 22, 3) := by decide +kernel
theorem d3_8 : decode jdk_42_method_149_code 8 = .ok (.aload_n 0, 1) := by decide +kernel
theorem d3_9 : decode jdk_42_method_149_code 9 = .ok (.ldc 7, 2) := by decide +kernel
theorem d3_11 : decode jdk_42_method_149_code 11 = .ok (.getfield 9, 3) := by decide +kernel
theorem d3_14 : decode jdk_42_method_149_code 14 = .ok (.putfield 9, 3) := by decide +kernel
theorem d3_17 : decode jdk_42_method_149_code 17 = .ok (.aload_n 0, 1) := by decide +kernel
theorem d3_18 : decode jdk_42_method_149_code 18 = .ok (.ldc 7, 2) := by decide +kernel
theorem d3_20 : decode jdk_42_method_149_code 20 = .ok (.getfield 15, 3) := by decide +kernel
theorem d3_23 : decode jdk_42_method_149_code 23 = .ok (.putfield 15, 3) := by decide +kernel
theorem d3_26 : decode jdk_42_method_149_code 26 = .ok (.return_, 1) := by decide +kernel
theorem pn_0 : plainFor (⟨"java/lang/String", "<init>", "([CIILjava/lang/Void;)V"⟩ : MethodName) = true := by first | exact plainFor_of_name (by first | (simp [plainName, overriddenIn]; done) | decide +kernel) | decide +kernel
theorem ef_AAIIN_6 (m : MethodId) (y0 : Addr) (y1 : Addr) (y2 : Int32) (y3 : Int32) : entryFrame m #[(.ref y0), (.ref y1), (.int y2), (.int y3), .null] 6 = mkF m 0 #[.val (.ref y0), .val (.ref y1), .val (.int y2), .val (.int y3), .val .null, .unset] [] := by first | (simp [entryFrame, mkF, argsToLocals, Value.category]; done) | rfl
set_option maxRecDepth 65536 in
set_option maxHeartbeats 40000000 in
theorem met_new4e (l : Launch) (Z : State) (a0 : Array Value) (hw : ∀ d ∈ tables_1, d.before a0 Z = true) (ws : List Jvm.Cond) (n0 : Nat) (x b : Addr) (h0 : Heap) (O : Old Z n0 h0) (ge_x : n0 ≤ x) (A_x : Exa Z h0 x ST) (F_x_value : Fld Z h0 x ST "value" "[B" .null) (F_x_coder : Fld Z h0 x ST "coder" "B" (.int (0 : Int32))) :
    MetFree l (⟨"java/lang/String", "<init>", "([CIILjava/lang/Void;)V"⟩ : MethodName) (head1 (Jvm.Cond.code (⟨"java/lang/String", "<init>", "([CIILjava/lang/Void;)V"⟩ : MethodName) jdk_42_method_149_code 6 none :: ws) ({ frames := 1, cells := 4, slots := 8, locals := 12 } : Room)) (fun aa U => aa = #[(.ref x), (.ref b), (.int (0 : Int32)), (.int (0 : Int32)), .null] ∧ Z.Warmed39 U.vm ∧ U.heap = h0 ∧ CHv Z EL0 U.vm h0) (fun _ _ _ _ _ => True) (fun _ U o U' => ∃ v L, o = .returned v ∧ QS Z x [] n0 h0 v U'.heap L ∧ CHr Z EL0 U.vm U.heap U'.vm U'.heap ∧ ReturnedEndW U o U' L ({ frames := 1, cells := 4, slots := 8, locals := 12 } : Room).cells ({ frames := 1, cells := 4, slots := 8, locals := 12 } : Room).slots) := by
  refine openH (y := (⟨"java/lang/String", "<init>", "([CIILjava/lang/Void;)V"⟩ : MethodName)) pn_0 ?_
  intro p e s m below meth c T vm hx hby hml hret hlk hnm hZ hown X hT H
  have hEL := own_EW hw
  refine Go.st (fun _ k => castTop (ef_AAIIN_6 m x b (0 : Int32) (0 : Int32)) k) ?_
  show Go p e below _ (T.setTop (mkF m 0 #[.val (.ref x), .val (.ref b), .val (.int (0 : Int32)), .val (.int (0 : Int32)), .val .null, .unset] []))
  have N := Fr.nil n0
  have Sf_x : Safe Z EL0 vm h0 x := Safe.blank hZ.alike A_x F_x_value
  refine Go.st (fun _ k => XS.aloadN X.here hx rfl (hb hby d3_0) rfl rfl k) ?_
  show Go p e below _ (T.setTop (mkF m 1 #[.val (.ref x), .val (.ref b), .val (.int (0 : Int32)), .val (.int (0 : Int32)), .val .null, .unset] [(.ref x)]))
  obtain ⟨T, X, hT, st⟩ := initO X hx hZ hown (hw _ (List.mem_of_getElem? (i := 19) rfl)) (hw _ (List.mem_of_getElem? (i := 20) rfl)) (hw _ (List.mem_of_getElem? (i := 21) rfl)) hT (g := (mkF m 1 #[.val (.ref x), .val (.ref b), .val (.int (0 : Int32)), .val (.int (0 : Int32)), .val .null, .unset] [(.ref x)])) rfl (by rw [hml]; rfl) rfl (hb hby d3_1) (by decide) (W := 0) (by show 2 * 0 + _ ≤ _; exact Nat.le_of_ble_eq_true rfl) (by decide)
  refine Go.st st ?_
  show Go p e below _ (T.setTop (mkF m 4 #[.val (.ref x), .val (.ref b), .val (.int (0 : Int32)), .val (.int (0 : Int32)), .val .null, .unset] []))
  refine Go.st (fun _ k => XS.iloadN X.here hx rfl (hb hby d3_4) rfl k) ?_
  show Go p e below _ (T.setTop (mkF m 5 #[.val (.ref x), .val (.ref b), .val (.int (0 : Int32)), .val (.int (0 : Int32)), .val .null, .unset] [(.int (0 : Int32))]))
  refine Go.st (fun _ k => XS.ifNo X.here hx rfl (hb hby d3_5) rfl (Jvm.Free.XT.i0_ne_f (by decide : (0 : Int32) = (0 : Int32))) k) ?_
  show Go p e below _ (T.setTop (mkF m 8 #[.val (.ref x), .val (.ref b), .val (.int (0 : Int32)), .val (.int (0 : Int32)), .val .null, .unset] []))
  refine Go.st (fun _ k => XS.aloadN X.here hx rfl (hb hby d3_8) rfl rfl k) ?_
  show Go p e below _ (T.setTop (mkF m 9 #[.val (.ref x), .val (.ref b), .val (.int (0 : Int32)), .val (.int (0 : Int32)), .val .null, .unset] [(.ref x)]))
  refine Go.ldcS (text := "") (vs := []) (z := (0 : Int32)) (n := 0) H X hx hZ hown hT (hw _ (List.mem_of_getElem? (i := 199) rfl)) (own_wS hw) hEL (List.mem_of_getElem? (i := 1) rfl) ⟨by simp, by simp⟩ (by decide) (by decide) (hb hby d3_9) (by decide) (by decide) (by decide) (by decide) ?_
  intro r1 T h1 vm b_r1 k_r1 hT Ex0 hZ hown H Rc LE LC LV LA X
  have Sf_x := Rc.safe A_x.lt Sf_x
  have A_x := A_x.ext Ex0
  have F_x_value := F_x_value.ext Ex0
  have F_x_coder := F_x_coder.ext Ex0
  have KB := (Keep.refl h0 [x]).ext Ex0
  have LE_r1 := LE
  have LC_r1 := LC
  have LV_r1 := LV
  have LA_r1 := LA
  have ne_x_r1 : x ≠ b_r1 := Exa.neArv A_x LA_r1 (hw _ (List.mem_of_getElem? (i := 9) rfl))
  show Go p e below _ (T.setTop (mkF m 11 #[.val (.ref x), .val (.ref b), .val (.int (0 : Int32)), .val (.int (0 : Int32)), .val .null, .unset] [(.ref r1), (.ref x)]))
  obtain ⟨T, X, hT, st⟩ := getF X hx hZ hown (host := "") (Or.inl (hw _ (List.mem_of_getElem? (i := 36) rfl))) Via.refl hT LV_r1 (g := (mkF m 11 #[.val (.ref x), .val (.ref b), .val (.int (0 : Int32)), .val (.int (0 : Int32)), .val .null, .unset] [(.ref r1), (.ref x)])) rfl rfl (hb hby d3_11)
  refine Go.st st ?_
  show Go p e below _ (T.setTop (mkF m 14 #[.val (.ref x), .val (.ref b), .val (.int (0 : Int32)), .val (.int (0 : Int32)), .val .null, .unset] [(.ref b_r1), (.ref x)]))
  obtain ⟨T, h2, X, hT, Wr0, st⟩ := putF X hx hZ hown (host := "") (Or.inl (hw _ (List.mem_of_getElem? (i := 36) rfl))) Via.refl hT F_x_value A_x (Or.inr ⟨(hw _ (List.mem_of_getElem? (i := 37) rfl)), rfl, hnm⟩) (hw _ (List.mem_of_getElem? (i := 9) rfl)) (ty := (.array .byte)) (by decide) rfl rfl (g := (mkF m 14 #[.val (.ref x), .val (.ref b), .val (.int (0 : Int32)), .val (.int (0 : Int32)), .val .null, .unset] [(.ref b_r1), (.ref x)])) rfl rfl (hb hby d3_14)
  refine Go.st st ?_
  have N := Fr.snoc X N ge_x
  have Sf0 := Sf_x
  have Sf_x := Safe.wr Wr0 Sf0 H.2.1 Sf0
  have H := H.wr Wr0 Sf0
  have A_x := A_x.wr Wr0
  have F_x_value := F_x_value.same Wr0
  have F_x_coder := F_x_coder.other Wr0 (Or.inr (slot_ne (C := "java/lang/String") (Or.inr (hw _ (List.mem_of_getElem? (i := 35) rfl))) (Or.inr (hw _ (List.mem_of_getElem? (i := 37) rfl))) (by decide) (t := .byte) (by decide) (t' := (.array .byte)) (by decide)))
  have LA_r1 := LA_r1.other Wr0 ne_x_r1.symm
  have KB := (KB).wr Wr0 (Or.inl (List.mem_of_getElem? (i := 0) rfl))
  show Go p e below _ (T.setTop (mkF m 17 #[.val (.ref x), .val (.ref b), .val (.int (0 : Int32)), .val (.int (0 : Int32)), .val .null, .unset] []))
  refine Go.st (fun _ k => XS.aloadN X.here hx rfl (hb hby d3_17) rfl rfl k) ?_
  show Go p e below _ (T.setTop (mkF m 18 #[.val (.ref x), .val (.ref b), .val (.int (0 : Int32)), .val (.int (0 : Int32)), .val .null, .unset] [(.ref x)]))
  refine Go.ldcS (text := "") (vs := []) (z := (0 : Int32)) (n := 0) H X hx hZ hown hT (hw _ (List.mem_of_getElem? (i := 199) rfl)) (own_wS hw) hEL (List.mem_of_getElem? (i := 1) rfl) ⟨by simp, by simp⟩ (by decide) (by decide) (hb hby d3_18) (by decide) (by decide) (by decide) (by decide) ?_
  intro r2 T h3 vm b_r2 k_r2 hT Ex0 hZ hown H Rc LE LC LV LA X
  have Sf_x := Rc.safe A_x.lt Sf_x
  have A_x := A_x.ext Ex0
  have F_x_value := F_x_value.ext Ex0
  have F_x_coder := F_x_coder.ext Ex0
  have LA_r1 := LA_r1.ext Ex0
  have KB := (KB).ext Ex0
  have LE_r2 := LE
  have LC_r2 := LC
  have LV_r2 := LV
  have LA_r2 := LA
  have ne_x_r2 : x ≠ b_r2 := Exa.neArv A_x LA_r2 (hw _ (List.mem_of_getElem? (i := 9) rfl))
  show Go p e below _ (T.setTop (mkF m 20 #[.val (.ref x), .val (.ref b), .val (.int (0 : Int32)), .val (.int (0 : Int32)), .val .null, .unset] [(.ref r2), (.ref x)]))
  obtain ⟨T, X, hT, st⟩ := getF X hx hZ hown (host := "") (Or.inl (hw _ (List.mem_of_getElem? (i := 34) rfl))) Via.refl hT LC_r2 (g := (mkF m 20 #[.val (.ref x), .val (.ref b), .val (.int (0 : Int32)), .val (.int (0 : Int32)), .val .null, .unset] [(.ref r2), (.ref x)])) rfl rfl (hb hby d3_20)
  refine Go.st st ?_
  show Go p e below _ (T.setTop (mkF m 23 #[.val (.ref x), .val (.ref b), .val (.int (0 : Int32)), .val (.int (0 : Int32)), .val .null, .unset] [(.int (0 : Int32)), (.ref x)]))
  obtain ⟨T, h4, X, hT, Wr0, st⟩ := putF X hx hZ hown (host := "") (Or.inl (hw _ (List.mem_of_getElem? (i := 34) rfl))) Via.refl hT F_x_coder A_x (Or.inr ⟨(hw _ (List.mem_of_getElem? (i := 35) rfl)), rfl, hnm⟩) (hw _ (List.mem_of_getElem? (i := 9) rfl)) (ty := .byte) (by decide) rfl rfl (g := (mkF m 23 #[.val (.ref x), .val (.ref b), .val (.int (0 : Int32)), .val (.int (0 : Int32)), .val .null, .unset] [(.int (0 : Int32)), (.ref x)])) rfl rfl (hb hby d3_23)
  refine Go.st st ?_
  have N := Fr.snoc X N ge_x
  have Sf0 := Sf_x
  have Sf_x := Safe.wr Wr0 Sf0 H.2.1 Sf0
  have H := H.wr Wr0 Sf0
  have A_x := A_x.wr Wr0
  have F_x_value := F_x_value.other Wr0 (Or.inr (slot_ne (C := "java/lang/String") (Or.inr (hw _ (List.mem_of_getElem? (i := 37) rfl))) (Or.inr (hw _ (List.mem_of_getElem? (i := 35) rfl))) (by decide) (t := (.array .byte)) (by decide) (t' := .byte) (by decide)))
  have F_x_coder := F_x_coder.same Wr0
  have LA_r1 := LA_r1.other Wr0 ne_x_r1.symm
  have LA_r2 := LA_r2.other Wr0 ne_x_r2.symm
  have KB := (KB).wr Wr0 (Or.inl (List.mem_of_getElem? (i := 0) rfl))
  show Go p e below _ (T.setTop (mkF m 26 #[.val (.ref x), .val (.ref b), .val (.int (0 : Int32)), .val (.int (0 : Int32)), .val .null, .unset] []))
  refine Go.retVH hEL H hZ X hx hlk hT hret (hb hby d3_26) (by decide) (by decide) ?_
  exact ⟨rfl, N, KB, b_r1, k_r1, (0 : Int32), (0 : Int32), [], A_x, F_x_value, F_x_coder, LA_r1, Or.inl ⟨rfl, rfl, rfl, (fun _ q => nomatch q)⟩, (fun _ q => nomatch q), Nat.zero_le _⟩
theorem pd_0 : parseMethodDescriptor "([CIILjava/lang/Void;)V" = some ⟨[(.array .char), .int, .int, (.object "java/lang/Void")], none⟩ := by decide +kernel
theorem d2_0 : decode jdk_42_method_3_code 0 = .ok (.aload_n 0, 1) := by decide +kernel
theorem d2_1 : decode jdk_42_method_3_code 1 = .ok (.aload_n 1, 1) := by decide +kernel
theorem d2_2 : decode jdk_42_method_3_code 2 = .ok (.iconst 0, 1) := by decide +kernel
theorem d2_3 : decode jdk_42_method_3_code 3 = .ok (.aload_n 1, 1) := by decide +kernel
theorem d2_4 : decode jdk_42_method_3_code 4 = .ok (.arraylength, 1) := by decide +kernel
theorem d2_5 : decode jdk_42_method_3_code 5 = .ok (.aconst_null, 1) := by decide +kernel
theorem d2_6 : decode jdk_42_method_3_code 6 = .ok (.invokespecial 27, 3) := by decide +kernel
theorem d2_9 : decode jdk_42_method_3_code 9 = .ok (.return_, 1) := by decide +kernel
theorem pn_1 : plainFor (⟨"java/lang/String", "<init>", "([C)V"⟩ : MethodName) = true := by first | exact plainFor_of_name (by first | (simp [plainName, overriddenIn]; done) | decide +kernel) | decide +kernel
theorem ef_AA_2 (m : MethodId) (y0 : Addr) (y1 : Addr) : entryFrame m #[(.ref y0), (.ref y1)] 2 = mkF m 0 #[.val (.ref y0), .val (.ref y1)] [] := by first | (simp [entryFrame, mkF, argsToLocals, Value.category]; done) | rfl
set_option maxRecDepth 65536 in
set_option maxHeartbeats 40000000 in
theorem met_new1e (l : Launch) (Z : State) (a0 : Array Value) (hw : ∀ d ∈ tables_1, d.before a0 Z = true) (ws : List Jvm.Cond) (n0 : Nat) (x b : Addr) (kC : ClassId) (h0 : Heap) (O : Old Z n0 h0) (ge_x : n0 ≤ x) (A_x : Exa Z h0 x ST) (F_x_value : Fld Z h0 x ST "value" "[B" .null) (F_x_coder : Fld Z h0 x ST "coder" "B" (.int (0 : Int32))) (Kb : Arv Z h0 b kC .char (0 : Int32) [] (.int 0)) :
    MetFree l (⟨"java/lang/String", "<init>", "([C)V"⟩ : MethodName) (head1 (Jvm.Cond.code (⟨"java/lang/String", "<init>", "([C)V"⟩ : MethodName) jdk_42_method_3_code 2 none :: ws) ({ frames := 2, cells := 4, slots := 8, locals := 29 } : Room)) (fun aa U => aa = #[(.ref x), (.ref b)] ∧ Z.Warmed39 U.vm ∧ U.heap = h0 ∧ CHv Z EL0 U.vm h0) (fun _ _ _ _ _ => True) (fun _ U o U' => ∃ v L, o = .returned v ∧ QS Z x [] n0 h0 v U'.heap L ∧ CHr Z EL0 U.vm U.heap U'.vm U'.heap ∧ ReturnedEndW U o U' L ({ frames := 2, cells := 4, slots := 8, locals := 29 } : Room).cells ({ frames := 2, cells := 4, slots := 8, locals := 29 } : Room).slots) := by
  refine openH (y := (⟨"java/lang/String", "<init>", "([C)V"⟩ : MethodName)) pn_1 ?_
  intro p e s m below meth c T vm hx hby hml hret hlk hnm hZ hown X hT H
  have hEL := own_EW hw
  refine Go.st (fun _ k => castTop (ef_AA_2 m x b) k) ?_
  show Go p e below _ (T.setTop (mkF m 0 #[.val (.ref x), .val (.ref b)] []))
  refine Go.st (fun _ k => XS.aloadN X.here hx rfl (hb hby d2_0) rfl rfl k) ?_
  show Go p e below _ (T.setTop (mkF m 1 #[.val (.ref x), .val (.ref b)] [(.ref x)]))
  refine Go.st (fun _ k => XS.aloadN X.here hx rfl (hb hby d2_1) rfl rfl k) ?_
  show Go p e below _ (T.setTop (mkF m 2 #[.val (.ref x), .val (.ref b)] [(.ref b), (.ref x)]))
  refine Go.st (fun _ k => XS.iconst X.here hx rfl (hb hby d2_2) k) ?_
  show Go p e below _ (T.setTop (mkF m 3 #[.val (.ref x), .val (.ref b)] [(.int (0 : Int32)), (.ref b), (.ref x)]))
  refine Go.st (fun _ k => XS.aloadN X.here hx rfl (hb hby d2_3) rfl rfl k) ?_
  show Go p e below _ (T.setTop (mkF m 4 #[.val (.ref x), .val (.ref b)] [(.ref b), (.int (0 : Int32)), (.ref b), (.ref x)]))
  obtain ⟨cl0, Ar0, q0, S0, M0, H0, U0⟩ := id Kb
  refine Go.st (fun _ k => X.arraylength hx (by rw [hT]; exact Ar0.1) (State.isArrayOf_alike hZ.alike Ar0.2.1) (g := (mkF m 4 #[.val (.ref x), .val (.ref b)] [(.ref b), (.int (0 : Int32)), (.ref b), (.ref x)])) rfl rfl (hb hby d2_4) _ k) ?_
  rw [len_of S0 M0]
  show Go p e below _ (T.setTop (mkF m 5 #[.val (.ref x), .val (.ref b)] [(.int (0 : Int32)), (.int (0 : Int32)), (.ref b), (.ref x)]))
  refine Go.st (fun _ k => XS.aconstNull X.here hx rfl (hb hby d2_5) k) ?_
  show Go p e below _ (T.setTop (mkF m 6 #[.val (.ref x), .val (.ref b)] [.null, (.int (0 : Int32)), (.int (0 : Int32)), (.ref b), (.ref x)]))
  refine Go.specH (argsL := [(.ref b), (.int (0 : Int32)), (.int (0 : Int32)), .null]) (rest := []) (W := 0) (ck := 4) (sk := 8) H X hx hZ hown (hml.trans rfl) hT rfl (hw _ (List.mem_of_getElem? (i := 15) rfl)) (hw _ (List.mem_of_getElem? (i := 16) rfl)) (hw _ (List.mem_of_getElem? (i := 18) rfl)) (by decide) pd_0 rfl rfl (Nat.le_of_ble_eq_true rfl) (hb hby d2_6) (backOfSH (W := 0) (met_new4e l Z a0 hw [] n0 x b _ O ge_x A_x F_x_value F_x_coder) hZ (hw _ (List.mem_of_getElem? (i := 18) rfl)) (hw _ (List.mem_of_getElem? (i := 10) rfl)) (by decide) (by decide) hEL H.2.1) (by decide) (by decide) ?_
  intro v T h1 L vm hT hQ hZ hown H Rc X
  obtain ⟨rfl, N, KB, S⟩ := hQ
  show Go p e below _ (T.setTop (mkF m 9 #[.val (.ref x), .val (.ref b)] []))
  refine Go.retVH hEL H hZ X hx hlk hT hret (hb hby d2_9) (by decide) (by decide) ?_
  exact ⟨rfl, N, KB, S⟩
theorem own_words : ∀ d ∈ StrChars.Road.words, d ∈ tables_1 := by decide +kernel
theorem pd_1 : parseMethodDescriptor "([C)V" = some ⟨[(.array .char)], none⟩ := by decide +kernel
set_option maxHeartbeats 4000000 in
theorem Go.newS {p : Program} {l : Launch} {e : Env} {R : Room} {s : State} {m : MethodId} {args : Array Value} {below : List Frame} {meth : Method} {c : Code} {T : State} {locs : List Loc} {cells slots : Nat} {Φ : Outcome → State → Prop} {Z : State} {a0 : Array Value} {h : Heap} {vm : Vm} {own : String} {index W pc n n0 : Nat} {Ls : Array Slot} {rest : List Value} {x b : Addr} {kC : ClassId} {cs : List Int32} {N z : Int32}
    (hw : ∀ d ∈ tables_1, d.before a0 Z = true) (H : HW Z EL0 s vm h) (X : Stand p l e R (s.setVm vm) m args below meth c T locs cells slots) (hx : p.tables.exec = Jvm.exec) (hZ : Z.Warmed39 vm) (hown : vm.findClass own = some m.cls) (hml : c.maxLocals = Ls.size) (hT : T.heap = h)
    (w1 : (Cond.methodLink own index (⟨"java/lang/String", "<init>", "([C)V"⟩ : MethodName)).before a0 Z = true) (hd : decode c.code pc = .ok (.invokespecial index, 3))
    (O : Old Z n0 h) (ge_x : n0 ≤ x) (Sc : Stat Z z) (E : Exa Z h x ST) (V : Fld Z h x ST "value" "[B" .null) (C : Fld Z h x ST "coder" "B" (.int (0 : Int32))) (K : Arv Z h b kC .char N (cs.map Value.int) (.int (0 : Int32))) (hN : N = Int32.ofNat cs.length) (hn : cs.length ≤ n) (hn4 : n ≤ 4000)
    (hp : ∀ c ∈ cs, ¬ c < 0 ∧ ¬ (255 : Int32) < c) (hW : (rest.map fun v => v.category).sum ≤ W) (hfr : 4 ≤ R.frames) (hlo : W + 65 ≤ R.locals) (hc : cells + 4 ≤ R.cells) (hs : slots + (n + 8) ≤ R.slots)
    (k : ∀ (T' : State) (h' : Heap) (L : List Loc) (vm' : Vm), T'.heap = h' → Fr n0 L → Keep h h' [x] → Str Z h' x cs → Z.Warmed39 vm' → vm'.findClass own = some m.cls → HW Z EL0 s vm' h' → Stand p l e R (s.setVm vm') m args below meth c T' (locs ++ L) (cells + 4) (slots + (n + 8)) → Go p e below Φ (T'.setTop (mkF m (pc + 3) Ls rest))) :
    Go p e below Φ (T.setTop (mkF m pc Ls (.ref b :: .ref x :: rest))) := by
  have hEL : EW Z a0 EL0 := own_EW hw
  cases cs with
  | nil =>
    subst hN
    refine Go.specH (argsL := [.ref b]) (rest := rest) (W := W) (ck := 4) (sk := 8) H X hx hZ hown hml hT rfl w1 (hw _ (List.mem_of_getElem? (i := 13) rfl)) (hw _ (List.mem_of_getElem? (i := 14) rfl)) (by decide) pd_1 rfl rfl hW hd (backOfSH (W := W) (met_new1e l Z a0 hw [] n0 x b kC _ O ge_x E V C K) hZ (hw _ (List.mem_of_getElem? (i := 14) rfl)) (hw _ (List.mem_of_getElem? (i := 10) rfl)) (by show 2 + 1 ≤ _; omega) (by show W + (2 + 11) + 29 ≤ _; omega) hEL H.2.1) (by omega) (by omega) ?_
    intro v T' h' L vm' hT' hQ hZ' hown' H' Rc X'
    obtain ⟨rfl, N', K', S'⟩ := hQ
    exact k T' h' L vm' hT' N' K' S' hZ' hown' H' (X'.mono (by omega) (by omega))
  | cons c0 cs =>
    have hws : ∀ d ∈ StrChars.Road.words, d.before a0 Z = true := fun d hd => hw d (own_words d hd)
    refine Go.specP (argsL := [.ref b]) (rest := rest) (W := W) (ck := 1) (sk := (c0 :: cs).length) X hx hZ hown hml hT rfl w1 (hw _ (List.mem_of_getElem? (i := 13) rfl)) (hw _ (List.mem_of_getElem? (i := 14) rfl)) (by decide) pd_1 rfl rfl hW hd (StrChars.Road.backV (W := W) hZ hws (kI := 4) (hw _ (List.mem_of_getElem? (i := 9) rfl)) (cs := c0 :: cs) (n := (c0 :: cs).length) ge_x (own_le O) E V C K (Sc.1.ext O.2) Sc.2 rfl hN (Nat.succ_pos _) (Nat.le_trans hn hn4) hp rfl hfr hlo) (by omega) (by omega) ?_
    intro v T' h' L hT' hQ X'
    obtain ⟨rfl, N', K', E', C', t, kb, u1, u2, u3, V', A'⟩ := hQ
    have Sf : Safe Z EL0 vm h x := Safe.blank hZ.alike E V
    refine k T' h' L vm hT' N' K' ⟨t, kb, 0, N, _, E', V', C', A', ?_, fun c hc => ⟨(hp c hc).1, fun q => (hp c hc).2 (Int32.lt_trans (by decide) q)⟩, Nat.le_trans hn hn4⟩ hZ hown (H.keep K' (sfS Sf sf0)) (X'.mono (by omega) (by omega))
    rw [hN]
    exact StrChars.Road.codOf rfl (fun c hc => (hp c hc).2)
theorem own_wordsLen : ∀ d ∈ StrChars.Road.wordsLen, d ∈ tables_1 := by decide +kernel
theorem own_len {p : Program} {l : Launch} {e : Env} {R : Room} {s : State} {args : Array Value} {below : List Frame} {Z : State} {a0 : Array Value} {h : Heap} {W : Nat} {x : Addr} {cs : List Int32} {z : Int32} {n0 : Nat} (hw : ∀ d ∈ tables_1, d.before a0 Z = true) (hZ : Z.Warmed39 s.vm) (O : Old Z n0 h) (Sc : Stat Z z) (S : Str Z h x cs) (hfr : 2 ≤ R.frames) (hlo : W + 25 ≤ R.locals) :
    PB l R p e below s args (⟨"java/lang/String", "length", "()I"⟩ : MethodName) W #[.ref x] h 0 0 (QV (.int (Int32.ofNat cs.length)) h) := by
  obtain ⟨t, kb, cd, N2, vs, h1, h2, h3, h4, h5, h6, h7⟩ := S
  exact StrChars.Road.lenW hZ (fun d hd => hw d (own_wordsLen d hd)) (kI := 4) (hw _ (List.mem_of_getElem? (i := 9) rfl)) h1 h2 h3 h4 h5 h6 (Sc.1.ext O.2) Sc.2 h7 hfr hlo
theorem own_wordsEq : ∀ d ∈ StrChars.Road.wordsEq, d ∈ tables_1 := by decide +kernel
theorem own_eq {p : Program} {l : Launch} {e : Env} {R : Room} {s : State} {args : Array Value} {below : List Frame} {Z : State} {a0 : Array Value} {h : Heap} {W : Nat} {x y : Addr} {cs ds : List Int32} {z : Int32} {n0 : Nat} (hw : ∀ d ∈ tables_1, d.before a0 Z = true) (hZ : Z.Warmed39 s.vm) (O : Old Z n0 h) (Sc : Stat Z z) (S : Str Z h x cs) (S' : Str Z h y ds) (hfr : 2 ≤ R.frames) (hlo : W + 28 ≤ R.locals) :
    PB l R p e below s args (⟨"java/lang/String", "equals", "(Ljava/lang/Object;)Z"⟩ : MethodName) W #[.ref x, .ref y] h 0 0 (QV (.int (if cs = ds then 1 else 0)) h) := by
  obtain ⟨t, kb, cd, N2, vs, h1, h2, h3, h4, h5, h6, h7⟩ := S
  obtain ⟨t', kb', cd', N2', vs', g1, g2, g3, g4, g5, g6, g7⟩ := S'
  refine Back.mono (StrChars.Road.eqW hZ (fun d hd => hw d (own_wordsEq d hd)) (kI := 4) (hw _ (List.mem_of_getElem? (i := 9) rfl)) h1 h2 h3 h4 h5 h6 h7 g1 g2 g3 g4 g5 g6 g7 (Sc.1.ext O.2) Sc.2 hfr hlo) (fun _ _ q => q) ?_
  rintro P a v B hp ⟨L, ⟨hv, rfl, hh⟩, q⟩
  refine ⟨[], ⟨?_, rfl, hh⟩, q⟩
  rcases hv with ⟨rfl, e⟩ | ⟨rfl, e⟩
  · rw [if_pos e]
  · rw [if_neg e]
def f_canenc (ch : Int32) : Int32 := (if (255 : Int32) < ch then (0 : Int32) else (1 : Int32))
theorem d15_0 : decode jdk_43_method_3_code 0 = .ok (.iload_n 0, 1) := by decide +kernel
theorem d15_1 : decode jdk_43_method_3_code 1 = .ok (.sipush 255, 3) := by decide +kernel
theorem d15_4 : decode jdk_43_method_3_code 4 = .ok (.if_icmp .gt 7, 3) := by decide +kernel
theorem d15_7 : decode jdk_43_method_3_code 7 = .ok (.iconst 1, 1) := by decide +kernel
theorem d15_8 : decode jdk_43_method_3_code 8 = .ok (.goto 4, 3) := by decide +kernel
theorem d15_11 : decode jdk_43_method_3_code 11 = .ok (.iconst 0, 1) := by decide +kernel
theorem d15_12 : decode jdk_43_method_3_code 12 = .ok (.ireturn, 1) := by decide +kernel
theorem pn_2 : plainFor (⟨"java/lang/StringLatin1", "canEncode", "(C)Z"⟩ : MethodName) = true := by first | exact plainFor_of_name (by first | (simp [plainName, overriddenIn]; done) | decide +kernel) | decide +kernel
theorem ef_I_1 (m : MethodId) (y0 : Int32) : entryFrame m #[(.int y0)] 1 = mkF m 0 #[.val (.int y0)] [] := by first | (simp [entryFrame, mkF, argsToLocals, Value.category]; done) | rfl
set_option maxRecDepth 65536 in
set_option maxHeartbeats 40000000 in
theorem met_canenc (l : Launch) (Z : State) (a0 : Array Value) (hw : ∀ d ∈ tables_1, d.before a0 Z = true) (ws : List Jvm.Cond) (ch : Int32) (h0 : Heap)  :
    MetFree l (⟨"java/lang/StringLatin1", "canEncode", "(C)Z"⟩ : MethodName) (head1 (Jvm.Cond.code (⟨"java/lang/StringLatin1", "canEncode", "(C)Z"⟩ : MethodName) jdk_43_method_3_code 1 (some .boolean) :: ws) ({ frames := 0, cells := 0, slots := 0, locals := 0 } : Room)) (fun aa U => aa = #[(.int ch)] ∧ Z.Warmed39 U.vm ∧ U.heap = h0) (fun _ _ _ _ _ => True) (fun _ U o U' => ∃ v L, o = .returned v ∧ QV (.int (f_canenc ch)) h0 v U'.heap L ∧ FrameEnd U o U' L ({ frames := 0, cells := 0, slots := 0, locals := 0 } : Room).cells ({ frames := 0, cells := 0, slots := 0, locals := 0 } : Room).slots) := by
  refine openP (y := (⟨"java/lang/StringLatin1", "canEncode", "(C)Z"⟩ : MethodName)) pn_2 ?_
  intro p e s m below meth c T hx hby hml hret hlk hnm hZ hown X hT
  refine Go.st (fun _ k => castTop (ef_I_1 m ch) k) ?_
  show Go p e below _ (T.setTop (mkF m 0 #[.val (.int ch)] []))
  refine Go.st (fun _ k => XS.iloadN X.here hx rfl (hb hby d15_0) rfl k) ?_
  show Go p e below _ (T.setTop (mkF m 1 #[.val (.int ch)] [(.int ch)]))
  refine Go.st (fun _ k => XS.sipush X.here hx rfl (hb hby d15_1) k) ?_
  show Go p e below _ (T.setTop (mkF m 4 #[.val (.int ch)] [(.int (255 : Int32)), (.int ch)]))
  by_cases hc1 : (255 : Int32) < ch
  · refine Go.st (fun _ k => XS.icmpYes X.here hx rfl (pc0 := 4) (pc' := 11) rfl (hb hby d15_4) rfl (Jvm.Free.XT.ii_gt_t hc1) (by decide) (by decide) k) ?_
    show Go p e below _ (T.setTop (mkF m 11 #[.val (.int ch)] []))
    refine Go.st (fun _ k => XS.iconst X.here hx rfl (hb hby d15_11) k) ?_
    show Go p e below _ (T.setTop (mkF m 12 #[.val (.int ch)] [(.int (0 : Int32))]))
    refine Go.ret X hx hlk hT hret (by decide) (riI (by simp)) (hb hby d15_12) (by decide) (by decide) ?_
    exact ⟨congrArg (fun z => some (Value.int z)) (by rw [f_canenc, if_pos hc1]), rfl, rfl⟩
  · refine Go.st (fun _ k => XS.icmpNo X.here hx rfl (hb hby d15_4) rfl (Jvm.Free.XT.ii_gt_f hc1) k) ?_
    show Go p e below _ (T.setTop (mkF m 7 #[.val (.int ch)] []))
    refine Go.st (fun _ k => XS.iconst X.here hx rfl (hb hby d15_7) k) ?_
    show Go p e below _ (T.setTop (mkF m 8 #[.val (.int ch)] [(.int (1 : Int32))]))
    refine Go.st (fun _ k => XS.goto X.here hx rfl (pc0 := 8) (pc' := 12) rfl (hb hby d15_8) (by decide) (by decide) k) ?_
    show Go p e below _ (T.setTop (mkF m 12 #[.val (.int ch)] [(.int (1 : Int32))]))
    refine Go.ret X hx hlk hT hret (by decide) (riI (by simp)) (hb hby d15_12) (by decide) (by decide) ?_
    exact ⟨congrArg (fun z => some (Value.int z)) (by rw [f_canenc, if_neg hc1]), rfl, rfl⟩
def QTc (Z : State) (n0 : Nat) (ch : Int32) (h0 : Heap) (v : Option Value) (h : Heap) (L : List Loc) : Prop := ∃ (r : Addr) (kr : ClassId), v = some (.ref r) ∧ Fr n0 L ∧ h0.size ≤ r ∧ Ext h0 h ∧ Arv Z h r kr .byte (1 : Int32) [.int (StrChars.lo8 ch)] (.int 0)
theorem d37_0 : decode jdk_43_method_46_code 0 = .ok (.iconst 1, 1) := by decide +kernel
theorem d37_1 : decode jdk_43_method_46_code 1 = .ok (.newarray .byte, 2) := by decide +kernel
theorem d37_3 : decode jdk_43_method_46_code 3 = .ok (.dup, 1) := by decide +kernel
theorem d37_4 : decode jdk_43_method_46_code 4 = .ok (.iconst 0, 1) := by decide +kernel
theorem d37_5 : decode jdk_43_method_46_code 5 = .ok (.iload_n 0, 1) := by decide +kernel
theorem d37_6 : decode jdk_43_method_46_code 6 = .ok (.i2b, 1) := by decide +kernel
theorem d37_7 : decode jdk_43_method_46_code 7 = .ok (.bastore, 1) := by decide +kernel
theorem d37_8 : decode jdk_43_method_46_code 8 = .ok (.areturn, 1) := by decide +kernel
theorem pn_3 : plainFor (⟨"java/lang/StringLatin1", "toBytes", "(C)[B"⟩ : MethodName) = true := by first | exact plainFor_of_name (by first | (simp [plainName, overriddenIn]; done) | decide +kernel) | decide +kernel
set_option maxRecDepth 65536 in
set_option maxHeartbeats 40000000 in
theorem met_tobc (l : Launch) (Z : State) (a0 : Array Value) (hw : ∀ d ∈ tables_1, d.before a0 Z = true) (ws : List Jvm.Cond) (n0 : Nat) (ch : Int32) (h0 : Heap) (O : Old Z n0 h0) :
    MetFree l (⟨"java/lang/StringLatin1", "toBytes", "(C)[B"⟩ : MethodName) (head1 (Jvm.Cond.code (⟨"java/lang/StringLatin1", "toBytes", "(C)[B"⟩ : MethodName) jdk_43_method_46_code 1 (some (.array .byte)) :: ws) ({ frames := 0, cells := 1, slots := 1, locals := 0 } : Room)) (fun aa U => aa = #[(.int ch)] ∧ Z.Warmed39 U.vm ∧ U.heap = h0) (fun _ _ _ _ _ => True) (fun _ U o U' => ∃ v L, o = .returned v ∧ QTc Z n0 ch h0 v U'.heap L ∧ FrameEnd U o U' L ({ frames := 0, cells := 1, slots := 1, locals := 0 } : Room).cells ({ frames := 0, cells := 1, slots := 1, locals := 0 } : Room).slots) := by
  refine openP (y := (⟨"java/lang/StringLatin1", "toBytes", "(C)[B"⟩ : MethodName)) pn_3 ?_
  intro p e s m below meth c T hx hby hml hret hlk hnm hZ hown X hT
  refine Go.st (fun _ k => castTop (ef_I_1 m ch) k) ?_
  show Go p e below _ (T.setTop (mkF m 0 #[.val (.int ch)] []))
  have N := Fr.nil n0
  have K0b : Keep h0 h0 [] := Keep.refl _ _
  refine Go.st (fun _ k => XS.iconst X.here hx rfl (hb hby d37_0) k) ?_
  show Go p e below _ (T.setTop (mkF m 1 #[.val (.int ch)] [(.int (1 : Int32))]))
  obtain ⟨T, h1, k_r, X, hT, Ex0, A_r, st⟩ := newP X hx hZ (hw _ (List.mem_of_getElem? (i := 27) rfl)) hT (g := (mkF m 1 #[.val (.int ch)] [(.int (1 : Int32))])) rfl (hb hby d37_1) rfl (by decide : ¬ ((1 : Int32) < (0 : Int32))) (cap := 1) (by decide) (by decide) (by decide) (by decide)
  obtain ⟨r, g_r⟩ : ∃ z, z = h0.size := ⟨_, rfl⟩
  rw [← g_r] at A_r st
  refine Go.st st ?_
  have ge_r : n0 ≤ r := Nat.le_trans (own_le (O)) (Nat.le_of_eq g_r.symm)
  have gk_r : h0.size ≤ r := Nat.le_trans (Keep.refl h0 []).1 (Nat.le_of_eq g_r.symm)
  have KB := (Keep.refl h0 []).ext Ex0
  have V_r : Arv Z _ r k_r .byte (1 : Int32) [(.int (0 : Int32))] (.int (0 : Int32)) := (Arv.new A_r (by decide)).pad (pad_rep [] (.int (0 : Int32)) 1)
  show Go p e below _ (T.setTop (mkF m 3 #[.val (.int ch)] [(.ref r)]))
  refine Go.st (fun _ k => XS.dup X.here hx rfl (hb hby d37_3) rfl rfl k) ?_
  show Go p e below _ (T.setTop (mkF m 4 #[.val (.int ch)] [(.ref r), (.ref r)]))
  refine Go.st (fun _ k => XS.iconst X.here hx rfl (hb hby d37_4) k) ?_
  show Go p e below _ (T.setTop (mkF m 5 #[.val (.int ch)] [(.int (0 : Int32)), (.ref r), (.ref r)]))
  refine Go.st (fun _ k => XS.iloadN X.here hx rfl (hb hby d37_5) rfl k) ?_
  show Go p e below _ (T.setTop (mkF m 6 #[.val (.int ch)] [(.int ch), (.int (0 : Int32)), (.ref r), (.ref r)]))
  refine Go.st (fun _ k => XS.i2b X.here hx rfl (hb hby d37_6) rfl k) ?_
  show Go p e below _ (T.setTop (mkF m 7 #[.val (.int ch)] [(.int (ch.toInt8.toInt32)), (.int (0 : Int32)), (.ref r), (.ref r)]))
  obtain ⟨cl0, Ar0, q0, S0, M0, H0, U0⟩ := id V_r
  obtain ⟨T, h2, X, hT, Wr0, st⟩ := stB X hx hZ hT Ar0 (j := (0 : Int32)) (inb_of S0 ⟨(by decide : ¬ ((0 : Int32) < (0 : Int32))), (by decide : (0 : Int32) < (1 : Int32))⟩) (g := (mkF m 7 #[.val (.int ch)] [(.int (ch.toInt8.toInt32)), (.int (0 : Int32)), (.ref r), (.ref r)])) rfl rfl (hb hby d37_7)
  refine Go.st st ?_
  have N := Fr.snoc X N ge_r
  have KB := (KB).wr Wr0 (Or.inr gk_r)
  have V_r : Arv Z _ r k_r .byte (1 : Int32) [(.int (nar .byte (ch.toInt8.toInt32)))] (.int (0 : Int32)) := Arv.set Ar0 q0 S0 M0 H0 U0 (fits_nar_byte _) Wr0 0 rfl (Nat.le_of_ble_eq_true rfl)
  show Go p e below _ (T.setTop (mkF m 8 #[.val (.int ch)] [(.ref r)]))
  refine Go.ret X hx hlk hT hret rfl (riA rfl rfl) (hb hby d37_8) (by decide) (by decide) ?_
  have gk := gk_r
  have O := O.keep KB all0
  have K0b := K0b.trans KB (fun _ q => nomatch q)
  exact ⟨r, k_r, rfl, N, gk, keepE K0b, by simpa [nar, StrChars.lo8] using V_r⟩
theorem own_ncd {cd : Int32} (h : cd = 0 ∨ cd = 1) : narrow .byte (.int cd) = .int cd := by rcases h with rfl | rfl <;> decide
theorem own_fcd {cd : Int32} (h : cd = 0 ∨ cd = 1) : fits .byte (.int cd) = true := by rcases h with rfl | rfl <;> decide
def QBB (Z : State) (n0 : Nat) (x r : Addr) (cd : Int32) (h0 : Heap) (v : Option Value) (h : Heap) (L : List Loc) : Prop := v = none ∧ Fr n0 L ∧ Keep h0 h [x] ∧ Exa Z h x ST ∧ Fld Z h x ST "value" "[B" (.ref r) ∧ Fld Z h x ST "coder" "B" (.int cd)
theorem d38_0 : decode jdk_42_method_151_code 0 = .ok (.aload_n 0, 1) := by decide +kernel
theorem d38_1 : decode jdk_42_method_151_code 1 = .ok (.invokespecial 1, 3) := by decide +kernel
theorem d38_4 : decode jdk_42_method_151_code 4 = .ok (.aload_n 0, 1) := by decide +kernel
theorem d38_5 : decode jdk_42_method_151_code 5 = .ok (.aload_n 1, 1) := by decide +kernel
theorem d38_6 : decode jdk_42_method_151_code 6 = .ok (.putfield 9, 3) := by decide +kernel
theorem d38_9 : decode jdk_42_method_151_code 9 = .ok (.aload_n 0, 1) := by decide +kernel
theorem d38_10 : decode jdk_42_method_151_code 10 = .ok (.iload_n 2, 1) := by decide +kernel
theorem d38_11 : decode jdk_42_method_151_code 11 = .ok (.putfield 15, 3) := by decide +kernel
theorem d38_14 : decode jdk_42_method_151_code 14 = .ok (.return_, 1) := by decide +kernel
theorem pn_4 : plainFor (⟨"java/lang/String", "<init>", "([BB)V"⟩ : MethodName) = true := by first | exact plainFor_of_name (by first | (simp [plainName, overriddenIn]; done) | decide +kernel) | decide +kernel
theorem ef_AAI_3 (m : MethodId) (y0 : Addr) (y1 : Addr) (y2 : Int32) : entryFrame m #[(.ref y0), (.ref y1), (.int y2)] 3 = mkF m 0 #[.val (.ref y0), .val (.ref y1), .val (.int y2)] [] := by first | (simp [entryFrame, mkF, argsToLocals, Value.category]; done) | rfl
set_option maxRecDepth 65536 in
set_option maxHeartbeats 40000000 in
theorem met_bb (l : Launch) (Z : State) (a0 : Array Value) (hw : ∀ d ∈ tables_1, d.before a0 Z = true) (ws : List Jvm.Cond) (n0 : Nat) (x r : Addr) (cd : Int32) (h0 : Heap) (hcd : cd = 0 ∨ cd = 1) (ge_x : n0 ≤ x) (A_x : Exa Z h0 x ST) (F_x_value : Fld Z h0 x ST "value" "[B" .null) (F_x_coder : Fld Z h0 x ST "coder" "B" (.int (0 : Int32))) :
    MetFree l (⟨"java/lang/String", "<init>", "([BB)V"⟩ : MethodName) (head1 (Jvm.Cond.code (⟨"java/lang/String", "<init>", "([BB)V"⟩ : MethodName) jdk_42_method_151_code 3 none :: ws) ({ frames := 1, cells := 0, slots := 0, locals := 12 } : Room)) (fun aa U => aa = #[(.ref x), (.ref r), (.int cd)] ∧ Z.Warmed39 U.vm ∧ U.heap = h0) (fun _ _ _ _ _ => True) (fun _ U o U' => ∃ v L, o = .returned v ∧ QBB Z n0 x r cd h0 v U'.heap L ∧ FrameEnd U o U' L ({ frames := 1, cells := 0, slots := 0, locals := 12 } : Room).cells ({ frames := 1, cells := 0, slots := 0, locals := 12 } : Room).slots) := by
  refine openP (y := (⟨"java/lang/String", "<init>", "([BB)V"⟩ : MethodName)) pn_4 ?_
  intro p e s m below meth c T hx hby hml hret hlk hnm hZ hown X hT
  refine Go.st (fun _ k => castTop (ef_AAI_3 m x r cd) k) ?_
  show Go p e below _ (T.setTop (mkF m 0 #[.val (.ref x), .val (.ref r), .val (.int cd)] []))
  have N := Fr.nil n0
  refine Go.st (fun _ k => XS.aloadN X.here hx rfl (hb hby d38_0) rfl rfl k) ?_
  show Go p e below _ (T.setTop (mkF m 1 #[.val (.ref x), .val (.ref r), .val (.int cd)] [(.ref x)]))
  obtain ⟨T, X, hT, st⟩ := initO X hx hZ hown (hw _ (List.mem_of_getElem? (i := 19) rfl)) (hw _ (List.mem_of_getElem? (i := 20) rfl)) (hw _ (List.mem_of_getElem? (i := 21) rfl)) hT (g := (mkF m 1 #[.val (.ref x), .val (.ref r), .val (.int cd)] [(.ref x)])) rfl (by rw [hml]; rfl) rfl (hb hby d38_1) (by decide) (W := 0) (by show 2 * 0 + _ ≤ _; exact Nat.le_of_ble_eq_true rfl) (by decide)
  refine Go.st st ?_
  show Go p e below _ (T.setTop (mkF m 4 #[.val (.ref x), .val (.ref r), .val (.int cd)] []))
  refine Go.st (fun _ k => XS.aloadN X.here hx rfl (hb hby d38_4) rfl rfl k) ?_
  show Go p e below _ (T.setTop (mkF m 5 #[.val (.ref x), .val (.ref r), .val (.int cd)] [(.ref x)]))
  refine Go.st (fun _ k => XS.aloadN X.here hx rfl (hb hby d38_5) rfl rfl k) ?_
  show Go p e below _ (T.setTop (mkF m 6 #[.val (.ref x), .val (.ref r), .val (.int cd)] [(.ref r), (.ref x)]))
  obtain ⟨T, h1, X, hT, Wr0, st⟩ := putF X hx hZ hown (host := "") (Or.inl (hw _ (List.mem_of_getElem? (i := 36) rfl))) Via.refl hT F_x_value A_x (Or.inr ⟨(hw _ (List.mem_of_getElem? (i := 37) rfl)), rfl, hnm⟩) (hw _ (List.mem_of_getElem? (i := 9) rfl)) (ty := (.array .byte)) (by decide) rfl rfl (g := (mkF m 6 #[.val (.ref x), .val (.ref r), .val (.int cd)] [(.ref r), (.ref x)])) rfl rfl (hb hby d38_6)
  refine Go.st st ?_
  have N := Fr.snoc X N ge_x
  have A_x := A_x.wr Wr0
  have F_x_value := F_x_value.same Wr0
  have F_x_coder := F_x_coder.other Wr0 (Or.inr (slot_ne (C := "java/lang/String") (Or.inr (hw _ (List.mem_of_getElem? (i := 35) rfl))) (Or.inr (hw _ (List.mem_of_getElem? (i := 37) rfl))) (by decide) (t := .byte) (by decide) (t' := (.array .byte)) (by decide)))
  have KB := (Keep.refl h0 [x]).wr Wr0 (Or.inl (List.mem_of_getElem? (i := 0) rfl))
  show Go p e below _ (T.setTop (mkF m 9 #[.val (.ref x), .val (.ref r), .val (.int cd)] []))
  refine Go.st (fun _ k => XS.aloadN X.here hx rfl (hb hby d38_9) rfl rfl k) ?_
  show Go p e below _ (T.setTop (mkF m 10 #[.val (.ref x), .val (.ref r), .val (.int cd)] [(.ref x)]))
  refine Go.st (fun _ k => XS.iloadN X.here hx rfl (hb hby d38_10) rfl k) ?_
  show Go p e below _ (T.setTop (mkF m 11 #[.val (.ref x), .val (.ref r), .val (.int cd)] [(.int cd), (.ref x)]))
  obtain ⟨T, h2, X, hT, Wr0, st⟩ := putF X hx hZ hown (host := "") (Or.inl (hw _ (List.mem_of_getElem? (i := 34) rfl))) Via.refl hT F_x_coder A_x (Or.inr ⟨(hw _ (List.mem_of_getElem? (i := 35) rfl)), rfl, hnm⟩) (hw _ (List.mem_of_getElem? (i := 9) rfl)) (ty := .byte) (by decide) (own_ncd hcd) (own_fcd hcd) (g := (mkF m 11 #[.val (.ref x), .val (.ref r), .val (.int cd)] [(.int cd), (.ref x)])) rfl rfl (hb hby d38_11)
  refine Go.st st ?_
  have N := Fr.snoc X N ge_x
  have A_x := A_x.wr Wr0
  have F_x_value := F_x_value.other Wr0 (Or.inr (slot_ne (C := "java/lang/String") (Or.inr (hw _ (List.mem_of_getElem? (i := 37) rfl))) (Or.inr (hw _ (List.mem_of_getElem? (i := 35) rfl))) (by decide) (t := (.array .byte)) (by decide) (t' := .byte) (by decide)))
  have F_x_coder := F_x_coder.same Wr0
  have KB := (KB).wr Wr0 (Or.inl (List.mem_of_getElem? (i := 0) rfl))
  show Go p e below _ (T.setTop (mkF m 14 #[.val (.ref x), .val (.ref r), .val (.int cd)] []))
  refine Go.retV X hx hlk hT hret (hb hby d38_14) (by decide) (by decide) ?_
  exact ⟨rfl, N, KB, A_x, F_x_value, F_x_coder⟩
theorem pd_2 : parseMethodDescriptor "(C)Z" = some ⟨[.char], (some .boolean)⟩ := by decide +kernel
theorem pd_3 : parseMethodDescriptor "(C)[B" = some ⟨[.char], (some (.array .byte))⟩ := by decide +kernel
theorem pd_4 : parseMethodDescriptor "([BB)V" = some ⟨[(.array .byte), .byte], none⟩ := by decide +kernel
theorem own_one {ch : Int32} (hc0 : ¬ ch < 0) (hc1 : ¬ (255 : Int32) < ch) : ∀ c ∈ [ch], ¬ c < 0 ∧ ¬ (65535 : Int32) < c := fun c q => by cases List.mem_singleton.mp q; exact ⟨hc0, fun z => hc1 (Int32.lt_trans (by decide) z)⟩
theorem d36_0 : decode jdk_42_method_139_code 0 = .ok (.getstatic 38, 3) := by decide +kernel
theorem d36_3 : decode jdk_42_method_139_code 3 = .ok (.ifCond .eq 23, 3) := by decide +kernel
theorem d36_6 : decode jdk_42_method_139_code 6 = .ok (.iload_n 0, 1) := by decide +kernel
theorem d36_7 : decode jdk_42_method_139_code 7 = .ok (.invokestatic 1015, 3) := by decide +kernel
theorem d36_10 : decode jdk_42_method_139_code 10 = .ok (.ifCond .eq 16, 3) := by decide +kernel
theorem d36_13 : decode jdk_42_method_139_code 13 = .ok (.new 10, 3) := by decide +kernel
theorem d36_16 : decode jdk_42_method_139_code 16 = .ok (.dup, 1) := by decide +kernel
theorem d36_17 : decode jdk_42_method_139_code 17 = .ok (.iload_n 0, 1) := by decide +kernel
theorem d36_18 : decode jdk_42_method_139_code 18 = .ok (.invokestatic 1018, 3) := by decide +kernel
theorem d36_21 : decode jdk_42_method_139_code 21 = .ok (.iconst 0, 1) := by decide +kernel
theorem d36_22 : decode jdk_42_method_139_code 22 = .ok (.invokespecial 209, 3) := by decide +kernel
theorem d36_25 : decode jdk_42_method_139_code 25 = .ok (.areturn, 1) := by decide +kernel
theorem pn_5 : plainFor (⟨"java/lang/String", "valueOf", "(C)Ljava/lang/String;"⟩ : MethodName) = true := by first | exact plainFor_of_name (by first | (simp [plainName, overriddenIn]; done) | decide +kernel) | decide +kernel
set_option maxRecDepth 65536 in
set_option maxHeartbeats 40000000 in
theorem met_valof (l : Launch) (Z : State) (a0 : Array Value) (hw : ∀ d ∈ tables_1, d.before a0 Z = true) (ws : List Jvm.Cond) (n0 : Nat) (ch z : Int32) (h0 : Heap) (O : Old Z n0 h0) (Sc : Stat Z z) (hc0 : ¬ ch < 0) (hc1 : ¬ (255 : Int32) < ch) :
    MetFree l (⟨"java/lang/String", "valueOf", "(C)Ljava/lang/String;"⟩ : MethodName) (head1 (Jvm.Cond.code (⟨"java/lang/String", "valueOf", "(C)Ljava/lang/String;"⟩ : MethodName) jdk_42_method_139_code 1 (some (.object "java/lang/String")) :: ws) ({ frames := 2, cells := 2, slots := 5, locals := 27 } : Room)) (fun aa U => aa = #[(.int ch)] ∧ Z.Warmed39 U.vm ∧ U.heap = h0) (fun _ _ _ _ _ => True) (fun _ U o U' => ∃ v L, o = .returned v ∧ QStr Z n0 [ch] h0 v U'.heap L ∧ FrameEnd U o U' L ({ frames := 2, cells := 2, slots := 5, locals := 27 } : Room).cells ({ frames := 2, cells := 2, slots := 5, locals := 27 } : Room).slots) := by
  refine openP (y := (⟨"java/lang/String", "valueOf", "(C)Ljava/lang/String;"⟩ : MethodName)) pn_5 ?_
  intro p e s m below meth c T hx hby hml hret hlk hnm hZ hown X hT
  refine Go.st (fun _ k => castTop (ef_I_1 m ch) k) ?_
  show Go p e below _ (T.setTop (mkF m 0 #[.val (.int ch)] []))
  have N := Fr.nil n0
  have K0b : Keep h0 h0 [] := Keep.refl _ _
  obtain ⟨T, X, hT, st⟩ := getS2 X hx hZ hown (host := "") (Or.inl (hw _ (List.mem_of_getElem? (i := 22) rfl))) Via.refl hT (Sc.1.ext O.2) (g := (mkF m 0 #[.val (.int ch)] [])) rfl (hb hby d36_0)
  refine Go.st st ?_
  show Go p e below _ (T.setTop (mkF m 3 #[.val (.int ch)] [(.int z)]))
  refine Go.st (fun _ k => XS.ifNo X.here hx rfl (hb hby d36_3) rfl (Jvm.Free.XT.i0_eq_f (Sc.2 : ¬ (z = (0 : Int32)))) k) ?_
  show Go p e below _ (T.setTop (mkF m 6 #[.val (.int ch)] []))
  refine Go.st (fun _ k => XS.iloadN X.here hx rfl (hb hby d36_6) rfl k) ?_
  show Go p e below _ (T.setTop (mkF m 7 #[.val (.int ch)] [(.int ch)]))
  refine Go.callV (argsL := [(.int ch)]) (rest := []) (W := 0) X hx hZ hown (hml.trans rfl) hT (hw _ (List.mem_of_getElem? (i := 189) rfl)) (hw _ (List.mem_of_getElem? (i := 87) rfl)) (hw _ (List.mem_of_getElem? (i := 88) rfl)) (hw _ (List.mem_of_getElem? (i := 89) rfl)) (by decide) pd_2 rfl rfl (Nat.le_of_ble_eq_true rfl) (hb hby d36_7) (backOf (W := 0) (met_canenc l Z a0 hw [] ch _) hZ (hw _ (List.mem_of_getElem? (i := 89) rfl)) (hw _ (List.mem_of_getElem? (i := 88) rfl)) (by decide) (by decide)) (by decide) (by decide) ?_
  intro T hT X
  show Go p e below _ (T.setTop (mkF m 10 #[.val (.int ch)] [(.int (f_canenc ch))]))
  refine Go.st (fun _ k => XS.ifNo X.here hx rfl (hb hby d36_10) rfl (Jvm.Free.XT.i0_eq_f (by rw [f_canenc, if_neg hc1]; decide : ¬ ((f_canenc ch) = (0 : Int32)))) k) ?_
  show Go p e below _ (T.setTop (mkF m 13 #[.val (.int ch)] []))
  obtain ⟨T, h1, X, hT, Ex0, A_x, D_x, -, st⟩ := newO X hx hZ hown (hw _ (List.mem_of_getElem? (i := 181) rfl)) (hw _ (List.mem_of_getElem? (i := 9) rfl)) (hw _ (List.mem_of_getElem? (i := 10) rfl)) hT (g := (mkF m 13 #[.val (.int ch)] [])) rfl (hb hby d36_13) (by decide) (by decide)
  obtain ⟨x, g_x⟩ : ∃ z, z = h0.size := ⟨_, rfl⟩
  rw [← g_x] at A_x D_x st
  refine Go.st st ?_
  have ge_x : n0 ≤ x := Nat.le_trans (own_le (O)) (Nat.le_of_eq g_x.symm)
  have gk_x : h0.size ≤ x := Nat.le_trans (Keep.refl h0 []).1 (Nat.le_of_eq g_x.symm)
  have KB := (Keep.refl h0 []).ext Ex0
  have F_x_coder := D_x (Or.inr (hw _ (List.mem_of_getElem? (i := 35) rfl))) (ty := .byte) (by decide)
  have F_x_value := D_x (Or.inr (hw _ (List.mem_of_getElem? (i := 37) rfl))) (ty := (.array .byte)) (by decide)
  show Go p e below _ (T.setTop (mkF m 16 #[.val (.int ch)] [(.ref x)]))
  refine Go.st (fun _ k => XS.dup X.here hx rfl (hb hby d36_16) rfl rfl k) ?_
  show Go p e below _ (T.setTop (mkF m 17 #[.val (.int ch)] [(.ref x), (.ref x)]))
  refine Go.st (fun _ k => XS.iloadN X.here hx rfl (hb hby d36_17) rfl k) ?_
  show Go p e below _ (T.setTop (mkF m 18 #[.val (.int ch)] [(.int ch), (.ref x), (.ref x)]))
  refine Go.callP (argsL := [(.int ch)]) (rest := [(.ref x), (.ref x)]) (W := 2) (ck := 1) (sk := 1) X hx hZ hown (hml.trans rfl) hT (hw _ (List.mem_of_getElem? (i := 190) rfl)) (hw _ (List.mem_of_getElem? (i := 191) rfl)) (hw _ (List.mem_of_getElem? (i := 88) rfl)) (hw _ (List.mem_of_getElem? (i := 192) rfl)) (by decide) pd_3 rfl rfl (Nat.le_of_ble_eq_true rfl) (hb hby d36_18) (backOf (W := 2) (met_tobc l Z a0 hw [] n0 ch _ (O.keep KB all0)) hZ (hw _ (List.mem_of_getElem? (i := 192) rfl)) (hw _ (List.mem_of_getElem? (i := 88) rfl)) (by decide) (by decide)) (by decide) (by decide) ?_
  intro v T h2 L hT hQ X
  obtain ⟨r, kr, rfl, N0, gk_r, Ex0, V_r⟩ := hQ
  have N := Fr.app N N0
  have A_x := A_x.ext Ex0
  have F_x_coder := F_x_coder.ext Ex0
  have F_x_value := F_x_value.ext Ex0
  have KB := (KB).ext Ex0
  have ne_x_r : x ≠ r := Exa.neArv A_x V_r (hw _ (List.mem_of_getElem? (i := 9) rfl))
  show Go p e below _ (T.setTop (mkF m 21 #[.val (.int ch)] [(.ref r), (.ref x), (.ref x)]))
  refine Go.st (fun _ k => XS.iconst X.here hx rfl (hb hby d36_21) k) ?_
  show Go p e below _ (T.setTop (mkF m 22 #[.val (.int ch)] [(.int (0 : Int32)), (.ref r), (.ref x), (.ref x)]))
  refine Go.specP (argsL := [(.ref r), (.int (0 : Int32))]) (rest := [(.ref x)]) (W := 1) (ck := 0) (sk := 0) X hx hZ hown (hml.trans rfl) hT rfl (hw _ (List.mem_of_getElem? (i := 193) rfl)) (hw _ (List.mem_of_getElem? (i := 194) rfl)) (hw _ (List.mem_of_getElem? (i := 195) rfl)) (by decide) pd_4 rfl rfl (Nat.le_of_ble_eq_true rfl) (hb hby d36_22) (backOf (W := 1) (met_bb l Z a0 hw [] n0 x r (0 : Int32) _ (Or.inl rfl) ge_x A_x F_x_value F_x_coder) hZ (hw _ (List.mem_of_getElem? (i := 195) rfl)) (hw _ (List.mem_of_getElem? (i := 10) rfl)) (by decide) (by decide)) (by decide) (by decide) ?_
  intro v T h3 L hT hQ X
  obtain ⟨rfl, N0, K0, E0, F0, C0⟩ := hQ
  have N := Fr.app N N0
  have V_r := V_r.keep K0 (ninS ne_x_r.symm nin0)
  have KB := (KB).trans K0 (allS (Or.inr gk_x) all0)
  have S_x : Str Z h3 x [ch] := ⟨_, _, _, _, _, E0, F0, C0, V_r, StrChars.Road.codOf (cs := [ch]) rfl (by simpa using hc1), own_one hc0 hc1, Nat.le_of_ble_eq_true rfl⟩
  have O := O.keep KB all0
  have K0b := K0b.trans KB (fun _ q => nomatch q)
  show Go p e below _ (T.setTop (mkF m 25 #[.val (.int ch)] [(.ref x)]))
  refine Go.ret X hx hlk hT hret rfl (riA rfl rfl) (hb hby d36_25) (by decide) (by decide) ?_
  exact ⟨x, rfl, N, keepE K0b, S_x⟩
open StrChars in
abbrev lows (cs : List Int32) : List Value := cs.map fun c => Value.int (lo8 c)
abbrev Lat (cs : List Int32) : Prop := ∀ c ∈ cs, ¬ c < 0 ∧ ¬ (255 : Int32) < c
theorem own_latin {Z : State} {h : Heap} {x : Addr} {cs : List Int32} (S : Str Z h x cs) (hl : Lat cs) : ∃ (t : Addr) (kb : ClassId), Exa Z h x ST ∧ Fld Z h x ST "value" "[B" (.ref t) ∧ Fld Z h x ST "coder" "B" (.int 0) ∧ Arv Z h t kb .byte (Int32.ofNat cs.length) (lows cs) (.int 0) := by
  obtain ⟨t, kb, cd, N2, vs, h1, h2, h3, h4, h5, h6, h7⟩ := S
  rcases h5 with ⟨rfl, rfl, rfl, -⟩ | ⟨-, -, -, c, hc, hw⟩
  · exact ⟨t, kb, h1, h2, h3, h4⟩
  · exact absurd hw (hl c hc).2
theorem own_lat_str {Z : State} {h : Heap} {x t : Addr} {kb : ClassId} {cs : List Int32} (hl : Lat cs) (hn : cs.length ≤ 4000) (h1 : Exa Z h x ST) (h2 : Fld Z h x ST "value" "[B" (.ref t)) (h3 : Fld Z h x ST "coder" "B" (.int 0)) (h4 : Arv Z h t kb .byte (Int32.ofNat cs.length) (lows cs) (.int 0)) : Str Z h x cs :=
  ⟨t, kb, 0, _, _, h1, h2, h3, h4, Or.inl ⟨rfl, rfl, rfl, fun c hc => (hl c hc).2⟩, fun c hc => ⟨(hl c hc).1, fun q => (hl c hc).2 (Int32.lt_trans (by decide) q)⟩, hn⟩
theorem own_latsub {cs : List Int32} (h : Lat cs) (b e : Nat) : Lat ((cs.drop b).take (e - b)) := fun c hc => h c (List.mem_of_mem_drop (List.mem_of_mem_take hc))
theorem own_sublen {cs : List Int32} {b e : Nat} (hb : b ≤ e) (he : e ≤ cs.length) : ((cs.drop b).take (e - b)).length = e - b := by rw [List.length_take, List.length_drop]; omega
theorem own_us {cs : List Int32} {b e : Nat} (hb : b ≤ e) (he : e ≤ cs.length) : lows ((cs.drop b).take (e - b)) = (List.range (e - b)).map fun i => (lows cs).getD (b + i) (.int 0) := by
  apply List.ext_getElem?
  intro i
  simp only [lows, List.getElem?_map, List.getElem?_take, List.getElem?_drop, List.getElem?_range]
  by_cases hi : i < e - b
  · have h1 : b + i < cs.length := by omega
    simp [hi, h1, List.getD_eq_getElem?_getD]
  · simp [hi]
theorem own_fr1 {n0 : Nat} {a : Addr} {i : Nat} (q : n0 ≤ a) : Fr n0 [⟨a, i⟩] := fun y hy => by cases List.mem_singleton.mp hy; exact q
def f_min (a : Int32) (b : Int32) : Int32 := (if b < a then b else a)
theorem d32_0 : decode jdk_29_method_69_code 0 = .ok (.iload_n 0, 1) := by decide +kernel
theorem d32_1 : decode jdk_29_method_69_code 1 = .ok (.iload_n 1, 1) := by decide +kernel
theorem d32_2 : decode jdk_29_method_69_code 2 = .ok (.if_icmp .gt 7, 3) := by decide +kernel
theorem d32_5 : decode jdk_29_method_69_code 5 = .ok (.iload_n 0, 1) := by decide +kernel
theorem d32_6 : decode jdk_29_method_69_code 6 = .ok (.goto 4, 3) := by decide +kernel
theorem d32_9 : decode jdk_29_method_69_code 9 = .ok (.iload_n 1, 1) := by decide +kernel
theorem d32_10 : decode jdk_29_method_69_code 10 = .ok (.ireturn, 1) := by decide +kernel
theorem pn_6 : plainFor (⟨"java/lang/Math", "min", "(II)I"⟩ : MethodName) = true := by first | exact plainFor_of_name (by first | (simp [plainName, overriddenIn]; done) | decide +kernel) | decide +kernel
theorem ef_II_2 (m : MethodId) (y0 : Int32) (y1 : Int32) : entryFrame m #[(.int y0), (.int y1)] 2 = mkF m 0 #[.val (.int y0), .val (.int y1)] [] := by first | (simp [entryFrame, mkF, argsToLocals, Value.category]; done) | rfl
set_option maxRecDepth 65536 in
set_option maxHeartbeats 40000000 in
theorem met_min (l : Launch) (Z : State) (a0 : Array Value) (hw : ∀ d ∈ tables_1, d.before a0 Z = true) (ws : List Jvm.Cond) (a : Int32) (b : Int32) (h0 : Heap)  :
    MetFree l (⟨"java/lang/Math", "min", "(II)I"⟩ : MethodName) (head1 (Jvm.Cond.code (⟨"java/lang/Math", "min", "(II)I"⟩ : MethodName) jdk_29_method_69_code 2 (some .int) :: ws) ({ frames := 0, cells := 0, slots := 0, locals := 0 } : Room)) (fun aa U => aa = #[(.int a), (.int b)] ∧ Z.Warmed39 U.vm ∧ U.heap = h0) (fun _ _ _ _ _ => True) (fun _ U o U' => ∃ v L, o = .returned v ∧ QV (.int (f_min a b)) h0 v U'.heap L ∧ FrameEnd U o U' L ({ frames := 0, cells := 0, slots := 0, locals := 0 } : Room).cells ({ frames := 0, cells := 0, slots := 0, locals := 0 } : Room).slots) := by
  refine openP (y := (⟨"java/lang/Math", "min", "(II)I"⟩ : MethodName)) pn_6 ?_
  intro p e s m below meth c T hx hby hml hret hlk hnm hZ hown X hT
  refine Go.st (fun _ k => castTop (ef_II_2 m a b) k) ?_
  show Go p e below _ (T.setTop (mkF m 0 #[.val (.int a), .val (.int b)] []))
  refine Go.st (fun _ k => XS.iloadN X.here hx rfl (hb hby d32_0) rfl k) ?_
  show Go p e below _ (T.setTop (mkF m 1 #[.val (.int a), .val (.int b)] [(.int a)]))
  refine Go.st (fun _ k => XS.iloadN X.here hx rfl (hb hby d32_1) rfl k) ?_
  show Go p e below _ (T.setTop (mkF m 2 #[.val (.int a), .val (.int b)] [(.int b), (.int a)]))
  by_cases hc1 : b < a
  · refine Go.st (fun _ k => XS.icmpYes X.here hx rfl (pc0 := 2) (pc' := 9) rfl (hb hby d32_2) rfl (Jvm.Free.XT.ii_gt_t hc1) (by decide) (by decide) k) ?_
    show Go p e below _ (T.setTop (mkF m 9 #[.val (.int a), .val (.int b)] []))
    refine Go.st (fun _ k => XS.iloadN X.here hx rfl (hb hby d32_9) rfl k) ?_
    show Go p e below _ (T.setTop (mkF m 10 #[.val (.int a), .val (.int b)] [(.int b)]))
    refine Go.ret X hx hlk hT hret rfl (riI (by simp)) (hb hby d32_10) (by decide) (by decide) ?_
    exact ⟨congrArg (fun z => some (Value.int z)) (by rw [f_min, if_pos hc1]), rfl, rfl⟩
  · refine Go.st (fun _ k => XS.icmpNo X.here hx rfl (hb hby d32_2) rfl (Jvm.Free.XT.ii_gt_f hc1) k) ?_
    show Go p e below _ (T.setTop (mkF m 5 #[.val (.int a), .val (.int b)] []))
    refine Go.st (fun _ k => XS.iloadN X.here hx rfl (hb hby d32_5) rfl k) ?_
    show Go p e below _ (T.setTop (mkF m 6 #[.val (.int a), .val (.int b)] [(.int a)]))
    refine Go.st (fun _ k => XS.goto X.here hx rfl (pc0 := 6) (pc' := 10) rfl (hb hby d32_6) (by decide) (by decide) k) ?_
    show Go p e below _ (T.setTop (mkF m 10 #[.val (.int a), .val (.int b)] [(.int a)]))
    refine Go.ret X hx hlk hT hret rfl (riI (by simp)) (hb hby d32_10) (by decide) (by decide) ?_
    exact ⟨congrArg (fun z => some (Value.int z)) (by rw [f_min, if_neg hc1]), rfl, rfl⟩
theorem d31_0 : decode jdk_65_method_131_code 0 = .ok (.iload_n 1, 1) := by decide +kernel
theorem d31_1 : decode jdk_65_method_131_code 1 = .ok (.iload_n 0, 1) := by decide +kernel
theorem d31_2 : decode jdk_65_method_131_code 2 = .ok (.if_icmp .ge 35, 3) := by decide +kernel
theorem d31_37 : decode jdk_65_method_131_code 37 = .ok (.return_, 1) := by decide +kernel
theorem pn_7 : plainFor (⟨"java/util/Arrays", "checkLength", "(II)V"⟩ : MethodName) = true := by first | exact plainFor_of_name (by first | (simp [plainName, overriddenIn]; done) | decide +kernel) | decide +kernel
set_option maxRecDepth 65536 in
set_option maxHeartbeats 40000000 in
theorem met_chk (l : Launch) (Z : State) (a0 : Array Value) (hw : ∀ d ∈ tables_1, d.before a0 Z = true) (ws : List Jvm.Cond) (a b : Int32) (h0 : Heap) (h1 : ¬ (b < a)) :
    MetFree l (⟨"java/util/Arrays", "checkLength", "(II)V"⟩ : MethodName) (head1 (Jvm.Cond.code (⟨"java/util/Arrays", "checkLength", "(II)V"⟩ : MethodName) jdk_65_method_131_code 2 none :: ws) ({ frames := 0, cells := 0, slots := 0, locals := 0 } : Room)) (fun aa U => aa = #[(.int a), (.int b)] ∧ Z.Warmed39 U.vm ∧ U.heap = h0) (fun _ _ _ _ _ => True) (fun _ U o U' => ∃ v L, o = .returned v ∧ QU h0 v U'.heap L ∧ FrameEnd U o U' L ({ frames := 0, cells := 0, slots := 0, locals := 0 } : Room).cells ({ frames := 0, cells := 0, slots := 0, locals := 0 } : Room).slots) := by
  refine openP (y := (⟨"java/util/Arrays", "checkLength", "(II)V"⟩ : MethodName)) pn_7 ?_
  intro p e s m below meth c T hx hby hml hret hlk hnm hZ hown X hT
  refine Go.st (fun _ k => castTop (ef_II_2 m a b) k) ?_
  show Go p e below _ (T.setTop (mkF m 0 #[.val (.int a), .val (.int b)] []))
  refine Go.st (fun _ k => XS.iloadN X.here hx rfl (hb hby d31_0) rfl k) ?_
  show Go p e below _ (T.setTop (mkF m 1 #[.val (.int a), .val (.int b)] [(.int b)]))
  refine Go.st (fun _ k => XS.iloadN X.here hx rfl (hb hby d31_1) rfl k) ?_
  show Go p e below _ (T.setTop (mkF m 2 #[.val (.int a), .val (.int b)] [(.int a), (.int b)]))
  refine Go.st (fun _ k => XS.icmpYes X.here hx rfl (pc0 := 2) (pc' := 37) rfl (hb hby d31_2) rfl (Jvm.Free.XT.ii_ge_t (h1 : ¬ (b < a))) (by decide) (by decide) k) ?_
  show Go p e below _ (T.setTop (mkF m 37 #[.val (.int a), .val (.int b)] []))
  refine Go.retV X hx hlk hT hret (hb hby d31_37) (by decide) (by decide) ?_
  exact ⟨rfl, rfl, rfl⟩
theorem own_sub {n q : Nat} (h : q ≤ n) (hn : n < 2147483648) : Int32.ofNat n - Int32.ofNat q = Int32.ofNat (n - q) := by
  apply Int32.toInt_inj.mp
  rw [Jvm.Free.XT.sub32 (by rw [own_int hn, own_int (by omega)]; constructor <;> omega), own_int hn, own_int (by omega), own_int (by omega)]
  omega
theorem own_min {p q : Nat} (h : q ≤ p) (hp : p < 2147483648) : f_min (Int32.ofNat p) (Int32.ofNat q) = Int32.ofNat q := by
  rw [f_min]
  by_cases e : p = q
  · subst e; split <;> rfl
  · rw [if_pos ((own_lt (by omega) hp).mpr (by omega))]
theorem pd_5 : parseMethodDescriptor "(II)V" = some ⟨[.int, .int], none⟩ := by decide +kernel
theorem pd_6 : parseMethodDescriptor "(II)I" = some ⟨[.int, .int], (some .int)⟩ := by decide +kernel
def QCo (Z : State) (n0 : Nat) (ds : List Int32) (n : Nat) (h0 : Heap) (v : Option Value) (h : Heap) (L : List Loc) : Prop := ∃ (r : Addr) (kr : ClassId), v = some (.ref r) ∧ Fr n0 L ∧ h0.size ≤ r ∧ Ext h0 h ∧ Arv Z h r kr .byte (Int32.ofNat n) (lows ds) (.int 0)
theorem d30_0 : decode jdk_65_method_133_code 0 = .ok (.iload_n 1, 1) := by decide +kernel
theorem d30_1 : decode jdk_65_method_133_code 1 = .ok (.iload_n 2, 1) := by decide +kernel
theorem d30_2 : decode jdk_65_method_133_code 2 = .ok (.invokestatic 343, 3) := by decide +kernel
theorem d30_5 : decode jdk_65_method_133_code 5 = .ok (.iload_n 2, 1) := by decide +kernel
theorem d30_6 : decode jdk_65_method_133_code 6 = .ok (.iload_n 1, 1) := by decide +kernel
theorem d30_7 : decode jdk_65_method_133_code 7 = .ok (.isub, 1) := by decide +kernel
theorem d30_8 : decode jdk_65_method_133_code 8 = .ok (.istore_n 3, 1) := by decide +kernel
theorem d30_9 : decode jdk_65_method_133_code 9 = .ok (.iload_n 3, 1) := by decide +kernel
theorem d30_10 : decode jdk_65_method_133_code 10 = .ok (.newarray .byte, 2) := by decide +kernel
theorem d30_12 : decode jdk_65_method_133_code 12 = .ok (.astore 4, 2) := by decide +kernel
theorem d30_14 : decode jdk_65_method_133_code 14 = .ok (.aload_n 0, 1) := by decide +kernel
theorem d30_15 : decode jdk_65_method_133_code 15 = .ok (.iload_n 1, 1) := by decide +kernel
theorem d30_16 : decode jdk_65_method_133_code 16 = .ok (.aload 4, 2) := by decide +kernel
theorem d30_18 : decode jdk_65_method_133_code 18 = .ok (.iconst 0, 1) := by decide +kernel
theorem d30_19 : decode jdk_65_method_133_code 19 = .ok (.aload_n 0, 1) := by decide +kernel
theorem d30_20 : decode jdk_65_method_133_code 20 = .ok (.arraylength, 1) := by decide +kernel
theorem d30_21 : decode jdk_65_method_133_code 21 = .ok (.iload_n 1, 1) := by decide +kernel
theorem d30_22 : decode jdk_65_method_133_code 22 = .ok (.isub, 1) := by decide +kernel
theorem d30_23 : decode jdk_65_method_133_code 23 = .ok (.iload_n 3, 1) := by decide +kernel
theorem d30_24 : decode jdk_65_method_133_code 24 = .ok (.invokestatic 304, 3) := by decide +kernel
theorem d30_27 : decode jdk_65_method_133_code 27 = .ok (.invokestatic 150, 3) := by decide +kernel
theorem d30_30 : decode jdk_65_method_133_code 30 = .ok (.aload 4, 2) := by decide +kernel
theorem d30_32 : decode jdk_65_method_133_code 32 = .ok (.areturn, 1) := by decide +kernel
theorem pn_8 : plainFor (⟨"java/util/Arrays", "copyOfRangeByte", "([BII)[B"⟩ : MethodName) = true := by first | exact plainFor_of_name (by first | (simp [plainName, overriddenIn]; done) | decide +kernel) | decide +kernel
theorem ef_AII_5 (m : MethodId) (y0 : Addr) (y1 : Int32) (y2 : Int32) : entryFrame m #[(.ref y0), (.int y1), (.int y2)] 5 = mkF m 0 #[.val (.ref y0), .val (.int y1), .val (.int y2), .unset, .unset] [] := by first | (simp [entryFrame, mkF, argsToLocals, Value.category]; done) | rfl
set_option maxRecDepth 65536 in
set_option maxHeartbeats 40000000 in
theorem met_corb (l : Launch) (Z : State) (a0 : Array Value) (hw : ∀ d ∈ tables_1, d.before a0 Z = true) (ws : List Jvm.Cond) (n0 : Nat) (a : Addr) (ka : ClassId) (cs : List Int32) (b e1 : Nat) (h0 : Heap) (O : Old Z n0 h0) (V_a : Arv Z h0 a ka .byte (Int32.ofNat cs.length) (lows cs) (.int 0)) (hbe : b ≤ e1) (he : e1 ≤ cs.length) (hn : cs.length ≤ 16) :
    MetFree l (⟨"java/util/Arrays", "copyOfRangeByte", "([BII)[B"⟩ : MethodName) (head1 (Jvm.Cond.code (⟨"java/util/Arrays", "copyOfRangeByte", "([BII)[B"⟩ : MethodName) jdk_65_method_133_code 5 (some (.array .byte)) :: ws) ({ frames := 1, cells := 1, slots := 16, locals := 60 } : Room)) (fun aa U => aa = #[(.ref a), (.int (Int32.ofNat b)), (.int (Int32.ofNat e1))] ∧ Z.Warmed39 U.vm ∧ U.heap = h0) (fun _ _ _ _ _ => True) (fun _ U o U' => ∃ v L, o = .returned v ∧ QCo Z n0 ((cs.drop b).take (e1 - b)) (e1 - b) h0 v U'.heap L ∧ FrameEnd U o U' L ({ frames := 1, cells := 1, slots := 16, locals := 60 } : Room).cells ({ frames := 1, cells := 1, slots := 16, locals := 60 } : Room).slots) := by
  refine openP (y := (⟨"java/util/Arrays", "copyOfRangeByte", "([BII)[B"⟩ : MethodName)) pn_8 ?_
  intro p e s m below meth c T hx hby hml hret hlk hnm hZ hown X hT
  refine Go.st (fun _ k => castTop (ef_AII_5 m a (Int32.ofNat b) (Int32.ofNat e1)) k) ?_
  show Go p e below _ (T.setTop (mkF m 0 #[.val (.ref a), .val (.int (Int32.ofNat b)), .val (.int (Int32.ofNat e1)), .unset, .unset] []))
  have lt_a := V_a.lt
  refine Go.st (fun _ k => XS.iloadN X.here hx rfl (hb hby d30_0) rfl k) ?_
  show Go p e below _ (T.setTop (mkF m 1 #[.val (.ref a), .val (.int (Int32.ofNat b)), .val (.int (Int32.ofNat e1)), .unset, .unset] [(.int (Int32.ofNat b))]))
  refine Go.st (fun _ k => XS.iloadN X.here hx rfl (hb hby d30_1) rfl k) ?_
  show Go p e below _ (T.setTop (mkF m 2 #[.val (.ref a), .val (.int (Int32.ofNat b)), .val (.int (Int32.ofNat e1)), .unset, .unset] [(.int (Int32.ofNat e1)), (.int (Int32.ofNat b))]))
  refine Go.callP (argsL := [(.int (Int32.ofNat b)), (.int (Int32.ofNat e1))]) (rest := []) (W := 0) (ck := 0) (sk := 0) X hx hZ hown (hml.trans rfl) hT (hw _ (List.mem_of_getElem? (i := 165) rfl)) (hw _ (List.mem_of_getElem? (i := 166) rfl)) (hw _ (List.mem_of_getElem? (i := 160) rfl)) (hw _ (List.mem_of_getElem? (i := 167) rfl)) (by decide) pd_5 rfl rfl (Nat.le_of_ble_eq_true rfl) (hb hby d30_2) (backOf (W := 0) (met_chk l Z a0 hw [] (Int32.ofNat b) (Int32.ofNat e1) _ (fun q => absurd ((own_lt (by omega) (by omega)).mp q) (by omega))) hZ (hw _ (List.mem_of_getElem? (i := 167) rfl)) (hw _ (List.mem_of_getElem? (i := 160) rfl)) (by decide) (by decide)) (by decide) (by decide) ?_
  intro v T hq L hT hQ X
  obtain ⟨rfl, rfl, hq0⟩ := hQ
  rw [hq0] at hT
  rw [List.append_nil] at X
  show Go p e below _ (T.setTop (mkF m 5 #[.val (.ref a), .val (.int (Int32.ofNat b)), .val (.int (Int32.ofNat e1)), .unset, .unset] []))
  refine Go.st (fun _ k => XS.iloadN X.here hx rfl (hb hby d30_5) rfl k) ?_
  show Go p e below _ (T.setTop (mkF m 6 #[.val (.ref a), .val (.int (Int32.ofNat b)), .val (.int (Int32.ofNat e1)), .unset, .unset] [(.int (Int32.ofNat e1))]))
  refine Go.st (fun _ k => XS.iloadN X.here hx rfl (hb hby d30_6) rfl k) ?_
  show Go p e below _ (T.setTop (mkF m 7 #[.val (.ref a), .val (.int (Int32.ofNat b)), .val (.int (Int32.ofNat e1)), .unset, .unset] [(.int (Int32.ofNat b)), (.int (Int32.ofNat e1))]))
  refine Go.st (fun _ k => XS.isub X.here hx rfl (hb hby d30_7) rfl k) ?_
  show Go p e below _ (T.setTop (mkF m 8 #[.val (.ref a), .val (.int (Int32.ofNat b)), .val (.int (Int32.ofNat e1)), .unset, .unset] [(.int ((Int32.ofNat e1) - (Int32.ofNat b)))]))
  rw [own_sub (by omega) (by omega)]
  show Go p e below _ (T.setTop (mkF m 8 #[.val (.ref a), .val (.int (Int32.ofNat b)), .val (.int (Int32.ofNat e1)), .unset, .unset] [(.int (Int32.ofNat (e1 - b)))]))
  refine Go.st (fun _ k => XS.istoreN X.here hx rfl (hb hby d30_8) rfl (l' := #[.val (.ref a), .val (.int (Int32.ofNat b)), .val (.int (Int32.ofNat e1)), .val (.int (Int32.ofNat (e1 - b))), .unset]) rfl k) ?_
  show Go p e below _ (T.setTop (mkF m 9 #[.val (.ref a), .val (.int (Int32.ofNat b)), .val (.int (Int32.ofNat e1)), .val (.int (Int32.ofNat (e1 - b))), .unset] []))
  refine Go.st (fun _ k => XS.iloadN X.here hx rfl (hb hby d30_9) rfl k) ?_
  show Go p e below _ (T.setTop (mkF m 10 #[.val (.ref a), .val (.int (Int32.ofNat b)), .val (.int (Int32.ofNat e1)), .val (.int (Int32.ofNat (e1 - b))), .unset] [(.int (Int32.ofNat (e1 - b)))]))
  refine Go.newA (n := e1 - b) (cap := 16) X hx hZ hT (hw _ (List.mem_of_getElem? (i := 27) rfl)) (hb hby d30_10) (by omega) (by omega) (by decide) (by decide) (by decide) ?_
  intro r T h1 kr g_r hT Ex0 V_r X
  have V_a := V_a.ext Ex0
  have ne_ar : a ≠ r := Nat.ne_of_lt (by rw [g_r]; exact lt_a)
  have ge_r : n0 ≤ r := Nat.le_trans (own_le O) (Nat.le_of_eq g_r.symm)
  have gk_r : h0.size ≤ r := Nat.le_of_eq g_r.symm
  have KB := extK Ex0
  show Go p e below _ (T.setTop (mkF m 12 #[.val (.ref a), .val (.int (Int32.ofNat b)), .val (.int (Int32.ofNat e1)), .val (.int (Int32.ofNat (e1 - b))), .unset] [(.ref r)]))
  refine Go.st (fun _ k => XS.astore X.here hx rfl (hb hby d30_12) rfl rfl (l' := #[.val (.ref a), .val (.int (Int32.ofNat b)), .val (.int (Int32.ofNat e1)), .val (.int (Int32.ofNat (e1 - b))), .val (.ref r)]) rfl k) ?_
  show Go p e below _ (T.setTop (mkF m 14 #[.val (.ref a), .val (.int (Int32.ofNat b)), .val (.int (Int32.ofNat e1)), .val (.int (Int32.ofNat (e1 - b))), .val (.ref r)] []))
  refine Go.st (fun _ k => XS.aloadN X.here hx rfl (hb hby d30_14) rfl rfl k) ?_
  show Go p e below _ (T.setTop (mkF m 15 #[.val (.ref a), .val (.int (Int32.ofNat b)), .val (.int (Int32.ofNat e1)), .val (.int (Int32.ofNat (e1 - b))), .val (.ref r)] [(.ref a)]))
  refine Go.st (fun _ k => XS.iloadN X.here hx rfl (hb hby d30_15) rfl k) ?_
  show Go p e below _ (T.setTop (mkF m 16 #[.val (.ref a), .val (.int (Int32.ofNat b)), .val (.int (Int32.ofNat e1)), .val (.int (Int32.ofNat (e1 - b))), .val (.ref r)] [(.int (Int32.ofNat b)), (.ref a)]))
  refine Go.st (fun _ k => XS.aload X.here hx rfl (hb hby d30_16) rfl rfl k) ?_
  show Go p e below _ (T.setTop (mkF m 18 #[.val (.ref a), .val (.int (Int32.ofNat b)), .val (.int (Int32.ofNat e1)), .val (.int (Int32.ofNat (e1 - b))), .val (.ref r)] [(.ref r), (.int (Int32.ofNat b)), (.ref a)]))
  refine Go.st (fun _ k => XS.iconst X.here hx rfl (hb hby d30_18) k) ?_
  show Go p e below _ (T.setTop (mkF m 19 #[.val (.ref a), .val (.int (Int32.ofNat b)), .val (.int (Int32.ofNat e1)), .val (.int (Int32.ofNat (e1 - b))), .val (.ref r)] [(.int (0 : Int32)), (.ref r), (.int (Int32.ofNat b)), (.ref a)]))
  refine Go.st (fun _ k => XS.aloadN X.here hx rfl (hb hby d30_19) rfl rfl k) ?_
  show Go p e below _ (T.setTop (mkF m 20 #[.val (.ref a), .val (.int (Int32.ofNat b)), .val (.int (Int32.ofNat e1)), .val (.int (Int32.ofNat (e1 - b))), .val (.ref r)] [(.ref a), (.int (0 : Int32)), (.ref r), (.int (Int32.ofNat b)), (.ref a)]))
  refine Go.alen X hx hZ hT V_a (hb hby d30_20) ?_
  show Go p e below _ (T.setTop (mkF m 21 #[.val (.ref a), .val (.int (Int32.ofNat b)), .val (.int (Int32.ofNat e1)), .val (.int (Int32.ofNat (e1 - b))), .val (.ref r)] [(.int (Int32.ofNat cs.length)), (.int (0 : Int32)), (.ref r), (.int (Int32.ofNat b)), (.ref a)]))
  refine Go.st (fun _ k => XS.iloadN X.here hx rfl (hb hby d30_21) rfl k) ?_
  show Go p e below _ (T.setTop (mkF m 22 #[.val (.ref a), .val (.int (Int32.ofNat b)), .val (.int (Int32.ofNat e1)), .val (.int (Int32.ofNat (e1 - b))), .val (.ref r)] [(.int (Int32.ofNat b)), (.int (Int32.ofNat cs.length)), (.int (0 : Int32)), (.ref r), (.int (Int32.ofNat b)), (.ref a)]))
  refine Go.st (fun _ k => XS.isub X.here hx rfl (hb hby d30_22) rfl k) ?_
  show Go p e below _ (T.setTop (mkF m 23 #[.val (.ref a), .val (.int (Int32.ofNat b)), .val (.int (Int32.ofNat e1)), .val (.int (Int32.ofNat (e1 - b))), .val (.ref r)] [(.int ((Int32.ofNat cs.length) - (Int32.ofNat b))), (.int (0 : Int32)), (.ref r), (.int (Int32.ofNat b)), (.ref a)]))
  rw [own_sub (by omega) (by omega)]
  show Go p e below _ (T.setTop (mkF m 23 #[.val (.ref a), .val (.int (Int32.ofNat b)), .val (.int (Int32.ofNat e1)), .val (.int (Int32.ofNat (e1 - b))), .val (.ref r)] [(.int (Int32.ofNat (cs.length - b))), (.int (0 : Int32)), (.ref r), (.int (Int32.ofNat b)), (.ref a)]))
  refine Go.st (fun _ k => XS.iloadN X.here hx rfl (hb hby d30_23) rfl k) ?_
  show Go p e below _ (T.setTop (mkF m 24 #[.val (.ref a), .val (.int (Int32.ofNat b)), .val (.int (Int32.ofNat e1)), .val (.int (Int32.ofNat (e1 - b))), .val (.ref r)] [(.int (Int32.ofNat (e1 - b))), (.int (Int32.ofNat (cs.length - b))), (.int (0 : Int32)), (.ref r), (.int (Int32.ofNat b)), (.ref a)]))
  refine Go.callV (argsL := [(.int (Int32.ofNat (cs.length - b))), (.int (Int32.ofNat (e1 - b)))]) (rest := [(.int (0 : Int32)), (.ref r), (.int (Int32.ofNat b)), (.ref a)]) (W := 4) X hx hZ hown (hml.trans rfl) hT (hw _ (List.mem_of_getElem? (i := 168) rfl)) (hw _ (List.mem_of_getElem? (i := 169) rfl)) (hw _ (List.mem_of_getElem? (i := 170) rfl)) (hw _ (List.mem_of_getElem? (i := 171) rfl)) (by decide) pd_6 rfl rfl (Nat.le_of_ble_eq_true rfl) (hb hby d30_24) (backOf (W := 4) (met_min l Z a0 hw [] (Int32.ofNat (cs.length - b)) (Int32.ofNat (e1 - b)) _) hZ (hw _ (List.mem_of_getElem? (i := 171) rfl)) (hw _ (List.mem_of_getElem? (i := 170) rfl)) (by decide) (by decide)) (by decide) (by decide) ?_
  intro T hT X
  show Go p e below _ (T.setTop (mkF m 27 #[.val (.ref a), .val (.int (Int32.ofNat b)), .val (.int (Int32.ofNat e1)), .val (.int (Int32.ofNat (e1 - b))), .val (.ref r)] [(.int (f_min (Int32.ofNat (cs.length - b)) (Int32.ofNat (e1 - b)))), (.int (0 : Int32)), (.ref r), (.int (Int32.ofNat b)), (.ref a)]))
  rw [own_min (by omega) (by omega)]
  show Go p e below _ (T.setTop (mkF m 27 #[.val (.ref a), .val (.int (Int32.ofNat b)), .val (.int (Int32.ofNat e1)), .val (.int (Int32.ofNat (e1 - b))), .val (.ref r)] [(.int (Int32.ofNat (e1 - b))), (.int (0 : Int32)), (.ref r), (.int (Int32.ofNat b)), (.ref a)]))
  have V_r : Arv Z _ r kr .byte (Int32.ofNat (e1 - b)) (List.replicate (e1 - b) (.int (0 : Int32))) (.int 0) := V_r.pad (pad_rep [] (.int (0 : Int32)) (e1 - b))
  obtain ⟨T, h2, L, X, hT, N, K0, V_r, st⟩ := cpA X hx hZ hown (hw _ (List.mem_of_getElem? (i := 172) rfl)) (hw _ (List.mem_of_getElem? (i := 131) rfl)) (hw _ (List.mem_of_getElem? (i := 129) rfl)) (hw _ (List.mem_of_getElem? (i := 130) rfl)) hT (sp := Int32.ofNat b) (dp := (0 : Int32)) (nn := Int32.ofNat (e1 - b)) (us := lows ((cs.drop b).take (e1 - b))) V_a V_r (Or.inl ⟨rfl, rfl⟩) (own_nn (by omega)) (by decide) (own_nn (by omega)) (by rw [own_clamp (by omega), own_clamp (by omega), own_clamp (by omega)]; omega) (by rw [own_clamp (by omega)]; show 0 + _ ≤ _; omega) (by rw [own_clamp (by omega), own_clamp (by omega)]; exact own_us (by omega) he) (by rw [own_clamp (by omega), List.length_replicate]; show 0 + _ ≤ _; omega) (Fr.nil n0) ge_r (g := (mkF m 27 #[.val (.ref a), .val (.int (Int32.ofNat b)), .val (.int (Int32.ofNat e1)), .val (.int (Int32.ofNat (e1 - b))), .val (.ref r)] [(.int (Int32.ofNat (e1 - b))), (.int (0 : Int32)), (.ref r), (.int (Int32.ofNat b)), (.ref a)])) rfl (by rw [hml]; rfl) rfl (hb hby d30_27) (by decide) (W := 0) (by show 2 * 0 + _ ≤ _; exact Nat.le_of_ble_eq_true rfl) (by decide)
  refine Go.st st ?_
  have KB := KB.trans K0 (allS (Or.inr gk_r) all0)
  show Go p e below _ (T.setTop (mkF m 30 #[.val (.ref a), .val (.int (Int32.ofNat b)), .val (.int (Int32.ofNat e1)), .val (.int (Int32.ofNat (e1 - b))), .val (.ref r)] []))
  refine Go.st (fun _ k => XS.aload X.here hx rfl (hb hby d30_30) rfl rfl k) ?_
  show Go p e below _ (T.setTop (mkF m 32 #[.val (.ref a), .val (.int (Int32.ofNat b)), .val (.int (Int32.ofNat e1)), .val (.int (Int32.ofNat (e1 - b))), .val (.ref r)] [(.ref r)]))
  refine Go.ret X hx hlk hT hret rfl (riA rfl rfl) (hb hby d30_32) (by decide) (by decide) ?_
  have e2 : (0 : Int32).toNatClampNeg = 0 := by decide
  have e3 : (List.replicate (e1 - b) (Value.int (0 : Int32))).drop (e1 - b) = [] := by simp
  rw [e2, own_clamp (by omega), List.take_zero, Nat.zero_add, e3, List.nil_append, List.append_nil] at V_r
  exact ⟨r, kr, rfl, N, gk_r, keepE KB, V_r⟩
theorem pd_7 : parseMethodDescriptor "([BII)[B" = some ⟨[(.array .byte), .int, .int], (some (.array .byte))⟩ := by decide +kernel
theorem d29_0 : decode jdk_65_method_132_code 0 = .ok (.iload_n 1, 1) := by decide +kernel
theorem d29_1 : decode jdk_65_method_132_code 1 = .ok (.ifCond .ne 9, 3) := by decide +kernel
theorem d29_4 : decode jdk_65_method_132_code 4 = .ok (.iload_n 2, 1) := by decide +kernel
theorem d29_5 : decode jdk_65_method_132_code 5 = .ok (.aload_n 0, 1) := by decide +kernel
theorem d29_6 : decode jdk_65_method_132_code 6 = .ok (.arraylength, 1) := by decide +kernel
theorem d29_7 : decode jdk_65_method_132_code 7 = .ok (.if_icmp .eq 10, 3) := by decide +kernel
theorem d29_10 : decode jdk_65_method_132_code 10 = .ok (.aload_n 0, 1) := by decide +kernel
theorem d29_11 : decode jdk_65_method_132_code 11 = .ok (.iload_n 1, 1) := by decide +kernel
theorem d29_12 : decode jdk_65_method_132_code 12 = .ok (.iload_n 2, 1) := by decide +kernel
theorem d29_13 : decode jdk_65_method_132_code 13 = .ok (.invokestatic 339, 3) := by decide +kernel
theorem d29_16 : decode jdk_65_method_132_code 16 = .ok (.areturn, 1) := by decide +kernel
theorem pn_9 : plainFor (⟨"java/util/Arrays", "copyOfRange", "([BII)[B"⟩ : MethodName) = true := by first | exact plainFor_of_name (by first | (simp [plainName, overriddenIn]; done) | decide +kernel) | decide +kernel
theorem ef_AII_3 (m : MethodId) (y0 : Addr) (y1 : Int32) (y2 : Int32) : entryFrame m #[(.ref y0), (.int y1), (.int y2)] 3 = mkF m 0 #[.val (.ref y0), .val (.int y1), .val (.int y2)] [] := by first | (simp [entryFrame, mkF, argsToLocals, Value.category]; done) | rfl
set_option maxRecDepth 65536 in
set_option maxHeartbeats 40000000 in
theorem met_cor (l : Launch) (Z : State) (a0 : Array Value) (hw : ∀ d ∈ tables_1, d.before a0 Z = true) (ws : List Jvm.Cond) (n0 : Nat) (a : Addr) (ka : ClassId) (cs : List Int32) (b e1 : Nat) (h0 : Heap) (O : Old Z n0 h0) (V_a : Arv Z h0 a ka .byte (Int32.ofNat cs.length) (lows cs) (.int 0)) (hbe : b ≤ e1) (he : e1 ≤ cs.length) (hn : cs.length ≤ 16) (hne : ¬ (b = 0 ∧ e1 = cs.length)) :
    MetFree l (⟨"java/util/Arrays", "copyOfRange", "([BII)[B"⟩ : MethodName) (head1 (Jvm.Cond.code (⟨"java/util/Arrays", "copyOfRange", "([BII)[B"⟩ : MethodName) jdk_65_method_132_code 3 (some (.array .byte)) :: ws) ({ frames := 2, cells := 1, slots := 16, locals := 76 } : Room)) (fun aa U => aa = #[(.ref a), (.int (Int32.ofNat b)), (.int (Int32.ofNat e1))] ∧ Z.Warmed39 U.vm ∧ U.heap = h0) (fun _ _ _ _ _ => True) (fun _ U o U' => ∃ v L, o = .returned v ∧ QCo Z n0 ((cs.drop b).take (e1 - b)) (e1 - b) h0 v U'.heap L ∧ FrameEnd U o U' L ({ frames := 2, cells := 1, slots := 16, locals := 76 } : Room).cells ({ frames := 2, cells := 1, slots := 16, locals := 76 } : Room).slots) := by
  refine openP (y := (⟨"java/util/Arrays", "copyOfRange", "([BII)[B"⟩ : MethodName)) pn_9 ?_
  intro p e s m below meth c T hx hby hml hret hlk hnm hZ hown X hT
  refine Go.st (fun _ k => castTop (ef_AII_3 m a (Int32.ofNat b) (Int32.ofNat e1)) k) ?_
  show Go p e below _ (T.setTop (mkF m 0 #[.val (.ref a), .val (.int (Int32.ofNat b)), .val (.int (Int32.ofNat e1))] []))
  refine Go.st (fun _ k => XS.iloadN X.here hx rfl (hb hby d29_0) rfl k) ?_
  show Go p e below _ (T.setTop (mkF m 1 #[.val (.ref a), .val (.int (Int32.ofNat b)), .val (.int (Int32.ofNat e1))] [(.int (Int32.ofNat b))]))
  by_cases hb0 : (Int32.ofNat b) = (0 : Int32)
  · refine Go.st (fun _ k => XS.ifNo X.here hx rfl (hb hby d29_1) rfl (Jvm.Free.XT.i0_ne_f hb0) k) ?_
    show Go p e below _ (T.setTop (mkF m 4 #[.val (.ref a), .val (.int (Int32.ofNat b)), .val (.int (Int32.ofNat e1))] []))
    refine Go.st (fun _ k => XS.iloadN X.here hx rfl (hb hby d29_4) rfl k) ?_
    show Go p e below _ (T.setTop (mkF m 5 #[.val (.ref a), .val (.int (Int32.ofNat b)), .val (.int (Int32.ofNat e1))] [(.int (Int32.ofNat e1))]))
    refine Go.st (fun _ k => XS.aloadN X.here hx rfl (hb hby d29_5) rfl rfl k) ?_
    show Go p e below _ (T.setTop (mkF m 6 #[.val (.ref a), .val (.int (Int32.ofNat b)), .val (.int (Int32.ofNat e1))] [(.ref a), (.int (Int32.ofNat e1))]))
    refine Go.alen X hx hZ hT V_a (hb hby d29_6) ?_
    show Go p e below _ (T.setTop (mkF m 7 #[.val (.ref a), .val (.int (Int32.ofNat b)), .val (.int (Int32.ofNat e1))] [(.int (Int32.ofNat cs.length)), (.int (Int32.ofNat e1))]))
    refine Go.st (fun _ k => XS.icmpNo X.here hx rfl (hb hby d29_7) rfl (Jvm.Free.XT.ii_eq_f (fun q => hne ⟨(own_eqN (b := 0) (by omega) (by omega)).mp hb0, (own_eqN (by omega) (by omega)).mp q⟩ : ¬ ((Int32.ofNat e1) = (Int32.ofNat cs.length)))) k) ?_
    show Go p e below _ (T.setTop (mkF m 10 #[.val (.ref a), .val (.int (Int32.ofNat b)), .val (.int (Int32.ofNat e1))] []))
    refine Go.st (fun _ k => XS.aloadN X.here hx rfl (hb hby d29_10) rfl rfl k) ?_
    show Go p e below _ (T.setTop (mkF m 11 #[.val (.ref a), .val (.int (Int32.ofNat b)), .val (.int (Int32.ofNat e1))] [(.ref a)]))
    refine Go.st (fun _ k => XS.iloadN X.here hx rfl (hb hby d29_11) rfl k) ?_
    show Go p e below _ (T.setTop (mkF m 12 #[.val (.ref a), .val (.int (Int32.ofNat b)), .val (.int (Int32.ofNat e1))] [(.int (Int32.ofNat b)), (.ref a)]))
    refine Go.st (fun _ k => XS.iloadN X.here hx rfl (hb hby d29_12) rfl k) ?_
    show Go p e below _ (T.setTop (mkF m 13 #[.val (.ref a), .val (.int (Int32.ofNat b)), .val (.int (Int32.ofNat e1))] [(.int (Int32.ofNat e1)), (.int (Int32.ofNat b)), (.ref a)]))
    refine Go.callP (argsL := [(.ref a), (.int (Int32.ofNat b)), (.int (Int32.ofNat e1))]) (rest := []) (W := 0) (ck := 1) (sk := 16) X hx hZ hown (hml.trans rfl) hT (hw _ (List.mem_of_getElem? (i := 162) rfl)) (hw _ (List.mem_of_getElem? (i := 163) rfl)) (hw _ (List.mem_of_getElem? (i := 160) rfl)) (hw _ (List.mem_of_getElem? (i := 164) rfl)) (by decide) pd_7 rfl rfl (Nat.le_of_ble_eq_true rfl) (hb hby d29_13) (backOf (W := 0) (met_corb l Z a0 hw [] n0 a ka cs b e1 _ O V_a hbe he hn) hZ (hw _ (List.mem_of_getElem? (i := 164) rfl)) (hw _ (List.mem_of_getElem? (i := 160) rfl)) (by decide) (by decide)) (by decide) (by decide) ?_
    intro v T h1 L hT hQ X
    obtain ⟨r, kr, rfl, N0, gk_r, Ex0, V_r⟩ := hQ
    show Go p e below _ (T.setTop (mkF m 16 #[.val (.ref a), .val (.int (Int32.ofNat b)), .val (.int (Int32.ofNat e1))] [(.ref r)]))
    refine Go.ret X hx hlk hT hret rfl (riA rfl rfl) (hb hby d29_16) (by decide) (by decide) ?_
    exact ⟨r, kr, rfl, N0, gk_r, Ex0, V_r⟩
  · refine Go.st (fun _ k => XS.ifYes X.here hx rfl (pc0 := 1) (pc' := 10) rfl (hb hby d29_1) rfl (Jvm.Free.XT.i0_ne_t hb0) (by decide) (by decide) k) ?_
    show Go p e below _ (T.setTop (mkF m 10 #[.val (.ref a), .val (.int (Int32.ofNat b)), .val (.int (Int32.ofNat e1))] []))
    refine Go.st (fun _ k => XS.aloadN X.here hx rfl (hb hby d29_10) rfl rfl k) ?_
    show Go p e below _ (T.setTop (mkF m 11 #[.val (.ref a), .val (.int (Int32.ofNat b)), .val (.int (Int32.ofNat e1))] [(.ref a)]))
    refine Go.st (fun _ k => XS.iloadN X.here hx rfl (hb hby d29_11) rfl k) ?_
    show Go p e below _ (T.setTop (mkF m 12 #[.val (.ref a), .val (.int (Int32.ofNat b)), .val (.int (Int32.ofNat e1))] [(.int (Int32.ofNat b)), (.ref a)]))
    refine Go.st (fun _ k => XS.iloadN X.here hx rfl (hb hby d29_12) rfl k) ?_
    show Go p e below _ (T.setTop (mkF m 13 #[.val (.ref a), .val (.int (Int32.ofNat b)), .val (.int (Int32.ofNat e1))] [(.int (Int32.ofNat e1)), (.int (Int32.ofNat b)), (.ref a)]))
    refine Go.callP (argsL := [(.ref a), (.int (Int32.ofNat b)), (.int (Int32.ofNat e1))]) (rest := []) (W := 0) (ck := 1) (sk := 16) X hx hZ hown (hml.trans rfl) hT (hw _ (List.mem_of_getElem? (i := 162) rfl)) (hw _ (List.mem_of_getElem? (i := 163) rfl)) (hw _ (List.mem_of_getElem? (i := 160) rfl)) (hw _ (List.mem_of_getElem? (i := 164) rfl)) (by decide) pd_7 rfl rfl (Nat.le_of_ble_eq_true rfl) (hb hby d29_13) (backOf (W := 0) (met_corb l Z a0 hw [] n0 a ka cs b e1 _ O V_a hbe he hn) hZ (hw _ (List.mem_of_getElem? (i := 164) rfl)) (hw _ (List.mem_of_getElem? (i := 160) rfl)) (by decide) (by decide)) (by decide) (by decide) ?_
    intro v T h2 L hT hQ X
    obtain ⟨r, kr, rfl, N0, gk_r, Ex0, V_r⟩ := hQ
    show Go p e below _ (T.setTop (mkF m 16 #[.val (.ref a), .val (.int (Int32.ofNat b)), .val (.int (Int32.ofNat e1))] [(.ref r)]))
    refine Go.ret X hx hlk hT hret rfl (riA rfl rfl) (hb hby d29_16) (by decide) (by decide) ?_
    exact ⟨r, kr, rfl, N0, gk_r, Ex0, V_r⟩
theorem own_addN (p q : Nat) : Int32.ofNat p + Int32.ofNat q = Int32.ofNat (p + q) := by rw [← Int32.ofNat_add]
section B
variable {p : Program} {l : Launch} {e : Env} {R : Room} {s : State} {m : MethodId} {args : Array Value} {below : List Frame} {meth : Method} {c : Code} {T : State} {locs : List Loc} {cells slots : Nat} {Φ : Outcome → State → Prop} {Z : State} {a0 : Array Value} {h : Heap} {Q : Option Value → Heap → List Loc → Prop}
  {own : String} {index W ck sk pc : Nat} {y : MethodName} {bytes : ByteArray} {maxL : Nat} {ret : Option FieldType} {Ls : Array Slot} {argsL rest st : List Value} {ps : List FieldType} {rr : Option FieldType} {a : Addr}
theorem own_decl (wi : (Cond.instanceMethod y).before a0 Z = true) (wc : (Cond.code y bytes maxL ret).before a0 Z = true) : (Cond.declares y).before a0 Z = true := by
  obtain ⟨mk, mM, hn, hm, hst, -⟩ := Cond.instanceMethod_spec wi
  obtain ⟨m2, cM, q1, -, -, -, -, -, -, hsig⟩ := Cond.code_spec hn wc
  cases hm.symm.trans q1
  simp [Cond.before, Cond.holds, Cond.value, hn, hm, hst, hsig]
theorem own_nf {K : String} {z : MethodName} (hsel : (Cond.selects K z z).before a0 s = true) (hc : z.cls = y.cls) : NotFace s y := fun r0 h0 => by
  obtain ⟨c2, r2, m2, q1, q2, q3, q4, kP, hkP, hkPi⟩ := Cond.selects_spec hsel
  have e1 := findClass_of_methodNamed q3
  have e2 := findClass_of_methodNamed h0
  rw [hc] at e1
  have e3 : m2.cls = r0.cls := Option.some.inj (e1.symm.trans e2)
  exact ⟨kP, e3 ▸ hkP, hkPi⟩
theorem own_sameM {K : String} {z : MethodName} (wi : (Cond.instanceMethod y).before a0 Z = true) (hsel : (Cond.selects K z z).before a0 Z = true) (hc : z.cls = y.cls) (hy : y.cls ≠ "java/lang/invoke/MethodHandle" ∧ y.cls ≠ "java/lang/invoke/VarHandle") : (Cond.sameMethod y.cls y.cls y.name y.desc).before a0 Z = true := by
  obtain ⟨mk, mM, hn, hm, hst, -⟩ := Cond.instanceMethod_spec wi
  have hf := State.methodFound?_of_named hn hy
  have hcl := findClass_of_methodNamed hn
  obtain ⟨kP, hkP, hkPi⟩ := own_nf hsel hc mk hn
  have hn' : Z.methodNamed? ⟨y.cls, y.name, y.desc⟩ = some mk := hn
  simp [Cond.before, Cond.holds, Cond.value, hcl, hf, hn', hkP, hkPi]
theorem Go.superP {K : String} (X : Stand p l e R s m args below meth c T locs cells slots) (hx : p.tables.exec = Jvm.exec) (hZ : Z.Warmed39 s.vm) (hown : s.vm.findClass own = some m.cls) (hml : c.maxLocals = Ls.size) (hT : T.heap = h) (E : Exa Z h a K)
    (w1 : (Cond.methodLink own index y).before a0 Z = true) (w2 : (Cond.sameMethod y.cls y.cls y.name y.desc).before a0 Z = true) (w3 : (Cond.instanceMethod y).before a0 Z = true) (w4 : (Cond.superclass own y.cls).before a0 Z = true) (hn : y.name ≠ "<init>") (wc : (Cond.code y bytes maxL ret).before a0 Z = true)
    (hpd : parseMethodDescriptor y.desc = some ⟨ps, rr⟩) (hlen : argsL.length = ps.length) (hst : st = argsL.reverse ++ .ref a :: rest) (hW : (rest.map fun v => v.category).sum ≤ W) (hd : decode c.code pc = .ok (.invokespecial index, 3))
    (hB : PB l R p e below s args y W (.ref a :: argsL).toArray h ck sk Q) (hc : cells + ck ≤ R.cells) (hs : slots + sk ≤ R.slots)
    (k : ∀ (v : Option Value) (T' : State) (h' : Heap) (L : List Loc), T'.heap = h' → Q v h' L → Stand p l e R s m args below meth c T' (locs ++ L) (cells + ck) (slots + sk) → Go p e below Φ (T'.setTop (mkF m (pc + 3) Ls (v.toList ++ rest)))) :
    Go p e below Φ (T.setTop (mkF m pc Ls st)) := by
  subst hst
  obtain ⟨v, vm₁, ⟨T', L', k', n'⟩, -, X', ⟨L, hQ, l', y', z'⟩, st⟩ := superBack X hx hZ hown w1 w2 w3 w4 hn hB hT (Ins.self E) (g := mkF m pc Ls (argsL.reverse ++ .ref a :: rest)) rfl hml.symm wc (argsL := argsL) (rest := rest) (lenOf hpd hlen) rfl (by show 2 * 0 + _ ≤ _; omega) hd (fun _ _ => ⟨rfl, hT, hc, hs⟩)
  dsimp only [Pt.U, Pt.locs, Pt.cells, Pt.slots] at X' l' y' z' st hQ
  subst l' y' z'
  exact Go.tr st (k v T' _ L rfl hQ X')
end B
/-- a builder of the chars cs, its array of 16 -/
def SB (Z : State) (h : Heap) (x tv : Addr) (kt : ClassId) (cs : List Int32) : Prop := Exa Z h x "java/lang/StringBuilder" ∧ Fld Z h x "java/lang/AbstractStringBuilder" "value" "[B" (.ref tv) ∧ Fld Z h x "java/lang/AbstractStringBuilder" "coder" "B" (.int (0 : Int32)) ∧ Fld Z h x "java/lang/AbstractStringBuilder" "count" "I" (.int (Int32.ofNat cs.length)) ∧ Arv Z h tv kt .byte (16 : Int32) (lows cs) (.int 0)
theorem SB.ext {Z : State} {h h' : Heap} {x tv : Addr} {kt : ClassId} {cs : List Int32} (S : SB Z h x tv kt cs) (E : Ext h h') : SB Z h' x tv kt cs := ⟨S.1.ext E, S.2.1.ext E, S.2.2.1.ext E, S.2.2.2.1.ext E, S.2.2.2.2.ext E⟩
theorem own_sub16 {k : Nat} (h : k ≤ 16) : ¬ (0 : Int32) < Int32.ofNat k - (16 : Int32) := by
  have q : ∀ k : Fin 17, ¬ (0 : Int32) < Int32.ofNat k.val - (16 : Int32) := by decide
  exact q ⟨k, by omega⟩
theorem own_shl0 {k : Nat} (h : k ≤ 16) : Int32.ofNat k <<< ((0 : Int32) &&& 31) = Int32.ofNat k := by
  have q : ∀ k : Fin 17, Int32.ofNat k.val <<< ((0 : Int32) &&& 31) = Int32.ofNat k.val := by decide
  exact q ⟨k, by omega⟩
theorem own_bb (y : Int32) : (y.toInt8.toInt32).toInt8.toInt32 = y.toInt8.toInt32 := by simp
theorem own_setl (cs : List Int32) (ch : Int32) : (lows cs ++ [Value.int (0 : Int32)]).set cs.length (Value.int ((ch.toInt8.toInt32).toInt8.toInt32)) = lows (cs ++ [ch]) := by
  rw [own_bb]
  simp [StrChars.lo8]
theorem own_padg (vs : List Value) (n : Nat) (d : Value) : ∀ i, (vs ++ List.replicate n d).getD i d = vs.getD i d := fun i => by
  simp only [List.getD_eq_getElem?_getD, List.getElem?_append, List.getElem?_replicate]
  split
  · rfl
  · rename_i hq
    rw [List.getElem?_eq_none (by omega)]
    split <;> rfl
def QNb (Z : State) (x : Addr) (n0 : Nat) (h0 : Heap) (v : Option Value) (h : Heap) (L : List Loc) : Prop := ∃ tv kt, v = none ∧ Fr n0 L ∧ Keep h0 h [x] ∧ h0.size ≤ tv ∧ SB Z h x tv kt []
theorem d10_0 : decode jdk_68_method_2_code 0 = .ok (.aload_n 0, 1) := by decide +kernel
theorem d10_1 : decode jdk_68_method_2_code 1 = .ok (.invokespecial 3, 3) := by decide +kernel
theorem d10_4 : decode jdk_68_method_2_code 4 = .ok (.getstatic 18, 3) := by decide +kernel
theorem d10_7 : decode jdk_68_method_2_code 7 = .ok (.ifCond .eq 18, 3) := by decide +kernel
theorem d10_10 : decode jdk_68_method_2_code 10 = .ok (.aload_n 0, 1) := by decide +kernel
theorem d10_11 : decode jdk_68_method_2_code 11 = .ok (.iload_n 1, 1) := by decide +kernel
theorem d10_12 : decode jdk_68_method_2_code 12 = .ok (.newarray .byte, 2) := by decide +kernel
theorem d10_14 : decode jdk_68_method_2_code 14 = .ok (.putfield 15, 3) := by decide +kernel
theorem d10_17 : decode jdk_68_method_2_code 17 = .ok (.aload_n 0, 1) := by decide +kernel
theorem d10_18 : decode jdk_68_method_2_code 18 = .ok (.iconst 0, 1) := by decide +kernel
theorem d10_19 : decode jdk_68_method_2_code 19 = .ok (.putfield 22, 3) := by decide +kernel
theorem d10_22 : decode jdk_68_method_2_code 22 = .ok (.goto 16, 3) := by decide +kernel
theorem d10_38 : decode jdk_68_method_2_code 38 = .ok (.return_, 1) := by decide +kernel
theorem pn_10 : plainFor (⟨"java/lang/AbstractStringBuilder", "<init>", "(I)V"⟩ : MethodName) = true := by first | exact plainFor_of_name (by first | (simp [plainName, overriddenIn]; done) | decide +kernel) | decide +kernel
theorem ef_AI_2 (m : MethodId) (y0 : Addr) (y1 : Int32) : entryFrame m #[(.ref y0), (.int y1)] 2 = mkF m 0 #[.val (.ref y0), .val (.int y1)] [] := by first | (simp [entryFrame, mkF, argsToLocals, Value.category]; done) | rfl
set_option maxRecDepth 65536 in
set_option maxHeartbeats 40000000 in
theorem met_abi (l : Launch) (Z : State) (a0 : Array Value) (hw : ∀ d ∈ tables_1, d.before a0 Z = true) (ws : List Jvm.Cond) (z : Int32) (n0 : Nat) (x : Addr) (h0 : Heap) (O : Old Z n0 h0) (Sc : Stat Z z) (ge_x : n0 ≤ x) (A_x : Exa Z h0 x "java/lang/StringBuilder") (F_x_value : Fld Z h0 x "java/lang/AbstractStringBuilder" "value" "[B"  .null) (F_x_coder : Fld Z h0 x "java/lang/AbstractStringBuilder" "coder" "B" (.int (0 : Int32))) (F_x_count : Fld Z h0 x "java/lang/AbstractStringBuilder" "count" "I"  (.int (0 : Int32))) :
    MetFree l (⟨"java/lang/AbstractStringBuilder", "<init>", "(I)V"⟩ : MethodName) (head1 (Jvm.Cond.code (⟨"java/lang/AbstractStringBuilder", "<init>", "(I)V"⟩ : MethodName) jdk_68_method_2_code 2 none :: ws) ({ frames := 1, cells := 1, slots := 16, locals := 12 } : Room)) (fun aa U => aa = #[(.ref x), (.int (16 : Int32))] ∧ Z.Warmed39 U.vm ∧ U.heap = h0) (fun _ _ _ _ _ => True) (fun _ U o U' => ∃ v L, o = .returned v ∧ QNb Z x n0 h0 v U'.heap L ∧ FrameEnd U o U' L ({ frames := 1, cells := 1, slots := 16, locals := 12 } : Room).cells ({ frames := 1, cells := 1, slots := 16, locals := 12 } : Room).slots) := by
  refine openP (y := (⟨"java/lang/AbstractStringBuilder", "<init>", "(I)V"⟩ : MethodName)) pn_10 ?_
  intro p e s m below meth c T hx hby hml hret hlk hnm hZ hown X hT
  refine Go.st (fun _ k => castTop (ef_AI_2 m x (16 : Int32)) k) ?_
  show Go p e below _ (T.setTop (mkF m 0 #[.val (.ref x), .val (.int (16 : Int32))] []))
  have N := Fr.nil n0
  refine Go.st (fun _ k => XS.aloadN X.here hx rfl (hb hby d10_0) rfl rfl k) ?_
  show Go p e below _ (T.setTop (mkF m 1 #[.val (.ref x), .val (.int (16 : Int32))] [(.ref x)]))
  obtain ⟨T, X, hT, st⟩ := initO X hx hZ hown (hw _ (List.mem_of_getElem? (i := 56) rfl)) (hw _ (List.mem_of_getElem? (i := 20) rfl)) (hw _ (List.mem_of_getElem? (i := 21) rfl)) hT (g := (mkF m 1 #[.val (.ref x), .val (.int (16 : Int32))] [(.ref x)])) rfl (by rw [hml]; rfl) rfl (hb hby d10_1) (by decide) (W := 0) (by show 2 * 0 + _ ≤ _; exact Nat.le_of_ble_eq_true rfl) (by decide)
  refine Go.st st ?_
  show Go p e below _ (T.setTop (mkF m 4 #[.val (.ref x), .val (.int (16 : Int32))] []))
  obtain ⟨T, X, hT, st⟩ := getS2 X hx hZ hown (host := "") (Or.inl (hw _ (List.mem_of_getElem? (i := 57) rfl))) Via.refl hT (Sc.1.ext O.2) (g := (mkF m 4 #[.val (.ref x), .val (.int (16 : Int32))] [])) rfl (hb hby d10_4)
  refine Go.st st ?_
  show Go p e below _ (T.setTop (mkF m 7 #[.val (.ref x), .val (.int (16 : Int32))] [(.int z)]))
  refine Go.st (fun _ k => XS.ifNo X.here hx rfl (hb hby d10_7) rfl (Jvm.Free.XT.i0_eq_f (Sc.2 : ¬ (z = (0 : Int32)))) k) ?_
  show Go p e below _ (T.setTop (mkF m 10 #[.val (.ref x), .val (.int (16 : Int32))] []))
  refine Go.st (fun _ k => XS.aloadN X.here hx rfl (hb hby d10_10) rfl rfl k) ?_
  show Go p e below _ (T.setTop (mkF m 11 #[.val (.ref x), .val (.int (16 : Int32))] [(.ref x)]))
  refine Go.st (fun _ k => XS.iloadN X.here hx rfl (hb hby d10_11) rfl k) ?_
  show Go p e below _ (T.setTop (mkF m 12 #[.val (.ref x), .val (.int (16 : Int32))] [(.int (16 : Int32)), (.ref x)]))
  obtain ⟨T, h1, k_tv, X, hT, Ex0, A_tv, st⟩ := newP X hx hZ (hw _ (List.mem_of_getElem? (i := 27) rfl)) hT (g := (mkF m 12 #[.val (.ref x), .val (.int (16 : Int32))] [(.int (16 : Int32)), (.ref x)])) rfl (hb hby d10_12) rfl (by decide : ¬ ((16 : Int32) < (0 : Int32))) (cap := 16) (by decide) (by decide) (by decide) (by decide)
  obtain ⟨tv, g_tv⟩ : ∃ z, z = h0.size := ⟨_, rfl⟩
  rw [← g_tv] at A_tv st
  refine Go.st st ?_
  have ge_tv : n0 ≤ tv := Nat.le_trans (own_le O) (Nat.le_of_eq g_tv.symm)
  have gk_tv : h0.size ≤ tv := Nat.le_of_eq g_tv.symm
  have A_x := A_x.ext Ex0
  have F_x_value := F_x_value.ext Ex0
  have F_x_coder := F_x_coder.ext Ex0
  have F_x_count := F_x_count.ext Ex0
  have KB := (Keep.refl h0 [x]).ext Ex0
  have V_tv : Arv Z _ tv k_tv .byte (16 : Int32) [(.int (0 : Int32)), (.int (0 : Int32)), (.int (0 : Int32)), (.int (0 : Int32)), (.int (0 : Int32)), (.int (0 : Int32)), (.int (0 : Int32)), (.int (0 : Int32)), (.int (0 : Int32)), (.int (0 : Int32)), (.int (0 : Int32)), (.int (0 : Int32)), (.int (0 : Int32)), (.int (0 : Int32)), (.int (0 : Int32)), (.int (0 : Int32))] (.int (0 : Int32)) := (Arv.new A_tv (by decide)).pad (pad_rep [] (.int (0 : Int32)) 16)
  have ne_x_tv : x ≠ tv := Exa.neArv A_x V_tv (hw _ (List.mem_of_getElem? (i := 45) rfl))
  show Go p e below _ (T.setTop (mkF m 14 #[.val (.ref x), .val (.int (16 : Int32))] [(.ref tv), (.ref x)]))
  obtain ⟨T, h2, X, hT, Wr0, st⟩ := putF X hx hZ hown (host := "") (Or.inl (hw _ (List.mem_of_getElem? (i := 58) rfl))) Via.refl hT F_x_value A_x (Or.inl (hw _ (List.mem_of_getElem? (i := 59) rfl))) (hw _ (List.mem_of_getElem? (i := 45) rfl)) (ty := (.array .byte)) (by decide) rfl rfl (g := (mkF m 14 #[.val (.ref x), .val (.int (16 : Int32))] [(.ref tv), (.ref x)])) rfl rfl (hb hby d10_14)
  refine Go.st st ?_
  have N := Fr.snoc X N ge_x
  have A_x := A_x.wr Wr0
  have F_x_value := F_x_value.same Wr0
  have F_x_coder := F_x_coder.other Wr0 (Or.inr (slot_ne (C := "java/lang/StringBuilder") (Or.inl (hw _ (List.mem_of_getElem? (i := 61) rfl))) (Or.inl (hw _ (List.mem_of_getElem? (i := 59) rfl))) (by decide) (t := .byte) (by decide) (t' := (.array .byte)) (by decide)))
  have F_x_count := F_x_count.other Wr0 (Or.inr (slot_ne (C := "java/lang/StringBuilder") (Or.inl (hw _ (List.mem_of_getElem? (i := 75) rfl))) (Or.inl (hw _ (List.mem_of_getElem? (i := 59) rfl))) (by decide) (t := .int) (by decide) (t' := (.array .byte)) (by decide)))
  have V_tv := V_tv.other Wr0 ne_x_tv.symm
  have KB := (KB).wr Wr0 (Or.inl (List.mem_of_getElem? (i := 0) rfl))
  show Go p e below _ (T.setTop (mkF m 17 #[.val (.ref x), .val (.int (16 : Int32))] []))
  refine Go.st (fun _ k => XS.aloadN X.here hx rfl (hb hby d10_17) rfl rfl k) ?_
  show Go p e below _ (T.setTop (mkF m 18 #[.val (.ref x), .val (.int (16 : Int32))] [(.ref x)]))
  refine Go.st (fun _ k => XS.iconst X.here hx rfl (hb hby d10_18) k) ?_
  show Go p e below _ (T.setTop (mkF m 19 #[.val (.ref x), .val (.int (16 : Int32))] [(.int (0 : Int32)), (.ref x)]))
  obtain ⟨T, h3, X, hT, Wr0, st⟩ := putF X hx hZ hown (host := "") (Or.inl (hw _ (List.mem_of_getElem? (i := 60) rfl))) Via.refl hT F_x_coder A_x (Or.inl (hw _ (List.mem_of_getElem? (i := 61) rfl))) (hw _ (List.mem_of_getElem? (i := 45) rfl)) (ty := .byte) (by decide) rfl rfl (g := (mkF m 19 #[.val (.ref x), .val (.int (16 : Int32))] [(.int (0 : Int32)), (.ref x)])) rfl rfl (hb hby d10_19)
  refine Go.st st ?_
  have N := Fr.snoc X N ge_x
  have A_x := A_x.wr Wr0
  have F_x_value := F_x_value.other Wr0 (Or.inr (slot_ne (C := "java/lang/StringBuilder") (Or.inl (hw _ (List.mem_of_getElem? (i := 59) rfl))) (Or.inl (hw _ (List.mem_of_getElem? (i := 61) rfl))) (by decide) (t := (.array .byte)) (by decide) (t' := .byte) (by decide)))
  have F_x_coder := F_x_coder.same Wr0
  have F_x_count := F_x_count.other Wr0 (Or.inr (slot_ne (C := "java/lang/StringBuilder") (Or.inl (hw _ (List.mem_of_getElem? (i := 75) rfl))) (Or.inl (hw _ (List.mem_of_getElem? (i := 61) rfl))) (by decide) (t := .int) (by decide) (t' := .byte) (by decide)))
  have V_tv := V_tv.other Wr0 ne_x_tv.symm
  have KB := (KB).wr Wr0 (Or.inl (List.mem_of_getElem? (i := 0) rfl))
  show Go p e below _ (T.setTop (mkF m 22 #[.val (.ref x), .val (.int (16 : Int32))] []))
  refine Go.st (fun _ k => XS.goto X.here hx rfl (pc0 := 22) (pc' := 38) rfl (hb hby d10_22) (by decide) (by decide) k) ?_
  show Go p e below _ (T.setTop (mkF m 38 #[.val (.ref x), .val (.int (16 : Int32))] []))
  refine Go.retV X hx hlk hT hret (hb hby d10_38) (by decide) (by decide) ?_
  exact ⟨tv, k_tv, rfl, N, KB, gk_tv, A_x, F_x_value, F_x_coder, F_x_count, V_tv.pad (fun i => (pad_rep [] (.int (0 : Int32)) 16 i).symm)⟩
theorem pd_8 : parseMethodDescriptor "(I)V" = some ⟨[.int], none⟩ := by decide +kernel
theorem d9_0 : decode jdk_67_method_1_code 0 = .ok (.aload_n 0, 1) := by decide +kernel
theorem d9_1 : decode jdk_67_method_1_code 1 = .ok (.bipush 16, 2) := by decide +kernel
theorem d9_3 : decode jdk_67_method_1_code 3 = .ok (.invokespecial 1, 3) := by decide +kernel
theorem d9_6 : decode jdk_67_method_1_code 6 = .ok (.return_, 1) := by decide +kernel
theorem pn_11 : plainFor (⟨"java/lang/StringBuilder", "<init>", "()V"⟩ : MethodName) = true := by first | exact plainFor_of_name (by first | (simp [plainName, overriddenIn]; done) | decide +kernel) | decide +kernel
theorem ef_A_1 (m : MethodId) (y0 : Addr) : entryFrame m #[(.ref y0)] 1 = mkF m 0 #[.val (.ref y0)] [] := by first | (simp [entryFrame, mkF, argsToLocals, Value.category]; done) | rfl
set_option maxRecDepth 65536 in
set_option maxHeartbeats 40000000 in
theorem met_sbi (l : Launch) (Z : State) (a0 : Array Value) (hw : ∀ d ∈ tables_1, d.before a0 Z = true) (ws : List Jvm.Cond) (z : Int32) (n0 : Nat) (x : Addr) (h0 : Heap) (O : Old Z n0 h0) (Sc : Stat Z z) (ge_x : n0 ≤ x) (A_x : Exa Z h0 x "java/lang/StringBuilder") (F_x_value : Fld Z h0 x "java/lang/AbstractStringBuilder" "value" "[B"  .null) (F_x_coder : Fld Z h0 x "java/lang/AbstractStringBuilder" "coder" "B" (.int (0 : Int32))) (F_x_count : Fld Z h0 x "java/lang/AbstractStringBuilder" "count" "I"  (.int (0 : Int32))) :
    MetFree l (⟨"java/lang/StringBuilder", "<init>", "()V"⟩ : MethodName) (head1 (Jvm.Cond.code (⟨"java/lang/StringBuilder", "<init>", "()V"⟩ : MethodName) jdk_67_method_1_code 1 none :: ws) ({ frames := 2, cells := 1, slots := 16, locals := 25 } : Room)) (fun aa U => aa = #[(.ref x)] ∧ Z.Warmed39 U.vm ∧ U.heap = h0) (fun _ _ _ _ _ => True) (fun _ U o U' => ∃ v L, o = .returned v ∧ QNb Z x n0 h0 v U'.heap L ∧ FrameEnd U o U' L ({ frames := 2, cells := 1, slots := 16, locals := 25 } : Room).cells ({ frames := 2, cells := 1, slots := 16, locals := 25 } : Room).slots) := by
  refine openP (y := (⟨"java/lang/StringBuilder", "<init>", "()V"⟩ : MethodName)) pn_11 ?_
  intro p e s m below meth c T hx hby hml hret hlk hnm hZ hown X hT
  refine Go.st (fun _ k => castTop (ef_A_1 m x) k) ?_
  show Go p e below _ (T.setTop (mkF m 0 #[.val (.ref x)] []))
  refine Go.st (fun _ k => XS.aloadN X.here hx rfl (hb hby d9_0) rfl rfl k) ?_
  show Go p e below _ (T.setTop (mkF m 1 #[.val (.ref x)] [(.ref x)]))
  refine Go.st (fun _ k => XS.bipush X.here hx rfl (hb hby d9_1) k) ?_
  show Go p e below _ (T.setTop (mkF m 3 #[.val (.ref x)] [(.int (16 : Int32)), (.ref x)]))
  refine Go.specP (argsL := [(.int (16 : Int32))]) (rest := []) (W := 0) (ck := 1) (sk := 16) X hx hZ hown (hml.trans rfl) hT rfl (hw _ (List.mem_of_getElem? (i := 50) rfl)) (hw _ (List.mem_of_getElem? (i := 51) rfl)) (hw _ (List.mem_of_getElem? (i := 55) rfl)) (by decide) pd_8 rfl rfl (Nat.le_of_ble_eq_true rfl) (hb hby d9_3) (backOf (W := 0) (met_abi l Z a0 hw [] z n0 x _ O Sc ge_x A_x F_x_value F_x_coder F_x_count) hZ (hw _ (List.mem_of_getElem? (i := 55) rfl)) (hw _ (List.mem_of_getElem? (i := 54) rfl)) (by decide) (by decide)) (by decide) (by decide) ?_
  intro v T h1 L hT hQ X
  obtain ⟨tv, kt, rfl, N0, K0, gk, S_x⟩ := hQ
  show Go p e below _ (T.setTop (mkF m 6 #[.val (.ref x)] []))
  refine Go.retV X hx hlk hT hret (hb hby d9_6) (by decide) (by decide) ?_
  exact ⟨tv, kt, rfl, N0, K0, gk, S_x⟩
theorem d14_0 : decode jdk_68_method_68_code 0 = .ok (.getstatic 18, 3) := by decide +kernel
theorem d14_3 : decode jdk_68_method_68_code 3 = .ok (.ifCond .eq 14, 3) := by decide +kernel
theorem d14_6 : decode jdk_68_method_68_code 6 = .ok (.aload_n 0, 1) := by decide +kernel
theorem d14_7 : decode jdk_68_method_68_code 7 = .ok (.getfield 22, 3) := by decide +kernel
theorem d14_10 : decode jdk_68_method_68_code 10 = .ok (.ifCond .ne 7, 3) := by decide +kernel
theorem d14_13 : decode jdk_68_method_68_code 13 = .ok (.iconst 1, 1) := by decide +kernel
theorem d14_14 : decode jdk_68_method_68_code 14 = .ok (.goto 4, 3) := by decide +kernel
theorem d14_18 : decode jdk_68_method_68_code 18 = .ok (.ireturn, 1) := by decide +kernel
theorem pn_12 : plainFor (⟨"java/lang/AbstractStringBuilder", "isLatin1", "()Z"⟩ : MethodName) = true := by first | exact plainFor_of_name (by first | (simp [plainName, overriddenIn]; done) | decide +kernel) | decide +kernel
set_option maxRecDepth 65536 in
set_option maxHeartbeats 40000000 in
theorem met_ail (l : Launch) (Z : State) (a0 : Array Value) (hw : ∀ d ∈ tables_1, d.before a0 Z = true) (ws : List Jvm.Cond) (z : Int32) (n0 : Nat) (x tv : Addr) (kt : ClassId) (cs : List Int32) (h0 : Heap) (O : Old Z n0 h0) (Sc : Stat Z z) (S_x : SB Z h0 x tv kt cs) :
    MetFree l (⟨"java/lang/AbstractStringBuilder", "isLatin1", "()Z"⟩ : MethodName) (head1 (Jvm.Cond.code (⟨"java/lang/AbstractStringBuilder", "isLatin1", "()Z"⟩ : MethodName) jdk_68_method_68_code 1 (some .boolean) :: ws) ({ frames := 0, cells := 0, slots := 0, locals := 0 } : Room)) (fun aa U => aa = #[(.ref x)] ∧ Z.Warmed39 U.vm ∧ U.heap = h0) (fun _ _ _ _ _ => True) (fun _ U o U' => ∃ v L, o = .returned v ∧ QV (.int 1) h0 v U'.heap L ∧ FrameEnd U o U' L ({ frames := 0, cells := 0, slots := 0, locals := 0 } : Room).cells ({ frames := 0, cells := 0, slots := 0, locals := 0 } : Room).slots) := by
  refine openP (y := (⟨"java/lang/AbstractStringBuilder", "isLatin1", "()Z"⟩ : MethodName)) pn_12 ?_
  intro p e s m below meth c T hx hby hml hret hlk hnm hZ hown X hT
  refine Go.st (fun _ k => castTop (ef_A_1 m x) k) ?_
  show Go p e below _ (T.setTop (mkF m 0 #[.val (.ref x)] []))
  obtain ⟨T, X, hT, st⟩ := getS2 X hx hZ hown (host := "") (Or.inl (hw _ (List.mem_of_getElem? (i := 57) rfl))) Via.refl hT (Sc.1.ext O.2) (g := (mkF m 0 #[.val (.ref x)] [])) rfl (hb hby d14_0)
  refine Go.st st ?_
  show Go p e below _ (T.setTop (mkF m 3 #[.val (.ref x)] [(.int z)]))
  refine Go.st (fun _ k => XS.ifNo X.here hx rfl (hb hby d14_3) rfl (Jvm.Free.XT.i0_eq_f (Sc.2 : ¬ (z = (0 : Int32)))) k) ?_
  show Go p e below _ (T.setTop (mkF m 6 #[.val (.ref x)] []))
  refine Go.st (fun _ k => XS.aloadN X.here hx rfl (hb hby d14_6) rfl rfl k) ?_
  show Go p e below _ (T.setTop (mkF m 7 #[.val (.ref x)] [(.ref x)]))
  obtain ⟨T, X, hT, st⟩ := getF X hx hZ hown (host := "") (Or.inl (hw _ (List.mem_of_getElem? (i := 60) rfl))) Via.refl hT S_x.2.2.1 (g := (mkF m 7 #[.val (.ref x)] [(.ref x)])) rfl rfl (hb hby d14_7)
  refine Go.st st ?_
  show Go p e below _ (T.setTop (mkF m 10 #[.val (.ref x)] [(.int (0 : Int32))]))
  refine Go.st (fun _ k => XS.ifNo X.here hx rfl (hb hby d14_10) rfl (Jvm.Free.XT.i0_ne_f (by decide : (0 : Int32) = (0 : Int32))) k) ?_
  show Go p e below _ (T.setTop (mkF m 13 #[.val (.ref x)] []))
  refine Go.st (fun _ k => XS.iconst X.here hx rfl (hb hby d14_13) k) ?_
  show Go p e below _ (T.setTop (mkF m 14 #[.val (.ref x)] [(.int (1 : Int32))]))
  refine Go.st (fun _ k => XS.goto X.here hx rfl (pc0 := 14) (pc' := 18) rfl (hb hby d14_14) (by decide) (by decide) k) ?_
  show Go p e below _ (T.setTop (mkF m 18 #[.val (.ref x)] [(.int (1 : Int32))]))
  refine Go.ret X hx hlk hT hret (by decide) (riI (by simp)) (hb hby d14_18) (by decide) (by decide) ?_
  exact ⟨rfl, rfl, rfl⟩
theorem d26_0 : decode jdk_68_method_64_code 0 = .ok (.aload_n 0, 1) := by decide +kernel
theorem d26_1 : decode jdk_68_method_64_code 1 = .ok (.getfield 15, 3) := by decide +kernel
theorem d26_4 : decode jdk_68_method_64_code 4 = .ok (.areturn, 1) := by decide +kernel
theorem pn_13 : plainFor (⟨"java/lang/AbstractStringBuilder", "getValue", "()[B"⟩ : MethodName) = true := by first | exact plainFor_of_name (by first | (simp [plainName, overriddenIn]; done) | decide +kernel) | decide +kernel
set_option maxRecDepth 65536 in
set_option maxHeartbeats 40000000 in
theorem met_agv (l : Launch) (Z : State) (a0 : Array Value) (hw : ∀ d ∈ tables_1, d.before a0 Z = true) (ws : List Jvm.Cond) (x tv : Addr) (kt : ClassId) (cs : List Int32) (h0 : Heap) (S_x : SB Z h0 x tv kt cs) :
    MetFree l (⟨"java/lang/AbstractStringBuilder", "getValue", "()[B"⟩ : MethodName) (head1 (Jvm.Cond.code (⟨"java/lang/AbstractStringBuilder", "getValue", "()[B"⟩ : MethodName) jdk_68_method_64_code 1 (some (.array .byte)) :: ws) ({ frames := 0, cells := 0, slots := 0, locals := 0 } : Room)) (fun aa U => aa = #[(.ref x)] ∧ Z.Warmed39 U.vm ∧ U.heap = h0) (fun _ _ _ _ _ => True) (fun _ U o U' => ∃ v L, o = .returned v ∧ QV (.ref tv) h0 v U'.heap L ∧ FrameEnd U o U' L ({ frames := 0, cells := 0, slots := 0, locals := 0 } : Room).cells ({ frames := 0, cells := 0, slots := 0, locals := 0 } : Room).slots) := by
  refine openP (y := (⟨"java/lang/AbstractStringBuilder", "getValue", "()[B"⟩ : MethodName)) pn_13 ?_
  intro p e s m below meth c T hx hby hml hret hlk hnm hZ hown X hT
  refine Go.st (fun _ k => castTop (ef_A_1 m x) k) ?_
  show Go p e below _ (T.setTop (mkF m 0 #[.val (.ref x)] []))
  refine Go.st (fun _ k => XS.aloadN X.here hx rfl (hb hby d26_0) rfl rfl k) ?_
  show Go p e below _ (T.setTop (mkF m 1 #[.val (.ref x)] [(.ref x)]))
  obtain ⟨T, X, hT, st⟩ := getF X hx hZ hown (host := "") (Or.inl (hw _ (List.mem_of_getElem? (i := 58) rfl))) Via.refl hT S_x.2.1 (g := (mkF m 1 #[.val (.ref x)] [(.ref x)])) rfl rfl (hb hby d26_1)
  refine Go.st st ?_
  show Go p e below _ (T.setTop (mkF m 4 #[.val (.ref x)] [(.ref tv)]))
  refine Go.ret X hx hlk hT hret rfl (riA rfl rfl) (hb hby d26_4) (by decide) (by decide) ?_
  exact ⟨rfl, rfl, rfl⟩
theorem d28_0 : decode jdk_68_method_6_code 0 = .ok (.aload_n 0, 1) := by decide +kernel
theorem d28_1 : decode jdk_68_method_6_code 1 = .ok (.getfield 79, 3) := by decide +kernel
theorem d28_4 : decode jdk_68_method_6_code 4 = .ok (.ireturn, 1) := by decide +kernel
theorem pn_14 : plainFor (⟨"java/lang/AbstractStringBuilder", "length", "()I"⟩ : MethodName) = true := by first | exact plainFor_of_name (by first | (simp [plainName, overriddenIn]; done) | decide +kernel) | decide +kernel
set_option maxRecDepth 65536 in
set_option maxHeartbeats 40000000 in
theorem met_aln (l : Launch) (Z : State) (a0 : Array Value) (hw : ∀ d ∈ tables_1, d.before a0 Z = true) (ws : List Jvm.Cond) (x tv : Addr) (kt : ClassId) (cs : List Int32) (h0 : Heap) (S_x : SB Z h0 x tv kt cs) :
    MetFree l (⟨"java/lang/AbstractStringBuilder", "length", "()I"⟩ : MethodName) (head1 (Jvm.Cond.code (⟨"java/lang/AbstractStringBuilder", "length", "()I"⟩ : MethodName) jdk_68_method_6_code 1 (some .int) :: ws) ({ frames := 0, cells := 0, slots := 0, locals := 0 } : Room)) (fun aa U => aa = #[(.ref x)] ∧ Z.Warmed39 U.vm ∧ U.heap = h0) (fun _ _ _ _ _ => True) (fun _ U o U' => ∃ v L, o = .returned v ∧ QV (.int (Int32.ofNat cs.length)) h0 v U'.heap L ∧ FrameEnd U o U' L ({ frames := 0, cells := 0, slots := 0, locals := 0 } : Room).cells ({ frames := 0, cells := 0, slots := 0, locals := 0 } : Room).slots) := by
  refine openP (y := (⟨"java/lang/AbstractStringBuilder", "length", "()I"⟩ : MethodName)) pn_14 ?_
  intro p e s m below meth c T hx hby hml hret hlk hnm hZ hown X hT
  refine Go.st (fun _ k => castTop (ef_A_1 m x) k) ?_
  show Go p e below _ (T.setTop (mkF m 0 #[.val (.ref x)] []))
  refine Go.st (fun _ k => XS.aloadN X.here hx rfl (hb hby d28_0) rfl rfl k) ?_
  show Go p e below _ (T.setTop (mkF m 1 #[.val (.ref x)] [(.ref x)]))
  obtain ⟨T, X, hT, st⟩ := getF X hx hZ hown (host := "") (Or.inl (hw _ (List.mem_of_getElem? (i := 74) rfl))) Via.refl hT S_x.2.2.2.1 (g := (mkF m 1 #[.val (.ref x)] [(.ref x)])) rfl rfl (hb hby d28_1)
  refine Go.st st ?_
  show Go p e below _ (T.setTop (mkF m 4 #[.val (.ref x)] [(.int (Int32.ofNat cs.length))]))
  refine Go.ret X hx hlk hT hret rfl (riI (by simp)) (hb hby d28_4) (by decide) (by decide) ?_
  exact ⟨rfl, rfl, rfl⟩
theorem pd_9 : parseMethodDescriptor "()I" = some ⟨[], (some .int)⟩ := by decide +kernel
theorem d27_0 : decode jdk_67_method_93_code 0 = .ok (.aload_n 0, 1) := by decide +kernel
theorem d27_1 : decode jdk_67_method_93_code 1 = .ok (.invokespecial 343, 3) := by decide +kernel
theorem d27_4 : decode jdk_67_method_93_code 4 = .ok (.ireturn, 1) := by decide +kernel
theorem pn_15 : plainFor (⟨"java/lang/StringBuilder", "length", "()I"⟩ : MethodName) = true := by first | exact plainFor_of_name (by first | (simp [plainName, overriddenIn]; done) | decide +kernel) | decide +kernel
set_option maxRecDepth 65536 in
set_option maxHeartbeats 40000000 in
theorem met_sln (l : Launch) (Z : State) (a0 : Array Value) (hw : ∀ d ∈ tables_1, d.before a0 Z = true) (ws : List Jvm.Cond) (x tv : Addr) (kt : ClassId) (cs : List Int32) (h0 : Heap) (S_x : SB Z h0 x tv kt cs) :
    MetFree l (⟨"java/lang/StringBuilder", "length", "()I"⟩ : MethodName) (head1 (Jvm.Cond.code (⟨"java/lang/StringBuilder", "length", "()I"⟩ : MethodName) jdk_67_method_93_code 1 (some .int) :: ws) ({ frames := 1, cells := 0, slots := 0, locals := 12 } : Room)) (fun aa U => aa = #[(.ref x)] ∧ Z.Warmed39 U.vm ∧ U.heap = h0) (fun _ _ _ _ _ => True) (fun _ U o U' => ∃ v L, o = .returned v ∧ QV (.int (Int32.ofNat cs.length)) h0 v U'.heap L ∧ FrameEnd U o U' L ({ frames := 1, cells := 0, slots := 0, locals := 12 } : Room).cells ({ frames := 1, cells := 0, slots := 0, locals := 12 } : Room).slots) := by
  refine openP (y := (⟨"java/lang/StringBuilder", "length", "()I"⟩ : MethodName)) pn_15 ?_
  intro p e s m below meth c T hx hby hml hret hlk hnm hZ hown X hT
  refine Go.st (fun _ k => castTop (ef_A_1 m x) k) ?_
  show Go p e below _ (T.setTop (mkF m 0 #[.val (.ref x)] []))
  refine Go.st (fun _ k => XS.aloadN X.here hx rfl (hb hby d27_0) rfl rfl k) ?_
  show Go p e below _ (T.setTop (mkF m 1 #[.val (.ref x)] [(.ref x)]))
  refine Go.superP (K := "java/lang/StringBuilder") (argsL := []) (rest := []) (W := 0) (ck := 0) (sk := 0) X hx hZ hown (hml.trans rfl) hT S_x.1 (hw _ (List.mem_of_getElem? (i := 155) rfl)) (own_sameM (hw _ (List.mem_of_getElem? (i := 151) rfl)) (hw _ (List.mem_of_getElem? (i := 84) rfl)) rfl (by decide)) (hw _ (List.mem_of_getElem? (i := 151) rfl)) (hw _ (List.mem_of_getElem? (i := 71) rfl)) (by decide) (hw _ (List.mem_of_getElem? (i := 156) rfl)) pd_9 rfl rfl (Nat.le_of_ble_eq_true rfl) (hb hby d27_1) (backOf (W := 0) (met_aln l Z a0 hw [] x tv kt cs _ S_x) hZ (hw _ (List.mem_of_getElem? (i := 156) rfl)) (hw _ (List.mem_of_getElem? (i := 54) rfl)) (by decide) (by decide)) (by decide) (by decide) ?_
  intro v T hq L hT hQ X
  obtain ⟨rfl, rfl, hq0⟩ := hQ
  rw [hq0] at hT
  rw [List.append_nil] at X
  show Go p e below _ (T.setTop (mkF m 4 #[.val (.ref x)] [(.int (Int32.ofNat cs.length))]))
  refine Go.ret X hx hlk hT hret rfl (riI (by simp)) (hb hby d27_4) (by decide) (by decide) ?_
  exact ⟨rfl, rfl, rfl⟩
theorem d13_0 : decode jdk_68_method_9_code 0 = .ok (.aload_n 0, 1) := by decide +kernel
theorem d13_1 : decode jdk_68_method_9_code 1 = .ok (.getfield 15, 3) := by decide +kernel
theorem d13_4 : decode jdk_68_method_9_code 4 = .ok (.arraylength, 1) := by decide +kernel
theorem d13_5 : decode jdk_68_method_9_code 5 = .ok (.aload_n 0, 1) := by decide +kernel
theorem d13_6 : decode jdk_68_method_9_code 6 = .ok (.getfield 22, 3) := by decide +kernel
theorem d13_9 : decode jdk_68_method_9_code 9 = .ok (.ishr, 1) := by decide +kernel
theorem d13_10 : decode jdk_68_method_9_code 10 = .ok (.istore_n 2, 1) := by decide +kernel
theorem d13_11 : decode jdk_68_method_9_code 11 = .ok (.iload_n 1, 1) := by decide +kernel
theorem d13_12 : decode jdk_68_method_9_code 12 = .ok (.iload_n 2, 1) := by decide +kernel
theorem d13_13 : decode jdk_68_method_9_code 13 = .ok (.isub, 1) := by decide +kernel
theorem d13_14 : decode jdk_68_method_9_code 14 = .ok (.ifCond .le 24, 3) := by decide +kernel
theorem d13_38 : decode jdk_68_method_9_code 38 = .ok (.return_, 1) := by decide +kernel
theorem pn_16 : plainFor (⟨"java/lang/AbstractStringBuilder", "ensureCapacityInternal", "(I)V"⟩ : MethodName) = true := by first | exact plainFor_of_name (by first | (simp [plainName, overriddenIn]; done) | decide +kernel) | decide +kernel
theorem ef_AI_3 (m : MethodId) (y0 : Addr) (y1 : Int32) : entryFrame m #[(.ref y0), (.int y1)] 3 = mkF m 0 #[.val (.ref y0), .val (.int y1), .unset] [] := by first | (simp [entryFrame, mkF, argsToLocals, Value.category]; done) | rfl
set_option maxRecDepth 65536 in
set_option maxHeartbeats 40000000 in
theorem met_ens (l : Launch) (Z : State) (a0 : Array Value) (hw : ∀ d ∈ tables_1, d.before a0 Z = true) (ws : List Jvm.Cond) (x tv : Addr) (kt : ClassId) (cs : List Int32) (kq : Nat) (h0 : Heap) (S_x : SB Z h0 x tv kt cs) (hk : kq ≤ 16) :
    MetFree l (⟨"java/lang/AbstractStringBuilder", "ensureCapacityInternal", "(I)V"⟩ : MethodName) (head1 (Jvm.Cond.code (⟨"java/lang/AbstractStringBuilder", "ensureCapacityInternal", "(I)V"⟩ : MethodName) jdk_68_method_9_code 3 none :: ws) ({ frames := 0, cells := 0, slots := 0, locals := 0 } : Room)) (fun aa U => aa = #[(.ref x), (.int (Int32.ofNat kq))] ∧ Z.Warmed39 U.vm ∧ U.heap = h0) (fun _ _ _ _ _ => True) (fun _ U o U' => ∃ v L, o = .returned v ∧ QU h0 v U'.heap L ∧ FrameEnd U o U' L ({ frames := 0, cells := 0, slots := 0, locals := 0 } : Room).cells ({ frames := 0, cells := 0, slots := 0, locals := 0 } : Room).slots) := by
  refine openP (y := (⟨"java/lang/AbstractStringBuilder", "ensureCapacityInternal", "(I)V"⟩ : MethodName)) pn_16 ?_
  intro p e s m below meth c T hx hby hml hret hlk hnm hZ hown X hT
  refine Go.st (fun _ k => castTop (ef_AI_3 m x (Int32.ofNat kq)) k) ?_
  show Go p e below _ (T.setTop (mkF m 0 #[.val (.ref x), .val (.int (Int32.ofNat kq)), .unset] []))
  have V_tv := S_x.2.2.2.2
  refine Go.st (fun _ k => XS.aloadN X.here hx rfl (hb hby d13_0) rfl rfl k) ?_
  show Go p e below _ (T.setTop (mkF m 1 #[.val (.ref x), .val (.int (Int32.ofNat kq)), .unset] [(.ref x)]))
  obtain ⟨T, X, hT, st⟩ := getF X hx hZ hown (host := "") (Or.inl (hw _ (List.mem_of_getElem? (i := 58) rfl))) Via.refl hT S_x.2.1 (g := (mkF m 1 #[.val (.ref x), .val (.int (Int32.ofNat kq)), .unset] [(.ref x)])) rfl rfl (hb hby d13_1)
  refine Go.st st ?_
  show Go p e below _ (T.setTop (mkF m 4 #[.val (.ref x), .val (.int (Int32.ofNat kq)), .unset] [(.ref tv)]))
  obtain ⟨cl0, Ar0, q0, S0, M0, H0, U0⟩ := id V_tv
  refine Go.st (fun _ k => X.arraylength hx (by rw [hT]; exact Ar0.1) (State.isArrayOf_alike hZ.alike Ar0.2.1) (g := (mkF m 4 #[.val (.ref x), .val (.int (Int32.ofNat kq)), .unset] [(.ref tv)])) rfl rfl (hb hby d13_4) _ k) ?_
  rw [len_of S0 M0]
  show Go p e below _ (T.setTop (mkF m 5 #[.val (.ref x), .val (.int (Int32.ofNat kq)), .unset] [(.int (16 : Int32))]))
  refine Go.st (fun _ k => XS.aloadN X.here hx rfl (hb hby d13_5) rfl rfl k) ?_
  show Go p e below _ (T.setTop (mkF m 6 #[.val (.ref x), .val (.int (Int32.ofNat kq)), .unset] [(.ref x), (.int (16 : Int32))]))
  obtain ⟨T, X, hT, st⟩ := getF X hx hZ hown (host := "") (Or.inl (hw _ (List.mem_of_getElem? (i := 60) rfl))) Via.refl hT S_x.2.2.1 (g := (mkF m 6 #[.val (.ref x), .val (.int (Int32.ofNat kq)), .unset] [(.ref x), (.int (16 : Int32))])) rfl rfl (hb hby d13_6)
  refine Go.st st ?_
  show Go p e below _ (T.setTop (mkF m 9 #[.val (.ref x), .val (.int (Int32.ofNat kq)), .unset] [(.int (0 : Int32)), (.int (16 : Int32))]))
  refine Go.st (fun _ k => XS.ishr X.here hx rfl (hb hby d13_9) rfl k) ?_
  show Go p e below _ (T.setTop (mkF m 10 #[.val (.ref x), .val (.int (Int32.ofNat kq)), .unset] [(.int ((16 : Int32) >>> ((0 : Int32) &&& 31)))]))
  rw [show ((16 : Int32) >>> ((0 : Int32) &&& 31)) = (16 : Int32) from by decide]
  show Go p e below _ (T.setTop (mkF m 10 #[.val (.ref x), .val (.int (Int32.ofNat kq)), .unset] [(.int (16 : Int32))]))
  refine Go.st (fun _ k => XS.istoreN X.here hx rfl (hb hby d13_10) rfl (l' := #[.val (.ref x), .val (.int (Int32.ofNat kq)), .val (.int (16 : Int32))]) rfl k) ?_
  show Go p e below _ (T.setTop (mkF m 11 #[.val (.ref x), .val (.int (Int32.ofNat kq)), .val (.int (16 : Int32))] []))
  refine Go.st (fun _ k => XS.iloadN X.here hx rfl (hb hby d13_11) rfl k) ?_
  show Go p e below _ (T.setTop (mkF m 12 #[.val (.ref x), .val (.int (Int32.ofNat kq)), .val (.int (16 : Int32))] [(.int (Int32.ofNat kq))]))
  refine Go.st (fun _ k => XS.iloadN X.here hx rfl (hb hby d13_12) rfl k) ?_
  show Go p e below _ (T.setTop (mkF m 13 #[.val (.ref x), .val (.int (Int32.ofNat kq)), .val (.int (16 : Int32))] [(.int (16 : Int32)), (.int (Int32.ofNat kq))]))
  refine Go.st (fun _ k => XS.isub X.here hx rfl (hb hby d13_13) rfl k) ?_
  show Go p e below _ (T.setTop (mkF m 14 #[.val (.ref x), .val (.int (Int32.ofNat kq)), .val (.int (16 : Int32))] [(.int ((Int32.ofNat kq) - (16 : Int32)))]))
  refine Go.st (fun _ k => XS.ifYes X.here hx rfl (pc0 := 14) (pc' := 38) rfl (hb hby d13_14) rfl (Jvm.Free.XT.i0_le_t (own_sub16 hk : ¬ ((0 : Int32) < ((Int32.ofNat kq) - (16 : Int32))))) (by decide) (by decide) k) ?_
  show Go p e below _ (T.setTop (mkF m 38 #[.val (.ref x), .val (.int (Int32.ofNat kq)), .val (.int (16 : Int32))] []))
  refine Go.retV X hx hlk hT hret (hb hby d13_38) (by decide) (by decide) ?_
  exact ⟨rfl, rfl, rfl⟩
theorem pd_10 : parseMethodDescriptor "()Z" = some ⟨[], (some .boolean)⟩ := by decide +kernel
def QAp (Z : State) (x tv : Addr) (kt : ClassId) (ds : List Int32) (n0 : Nat) (h0 : Heap) (v : Option Value) (h : Heap) (L : List Loc) : Prop := v = some (.ref x) ∧ Fr n0 L ∧ Keep h0 h [x, tv] ∧ SB Z h x tv kt ds
theorem d12_0 : decode jdk_68_method_31_code 0 = .ok (.aload_n 0, 1) := by decide +kernel
theorem d12_1 : decode jdk_68_method_31_code 1 = .ok (.aload_n 0, 1) := by decide +kernel
theorem d12_2 : decode jdk_68_method_31_code 2 = .ok (.getfield 79, 3) := by decide +kernel
theorem d12_5 : decode jdk_68_method_31_code 5 = .ok (.iconst 1, 1) := by decide +kernel
theorem d12_6 : decode jdk_68_method_31_code 6 = .ok (.iadd, 1) := by decide +kernel
theorem d12_7 : decode jdk_68_method_31_code 7 = .ok (.invokevirtual 100, 3) := by decide +kernel
theorem d12_10 : decode jdk_68_method_31_code 10 = .ok (.aload_n 0, 1) := by decide +kernel
theorem d12_11 : decode jdk_68_method_31_code 11 = .ok (.invokevirtual 83, 3) := by decide +kernel
theorem d12_14 : decode jdk_68_method_31_code 14 = .ok (.ifCond .eq 31, 3) := by decide +kernel
theorem d12_17 : decode jdk_68_method_31_code 17 = .ok (.iload_n 1, 1) := by decide +kernel
theorem d12_18 : decode jdk_68_method_31_code 18 = .ok (.invokestatic 191, 3) := by decide +kernel
theorem d12_21 : decode jdk_68_method_31_code 21 = .ok (.ifCond .eq 24, 3) := by decide +kernel
theorem d12_24 : decode jdk_68_method_31_code 24 = .ok (.aload_n 0, 1) := by decide +kernel
theorem d12_25 : decode jdk_68_method_31_code 25 = .ok (.getfield 15, 3) := by decide +kernel
theorem d12_28 : decode jdk_68_method_31_code 28 = .ok (.aload_n 0, 1) := by decide +kernel
theorem d12_29 : decode jdk_68_method_31_code 29 = .ok (.dup, 1) := by decide +kernel
theorem d12_30 : decode jdk_68_method_31_code 30 = .ok (.getfield 79, 3) := by decide +kernel
theorem d12_33 : decode jdk_68_method_31_code 33 = .ok (.dup_x1, 1) := by decide +kernel
theorem d12_34 : decode jdk_68_method_31_code 34 = .ok (.iconst 1, 1) := by decide +kernel
theorem d12_35 : decode jdk_68_method_31_code 35 = .ok (.iadd, 1) := by decide +kernel
theorem d12_36 : decode jdk_68_method_31_code 36 = .ok (.putfield 79, 3) := by decide +kernel
theorem d12_39 : decode jdk_68_method_31_code 39 = .ok (.iload_n 1, 1) := by decide +kernel
theorem d12_40 : decode jdk_68_method_31_code 40 = .ok (.i2b, 1) := by decide +kernel
theorem d12_41 : decode jdk_68_method_31_code 41 = .ok (.bastore, 1) := by decide +kernel
theorem d12_42 : decode jdk_68_method_31_code 42 = .ok (.goto 33, 3) := by decide +kernel
theorem d12_75 : decode jdk_68_method_31_code 75 = .ok (.aload_n 0, 1) := by decide +kernel
theorem d12_76 : decode jdk_68_method_31_code 76 = .ok (.areturn, 1) := by decide +kernel
theorem pn_17 : plainFor (⟨"java/lang/AbstractStringBuilder", "append", "(C)Ljava/lang/AbstractStringBuilder;"⟩ : MethodName) = true := by first | exact plainFor_of_name (by first | (simp [plainName, overriddenIn]; done) | decide +kernel) | decide +kernel
set_option maxRecDepth 65536 in
set_option maxHeartbeats 40000000 in
theorem met_aac (l : Launch) (Z : State) (a0 : Array Value) (hw : ∀ d ∈ tables_1, d.before a0 Z = true) (ws : List Jvm.Cond) (z : Int32) (n0 : Nat) (x tv : Addr) (kt : ClassId) (cs : List Int32) (ch : Int32) (h0 : Heap) (O : Old Z n0 h0) (Sc : Stat Z z) (S_x : SB Z h0 x tv kt cs) (ge_x : n0 ≤ x) (ge_tv : n0 ≤ tv) (hc0 : ¬ ch < 0) (hc1 : ¬ (255 : Int32) < ch) (hn : cs.length < 16) :
    MetFree l (⟨"java/lang/AbstractStringBuilder", "append", "(C)Ljava/lang/AbstractStringBuilder;"⟩ : MethodName) (head1 (Jvm.Cond.code (⟨"java/lang/AbstractStringBuilder", "append", "(C)Ljava/lang/AbstractStringBuilder;"⟩ : MethodName) jdk_68_method_31_code 2 (some (.object "java/lang/AbstractStringBuilder")) :: ws) ({ frames := 1, cells := 0, slots := 0, locals := 14 } : Room)) (fun aa U => aa = #[(.ref x), (.int ch)] ∧ Z.Warmed39 U.vm ∧ U.heap = h0) (fun _ _ _ _ _ => True) (fun _ U o U' => ∃ v L, o = .returned v ∧ QAp Z x tv kt (cs ++ [ch]) n0 h0 v U'.heap L ∧ FrameEnd U o U' L ({ frames := 1, cells := 0, slots := 0, locals := 14 } : Room).cells ({ frames := 1, cells := 0, slots := 0, locals := 14 } : Room).slots) := by
  refine openP (y := (⟨"java/lang/AbstractStringBuilder", "append", "(C)Ljava/lang/AbstractStringBuilder;"⟩ : MethodName)) pn_17 ?_
  intro p e s m below meth c T hx hby hml hret hlk hnm hZ hown X hT
  refine Go.st (fun _ k => castTop (ef_AI_2 m x ch) k) ?_
  show Go p e below _ (T.setTop (mkF m 0 #[.val (.ref x), .val (.int ch)] []))
  have N := Fr.nil n0
  obtain ⟨A_x, F_x_value, F_x_coder, F_x_count, V_tv⟩ := id S_x
  have ne_x_tv : x ≠ tv := Exa.neArv A_x V_tv (hw _ (List.mem_of_getElem? (i := 45) rfl))
  refine Go.st (fun _ k => XS.aloadN X.here hx rfl (hb hby d12_0) rfl rfl k) ?_
  show Go p e below _ (T.setTop (mkF m 1 #[.val (.ref x), .val (.int ch)] [(.ref x)]))
  refine Go.st (fun _ k => XS.aloadN X.here hx rfl (hb hby d12_1) rfl rfl k) ?_
  show Go p e below _ (T.setTop (mkF m 2 #[.val (.ref x), .val (.int ch)] [(.ref x), (.ref x)]))
  obtain ⟨T, X, hT, st⟩ := getF X hx hZ hown (host := "") (Or.inl (hw _ (List.mem_of_getElem? (i := 74) rfl))) Via.refl hT F_x_count (g := (mkF m 2 #[.val (.ref x), .val (.int ch)] [(.ref x), (.ref x)])) rfl rfl (hb hby d12_2)
  refine Go.st st ?_
  show Go p e below _ (T.setTop (mkF m 5 #[.val (.ref x), .val (.int ch)] [(.int (Int32.ofNat cs.length)), (.ref x)]))
  refine Go.st (fun _ k => XS.iconst X.here hx rfl (hb hby d12_5) k) ?_
  show Go p e below _ (T.setTop (mkF m 6 #[.val (.ref x), .val (.int ch)] [(.int (1 : Int32)), (.int (Int32.ofNat cs.length)), (.ref x)]))
  refine Go.st (fun _ k => XS.iadd X.here hx rfl (hb hby d12_6) rfl k) ?_
  show Go p e below _ (T.setTop (mkF m 7 #[.val (.ref x), .val (.int ch)] [(.int ((Int32.ofNat cs.length) + (1 : Int32))), (.ref x)]))
  rw [own_succ]
  show Go p e below _ (T.setTop (mkF m 7 #[.val (.ref x), .val (.int ch)] [(.int (Int32.ofNat (cs.length + 1))), (.ref x)]))
  refine Go.virtP (K := "java/lang/StringBuilder") (z := (⟨"java/lang/AbstractStringBuilder", "ensureCapacityInternal", "(I)V"⟩ : MethodName)) (argsL := [(.int (Int32.ofNat (cs.length + 1)))]) (rest := []) (W := 0) (ck := 0) (sk := 0) X hx hZ hown (hml.trans rfl) hT S_x.1 (hw _ (List.mem_of_getElem? (i := 76) rfl)) (own_decl (hw _ (List.mem_of_getElem? (i := 77) rfl)) (hw _ (List.mem_of_getElem? (i := 80) rfl))) (hw _ (List.mem_of_getElem? (i := 79) rfl)) (hw _ (List.mem_of_getElem? (i := 77) rfl)) (by decide) pd_8 rfl rfl (Nat.le_of_ble_eq_true rfl) (hb hby d12_7) (notFace_of_selects (args := #[]) (mvT hZ (hw _ (List.mem_of_getElem? (i := 79) rfl)))) (backOf (W := 0) (met_ens l Z a0 hw [] x tv kt cs (cs.length + 1) _ S_x (by omega)) hZ (hw _ (List.mem_of_getElem? (i := 80) rfl)) (hw _ (List.mem_of_getElem? (i := 54) rfl)) (by decide) (by decide)) (by decide) (by decide) ?_
  intro v T hq L hT hQ X
  obtain ⟨rfl, rfl, hq0⟩ := hQ
  rw [hq0] at hT
  rw [List.append_nil] at X
  show Go p e below _ (T.setTop (mkF m 10 #[.val (.ref x), .val (.int ch)] []))
  refine Go.st (fun _ k => XS.aloadN X.here hx rfl (hb hby d12_10) rfl rfl k) ?_
  show Go p e below _ (T.setTop (mkF m 11 #[.val (.ref x), .val (.int ch)] [(.ref x)]))
  refine Go.virtP (K := "java/lang/StringBuilder") (z := (⟨"java/lang/AbstractStringBuilder", "isLatin1", "()Z"⟩ : MethodName)) (argsL := []) (rest := []) (W := 0) (ck := 0) (sk := 0) X hx hZ hown (hml.trans rfl) hT S_x.1 (hw _ (List.mem_of_getElem? (i := 81) rfl)) (hw _ (List.mem_of_getElem? (i := 82) rfl)) (hw _ (List.mem_of_getElem? (i := 84) rfl)) (hw _ (List.mem_of_getElem? (i := 83) rfl)) (by decide) pd_10 rfl rfl (Nat.le_of_ble_eq_true rfl) (hb hby d12_11) (notFace_of_selects (args := #[]) (mvT hZ (hw _ (List.mem_of_getElem? (i := 84) rfl)))) (backOf (W := 0) (met_ail l Z a0 hw [] z n0 x tv kt cs _ O Sc S_x) hZ (hw _ (List.mem_of_getElem? (i := 85) rfl)) (hw _ (List.mem_of_getElem? (i := 54) rfl)) (by decide) (by decide)) (by decide) (by decide) ?_
  intro v T hq L hT hQ X
  obtain ⟨rfl, rfl, hq0⟩ := hQ
  rw [hq0] at hT
  rw [List.append_nil] at X
  show Go p e below _ (T.setTop (mkF m 14 #[.val (.ref x), .val (.int ch)] [(.int (1 : Int32))]))
  refine Go.st (fun _ k => XS.ifNo X.here hx rfl (hb hby d12_14) rfl (Jvm.Free.XT.i0_eq_f (by decide : ¬ ((1 : Int32) = (0 : Int32)))) k) ?_
  show Go p e below _ (T.setTop (mkF m 17 #[.val (.ref x), .val (.int ch)] []))
  refine Go.st (fun _ k => XS.iloadN X.here hx rfl (hb hby d12_17) rfl k) ?_
  show Go p e below _ (T.setTop (mkF m 18 #[.val (.ref x), .val (.int ch)] [(.int ch)]))
  refine Go.callV (argsL := [(.int ch)]) (rest := []) (W := 0) X hx hZ hown (hml.trans rfl) hT (hw _ (List.mem_of_getElem? (i := 86) rfl)) (hw _ (List.mem_of_getElem? (i := 87) rfl)) (hw _ (List.mem_of_getElem? (i := 88) rfl)) (hw _ (List.mem_of_getElem? (i := 89) rfl)) (by decide) pd_2 rfl rfl (Nat.le_of_ble_eq_true rfl) (hb hby d12_18) (backOf (W := 0) (met_canenc l Z a0 hw [] ch _) hZ (hw _ (List.mem_of_getElem? (i := 89) rfl)) (hw _ (List.mem_of_getElem? (i := 88) rfl)) (by decide) (by decide)) (by decide) (by decide) ?_
  intro T hT X
  show Go p e below _ (T.setTop (mkF m 21 #[.val (.ref x), .val (.int ch)] [(.int (f_canenc ch))]))
  refine Go.st (fun _ k => XS.ifNo X.here hx rfl (hb hby d12_21) rfl (Jvm.Free.XT.i0_eq_f (by rw [f_canenc, if_neg hc1]; decide : ¬ ((f_canenc ch) = (0 : Int32)))) k) ?_
  show Go p e below _ (T.setTop (mkF m 24 #[.val (.ref x), .val (.int ch)] []))
  refine Go.st (fun _ k => XS.aloadN X.here hx rfl (hb hby d12_24) rfl rfl k) ?_
  show Go p e below _ (T.setTop (mkF m 25 #[.val (.ref x), .val (.int ch)] [(.ref x)]))
  obtain ⟨T, X, hT, st⟩ := getF X hx hZ hown (host := "") (Or.inl (hw _ (List.mem_of_getElem? (i := 58) rfl))) Via.refl hT F_x_value (g := (mkF m 25 #[.val (.ref x), .val (.int ch)] [(.ref x)])) rfl rfl (hb hby d12_25)
  refine Go.st st ?_
  show Go p e below _ (T.setTop (mkF m 28 #[.val (.ref x), .val (.int ch)] [(.ref tv)]))
  refine Go.st (fun _ k => XS.aloadN X.here hx rfl (hb hby d12_28) rfl rfl k) ?_
  show Go p e below _ (T.setTop (mkF m 29 #[.val (.ref x), .val (.int ch)] [(.ref x), (.ref tv)]))
  refine Go.st (fun _ k => XS.dup X.here hx rfl (hb hby d12_29) rfl rfl k) ?_
  show Go p e below _ (T.setTop (mkF m 30 #[.val (.ref x), .val (.int ch)] [(.ref x), (.ref x), (.ref tv)]))
  obtain ⟨T, X, hT, st⟩ := getF X hx hZ hown (host := "") (Or.inl (hw _ (List.mem_of_getElem? (i := 74) rfl))) Via.refl hT F_x_count (g := (mkF m 30 #[.val (.ref x), .val (.int ch)] [(.ref x), (.ref x), (.ref tv)])) rfl rfl (hb hby d12_30)
  refine Go.st st ?_
  show Go p e below _ (T.setTop (mkF m 33 #[.val (.ref x), .val (.int ch)] [(.int (Int32.ofNat cs.length)), (.ref x), (.ref tv)]))
  refine Go.st (fun _ k => Jvm.Free.XT.dupX1 X.here hx rfl (hb hby d12_33) rfl rfl rfl k) ?_
  show Go p e below _ (T.setTop (mkF m 34 #[.val (.ref x), .val (.int ch)] [(.int (Int32.ofNat cs.length)), (.ref x), (.int (Int32.ofNat cs.length)), (.ref tv)]))
  refine Go.st (fun _ k => XS.iconst X.here hx rfl (hb hby d12_34) k) ?_
  show Go p e below _ (T.setTop (mkF m 35 #[.val (.ref x), .val (.int ch)] [(.int (1 : Int32)), (.int (Int32.ofNat cs.length)), (.ref x), (.int (Int32.ofNat cs.length)), (.ref tv)]))
  refine Go.st (fun _ k => XS.iadd X.here hx rfl (hb hby d12_35) rfl k) ?_
  show Go p e below _ (T.setTop (mkF m 36 #[.val (.ref x), .val (.int ch)] [(.int ((Int32.ofNat cs.length) + (1 : Int32))), (.ref x), (.int (Int32.ofNat cs.length)), (.ref tv)]))
  rw [own_succ]
  show Go p e below _ (T.setTop (mkF m 36 #[.val (.ref x), .val (.int ch)] [(.int (Int32.ofNat (cs.length + 1))), (.ref x), (.int (Int32.ofNat cs.length)), (.ref tv)]))
  obtain ⟨T, h1, X, hT, Wr0, st⟩ := putF X hx hZ hown (host := "") (Or.inl (hw _ (List.mem_of_getElem? (i := 74) rfl))) Via.refl hT F_x_count A_x (Or.inl (hw _ (List.mem_of_getElem? (i := 75) rfl))) (hw _ (List.mem_of_getElem? (i := 45) rfl)) (ty := .int) (by decide) rfl rfl (g := (mkF m 36 #[.val (.ref x), .val (.int ch)] [(.int (Int32.ofNat (cs.length + 1))), (.ref x), (.int (Int32.ofNat cs.length)), (.ref tv)])) rfl rfl (hb hby d12_36)
  refine Go.st st ?_
  have N := Fr.snoc X N ge_x
  have A_x := A_x.wr Wr0
  have F_x_value := F_x_value.other Wr0 (Or.inr (slot_ne (C := "java/lang/StringBuilder") (Or.inl (hw _ (List.mem_of_getElem? (i := 59) rfl))) (Or.inl (hw _ (List.mem_of_getElem? (i := 75) rfl))) (by decide) (t := (.array .byte)) (by decide) (t' := .int) (by decide)))
  have F_x_coder := F_x_coder.other Wr0 (Or.inr (slot_ne (C := "java/lang/StringBuilder") (Or.inl (hw _ (List.mem_of_getElem? (i := 61) rfl))) (Or.inl (hw _ (List.mem_of_getElem? (i := 75) rfl))) (by decide) (t := .byte) (by decide) (t' := .int) (by decide)))
  have F_x_count := F_x_count.same Wr0
  have V_tv := V_tv.other Wr0 ne_x_tv.symm
  have KB := (Keep.refl h0 [x, tv]).wr Wr0 (Or.inl (List.mem_of_getElem? (i := 0) rfl))
  show Go p e below _ (T.setTop (mkF m 39 #[.val (.ref x), .val (.int ch)] [(.int (Int32.ofNat cs.length)), (.ref tv)]))
  refine Go.st (fun _ k => XS.iloadN X.here hx rfl (hb hby d12_39) rfl k) ?_
  show Go p e below _ (T.setTop (mkF m 40 #[.val (.ref x), .val (.int ch)] [(.int ch), (.int (Int32.ofNat cs.length)), (.ref tv)]))
  refine Go.st (fun _ k => XS.i2b X.here hx rfl (hb hby d12_40) rfl k) ?_
  show Go p e below _ (T.setTop (mkF m 41 #[.val (.ref x), .val (.int ch)] [(.int (ch.toInt8.toInt32)), (.int (Int32.ofNat cs.length)), (.ref tv)]))
  have V_tv : Arv Z h1 tv kt .byte (16 : Int32) (lows cs ++ [.int (0 : Int32)]) (.int 0) := V_tv.pad (own_padg (lows cs) 1 (.int (0 : Int32)))
  refine Go.stBN (i := cs.length) X hx hZ hT V_tv (by show _ < 16; omega) (by omega) (by simp) (hb hby d12_41) ?_
  intro T h2 hT Wr0 V2 X
  have N := Fr.snoc X N ge_tv
  have A_x := A_x.wr Wr0
  have F_x_value := F_x_value.other Wr0 (Or.inl ne_x_tv)
  have F_x_coder := F_x_coder.other Wr0 (Or.inl ne_x_tv)
  have F_x_count := F_x_count.other Wr0 (Or.inl ne_x_tv)
  have KB := (KB).wr Wr0 (Or.inl (List.mem_of_getElem? (i := 1) rfl))
  rw [own_setl] at V2
  have V_tv := V2
  show Go p e below _ (T.setTop (mkF m 42 #[.val (.ref x), .val (.int ch)] []))
  refine Go.st (fun _ k => XS.goto X.here hx rfl (pc0 := 42) (pc' := 75) rfl (hb hby d12_42) (by decide) (by decide) k) ?_
  show Go p e below _ (T.setTop (mkF m 75 #[.val (.ref x), .val (.int ch)] []))
  refine Go.st (fun _ k => XS.aloadN X.here hx rfl (hb hby d12_75) rfl rfl k) ?_
  show Go p e below _ (T.setTop (mkF m 76 #[.val (.ref x), .val (.int ch)] [(.ref x)]))
  refine Go.ret X hx hlk hT hret rfl (riA rfl rfl) (hb hby d12_76) (by decide) (by decide) ?_
  exact ⟨rfl, N, KB, A_x, F_x_value, F_x_coder, by rw [List.length_append]; exact F_x_count, V_tv⟩
theorem pd_11 : parseMethodDescriptor "(C)Ljava/lang/AbstractStringBuilder;" = some ⟨[.char], (some (.object "java/lang/AbstractStringBuilder"))⟩ := by decide +kernel
theorem d11_0 : decode jdk_67_method_14_code 0 = .ok (.aload_n 0, 1) := by decide +kernel
theorem d11_1 : decode jdk_67_method_14_code 1 = .ok (.iload_n 1, 1) := by decide +kernel
theorem d11_2 : decode jdk_67_method_14_code 2 = .ok (.invokespecial 50, 3) := by decide +kernel
theorem d11_5 : decode jdk_67_method_14_code 5 = .ok (.pop, 1) := by decide +kernel
theorem d11_6 : decode jdk_67_method_14_code 6 = .ok (.aload_n 0, 1) := by decide +kernel
theorem d11_7 : decode jdk_67_method_14_code 7 = .ok (.areturn, 1) := by decide +kernel
theorem pn_18 : plainFor (⟨"java/lang/StringBuilder", "append", "(C)Ljava/lang/StringBuilder;"⟩ : MethodName) = true := by first | exact plainFor_of_name (by first | (simp [plainName, overriddenIn]; done) | decide +kernel) | decide +kernel
set_option maxRecDepth 65536 in
set_option maxHeartbeats 40000000 in
theorem met_sac (l : Launch) (Z : State) (a0 : Array Value) (hw : ∀ d ∈ tables_1, d.before a0 Z = true) (ws : List Jvm.Cond) (z : Int32) (n0 : Nat) (x tv : Addr) (kt : ClassId) (cs : List Int32) (ch : Int32) (h0 : Heap) (O : Old Z n0 h0) (Sc : Stat Z z) (S_x : SB Z h0 x tv kt cs) (ge_x : n0 ≤ x) (ge_tv : n0 ≤ tv) (hc0 : ¬ ch < 0) (hc1 : ¬ (255 : Int32) < ch) (hn : cs.length < 16) :
    MetFree l (⟨"java/lang/StringBuilder", "append", "(C)Ljava/lang/StringBuilder;"⟩ : MethodName) (head1 (Jvm.Cond.code (⟨"java/lang/StringBuilder", "append", "(C)Ljava/lang/StringBuilder;"⟩ : MethodName) jdk_67_method_14_code 2 (some (.object "java/lang/StringBuilder")) :: ws) ({ frames := 2, cells := 0, slots := 0, locals := 27 } : Room)) (fun aa U => aa = #[(.ref x), (.int ch)] ∧ Z.Warmed39 U.vm ∧ U.heap = h0) (fun _ _ _ _ _ => True) (fun _ U o U' => ∃ v L, o = .returned v ∧ QAp Z x tv kt (cs ++ [ch]) n0 h0 v U'.heap L ∧ FrameEnd U o U' L ({ frames := 2, cells := 0, slots := 0, locals := 27 } : Room).cells ({ frames := 2, cells := 0, slots := 0, locals := 27 } : Room).slots) := by
  refine openP (y := (⟨"java/lang/StringBuilder", "append", "(C)Ljava/lang/StringBuilder;"⟩ : MethodName)) pn_18 ?_
  intro p e s m below meth c T hx hby hml hret hlk hnm hZ hown X hT
  refine Go.st (fun _ k => castTop (ef_AI_2 m x ch) k) ?_
  show Go p e below _ (T.setTop (mkF m 0 #[.val (.ref x), .val (.int ch)] []))
  refine Go.st (fun _ k => XS.aloadN X.here hx rfl (hb hby d11_0) rfl rfl k) ?_
  show Go p e below _ (T.setTop (mkF m 1 #[.val (.ref x), .val (.int ch)] [(.ref x)]))
  refine Go.st (fun _ k => XS.iloadN X.here hx rfl (hb hby d11_1) rfl k) ?_
  show Go p e below _ (T.setTop (mkF m 2 #[.val (.ref x), .val (.int ch)] [(.int ch), (.ref x)]))
  refine Go.superP (K := "java/lang/StringBuilder") (argsL := [(.int ch)]) (rest := []) (W := 0) (ck := 0) (sk := 0) X hx hZ hown (hml.trans rfl) hT S_x.1 (hw _ (List.mem_of_getElem? (i := 69) rfl)) (own_sameM (hw _ (List.mem_of_getElem? (i := 70) rfl)) (hw _ (List.mem_of_getElem? (i := 84) rfl)) rfl (by decide)) (hw _ (List.mem_of_getElem? (i := 70) rfl)) (hw _ (List.mem_of_getElem? (i := 71) rfl)) (by decide) (hw _ (List.mem_of_getElem? (i := 73) rfl)) pd_11 rfl rfl (Nat.le_of_ble_eq_true rfl) (hb hby d11_2) (backOf (W := 0) (met_aac l Z a0 hw [] z n0 x tv kt cs ch _ O Sc S_x ge_x ge_tv hc0 hc1 hn) hZ (hw _ (List.mem_of_getElem? (i := 73) rfl)) (hw _ (List.mem_of_getElem? (i := 54) rfl)) (by decide) (by decide)) (by decide) (by decide) ?_
  intro v T h1 L hT hQ X
  obtain ⟨rfl, N0, K0, S_2⟩ := hQ
  show Go p e below _ (T.setTop (mkF m 5 #[.val (.ref x), .val (.int ch)] [(.ref x)]))
  refine Go.st (fun _ k => XS.pop X.here hx rfl (hb hby d11_5) rfl rfl k) ?_
  show Go p e below _ (T.setTop (mkF m 6 #[.val (.ref x), .val (.int ch)] []))
  refine Go.st (fun _ k => XS.aloadN X.here hx rfl (hb hby d11_6) rfl rfl k) ?_
  show Go p e below _ (T.setTop (mkF m 7 #[.val (.ref x), .val (.int ch)] [(.ref x)]))
  refine Go.ret X hx hlk hT hret rfl (riA rfl rfl) (hb hby d11_7) (by decide) (by decide) ?_
  exact ⟨rfl, N0, K0, S_2⟩
theorem d19_0 : decode jdk_42_method_152_code 0 = .ok (.getstatic 38, 3) := by decide +kernel
theorem d19_3 : decode jdk_42_method_152_code 3 = .ok (.ifCond .eq 10, 3) := by decide +kernel
theorem d19_6 : decode jdk_42_method_152_code 6 = .ok (.aload_n 0, 1) := by decide +kernel
theorem d19_7 : decode jdk_42_method_152_code 7 = .ok (.getfield 15, 3) := by decide +kernel
theorem d19_10 : decode jdk_42_method_152_code 10 = .ok (.goto 4, 3) := by decide +kernel
theorem d19_14 : decode jdk_42_method_152_code 14 = .ok (.ireturn, 1) := by decide +kernel
theorem pn_19 : plainFor (⟨"java/lang/String", "coder", "()B"⟩ : MethodName) = true := by first | exact plainFor_of_name (by first | (simp [plainName, overriddenIn]; done) | decide +kernel) | decide +kernel
set_option maxRecDepth 65536 in
set_option maxHeartbeats 40000000 in
theorem met_cod (l : Launch) (Z : State) (a0 : Array Value) (hw : ∀ d ∈ tables_1, d.before a0 Z = true) (ws : List Jvm.Cond) (z : Int32) (n0 : Nat) (y : Addr) (h0 : Heap) (O : Old Z n0 h0) (Sc : Stat Z z) (F_y : Fld Z h0 y ST "coder" "B" (.int 0)) :
    MetFree l (⟨"java/lang/String", "coder", "()B"⟩ : MethodName) (head1 (Jvm.Cond.code (⟨"java/lang/String", "coder", "()B"⟩ : MethodName) jdk_42_method_152_code 1 (some .byte) :: ws) ({ frames := 0, cells := 0, slots := 0, locals := 0 } : Room)) (fun aa U => aa = #[(.ref y)] ∧ Z.Warmed39 U.vm ∧ U.heap = h0) (fun _ _ _ _ _ => True) (fun _ U o U' => ∃ v L, o = .returned v ∧ QV (.int 0) h0 v U'.heap L ∧ FrameEnd U o U' L ({ frames := 0, cells := 0, slots := 0, locals := 0 } : Room).cells ({ frames := 0, cells := 0, slots := 0, locals := 0 } : Room).slots) := by
  refine openP (y := (⟨"java/lang/String", "coder", "()B"⟩ : MethodName)) pn_19 ?_
  intro p e s m below meth c T hx hby hml hret hlk hnm hZ hown X hT
  refine Go.st (fun _ k => castTop (ef_A_1 m y) k) ?_
  show Go p e below _ (T.setTop (mkF m 0 #[.val (.ref y)] []))
  obtain ⟨T, X, hT, st⟩ := getS2 X hx hZ hown (host := "") (Or.inl (hw _ (List.mem_of_getElem? (i := 22) rfl))) Via.refl hT (Sc.1.ext O.2) (g := (mkF m 0 #[.val (.ref y)] [])) rfl (hb hby d19_0)
  refine Go.st st ?_
  show Go p e below _ (T.setTop (mkF m 3 #[.val (.ref y)] [(.int z)]))
  refine Go.st (fun _ k => XS.ifNo X.here hx rfl (hb hby d19_3) rfl (Jvm.Free.XT.i0_eq_f (Sc.2 : ¬ (z = (0 : Int32)))) k) ?_
  show Go p e below _ (T.setTop (mkF m 6 #[.val (.ref y)] []))
  refine Go.st (fun _ k => XS.aloadN X.here hx rfl (hb hby d19_6) rfl rfl k) ?_
  show Go p e below _ (T.setTop (mkF m 7 #[.val (.ref y)] [(.ref y)]))
  obtain ⟨T, X, hT, st⟩ := getF X hx hZ hown (host := "") (Or.inl (hw _ (List.mem_of_getElem? (i := 34) rfl))) Via.refl hT F_y (g := (mkF m 7 #[.val (.ref y)] [(.ref y)])) rfl rfl (hb hby d19_7)
  refine Go.st st ?_
  show Go p e below _ (T.setTop (mkF m 10 #[.val (.ref y)] [(.int (0 : Int32))]))
  refine Go.st (fun _ k => XS.goto X.here hx rfl (pc0 := 10) (pc' := 14) rfl (hb hby d19_10) (by decide) (by decide) k) ?_
  show Go p e below _ (T.setTop (mkF m 14 #[.val (.ref y)] [(.int (0 : Int32))]))
  refine Go.ret X hx hlk hT hret (by decide) (riI (by simp)) (hb hby d19_14) (by decide) (by decide) ?_
  exact ⟨rfl, rfl, rfl⟩
theorem pd_12 : parseMethodDescriptor "()B" = some ⟨[], (some .byte)⟩ := by decide +kernel
theorem d21_0 : decode jdk_68_method_71_code 0 = .ok (.getstatic 18, 3) := by decide +kernel
theorem d21_3 : decode jdk_68_method_71_code 3 = .ok (.ifCond .eq 18, 3) := by decide +kernel
theorem d21_6 : decode jdk_68_method_71_code 6 = .ok (.aload_n 0, 1) := by decide +kernel
theorem d21_7 : decode jdk_68_method_71_code 7 = .ok (.getfield 22, 3) := by decide +kernel
theorem d21_10 : decode jdk_68_method_71_code 10 = .ok (.aload_n 1, 1) := by decide +kernel
theorem d21_11 : decode jdk_68_method_71_code 11 = .ok (.invokevirtual 40, 3) := by decide +kernel
theorem d21_14 : decode jdk_68_method_71_code 14 = .ok (.if_icmp .eq 7, 3) := by decide +kernel
theorem d21_21 : decode jdk_68_method_71_code 21 = .ok (.return_, 1) := by decide +kernel
theorem pn_20 : plainFor (⟨"java/lang/AbstractStringBuilder", "inflateIfNeededFor", "(Ljava/lang/String;)V"⟩ : MethodName) = true := by first | exact plainFor_of_name (by first | (simp [plainName, overriddenIn]; done) | decide +kernel) | decide +kernel
set_option maxRecDepth 65536 in
set_option maxHeartbeats 40000000 in
theorem met_inf (l : Launch) (Z : State) (a0 : Array Value) (hw : ∀ d ∈ tables_1, d.before a0 Z = true) (ws : List Jvm.Cond) (z : Int32) (n0 : Nat) (x tv : Addr) (kt : ClassId) (cs : List Int32) (y : Addr) (ds : List Int32) (h0 : Heap) (O : Old Z n0 h0) (Sc : Stat Z z) (S_x : SB Z h0 x tv kt cs) (S_y : Str Z h0 y ds) (hl : Lat ds) :
    MetFree l (⟨"java/lang/AbstractStringBuilder", "inflateIfNeededFor", "(Ljava/lang/String;)V"⟩ : MethodName) (head1 (Jvm.Cond.code (⟨"java/lang/AbstractStringBuilder", "inflateIfNeededFor", "(Ljava/lang/String;)V"⟩ : MethodName) jdk_68_method_71_code 2 none :: ws) ({ frames := 1, cells := 0, slots := 0, locals := 13 } : Room)) (fun aa U => aa = #[(.ref x), (.ref y)] ∧ Z.Warmed39 U.vm ∧ U.heap = h0) (fun _ _ _ _ _ => True) (fun _ U o U' => ∃ v L, o = .returned v ∧ QU h0 v U'.heap L ∧ FrameEnd U o U' L ({ frames := 1, cells := 0, slots := 0, locals := 13 } : Room).cells ({ frames := 1, cells := 0, slots := 0, locals := 13 } : Room).slots) := by
  refine openP (y := (⟨"java/lang/AbstractStringBuilder", "inflateIfNeededFor", "(Ljava/lang/String;)V"⟩ : MethodName)) pn_20 ?_
  intro p e s m below meth c T hx hby hml hret hlk hnm hZ hown X hT
  refine Go.st (fun _ k => castTop (ef_AA_2 m x y) k) ?_
  show Go p e below _ (T.setTop (mkF m 0 #[.val (.ref x), .val (.ref y)] []))
  obtain ⟨sv, ks, E_y, F_yv, F_yc, V_s⟩ := own_latin S_y hl
  obtain ⟨T, X, hT, st⟩ := getS2 X hx hZ hown (host := "") (Or.inl (hw _ (List.mem_of_getElem? (i := 57) rfl))) Via.refl hT (Sc.1.ext O.2) (g := (mkF m 0 #[.val (.ref x), .val (.ref y)] [])) rfl (hb hby d21_0)
  refine Go.st st ?_
  show Go p e below _ (T.setTop (mkF m 3 #[.val (.ref x), .val (.ref y)] [(.int z)]))
  refine Go.st (fun _ k => XS.ifNo X.here hx rfl (hb hby d21_3) rfl (Jvm.Free.XT.i0_eq_f (Sc.2 : ¬ (z = (0 : Int32)))) k) ?_
  show Go p e below _ (T.setTop (mkF m 6 #[.val (.ref x), .val (.ref y)] []))
  refine Go.st (fun _ k => XS.aloadN X.here hx rfl (hb hby d21_6) rfl rfl k) ?_
  show Go p e below _ (T.setTop (mkF m 7 #[.val (.ref x), .val (.ref y)] [(.ref x)]))
  obtain ⟨T, X, hT, st⟩ := getF X hx hZ hown (host := "") (Or.inl (hw _ (List.mem_of_getElem? (i := 60) rfl))) Via.refl hT S_x.2.2.1 (g := (mkF m 7 #[.val (.ref x), .val (.ref y)] [(.ref x)])) rfl rfl (hb hby d21_7)
  refine Go.st st ?_
  show Go p e below _ (T.setTop (mkF m 10 #[.val (.ref x), .val (.ref y)] [(.int (0 : Int32))]))
  refine Go.st (fun _ k => XS.aloadN X.here hx rfl (hb hby d21_10) rfl rfl k) ?_
  show Go p e below _ (T.setTop (mkF m 11 #[.val (.ref x), .val (.ref y)] [(.ref y), (.int (0 : Int32))]))
  refine Go.virtP (K := "java/lang/String") (z := (⟨"java/lang/String", "coder", "()B"⟩ : MethodName)) (argsL := []) (rest := [(.int (0 : Int32))]) (W := 1) (ck := 0) (sk := 0) X hx hZ hown (hml.trans rfl) hT E_y (hw _ (List.mem_of_getElem? (i := 122) rfl)) (hw _ (List.mem_of_getElem? (i := 108) rfl)) (hw _ (List.mem_of_getElem? (i := 110) rfl)) (hw _ (List.mem_of_getElem? (i := 109) rfl)) (by decide) pd_12 rfl rfl (Nat.le_of_ble_eq_true rfl) (hb hby d21_11) (notFace_of_selects (args := #[]) (mvT hZ (hw _ (List.mem_of_getElem? (i := 110) rfl)))) (backOf (W := 1) (met_cod l Z a0 hw [] z n0 y _ O Sc F_yc) hZ (hw _ (List.mem_of_getElem? (i := 111) rfl)) (hw _ (List.mem_of_getElem? (i := 10) rfl)) (by decide) (by decide)) (by decide) (by decide) ?_
  intro v T hq L hT hQ X
  obtain ⟨rfl, rfl, hq0⟩ := hQ
  rw [hq0] at hT
  rw [List.append_nil] at X
  show Go p e below _ (T.setTop (mkF m 14 #[.val (.ref x), .val (.ref y)] [(.int (0 : Int32)), (.int (0 : Int32))]))
  refine Go.st (fun _ k => XS.icmpYes X.here hx rfl (pc0 := 14) (pc' := 21) rfl (hb hby d21_14) rfl (Jvm.Free.XT.ii_eq_t (by decide : (0 : Int32) = (0 : Int32))) (by decide) (by decide) k) ?_
  show Go p e below _ (T.setTop (mkF m 21 #[.val (.ref x), .val (.ref y)] []))
  refine Go.retV X hx hlk hT hret (hb hby d21_21) (by decide) (by decide) ?_
  exact ⟨rfl, rfl, rfl⟩
theorem own_usall (ds : List Int32) : lows ds = (List.range ds.length).map fun i => (lows ds).getD (0 + i) (.int 0) := by
  apply List.ext_getElem?
  intro i
  simp only [lows, List.getElem?_map, List.getElem?_range]
  by_cases hi : i < ds.length
  · simp [hi, List.getD_eq_getElem?_getD]
  · simp [hi]
theorem own_cat (cs ds : List Int32) (n : Nat) : ((lows cs ++ List.replicate n (Value.int (0 : Int32))).take cs.length ++ lows ds ++ (lows cs ++ List.replicate n (Value.int (0 : Int32))).drop (cs.length + ds.length)) = lows (cs ++ ds) ++ List.replicate (n - ds.length) (Value.int (0 : Int32)) := by
  have h1 : (lows cs ++ List.replicate n (Value.int (0 : Int32))).take cs.length = lows cs := by
    rw [List.take_append_of_le_length (by simp)]; exact List.take_of_length_le (by simp)
  have h2 : (lows cs ++ List.replicate n (Value.int (0 : Int32))).drop (cs.length + ds.length) = List.replicate (n - ds.length) (Value.int (0 : Int32)) := by
    rw [List.drop_append]
    simp
  rw [h1, h2]; simp
def QGb (Z : State) (tv : Addr) (kt : ClassId) (ds : List Int32) (n0 : Nat) (h0 : Heap) (v : Option Value) (h : Heap) (L : List Loc) : Prop := v = none ∧ Fr n0 L ∧ Keep h0 h [tv] ∧ Arv Z h tv kt .byte (16 : Int32) (lows ds) (.int 0)
theorem d22_0 : decode jdk_42_method_147_code 0 = .ok (.aload_n 0, 1) := by decide +kernel
theorem d22_1 : decode jdk_42_method_147_code 1 = .ok (.invokevirtual 335, 3) := by decide +kernel
theorem d22_4 : decode jdk_42_method_147_code 4 = .ok (.iload_n 3, 1) := by decide +kernel
theorem d22_5 : decode jdk_42_method_147_code 5 = .ok (.if_icmp .ne 23, 3) := by decide +kernel
theorem d22_8 : decode jdk_42_method_147_code 8 = .ok (.aload_n 0, 1) := by decide +kernel
theorem d22_9 : decode jdk_42_method_147_code 9 = .ok (.getfield 9, 3) := by decide +kernel
theorem d22_12 : decode jdk_42_method_147_code 12 = .ok (.iconst 0, 1) := by decide +kernel
theorem d22_13 : decode jdk_42_method_147_code 13 = .ok (.aload_n 1, 1) := by decide +kernel
theorem d22_14 : decode jdk_42_method_147_code 14 = .ok (.iload_n 2, 1) := by decide +kernel
theorem d22_15 : decode jdk_42_method_147_code 15 = .ok (.iload_n 3, 1) := by decide +kernel
theorem d22_16 : decode jdk_42_method_147_code 16 = .ok (.ishl, 1) := by decide +kernel
theorem d22_17 : decode jdk_42_method_147_code 17 = .ok (.aload_n 0, 1) := by decide +kernel
theorem d22_18 : decode jdk_42_method_147_code 18 = .ok (.getfield 9, 3) := by decide +kernel
theorem d22_21 : decode jdk_42_method_147_code 21 = .ok (.arraylength, 1) := by decide +kernel
theorem d22_22 : decode jdk_42_method_147_code 22 = .ok (.invokestatic 212, 3) := by decide +kernel
theorem d22_25 : decode jdk_42_method_147_code 25 = .ok (.goto 18, 3) := by decide +kernel
theorem d22_43 : decode jdk_42_method_147_code 43 = .ok (.return_, 1) := by decide +kernel
theorem pn_21 : plainFor (⟨"java/lang/String", "getBytes", "([BIB)V"⟩ : MethodName) = true := by first | exact plainFor_of_name (by first | (simp [plainName, overriddenIn]; done) | decide +kernel) | decide +kernel
theorem ef_AAII_4 (m : MethodId) (y0 : Addr) (y1 : Addr) (y2 : Int32) (y3 : Int32) : entryFrame m #[(.ref y0), (.ref y1), (.int y2), (.int y3)] 4 = mkF m 0 #[.val (.ref y0), .val (.ref y1), .val (.int y2), .val (.int y3)] [] := by first | (simp [entryFrame, mkF, argsToLocals, Value.category]; done) | rfl
set_option maxRecDepth 65536 in
set_option maxHeartbeats 40000000 in
theorem met_gby (l : Launch) (Z : State) (a0 : Array Value) (hw : ∀ d ∈ tables_1, d.before a0 Z = true) (ws : List Jvm.Cond) (z : Int32) (n0 : Nat) (tv : Addr) (kt : ClassId) (cs : List Int32) (y : Addr) (ds : List Int32) (h0 : Heap) (O : Old Z n0 h0) (Sc : Stat Z z) (S_y : Str Z h0 y ds) (hl : Lat ds) (V_tv : Arv Z h0 tv kt .byte (16 : Int32) (lows cs) (.int 0)) (ge_tv : n0 ≤ tv) (hn : cs.length + ds.length ≤ 16) :
    MetFree l (⟨"java/lang/String", "getBytes", "([BIB)V"⟩ : MethodName) (head1 (Jvm.Cond.code (⟨"java/lang/String", "getBytes", "([BIB)V"⟩ : MethodName) jdk_42_method_147_code 4 none :: ws) ({ frames := 1, cells := 0, slots := 0, locals := 60 } : Room)) (fun aa U => aa = #[(.ref y), (.ref tv), (.int (Int32.ofNat cs.length)), (.int (0 : Int32))] ∧ Z.Warmed39 U.vm ∧ U.heap = h0) (fun _ _ _ _ _ => True) (fun _ U o U' => ∃ v L, o = .returned v ∧ QGb Z tv kt (cs ++ ds) n0 h0 v U'.heap L ∧ FrameEnd U o U' L ({ frames := 1, cells := 0, slots := 0, locals := 60 } : Room).cells ({ frames := 1, cells := 0, slots := 0, locals := 60 } : Room).slots) := by
  refine openP (y := (⟨"java/lang/String", "getBytes", "([BIB)V"⟩ : MethodName)) pn_21 ?_
  intro p e s m below meth c T hx hby hml hret hlk hnm hZ hown X hT
  refine Go.st (fun _ k => castTop (ef_AAII_4 m y tv (Int32.ofNat cs.length) (0 : Int32)) k) ?_
  show Go p e below _ (T.setTop (mkF m 0 #[.val (.ref y), .val (.ref tv), .val (.int (Int32.ofNat cs.length)), .val (.int (0 : Int32))] []))
  obtain ⟨sv, ks, E_y, F_yv, F_yc, V_s⟩ := own_latin S_y hl
  refine Go.st (fun _ k => XS.aloadN X.here hx rfl (hb hby d22_0) rfl rfl k) ?_
  show Go p e below _ (T.setTop (mkF m 1 #[.val (.ref y), .val (.ref tv), .val (.int (Int32.ofNat cs.length)), .val (.int (0 : Int32))] [(.ref y)]))
  refine Go.virtP (K := "java/lang/String") (z := (⟨"java/lang/String", "coder", "()B"⟩ : MethodName)) (argsL := []) (rest := []) (W := 0) (ck := 0) (sk := 0) X hx hZ hown (hml.trans rfl) hT E_y (hw _ (List.mem_of_getElem? (i := 107) rfl)) (hw _ (List.mem_of_getElem? (i := 108) rfl)) (hw _ (List.mem_of_getElem? (i := 110) rfl)) (hw _ (List.mem_of_getElem? (i := 109) rfl)) (by decide) pd_12 rfl rfl (Nat.le_of_ble_eq_true rfl) (hb hby d22_1) (notFace_of_selects (args := #[]) (mvT hZ (hw _ (List.mem_of_getElem? (i := 110) rfl)))) (backOf (W := 0) (met_cod l Z a0 hw [] z n0 y _ O Sc F_yc) hZ (hw _ (List.mem_of_getElem? (i := 111) rfl)) (hw _ (List.mem_of_getElem? (i := 10) rfl)) (by decide) (by decide)) (by decide) (by decide) ?_
  intro v T hq L hT hQ X
  obtain ⟨rfl, rfl, hq0⟩ := hQ
  rw [hq0] at hT
  rw [List.append_nil] at X
  show Go p e below _ (T.setTop (mkF m 4 #[.val (.ref y), .val (.ref tv), .val (.int (Int32.ofNat cs.length)), .val (.int (0 : Int32))] [(.int (0 : Int32))]))
  refine Go.st (fun _ k => XS.iloadN X.here hx rfl (hb hby d22_4) rfl k) ?_
  show Go p e below _ (T.setTop (mkF m 5 #[.val (.ref y), .val (.ref tv), .val (.int (Int32.ofNat cs.length)), .val (.int (0 : Int32))] [(.int (0 : Int32)), (.int (0 : Int32))]))
  refine Go.st (fun _ k => XS.icmpNo X.here hx rfl (hb hby d22_5) rfl (Jvm.Free.XT.ii_ne_f (by decide : (0 : Int32) = (0 : Int32))) k) ?_
  show Go p e below _ (T.setTop (mkF m 8 #[.val (.ref y), .val (.ref tv), .val (.int (Int32.ofNat cs.length)), .val (.int (0 : Int32))] []))
  refine Go.st (fun _ k => XS.aloadN X.here hx rfl (hb hby d22_8) rfl rfl k) ?_
  show Go p e below _ (T.setTop (mkF m 9 #[.val (.ref y), .val (.ref tv), .val (.int (Int32.ofNat cs.length)), .val (.int (0 : Int32))] [(.ref y)]))
  obtain ⟨T, X, hT, st⟩ := getF X hx hZ hown (host := "") (Or.inl (hw _ (List.mem_of_getElem? (i := 36) rfl))) Via.refl hT F_yv (g := (mkF m 9 #[.val (.ref y), .val (.ref tv), .val (.int (Int32.ofNat cs.length)), .val (.int (0 : Int32))] [(.ref y)])) rfl rfl (hb hby d22_9)
  refine Go.st st ?_
  show Go p e below _ (T.setTop (mkF m 12 #[.val (.ref y), .val (.ref tv), .val (.int (Int32.ofNat cs.length)), .val (.int (0 : Int32))] [(.ref sv)]))
  refine Go.st (fun _ k => XS.iconst X.here hx rfl (hb hby d22_12) k) ?_
  show Go p e below _ (T.setTop (mkF m 13 #[.val (.ref y), .val (.ref tv), .val (.int (Int32.ofNat cs.length)), .val (.int (0 : Int32))] [(.int (0 : Int32)), (.ref sv)]))
  refine Go.st (fun _ k => XS.aloadN X.here hx rfl (hb hby d22_13) rfl rfl k) ?_
  show Go p e below _ (T.setTop (mkF m 14 #[.val (.ref y), .val (.ref tv), .val (.int (Int32.ofNat cs.length)), .val (.int (0 : Int32))] [(.ref tv), (.int (0 : Int32)), (.ref sv)]))
  refine Go.st (fun _ k => XS.iloadN X.here hx rfl (hb hby d22_14) rfl k) ?_
  show Go p e below _ (T.setTop (mkF m 15 #[.val (.ref y), .val (.ref tv), .val (.int (Int32.ofNat cs.length)), .val (.int (0 : Int32))] [(.int (Int32.ofNat cs.length)), (.ref tv), (.int (0 : Int32)), (.ref sv)]))
  refine Go.st (fun _ k => XS.iloadN X.here hx rfl (hb hby d22_15) rfl k) ?_
  show Go p e below _ (T.setTop (mkF m 16 #[.val (.ref y), .val (.ref tv), .val (.int (Int32.ofNat cs.length)), .val (.int (0 : Int32))] [(.int (0 : Int32)), (.int (Int32.ofNat cs.length)), (.ref tv), (.int (0 : Int32)), (.ref sv)]))
  refine Go.st (fun _ k => XS.ishl X.here hx rfl (hb hby d22_16) rfl k) ?_
  show Go p e below _ (T.setTop (mkF m 17 #[.val (.ref y), .val (.ref tv), .val (.int (Int32.ofNat cs.length)), .val (.int (0 : Int32))] [(.int ((Int32.ofNat cs.length) <<< ((0 : Int32) &&& 31))), (.ref tv), (.int (0 : Int32)), (.ref sv)]))
  rw [own_shl0 (by omega)]
  show Go p e below _ (T.setTop (mkF m 17 #[.val (.ref y), .val (.ref tv), .val (.int (Int32.ofNat cs.length)), .val (.int (0 : Int32))] [(.int (Int32.ofNat cs.length)), (.ref tv), (.int (0 : Int32)), (.ref sv)]))
  refine Go.st (fun _ k => XS.aloadN X.here hx rfl (hb hby d22_17) rfl rfl k) ?_
  show Go p e below _ (T.setTop (mkF m 18 #[.val (.ref y), .val (.ref tv), .val (.int (Int32.ofNat cs.length)), .val (.int (0 : Int32))] [(.ref y), (.int (Int32.ofNat cs.length)), (.ref tv), (.int (0 : Int32)), (.ref sv)]))
  obtain ⟨T, X, hT, st⟩ := getF X hx hZ hown (host := "") (Or.inl (hw _ (List.mem_of_getElem? (i := 36) rfl))) Via.refl hT F_yv (g := (mkF m 18 #[.val (.ref y), .val (.ref tv), .val (.int (Int32.ofNat cs.length)), .val (.int (0 : Int32))] [(.ref y), (.int (Int32.ofNat cs.length)), (.ref tv), (.int (0 : Int32)), (.ref sv)])) rfl rfl (hb hby d22_18)
  refine Go.st st ?_
  show Go p e below _ (T.setTop (mkF m 21 #[.val (.ref y), .val (.ref tv), .val (.int (Int32.ofNat cs.length)), .val (.int (0 : Int32))] [(.ref sv), (.int (Int32.ofNat cs.length)), (.ref tv), (.int (0 : Int32)), (.ref sv)]))
  refine Go.alen X hx hZ hT V_s (hb hby d22_21) ?_
  show Go p e below _ (T.setTop (mkF m 22 #[.val (.ref y), .val (.ref tv), .val (.int (Int32.ofNat cs.length)), .val (.int (0 : Int32))] [(.int (Int32.ofNat ds.length)), (.int (Int32.ofNat cs.length)), (.ref tv), (.int (0 : Int32)), (.ref sv)]))
  have V_p : Arv Z h0 tv kt .byte (16 : Int32) (lows cs ++ List.replicate (16 - cs.length) (.int (0 : Int32))) (.int 0) := V_tv.pad (own_padg (lows cs) (16 - cs.length) (.int (0 : Int32)))
  have e16 : (16 : Int32).toNatClampNeg = 16 := by decide
  have e0 : (0 : Int32).toNatClampNeg = 0 := by decide
  obtain ⟨T, h1, L, X, hT, N, K0, V_2, st⟩ := cpA X hx hZ hown (hw _ (List.mem_of_getElem? (i := 128) rfl)) (hw _ (List.mem_of_getElem? (i := 131) rfl)) (hw _ (List.mem_of_getElem? (i := 129) rfl)) (hw _ (List.mem_of_getElem? (i := 130) rfl)) hT (sp := (0 : Int32)) (dp := Int32.ofNat cs.length) (nn := Int32.ofNat ds.length) (us := lows ds) V_s V_p (Or.inl ⟨rfl, rfl⟩) (by decide) (own_nn (by omega)) (own_nn (by omega)) (by rw [own_clamp (by omega), e0]; omega) (by rw [own_clamp (by omega), own_clamp (by omega), e16]; omega) (by rw [own_clamp (by omega), e0]; exact own_usall ds) (by rw [own_clamp (by omega), own_clamp (by omega), List.length_append, List.length_replicate, List.length_map]; omega) (Fr.nil n0) ge_tv (g := (mkF m 22 #[.val (.ref y), .val (.ref tv), .val (.int (Int32.ofNat cs.length)), .val (.int (0 : Int32))] [(.int (Int32.ofNat ds.length)), (.int (Int32.ofNat cs.length)), (.ref tv), (.int (0 : Int32)), (.ref sv)])) rfl (by rw [hml]; rfl) rfl (hb hby d22_22) (by decide) (W := 0) (by show 2 * 0 + _ ≤ _; exact Nat.le_of_ble_eq_true rfl) (by decide)
  refine Go.st st ?_
  show Go p e below _ (T.setTop (mkF m 25 #[.val (.ref y), .val (.ref tv), .val (.int (Int32.ofNat cs.length)), .val (.int (0 : Int32))] []))
  refine Go.st (fun _ k => XS.goto X.here hx rfl (pc0 := 25) (pc' := 43) rfl (hb hby d22_25) (by decide) (by decide) k) ?_
  show Go p e below _ (T.setTop (mkF m 43 #[.val (.ref y), .val (.ref tv), .val (.int (Int32.ofNat cs.length)), .val (.int (0 : Int32))] []))
  refine Go.retV X hx hlk hT hret (hb hby d22_43) (by decide) (by decide) ?_
  rw [own_clamp (by omega), own_clamp (by omega), own_cat] at V_2
  exact ⟨rfl, N, K0, V_2.pad (fun i => (own_padg (lows (cs ++ ds)) _ (.int (0 : Int32)) i).symm)⟩
theorem pd_13 : parseMethodDescriptor "(Ljava/lang/String;)V" = some ⟨[(.object "java/lang/String")], none⟩ := by decide +kernel
theorem pd_14 : parseMethodDescriptor "([BIB)V" = some ⟨[(.array .byte), .int, .byte], none⟩ := by decide +kernel
theorem d20_0 : decode jdk_68_method_73_code 0 = .ok (.aload_n 0, 1) := by decide +kernel
theorem d20_1 : decode jdk_68_method_73_code 1 = .ok (.aload_n 2, 1) := by decide +kernel
theorem d20_2 : decode jdk_68_method_73_code 2 = .ok (.invokevirtual 397, 3) := by decide +kernel
theorem d20_5 : decode jdk_68_method_73_code 5 = .ok (.aload_n 2, 1) := by decide +kernel
theorem d20_6 : decode jdk_68_method_73_code 6 = .ok (.aload_n 0, 1) := by decide +kernel
theorem d20_7 : decode jdk_68_method_73_code 7 = .ok (.getfield 15, 3) := by decide +kernel
theorem d20_10 : decode jdk_68_method_73_code 10 = .ok (.iload_n 1, 1) := by decide +kernel
theorem d20_11 : decode jdk_68_method_73_code 11 = .ok (.aload_n 0, 1) := by decide +kernel
theorem d20_12 : decode jdk_68_method_73_code 12 = .ok (.getfield 22, 3) := by decide +kernel
theorem d20_15 : decode jdk_68_method_73_code 15 = .ok (.invokevirtual 399, 3) := by decide +kernel
theorem d20_18 : decode jdk_68_method_73_code 18 = .ok (.return_, 1) := by decide +kernel
theorem pn_22 : plainFor (⟨"java/lang/AbstractStringBuilder", "putStringAt", "(ILjava/lang/String;)V"⟩ : MethodName) = true := by first | exact plainFor_of_name (by first | (simp [plainName, overriddenIn]; done) | decide +kernel) | decide +kernel
theorem ef_AIA_3 (m : MethodId) (y0 : Addr) (y1 : Int32) (y2 : Addr) : entryFrame m #[(.ref y0), (.int y1), (.ref y2)] 3 = mkF m 0 #[.val (.ref y0), .val (.int y1), .val (.ref y2)] [] := by first | (simp [entryFrame, mkF, argsToLocals, Value.category]; done) | rfl
set_option maxRecDepth 65536 in
set_option maxHeartbeats 40000000 in
theorem met_psa (l : Launch) (Z : State) (a0 : Array Value) (hw : ∀ d ∈ tables_1, d.before a0 Z = true) (ws : List Jvm.Cond) (z : Int32) (n0 : Nat) (x tv : Addr) (kt : ClassId) (cs : List Int32) (y : Addr) (ds : List Int32) (h0 : Heap) (O : Old Z n0 h0) (Sc : Stat Z z) (S_x : SB Z h0 x tv kt cs) (S_y : Str Z h0 y ds) (hl : Lat ds) (ge_tv : n0 ≤ tv) (hn : cs.length + ds.length ≤ 16) :
    MetFree l (⟨"java/lang/AbstractStringBuilder", "putStringAt", "(ILjava/lang/String;)V"⟩ : MethodName) (head1 (Jvm.Cond.code (⟨"java/lang/AbstractStringBuilder", "putStringAt", "(ILjava/lang/String;)V"⟩ : MethodName) jdk_68_method_73_code 3 none :: ws) ({ frames := 2, cells := 0, slots := 0, locals := 75 } : Room)) (fun aa U => aa = #[(.ref x), (.int (Int32.ofNat cs.length)), (.ref y)] ∧ Z.Warmed39 U.vm ∧ U.heap = h0) (fun _ _ _ _ _ => True) (fun _ U o U' => ∃ v L, o = .returned v ∧ QGb Z tv kt (cs ++ ds) n0 h0 v U'.heap L ∧ FrameEnd U o U' L ({ frames := 2, cells := 0, slots := 0, locals := 75 } : Room).cells ({ frames := 2, cells := 0, slots := 0, locals := 75 } : Room).slots) := by
  refine openP (y := (⟨"java/lang/AbstractStringBuilder", "putStringAt", "(ILjava/lang/String;)V"⟩ : MethodName)) pn_22 ?_
  intro p e s m below meth c T hx hby hml hret hlk hnm hZ hown X hT
  refine Go.st (fun _ k => castTop (ef_AIA_3 m x (Int32.ofNat cs.length) y) k) ?_
  show Go p e below _ (T.setTop (mkF m 0 #[.val (.ref x), .val (.int (Int32.ofNat cs.length)), .val (.ref y)] []))
  refine Go.st (fun _ k => XS.aloadN X.here hx rfl (hb hby d20_0) rfl rfl k) ?_
  show Go p e below _ (T.setTop (mkF m 1 #[.val (.ref x), .val (.int (Int32.ofNat cs.length)), .val (.ref y)] [(.ref x)]))
  refine Go.st (fun _ k => XS.aloadN X.here hx rfl (hb hby d20_1) rfl rfl k) ?_
  show Go p e below _ (T.setTop (mkF m 2 #[.val (.ref x), .val (.int (Int32.ofNat cs.length)), .val (.ref y)] [(.ref y), (.ref x)]))
  refine Go.virtP (K := "java/lang/StringBuilder") (z := (⟨"java/lang/AbstractStringBuilder", "inflateIfNeededFor", "(Ljava/lang/String;)V"⟩ : MethodName)) (argsL := [(.ref y)]) (rest := []) (W := 0) (ck := 0) (sk := 0) X hx hZ hown (hml.trans rfl) hT S_x.1 (hw _ (List.mem_of_getElem? (i := 117) rfl)) (own_decl (hw _ (List.mem_of_getElem? (i := 118) rfl)) (hw _ (List.mem_of_getElem? (i := 121) rfl))) (hw _ (List.mem_of_getElem? (i := 120) rfl)) (hw _ (List.mem_of_getElem? (i := 118) rfl)) (by decide) pd_13 rfl rfl (Nat.le_of_ble_eq_true rfl) (hb hby d20_2) (notFace_of_selects (args := #[]) (mvT hZ (hw _ (List.mem_of_getElem? (i := 120) rfl)))) (backOf (W := 0) (met_inf l Z a0 hw [] z n0 x tv kt cs y ds _ O Sc S_x S_y hl) hZ (hw _ (List.mem_of_getElem? (i := 121) rfl)) (hw _ (List.mem_of_getElem? (i := 54) rfl)) (by decide) (by decide)) (by decide) (by decide) ?_
  intro v T hq L hT hQ X
  obtain ⟨rfl, rfl, hq0⟩ := hQ
  rw [hq0] at hT
  rw [List.append_nil] at X
  show Go p e below _ (T.setTop (mkF m 5 #[.val (.ref x), .val (.int (Int32.ofNat cs.length)), .val (.ref y)] []))
  refine Go.st (fun _ k => XS.aloadN X.here hx rfl (hb hby d20_5) rfl rfl k) ?_
  show Go p e below _ (T.setTop (mkF m 6 #[.val (.ref x), .val (.int (Int32.ofNat cs.length)), .val (.ref y)] [(.ref y)]))
  refine Go.st (fun _ k => XS.aloadN X.here hx rfl (hb hby d20_6) rfl rfl k) ?_
  show Go p e below _ (T.setTop (mkF m 7 #[.val (.ref x), .val (.int (Int32.ofNat cs.length)), .val (.ref y)] [(.ref x), (.ref y)]))
  obtain ⟨T, X, hT, st⟩ := getF X hx hZ hown (host := "") (Or.inl (hw _ (List.mem_of_getElem? (i := 58) rfl))) Via.refl hT S_x.2.1 (g := (mkF m 7 #[.val (.ref x), .val (.int (Int32.ofNat cs.length)), .val (.ref y)] [(.ref x), (.ref y)])) rfl rfl (hb hby d20_7)
  refine Go.st st ?_
  show Go p e below _ (T.setTop (mkF m 10 #[.val (.ref x), .val (.int (Int32.ofNat cs.length)), .val (.ref y)] [(.ref tv), (.ref y)]))
  refine Go.st (fun _ k => XS.iloadN X.here hx rfl (hb hby d20_10) rfl k) ?_
  show Go p e below _ (T.setTop (mkF m 11 #[.val (.ref x), .val (.int (Int32.ofNat cs.length)), .val (.ref y)] [(.int (Int32.ofNat cs.length)), (.ref tv), (.ref y)]))
  refine Go.st (fun _ k => XS.aloadN X.here hx rfl (hb hby d20_11) rfl rfl k) ?_
  show Go p e below _ (T.setTop (mkF m 12 #[.val (.ref x), .val (.int (Int32.ofNat cs.length)), .val (.ref y)] [(.ref x), (.int (Int32.ofNat cs.length)), (.ref tv), (.ref y)]))
  obtain ⟨T, X, hT, st⟩ := getF X hx hZ hown (host := "") (Or.inl (hw _ (List.mem_of_getElem? (i := 60) rfl))) Via.refl hT S_x.2.2.1 (g := (mkF m 12 #[.val (.ref x), .val (.int (Int32.ofNat cs.length)), .val (.ref y)] [(.ref x), (.int (Int32.ofNat cs.length)), (.ref tv), (.ref y)])) rfl rfl (hb hby d20_12)
  refine Go.st st ?_
  show Go p e below _ (T.setTop (mkF m 15 #[.val (.ref x), .val (.int (Int32.ofNat cs.length)), .val (.ref y)] [(.int (0 : Int32)), (.int (Int32.ofNat cs.length)), (.ref tv), (.ref y)]))
  refine Go.virtP (K := "java/lang/String") (z := (⟨"java/lang/String", "getBytes", "([BIB)V"⟩ : MethodName)) (argsL := [(.ref tv), (.int (Int32.ofNat cs.length)), (.int (0 : Int32))]) (rest := []) (W := 0) (ck := 0) (sk := 0) X hx hZ hown (hml.trans rfl) hT S_y.exa (hw _ (List.mem_of_getElem? (i := 123) rfl)) (hw _ (List.mem_of_getElem? (i := 124) rfl)) (hw _ (List.mem_of_getElem? (i := 126) rfl)) (hw _ (List.mem_of_getElem? (i := 125) rfl)) (by decide) pd_14 rfl rfl (Nat.le_of_ble_eq_true rfl) (hb hby d20_15) (notFace_of_selects (args := #[]) (mvT hZ (hw _ (List.mem_of_getElem? (i := 126) rfl)))) (backOf (W := 0) (met_gby l Z a0 hw [] z n0 tv kt cs y ds _ O Sc S_y hl S_x.2.2.2.2 ge_tv hn) hZ (hw _ (List.mem_of_getElem? (i := 127) rfl)) (hw _ (List.mem_of_getElem? (i := 10) rfl)) (by decide) (by decide)) (by decide) (by decide) ?_
  intro v T h1 L hT hQ X
  obtain ⟨rfl, N0, K0, V_2⟩ := hQ
  show Go p e below _ (T.setTop (mkF m 18 #[.val (.ref x), .val (.int (Int32.ofNat cs.length)), .val (.ref y)] []))
  refine Go.retV X hx hlk hT hret (hb hby d20_18) (by decide) (by decide) ?_
  exact ⟨rfl, N0, K0, V_2⟩
theorem pd_15 : parseMethodDescriptor "(ILjava/lang/String;)V" = some ⟨[.int, (.object "java/lang/String")], none⟩ := by decide +kernel
theorem d17_0 : decode jdk_68_method_22_code 0 = .ok (.aload_n 1, 1) := by decide +kernel
theorem d17_1 : decode jdk_68_method_22_code 1 = .ok (.ifnonnull 8, 3) := by decide +kernel
theorem d17_9 : decode jdk_68_method_22_code 9 = .ok (.aload_n 1, 1) := by decide +kernel
theorem d17_10 : decode jdk_68_method_22_code 10 = .ok (.invokevirtual 32, 3) := by decide +kernel
theorem d17_13 : decode jdk_68_method_22_code 13 = .ok (.istore_n 2, 1) := by decide +kernel
theorem d17_14 : decode jdk_68_method_22_code 14 = .ok (.aload_n 0, 1) := by decide +kernel
theorem d17_15 : decode jdk_68_method_22_code 15 = .ok (.aload_n 0, 1) := by decide +kernel
theorem d17_16 : decode jdk_68_method_22_code 16 = .ok (.getfield 79, 3) := by decide +kernel
theorem d17_19 : decode jdk_68_method_22_code 19 = .ok (.iload_n 2, 1) := by decide +kernel
theorem d17_20 : decode jdk_68_method_22_code 20 = .ok (.iadd, 1) := by decide +kernel
theorem d17_21 : decode jdk_68_method_22_code 21 = .ok (.invokevirtual 100, 3) := by decide +kernel
theorem d17_24 : decode jdk_68_method_22_code 24 = .ok (.aload_n 0, 1) := by decide +kernel
theorem d17_25 : decode jdk_68_method_22_code 25 = .ok (.aload_n 0, 1) := by decide +kernel
theorem d17_26 : decode jdk_68_method_22_code 26 = .ok (.getfield 79, 3) := by decide +kernel
theorem d17_29 : decode jdk_68_method_22_code 29 = .ok (.aload_n 1, 1) := by decide +kernel
theorem d17_30 : decode jdk_68_method_22_code 30 = .ok (.invokevirtual 208, 3) := by decide +kernel
theorem d17_33 : decode jdk_68_method_22_code 33 = .ok (.aload_n 0, 1) := by decide +kernel
theorem d17_34 : decode jdk_68_method_22_code 34 = .ok (.dup, 1) := by decide +kernel
theorem d17_35 : decode jdk_68_method_22_code 35 = .ok (.getfield 79, 3) := by decide +kernel
theorem d17_38 : decode jdk_68_method_22_code 38 = .ok (.iload_n 2, 1) := by decide +kernel
theorem d17_39 : decode jdk_68_method_22_code 39 = .ok (.iadd, 1) := by decide +kernel
theorem d17_40 : decode jdk_68_method_22_code 40 = .ok (.putfield 79, 3) := by decide +kernel
theorem d17_43 : decode jdk_68_method_22_code 43 = .ok (.aload_n 0, 1) := by decide +kernel
theorem d17_44 : decode jdk_68_method_22_code 44 = .ok (.areturn, 1) := by decide +kernel
theorem pn_23 : plainFor (⟨"java/lang/AbstractStringBuilder", "append", "(Ljava/lang/String;)Ljava/lang/AbstractStringBuilder;"⟩ : MethodName) = true := by first | exact plainFor_of_name (by first | (simp [plainName, overriddenIn]; done) | decide +kernel) | decide +kernel
theorem ef_AA_3 (m : MethodId) (y0 : Addr) (y1 : Addr) : entryFrame m #[(.ref y0), (.ref y1)] 3 = mkF m 0 #[.val (.ref y0), .val (.ref y1), .unset] [] := by first | (simp [entryFrame, mkF, argsToLocals, Value.category]; done) | rfl
set_option maxRecDepth 65536 in
set_option maxHeartbeats 40000000 in
theorem met_aas (l : Launch) (Z : State) (a0 : Array Value) (hw : ∀ d ∈ tables_1, d.before a0 Z = true) (ws : List Jvm.Cond) (z : Int32) (n0 : Nat) (x tv : Addr) (kt : ClassId) (cs : List Int32) (y : Addr) (ds : List Int32) (h0 : Heap) (O : Old Z n0 h0) (Sc : Stat Z z) (S_x : SB Z h0 x tv kt cs) (ge_x : n0 ≤ x) (ge_tv : n0 ≤ tv) (S_y : Str Z h0 y ds) (hl : Lat ds) (hn : cs.length + ds.length ≤ 16) :
    MetFree l (⟨"java/lang/AbstractStringBuilder", "append", "(Ljava/lang/String;)Ljava/lang/AbstractStringBuilder;"⟩ : MethodName) (head1 (Jvm.Cond.code (⟨"java/lang/AbstractStringBuilder", "append", "(Ljava/lang/String;)Ljava/lang/AbstractStringBuilder;"⟩ : MethodName) jdk_68_method_22_code 3 (some (.object "java/lang/AbstractStringBuilder")) :: ws) ({ frames := 3, cells := 0, slots := 0, locals := 89 } : Room)) (fun aa U => aa = #[(.ref x), (.ref y)] ∧ Z.Warmed39 U.vm ∧ U.heap = h0) (fun _ _ _ _ _ => True) (fun _ U o U' => ∃ v L, o = .returned v ∧ QAp Z x tv kt (cs ++ ds) n0 h0 v U'.heap L ∧ FrameEnd U o U' L ({ frames := 3, cells := 0, slots := 0, locals := 89 } : Room).cells ({ frames := 3, cells := 0, slots := 0, locals := 89 } : Room).slots) := by
  refine openP (y := (⟨"java/lang/AbstractStringBuilder", "append", "(Ljava/lang/String;)Ljava/lang/AbstractStringBuilder;"⟩ : MethodName)) pn_23 ?_
  intro p e s m below meth c T hx hby hml hret hlk hnm hZ hown X hT
  refine Go.st (fun _ k => castTop (ef_AA_3 m x y) k) ?_
  show Go p e below _ (T.setTop (mkF m 0 #[.val (.ref x), .val (.ref y), .unset] []))
  have N := Fr.nil n0
  obtain ⟨A_x, F_x_value, F_x_coder, F_x_count, V_tv⟩ := id S_x
  have ne_x_tv : x ≠ tv := Exa.neArv A_x V_tv (hw _ (List.mem_of_getElem? (i := 45) rfl))
  refine Go.st (fun _ k => XS.aloadN X.here hx rfl (hb hby d17_0) rfl rfl k) ?_
  show Go p e below _ (T.setTop (mkF m 1 #[.val (.ref x), .val (.ref y), .unset] [(.ref y)]))
  refine Go.st (fun _ k => Jvm.Free.XT.nonnullYes X.here hx rfl (pc0 := 1) (pc' := 9) rfl (hb hby d17_1) rfl rfl (fun q => nomatch q) (by decide) (by decide) k) ?_
  show Go p e below _ (T.setTop (mkF m 9 #[.val (.ref x), .val (.ref y), .unset] []))
  refine Go.st (fun _ k => XS.aloadN X.here hx rfl (hb hby d17_9) rfl rfl k) ?_
  show Go p e below _ (T.setTop (mkF m 10 #[.val (.ref x), .val (.ref y), .unset] [(.ref y)]))
  refine Go.virtV (K := "java/lang/String") (z := (⟨"java/lang/String", "length", "()I"⟩ : MethodName)) (argsL := []) (rest := []) (W := 0) (w := (.int (Int32.ofNat ds.length))) X hx hZ hown (hml.trans rfl) hT S_y.exa (hw _ (List.mem_of_getElem? (i := 102) rfl)) (hw _ (List.mem_of_getElem? (i := 103) rfl)) (hw _ (List.mem_of_getElem? (i := 105) rfl)) (hw _ (List.mem_of_getElem? (i := 104) rfl)) (by decide) pd_9 rfl rfl (Nat.le_of_ble_eq_true rfl) (hb hby d17_10) (notFace_of_selects (args := #[]) (mvT hZ (hw _ (List.mem_of_getElem? (i := 105) rfl)))) (own_len (W := 0) hw hZ O Sc S_y (by decide) (by decide)) (by decide) (by decide) ?_
  intro T hT X
  show Go p e below _ (T.setTop (mkF m 13 #[.val (.ref x), .val (.ref y), .unset] [(.int (Int32.ofNat ds.length))]))
  refine Go.st (fun _ k => XS.istoreN X.here hx rfl (hb hby d17_13) rfl (l' := #[.val (.ref x), .val (.ref y), .val (.int (Int32.ofNat ds.length))]) rfl k) ?_
  show Go p e below _ (T.setTop (mkF m 14 #[.val (.ref x), .val (.ref y), .val (.int (Int32.ofNat ds.length))] []))
  refine Go.st (fun _ k => XS.aloadN X.here hx rfl (hb hby d17_14) rfl rfl k) ?_
  show Go p e below _ (T.setTop (mkF m 15 #[.val (.ref x), .val (.ref y), .val (.int (Int32.ofNat ds.length))] [(.ref x)]))
  refine Go.st (fun _ k => XS.aloadN X.here hx rfl (hb hby d17_15) rfl rfl k) ?_
  show Go p e below _ (T.setTop (mkF m 16 #[.val (.ref x), .val (.ref y), .val (.int (Int32.ofNat ds.length))] [(.ref x), (.ref x)]))
  obtain ⟨T, X, hT, st⟩ := getF X hx hZ hown (host := "") (Or.inl (hw _ (List.mem_of_getElem? (i := 74) rfl))) Via.refl hT F_x_count (g := (mkF m 16 #[.val (.ref x), .val (.ref y), .val (.int (Int32.ofNat ds.length))] [(.ref x), (.ref x)])) rfl rfl (hb hby d17_16)
  refine Go.st st ?_
  show Go p e below _ (T.setTop (mkF m 19 #[.val (.ref x), .val (.ref y), .val (.int (Int32.ofNat ds.length))] [(.int (Int32.ofNat cs.length)), (.ref x)]))
  refine Go.st (fun _ k => XS.iloadN X.here hx rfl (hb hby d17_19) rfl k) ?_
  show Go p e below _ (T.setTop (mkF m 20 #[.val (.ref x), .val (.ref y), .val (.int (Int32.ofNat ds.length))] [(.int (Int32.ofNat ds.length)), (.int (Int32.ofNat cs.length)), (.ref x)]))
  refine Go.st (fun _ k => XS.iadd X.here hx rfl (hb hby d17_20) rfl k) ?_
  show Go p e below _ (T.setTop (mkF m 21 #[.val (.ref x), .val (.ref y), .val (.int (Int32.ofNat ds.length))] [(.int ((Int32.ofNat cs.length) + (Int32.ofNat ds.length))), (.ref x)]))
  rw [own_addN]
  show Go p e below _ (T.setTop (mkF m 21 #[.val (.ref x), .val (.ref y), .val (.int (Int32.ofNat ds.length))] [(.int (Int32.ofNat (cs.length + ds.length))), (.ref x)]))
  refine Go.virtP (K := "java/lang/StringBuilder") (z := (⟨"java/lang/AbstractStringBuilder", "ensureCapacityInternal", "(I)V"⟩ : MethodName)) (argsL := [(.int (Int32.ofNat (cs.length + ds.length)))]) (rest := []) (W := 0) (ck := 0) (sk := 0) X hx hZ hown (hml.trans rfl) hT S_x.1 (hw _ (List.mem_of_getElem? (i := 76) rfl)) (own_decl (hw _ (List.mem_of_getElem? (i := 77) rfl)) (hw _ (List.mem_of_getElem? (i := 80) rfl))) (hw _ (List.mem_of_getElem? (i := 79) rfl)) (hw _ (List.mem_of_getElem? (i := 77) rfl)) (by decide) pd_8 rfl rfl (Nat.le_of_ble_eq_true rfl) (hb hby d17_21) (notFace_of_selects (args := #[]) (mvT hZ (hw _ (List.mem_of_getElem? (i := 79) rfl)))) (backOf (W := 0) (met_ens l Z a0 hw [] x tv kt cs (cs.length + ds.length) _ S_x hn) hZ (hw _ (List.mem_of_getElem? (i := 80) rfl)) (hw _ (List.mem_of_getElem? (i := 54) rfl)) (by decide) (by decide)) (by decide) (by decide) ?_
  intro v T hq L hT hQ X
  obtain ⟨rfl, rfl, hq0⟩ := hQ
  rw [hq0] at hT
  rw [List.append_nil] at X
  show Go p e below _ (T.setTop (mkF m 24 #[.val (.ref x), .val (.ref y), .val (.int (Int32.ofNat ds.length))] []))
  refine Go.st (fun _ k => XS.aloadN X.here hx rfl (hb hby d17_24) rfl rfl k) ?_
  show Go p e below _ (T.setTop (mkF m 25 #[.val (.ref x), .val (.ref y), .val (.int (Int32.ofNat ds.length))] [(.ref x)]))
  refine Go.st (fun _ k => XS.aloadN X.here hx rfl (hb hby d17_25) rfl rfl k) ?_
  show Go p e below _ (T.setTop (mkF m 26 #[.val (.ref x), .val (.ref y), .val (.int (Int32.ofNat ds.length))] [(.ref x), (.ref x)]))
  obtain ⟨T, X, hT, st⟩ := getF X hx hZ hown (host := "") (Or.inl (hw _ (List.mem_of_getElem? (i := 74) rfl))) Via.refl hT F_x_count (g := (mkF m 26 #[.val (.ref x), .val (.ref y), .val (.int (Int32.ofNat ds.length))] [(.ref x), (.ref x)])) rfl rfl (hb hby d17_26)
  refine Go.st st ?_
  show Go p e below _ (T.setTop (mkF m 29 #[.val (.ref x), .val (.ref y), .val (.int (Int32.ofNat ds.length))] [(.int (Int32.ofNat cs.length)), (.ref x)]))
  refine Go.st (fun _ k => XS.aloadN X.here hx rfl (hb hby d17_29) rfl rfl k) ?_
  show Go p e below _ (T.setTop (mkF m 30 #[.val (.ref x), .val (.ref y), .val (.int (Int32.ofNat ds.length))] [(.ref y), (.int (Int32.ofNat cs.length)), (.ref x)]))
  refine Go.virtP (K := "java/lang/StringBuilder") (z := (⟨"java/lang/AbstractStringBuilder", "putStringAt", "(ILjava/lang/String;)V"⟩ : MethodName)) (argsL := [(.int (Int32.ofNat cs.length)), (.ref y)]) (rest := []) (W := 0) (ck := 0) (sk := 0) X hx hZ hown (hml.trans rfl) hT S_x.1 (hw _ (List.mem_of_getElem? (i := 112) rfl)) (own_decl (hw _ (List.mem_of_getElem? (i := 113) rfl)) (hw _ (List.mem_of_getElem? (i := 116) rfl))) (hw _ (List.mem_of_getElem? (i := 115) rfl)) (hw _ (List.mem_of_getElem? (i := 113) rfl)) (by decide) pd_15 rfl rfl (Nat.le_of_ble_eq_true rfl) (hb hby d17_30) (notFace_of_selects (args := #[]) (mvT hZ (hw _ (List.mem_of_getElem? (i := 115) rfl)))) (backOf (W := 0) (met_psa l Z a0 hw [] z n0 x tv kt cs y ds _ O Sc S_x S_y hl ge_tv hn) hZ (hw _ (List.mem_of_getElem? (i := 116) rfl)) (hw _ (List.mem_of_getElem? (i := 54) rfl)) (by decide) (by decide)) (by decide) (by decide) ?_
  intro v T h1 L hT hQ X
  obtain ⟨rfl, N0, K0, V_2⟩ := hQ
  have N := Fr.app N N0
  have A_x := A_x.keep K0
  have F_x_value := F_x_value.keep K0 (ninS ne_x_tv nin0)
  have F_x_coder := F_x_coder.keep K0 (ninS ne_x_tv nin0)
  have F_x_count := F_x_count.keep K0 (ninS ne_x_tv nin0)
  have V_tv := V_2
  have KB := (Keep.refl h0 [x, tv]).trans K0 (allS (Or.inl (List.mem_of_getElem? (i := 1) rfl)) all0)
  show Go p e below _ (T.setTop (mkF m 33 #[.val (.ref x), .val (.ref y), .val (.int (Int32.ofNat ds.length))] []))
  refine Go.st (fun _ k => XS.aloadN X.here hx rfl (hb hby d17_33) rfl rfl k) ?_
  show Go p e below _ (T.setTop (mkF m 34 #[.val (.ref x), .val (.ref y), .val (.int (Int32.ofNat ds.length))] [(.ref x)]))
  refine Go.st (fun _ k => XS.dup X.here hx rfl (hb hby d17_34) rfl rfl k) ?_
  show Go p e below _ (T.setTop (mkF m 35 #[.val (.ref x), .val (.ref y), .val (.int (Int32.ofNat ds.length))] [(.ref x), (.ref x)]))
  obtain ⟨T, X, hT, st⟩ := getF X hx hZ hown (host := "") (Or.inl (hw _ (List.mem_of_getElem? (i := 74) rfl))) Via.refl hT F_x_count (g := (mkF m 35 #[.val (.ref x), .val (.ref y), .val (.int (Int32.ofNat ds.length))] [(.ref x), (.ref x)])) rfl rfl (hb hby d17_35)
  refine Go.st st ?_
  show Go p e below _ (T.setTop (mkF m 38 #[.val (.ref x), .val (.ref y), .val (.int (Int32.ofNat ds.length))] [(.int (Int32.ofNat cs.length)), (.ref x)]))
  refine Go.st (fun _ k => XS.iloadN X.here hx rfl (hb hby d17_38) rfl k) ?_
  show Go p e below _ (T.setTop (mkF m 39 #[.val (.ref x), .val (.ref y), .val (.int (Int32.ofNat ds.length))] [(.int (Int32.ofNat ds.length)), (.int (Int32.ofNat cs.length)), (.ref x)]))
  refine Go.st (fun _ k => XS.iadd X.here hx rfl (hb hby d17_39) rfl k) ?_
  show Go p e below _ (T.setTop (mkF m 40 #[.val (.ref x), .val (.ref y), .val (.int (Int32.ofNat ds.length))] [(.int ((Int32.ofNat cs.length) + (Int32.ofNat ds.length))), (.ref x)]))
  rw [own_addN]
  show Go p e below _ (T.setTop (mkF m 40 #[.val (.ref x), .val (.ref y), .val (.int (Int32.ofNat ds.length))] [(.int (Int32.ofNat (cs.length + ds.length))), (.ref x)]))
  obtain ⟨T, h2, X, hT, Wr0, st⟩ := putF X hx hZ hown (host := "") (Or.inl (hw _ (List.mem_of_getElem? (i := 74) rfl))) Via.refl hT F_x_count A_x (Or.inl (hw _ (List.mem_of_getElem? (i := 75) rfl))) (hw _ (List.mem_of_getElem? (i := 45) rfl)) (ty := .int) (by decide) rfl rfl (g := (mkF m 40 #[.val (.ref x), .val (.ref y), .val (.int (Int32.ofNat ds.length))] [(.int (Int32.ofNat (cs.length + ds.length))), (.ref x)])) rfl rfl (hb hby d17_40)
  refine Go.st st ?_
  have N := Fr.snoc X N ge_x
  have A_x := A_x.wr Wr0
  have F_x_value := F_x_value.other Wr0 (Or.inr (slot_ne (C := "java/lang/StringBuilder") (Or.inl (hw _ (List.mem_of_getElem? (i := 59) rfl))) (Or.inl (hw _ (List.mem_of_getElem? (i := 75) rfl))) (by decide) (t := (.array .byte)) (by decide) (t' := .int) (by decide)))
  have F_x_coder := F_x_coder.other Wr0 (Or.inr (slot_ne (C := "java/lang/StringBuilder") (Or.inl (hw _ (List.mem_of_getElem? (i := 61) rfl))) (Or.inl (hw _ (List.mem_of_getElem? (i := 75) rfl))) (by decide) (t := .byte) (by decide) (t' := .int) (by decide)))
  have F_x_count := F_x_count.same Wr0
  have V_tv := V_tv.other Wr0 ne_x_tv.symm
  have KB := (KB).wr Wr0 (Or.inl (List.mem_of_getElem? (i := 0) rfl))
  show Go p e below _ (T.setTop (mkF m 43 #[.val (.ref x), .val (.ref y), .val (.int (Int32.ofNat ds.length))] []))
  refine Go.st (fun _ k => XS.aloadN X.here hx rfl (hb hby d17_43) rfl rfl k) ?_
  show Go p e below _ (T.setTop (mkF m 44 #[.val (.ref x), .val (.ref y), .val (.int (Int32.ofNat ds.length))] [(.ref x)]))
  refine Go.ret X hx hlk hT hret rfl (riA rfl rfl) (hb hby d17_44) (by decide) (by decide) ?_
  exact ⟨rfl, N, KB, A_x, F_x_value, F_x_coder, by rw [List.length_append]; exact F_x_count, V_tv⟩
theorem pd_16 : parseMethodDescriptor "(Ljava/lang/String;)Ljava/lang/AbstractStringBuilder;" = some ⟨[(.object "java/lang/String")], (some (.object "java/lang/AbstractStringBuilder"))⟩ := by decide +kernel
theorem d16_0 : decode jdk_67_method_7_code 0 = .ok (.aload_n 0, 1) := by decide +kernel
theorem d16_1 : decode jdk_67_method_7_code 1 = .ok (.aload_n 1, 1) := by decide +kernel
theorem d16_2 : decode jdk_67_method_7_code 2 = .ok (.invokespecial 29, 3) := by decide +kernel
theorem d16_5 : decode jdk_67_method_7_code 5 = .ok (.pop, 1) := by decide +kernel
theorem d16_6 : decode jdk_67_method_7_code 6 = .ok (.aload_n 0, 1) := by decide +kernel
theorem d16_7 : decode jdk_67_method_7_code 7 = .ok (.areturn, 1) := by decide +kernel
theorem pn_24 : plainFor (⟨"java/lang/StringBuilder", "append", "(Ljava/lang/String;)Ljava/lang/StringBuilder;"⟩ : MethodName) = true := by first | exact plainFor_of_name (by first | (simp [plainName, overriddenIn]; done) | decide +kernel) | decide +kernel
set_option maxRecDepth 65536 in
set_option maxHeartbeats 40000000 in
theorem met_sas (l : Launch) (Z : State) (a0 : Array Value) (hw : ∀ d ∈ tables_1, d.before a0 Z = true) (ws : List Jvm.Cond) (z : Int32) (n0 : Nat) (x tv : Addr) (kt : ClassId) (cs : List Int32) (y : Addr) (ds : List Int32) (h0 : Heap) (O : Old Z n0 h0) (Sc : Stat Z z) (S_x : SB Z h0 x tv kt cs) (ge_x : n0 ≤ x) (ge_tv : n0 ≤ tv) (S_y : Str Z h0 y ds) (hl : Lat ds) (hn : cs.length + ds.length ≤ 16) :
    MetFree l (⟨"java/lang/StringBuilder", "append", "(Ljava/lang/String;)Ljava/lang/StringBuilder;"⟩ : MethodName) (head1 (Jvm.Cond.code (⟨"java/lang/StringBuilder", "append", "(Ljava/lang/String;)Ljava/lang/StringBuilder;"⟩ : MethodName) jdk_67_method_7_code 2 (some (.object "java/lang/StringBuilder")) :: ws) ({ frames := 4, cells := 0, slots := 0, locals := 103 } : Room)) (fun aa U => aa = #[(.ref x), (.ref y)] ∧ Z.Warmed39 U.vm ∧ U.heap = h0) (fun _ _ _ _ _ => True) (fun _ U o U' => ∃ v L, o = .returned v ∧ QAp Z x tv kt (cs ++ ds) n0 h0 v U'.heap L ∧ FrameEnd U o U' L ({ frames := 4, cells := 0, slots := 0, locals := 103 } : Room).cells ({ frames := 4, cells := 0, slots := 0, locals := 103 } : Room).slots) := by
  refine openP (y := (⟨"java/lang/StringBuilder", "append", "(Ljava/lang/String;)Ljava/lang/StringBuilder;"⟩ : MethodName)) pn_24 ?_
  intro p e s m below meth c T hx hby hml hret hlk hnm hZ hown X hT
  refine Go.st (fun _ k => castTop (ef_AA_2 m x y) k) ?_
  show Go p e below _ (T.setTop (mkF m 0 #[.val (.ref x), .val (.ref y)] []))
  refine Go.st (fun _ k => XS.aloadN X.here hx rfl (hb hby d16_0) rfl rfl k) ?_
  show Go p e below _ (T.setTop (mkF m 1 #[.val (.ref x), .val (.ref y)] [(.ref x)]))
  refine Go.st (fun _ k => XS.aloadN X.here hx rfl (hb hby d16_1) rfl rfl k) ?_
  show Go p e below _ (T.setTop (mkF m 2 #[.val (.ref x), .val (.ref y)] [(.ref y), (.ref x)]))
  refine Go.superP (K := "java/lang/StringBuilder") (argsL := [(.ref y)]) (rest := []) (W := 0) (ck := 0) (sk := 0) X hx hZ hown (hml.trans rfl) hT S_x.1 (hw _ (List.mem_of_getElem? (i := 98) rfl)) (own_sameM (hw _ (List.mem_of_getElem? (i := 99) rfl)) (hw _ (List.mem_of_getElem? (i := 84) rfl)) rfl (by decide)) (hw _ (List.mem_of_getElem? (i := 99) rfl)) (hw _ (List.mem_of_getElem? (i := 71) rfl)) (by decide) (hw _ (List.mem_of_getElem? (i := 101) rfl)) pd_16 rfl rfl (Nat.le_of_ble_eq_true rfl) (hb hby d16_2) (backOf (W := 0) (met_aas l Z a0 hw [] z n0 x tv kt cs y ds _ O Sc S_x ge_x ge_tv S_y hl hn) hZ (hw _ (List.mem_of_getElem? (i := 101) rfl)) (hw _ (List.mem_of_getElem? (i := 54) rfl)) (by decide) (by decide)) (by decide) (by decide) ?_
  intro v T h1 L hT hQ X
  obtain ⟨rfl, N0, K0, S_2⟩ := hQ
  show Go p e below _ (T.setTop (mkF m 5 #[.val (.ref x), .val (.ref y)] [(.ref x)]))
  refine Go.st (fun _ k => XS.pop X.here hx rfl (hb hby d16_5) rfl rfl k) ?_
  show Go p e below _ (T.setTop (mkF m 6 #[.val (.ref x), .val (.ref y)] []))
  refine Go.st (fun _ k => XS.aloadN X.here hx rfl (hb hby d16_6) rfl rfl k) ?_
  show Go p e below _ (T.setTop (mkF m 7 #[.val (.ref x), .val (.ref y)] [(.ref x)]))
  refine Go.ret X hx hlk hT hret rfl (riA rfl rfl) (hb hby d16_7) (by decide) (by decide) ?_
  exact ⟨rfl, N0, K0, S_2⟩
theorem own_16 {cs : List Int32} (h : cs.length < 16) : (cs ++ List.replicate (16 - cs.length) (0 : Int32)).length = 16 := by rw [List.length_append, List.length_replicate]; omega
theorem own_low0 (cs : List Int32) (n : Nat) : lows (cs ++ List.replicate n (0 : Int32)) = lows cs ++ List.replicate n (.int (0 : Int32)) := by simp [lows, show StrChars.lo8 (0 : Int32) = 0 from by decide]
theorem pd_17 : parseMethodDescriptor "()[B" = some ⟨[], (some (.array .byte))⟩ := by decide +kernel
theorem d25_0 : decode jdk_42_method_150_code 0 = .ok (.aload_n 0, 1) := by decide +kernel
theorem d25_1 : decode jdk_42_method_150_code 1 = .ok (.invokespecial 1, 3) := by decide +kernel
theorem d25_4 : decode jdk_42_method_150_code 4 = .ok (.aload_n 1, 1) := by decide +kernel
theorem d25_5 : decode jdk_42_method_150_code 5 = .ok (.invokevirtual 552, 3) := by decide +kernel
theorem d25_8 : decode jdk_42_method_150_code 8 = .ok (.astore_n 3, 1) := by decide +kernel
theorem d25_9 : decode jdk_42_method_150_code 9 = .ok (.aload_n 1, 1) := by decide +kernel
theorem d25_10 : decode jdk_42_method_150_code 10 = .ok (.invokevirtual 549, 3) := by decide +kernel
theorem d25_13 : decode jdk_42_method_150_code 13 = .ok (.istore 4, 2) := by decide +kernel
theorem d25_15 : decode jdk_42_method_150_code 15 = .ok (.aload_n 1, 1) := by decide +kernel
theorem d25_16 : decode jdk_42_method_150_code 16 = .ok (.invokevirtual 1047, 3) := by decide +kernel
theorem d25_19 : decode jdk_42_method_150_code 19 = .ok (.ifCond .eq 22, 3) := by decide +kernel
theorem d25_22 : decode jdk_42_method_150_code 22 = .ok (.aload_n 0, 1) := by decide +kernel
theorem d25_23 : decode jdk_42_method_150_code 23 = .ok (.iconst 0, 1) := by decide +kernel
theorem d25_24 : decode jdk_42_method_150_code 24 = .ok (.putfield 15, 3) := by decide +kernel
theorem d25_27 : decode jdk_42_method_150_code 27 = .ok (.aload_n 0, 1) := by decide +kernel
theorem d25_28 : decode jdk_42_method_150_code 28 = .ok (.aload_n 3, 1) := by decide +kernel
theorem d25_29 : decode jdk_42_method_150_code 29 = .ok (.iconst 0, 1) := by decide +kernel
theorem d25_30 : decode jdk_42_method_150_code 30 = .ok (.iload 4, 2) := by decide +kernel
theorem d25_32 : decode jdk_42_method_150_code 32 = .ok (.invokestatic 54, 3) := by decide +kernel
theorem d25_35 : decode jdk_42_method_150_code 35 = .ok (.putfield 9, 3) := by decide +kernel
theorem d25_38 : decode jdk_42_method_150_code 38 = .ok (.goto 59, 3) := by decide +kernel
theorem d25_97 : decode jdk_42_method_150_code 97 = .ok (.return_, 1) := by decide +kernel
theorem pn_25 : plainFor (⟨"java/lang/String", "<init>", "(Ljava/lang/AbstractStringBuilder;Ljava/lang/Void;)V"⟩ : MethodName) = true := by first | exact plainFor_of_name (by first | (simp [plainName, overriddenIn]; done) | decide +kernel) | decide +kernel
theorem ef_AAN_5 (m : MethodId) (y0 : Addr) (y1 : Addr) : entryFrame m #[(.ref y0), (.ref y1), .null] 5 = mkF m 0 #[.val (.ref y0), .val (.ref y1), .val .null, .unset, .unset] [] := by first | (simp [entryFrame, mkF, argsToLocals, Value.category]; done) | rfl
set_option maxRecDepth 65536 in
set_option maxHeartbeats 40000000 in
theorem met_si2 (l : Launch) (Z : State) (a0 : Array Value) (hw : ∀ d ∈ tables_1, d.before a0 Z = true) (ws : List Jvm.Cond) (z : Int32) (n0 : Nat) (x b tv : Addr) (kt : ClassId) (cs : List Int32) (h0 : Heap) (O : Old Z n0 h0) (ge_x : n0 ≤ x) (A_x : Exa Z h0 x ST) (F_x_value : Fld Z h0 x ST "value" "[B" .null) (F_x_coder : Fld Z h0 x ST "coder" "B" (.int (0 : Int32))) (Sc : Stat Z z) (S_b : SB Z h0 b tv kt cs) (hl : Lat cs) (hn : cs.length < 16) :
    MetFree l (⟨"java/lang/String", "<init>", "(Ljava/lang/AbstractStringBuilder;Ljava/lang/Void;)V"⟩ : MethodName) (head1 (Jvm.Cond.code (⟨"java/lang/String", "<init>", "(Ljava/lang/AbstractStringBuilder;Ljava/lang/Void;)V"⟩ : MethodName) jdk_42_method_150_code 5 none :: ws) ({ frames := 3, cells := 1, slots := 16, locals := 91 } : Room)) (fun aa U => aa = #[(.ref x), (.ref b), .null] ∧ Z.Warmed39 U.vm ∧ U.heap = h0) (fun _ _ _ _ _ => True) (fun _ U o U' => ∃ v L, o = .returned v ∧ QS Z x cs n0 h0 v U'.heap L ∧ FrameEnd U o U' L ({ frames := 3, cells := 1, slots := 16, locals := 91 } : Room).cells ({ frames := 3, cells := 1, slots := 16, locals := 91 } : Room).slots) := by
  refine openP (y := (⟨"java/lang/String", "<init>", "(Ljava/lang/AbstractStringBuilder;Ljava/lang/Void;)V"⟩ : MethodName)) pn_25 ?_
  intro p e s m below meth c T hx hby hml hret hlk hnm hZ hown X hT
  refine Go.st (fun _ k => castTop (ef_AAN_5 m x b) k) ?_
  show Go p e below _ (T.setTop (mkF m 0 #[.val (.ref x), .val (.ref b), .val .null, .unset, .unset] []))
  have N := Fr.nil n0
  have nxb : x ≠ b := (ne_exa S_b.1 A_x (by decide)).symm
  have V_t := S_b.2.2.2.2
  have nxt : x ≠ tv := Exa.neArv A_x V_t (hw _ (List.mem_of_getElem? (i := 9) rfl))
  refine Go.st (fun _ k => XS.aloadN X.here hx rfl (hb hby d25_0) rfl rfl k) ?_
  show Go p e below _ (T.setTop (mkF m 1 #[.val (.ref x), .val (.ref b), .val .null, .unset, .unset] [(.ref x)]))
  obtain ⟨T, X, hT, st⟩ := initO X hx hZ hown (hw _ (List.mem_of_getElem? (i := 19) rfl)) (hw _ (List.mem_of_getElem? (i := 20) rfl)) (hw _ (List.mem_of_getElem? (i := 21) rfl)) hT (g := (mkF m 1 #[.val (.ref x), .val (.ref b), .val .null, .unset, .unset] [(.ref x)])) rfl (by rw [hml]; rfl) rfl (hb hby d25_1) (by decide) (W := 0) (by show 2 * 0 + _ ≤ _; exact Nat.le_of_ble_eq_true rfl) (by decide)
  refine Go.st st ?_
  show Go p e below _ (T.setTop (mkF m 4 #[.val (.ref x), .val (.ref b), .val .null, .unset, .unset] []))
  refine Go.st (fun _ k => XS.aloadN X.here hx rfl (hb hby d25_4) rfl rfl k) ?_
  show Go p e below _ (T.setTop (mkF m 5 #[.val (.ref x), .val (.ref b), .val .null, .unset, .unset] [(.ref b)]))
  refine Go.virtP (K := "java/lang/StringBuilder") (z := (⟨"java/lang/AbstractStringBuilder", "getValue", "()[B"⟩ : MethodName)) (argsL := []) (rest := []) (W := 0) (ck := 0) (sk := 0) X hx hZ hown (hml.trans rfl) hT S_b.1 (hw _ (List.mem_of_getElem? (i := 144) rfl)) (hw _ (List.mem_of_getElem? (i := 145) rfl)) (hw _ (List.mem_of_getElem? (i := 147) rfl)) (hw _ (List.mem_of_getElem? (i := 146) rfl)) (by decide) pd_17 rfl rfl (Nat.le_of_ble_eq_true rfl) (hb hby d25_5) (notFace_of_selects (args := #[]) (mvT hZ (hw _ (List.mem_of_getElem? (i := 147) rfl)))) (backOf (W := 0) (met_agv l Z a0 hw [] b tv kt cs _ S_b) hZ (hw _ (List.mem_of_getElem? (i := 148) rfl)) (hw _ (List.mem_of_getElem? (i := 54) rfl)) (by decide) (by decide)) (by decide) (by decide) ?_
  intro v T hq L hT hQ X
  obtain ⟨rfl, rfl, hq0⟩ := hQ
  rw [hq0] at hT
  rw [List.append_nil] at X
  show Go p e below _ (T.setTop (mkF m 8 #[.val (.ref x), .val (.ref b), .val .null, .unset, .unset] [(.ref tv)]))
  refine Go.st (fun _ k => XS.astoreN X.here hx rfl (hb hby d25_8) rfl rfl (l' := #[.val (.ref x), .val (.ref b), .val .null, .val (.ref tv), .unset]) rfl k) ?_
  show Go p e below _ (T.setTop (mkF m 9 #[.val (.ref x), .val (.ref b), .val .null, .val (.ref tv), .unset] []))
  refine Go.st (fun _ k => XS.aloadN X.here hx rfl (hb hby d25_9) rfl rfl k) ?_
  show Go p e below _ (T.setTop (mkF m 10 #[.val (.ref x), .val (.ref b), .val .null, .val (.ref tv), .unset] [(.ref b)]))
  refine Go.virtP (K := "java/lang/StringBuilder") (z := (⟨"java/lang/StringBuilder", "length", "()I"⟩ : MethodName)) (argsL := []) (rest := []) (W := 0) (ck := 0) (sk := 0) X hx hZ hown (hml.trans rfl) hT S_b.1 (hw _ (List.mem_of_getElem? (i := 149) rfl)) (hw _ (List.mem_of_getElem? (i := 150) rfl)) (hw _ (List.mem_of_getElem? (i := 152) rfl)) (hw _ (List.mem_of_getElem? (i := 153) rfl)) (by decide) pd_9 rfl rfl (Nat.le_of_ble_eq_true rfl) (hb hby d25_10) (own_nf (a0 := #[]) (mvT hZ (hw _ (List.mem_of_getElem? (i := 84) rfl))) rfl) (backOf (W := 0) (met_sln l Z a0 hw [] b tv kt cs _ S_b) hZ (hw _ (List.mem_of_getElem? (i := 154) rfl)) (hw _ (List.mem_of_getElem? (i := 46) rfl)) (by decide) (by decide)) (by decide) (by decide) ?_
  intro v T hq L hT hQ X
  obtain ⟨rfl, rfl, hq0⟩ := hQ
  rw [hq0] at hT
  rw [List.append_nil] at X
  show Go p e below _ (T.setTop (mkF m 13 #[.val (.ref x), .val (.ref b), .val .null, .val (.ref tv), .unset] [(.int (Int32.ofNat cs.length))]))
  refine Go.st (fun _ k => XS.istore X.here hx rfl (hb hby d25_13) rfl (l' := #[.val (.ref x), .val (.ref b), .val .null, .val (.ref tv), .val (.int (Int32.ofNat cs.length))]) rfl k) ?_
  show Go p e below _ (T.setTop (mkF m 15 #[.val (.ref x), .val (.ref b), .val .null, .val (.ref tv), .val (.int (Int32.ofNat cs.length))] []))
  refine Go.st (fun _ k => XS.aloadN X.here hx rfl (hb hby d25_15) rfl rfl k) ?_
  show Go p e below _ (T.setTop (mkF m 16 #[.val (.ref x), .val (.ref b), .val .null, .val (.ref tv), .val (.int (Int32.ofNat cs.length))] [(.ref b)]))
  refine Go.virtP (K := "java/lang/StringBuilder") (z := (⟨"java/lang/AbstractStringBuilder", "isLatin1", "()Z"⟩ : MethodName)) (argsL := []) (rest := []) (W := 0) (ck := 0) (sk := 0) X hx hZ hown (hml.trans rfl) hT S_b.1 (hw _ (List.mem_of_getElem? (i := 157) rfl)) (hw _ (List.mem_of_getElem? (i := 82) rfl)) (hw _ (List.mem_of_getElem? (i := 84) rfl)) (hw _ (List.mem_of_getElem? (i := 83) rfl)) (by decide) pd_10 rfl rfl (Nat.le_of_ble_eq_true rfl) (hb hby d25_16) (notFace_of_selects (args := #[]) (mvT hZ (hw _ (List.mem_of_getElem? (i := 84) rfl)))) (backOf (W := 0) (met_ail l Z a0 hw [] z n0 b tv kt cs _ O Sc S_b) hZ (hw _ (List.mem_of_getElem? (i := 85) rfl)) (hw _ (List.mem_of_getElem? (i := 54) rfl)) (by decide) (by decide)) (by decide) (by decide) ?_
  intro v T hq L hT hQ X
  obtain ⟨rfl, rfl, hq0⟩ := hQ
  rw [hq0] at hT
  rw [List.append_nil] at X
  show Go p e below _ (T.setTop (mkF m 19 #[.val (.ref x), .val (.ref b), .val .null, .val (.ref tv), .val (.int (Int32.ofNat cs.length))] [(.int (1 : Int32))]))
  refine Go.st (fun _ k => XS.ifNo X.here hx rfl (hb hby d25_19) rfl (Jvm.Free.XT.i0_eq_f (by decide : ¬ ((1 : Int32) = (0 : Int32)))) k) ?_
  show Go p e below _ (T.setTop (mkF m 22 #[.val (.ref x), .val (.ref b), .val .null, .val (.ref tv), .val (.int (Int32.ofNat cs.length))] []))
  refine Go.st (fun _ k => XS.aloadN X.here hx rfl (hb hby d25_22) rfl rfl k) ?_
  show Go p e below _ (T.setTop (mkF m 23 #[.val (.ref x), .val (.ref b), .val .null, .val (.ref tv), .val (.int (Int32.ofNat cs.length))] [(.ref x)]))
  refine Go.st (fun _ k => XS.iconst X.here hx rfl (hb hby d25_23) k) ?_
  show Go p e below _ (T.setTop (mkF m 24 #[.val (.ref x), .val (.ref b), .val .null, .val (.ref tv), .val (.int (Int32.ofNat cs.length))] [(.int (0 : Int32)), (.ref x)]))
  obtain ⟨T, h1, X, hT, Wr0, st⟩ := putF X hx hZ hown (host := "") (Or.inl (hw _ (List.mem_of_getElem? (i := 34) rfl))) Via.refl hT F_x_coder A_x (Or.inr ⟨(hw _ (List.mem_of_getElem? (i := 35) rfl)), rfl, hnm⟩) (hw _ (List.mem_of_getElem? (i := 9) rfl)) (ty := .byte) (by decide) rfl rfl (g := (mkF m 24 #[.val (.ref x), .val (.ref b), .val .null, .val (.ref tv), .val (.int (Int32.ofNat cs.length))] [(.int (0 : Int32)), (.ref x)])) rfl rfl (hb hby d25_24)
  refine Go.st st ?_
  have N := Fr.snoc X N ge_x
  have A_x := A_x.wr Wr0
  have F_x_value := F_x_value.other Wr0 (Or.inr (slot_ne (C := "java/lang/String") (Or.inr (hw _ (List.mem_of_getElem? (i := 37) rfl))) (Or.inr (hw _ (List.mem_of_getElem? (i := 35) rfl))) (by decide) (t := (.array .byte)) (by decide) (t' := .byte) (by decide)))
  have F_x_coder := F_x_coder.same Wr0
  have KB := (Keep.refl h0 [x]).wr Wr0 (Or.inl (List.mem_of_getElem? (i := 0) rfl))
  show Go p e below _ (T.setTop (mkF m 27 #[.val (.ref x), .val (.ref b), .val .null, .val (.ref tv), .val (.int (Int32.ofNat cs.length))] []))
  refine Go.st (fun _ k => XS.aloadN X.here hx rfl (hb hby d25_27) rfl rfl k) ?_
  show Go p e below _ (T.setTop (mkF m 28 #[.val (.ref x), .val (.ref b), .val .null, .val (.ref tv), .val (.int (Int32.ofNat cs.length))] [(.ref x)]))
  refine Go.st (fun _ k => XS.aloadN X.here hx rfl (hb hby d25_28) rfl rfl k) ?_
  show Go p e below _ (T.setTop (mkF m 29 #[.val (.ref x), .val (.ref b), .val .null, .val (.ref tv), .val (.int (Int32.ofNat cs.length))] [(.ref tv), (.ref x)]))
  refine Go.st (fun _ k => XS.iconst X.here hx rfl (hb hby d25_29) k) ?_
  show Go p e below _ (T.setTop (mkF m 30 #[.val (.ref x), .val (.ref b), .val .null, .val (.ref tv), .val (.int (Int32.ofNat cs.length))] [(.int (0 : Int32)), (.ref tv), (.ref x)]))
  refine Go.st (fun _ k => XS.iload X.here hx rfl (hb hby d25_30) rfl k) ?_
  show Go p e below _ (T.setTop (mkF m 32 #[.val (.ref x), .val (.ref b), .val .null, .val (.ref tv), .val (.int (Int32.ofNat cs.length))] [(.int (Int32.ofNat cs.length)), (.int (0 : Int32)), (.ref tv), (.ref x)]))
  have O2 := O.keep KB (allS ge_x all0)
  have V_t2 := V_t.keep KB (ninS nxt.symm nin0)
  have V_t3 : Arv Z h1 tv kt .byte (Int32.ofNat (cs ++ List.replicate (16 - cs.length) (0 : Int32)).length) (lows (cs ++ List.replicate (16 - cs.length) (0 : Int32))) (.int 0) := by rw [own_16 hn, own_low0]; exact V_t2.pad (own_padg _ _ _)
  refine Go.callP (argsL := [(.ref tv), (.int (0 : Int32)), (.int (Int32.ofNat cs.length))]) (rest := [(.ref x)]) (W := 1) (ck := 1) (sk := 16) X hx hZ hown (hml.trans rfl) hT (hw _ (List.mem_of_getElem? (i := 158) rfl)) (hw _ (List.mem_of_getElem? (i := 159) rfl)) (hw _ (List.mem_of_getElem? (i := 160) rfl)) (hw _ (List.mem_of_getElem? (i := 161) rfl)) (by decide) pd_7 rfl rfl (Nat.le_of_ble_eq_true rfl) (hb hby d25_32) (backOf (W := 1) (met_cor l Z a0 hw [] n0 tv kt (cs ++ List.replicate (16 - cs.length) (0 : Int32)) 0 cs.length _ O2 V_t3 (Nat.zero_le _) (by rw [own_16 hn]; omega) (by rw [own_16 hn]; omega) (by rw [own_16 hn]; omega)) hZ (hw _ (List.mem_of_getElem? (i := 161) rfl)) (hw _ (List.mem_of_getElem? (i := 160) rfl)) (by decide) (by decide)) (by decide) (by decide) ?_
  intro v T h2 L hT hQ X
  obtain ⟨r, kr, rfl, N0, gk_r, Ex0, V_r⟩ := hQ
  have N := Fr.app N N0
  have A_x := A_x.ext Ex0
  have F_x_value := F_x_value.ext Ex0
  have F_x_coder := F_x_coder.ext Ex0
  have KB := (KB).ext Ex0
  have ne_x_r : x ≠ r := Exa.neArv A_x V_r (hw _ (List.mem_of_getElem? (i := 9) rfl))
  show Go p e below _ (T.setTop (mkF m 35 #[.val (.ref x), .val (.ref b), .val .null, .val (.ref tv), .val (.int (Int32.ofNat cs.length))] [(.ref r), (.ref x)]))
  obtain ⟨T, h3, X, hT, Wr0, st⟩ := putF X hx hZ hown (host := "") (Or.inl (hw _ (List.mem_of_getElem? (i := 36) rfl))) Via.refl hT F_x_value A_x (Or.inr ⟨(hw _ (List.mem_of_getElem? (i := 37) rfl)), rfl, hnm⟩) (hw _ (List.mem_of_getElem? (i := 9) rfl)) (ty := (.array .byte)) (by decide) rfl rfl (g := (mkF m 35 #[.val (.ref x), .val (.ref b), .val .null, .val (.ref tv), .val (.int (Int32.ofNat cs.length))] [(.ref r), (.ref x)])) rfl rfl (hb hby d25_35)
  refine Go.st st ?_
  have N := Fr.snoc X N ge_x
  have A_x := A_x.wr Wr0
  have F_x_value := F_x_value.same Wr0
  have F_x_coder := F_x_coder.other Wr0 (Or.inr (slot_ne (C := "java/lang/String") (Or.inr (hw _ (List.mem_of_getElem? (i := 35) rfl))) (Or.inr (hw _ (List.mem_of_getElem? (i := 37) rfl))) (by decide) (t := .byte) (by decide) (t' := (.array .byte)) (by decide)))
  have V_r := V_r.other Wr0 ne_x_r.symm
  have KB := (KB).wr Wr0 (Or.inl (List.mem_of_getElem? (i := 0) rfl))
  show Go p e below _ (T.setTop (mkF m 38 #[.val (.ref x), .val (.ref b), .val .null, .val (.ref tv), .val (.int (Int32.ofNat cs.length))] []))
  refine Go.st (fun _ k => XS.goto X.here hx rfl (pc0 := 38) (pc' := 97) rfl (hb hby d25_38) (by decide) (by decide) k) ?_
  show Go p e below _ (T.setTop (mkF m 97 #[.val (.ref x), .val (.ref b), .val .null, .val (.ref tv), .val (.int (Int32.ofNat cs.length))] []))
  refine Go.retV X hx hlk hT hret (hb hby d25_97) (by decide) (by decide) ?_
  have es : ((cs ++ List.replicate (16 - cs.length) (0 : Int32)).drop 0).take (cs.length - 0) = cs := by simp
  rw [es, Nat.sub_zero] at V_r
  exact ⟨rfl, N, KB, own_lat_str hl (by omega) A_x F_x_value F_x_coder V_r⟩
theorem pd_18 : parseMethodDescriptor "(Ljava/lang/AbstractStringBuilder;Ljava/lang/Void;)V" = some ⟨[(.object "java/lang/AbstractStringBuilder"), (.object "java/lang/Void")], none⟩ := by decide +kernel
theorem d24_0 : decode jdk_42_method_53_code 0 = .ok (.aload_n 0, 1) := by decide +kernel
theorem d24_1 : decode jdk_42_method_53_code 1 = .ok (.aload_n 1, 1) := by decide +kernel
theorem d24_2 : decode jdk_42_method_53_code 2 = .ok (.aconst_null, 1) := by decide +kernel
theorem d24_3 : decode jdk_42_method_53_code 3 = .ok (.invokespecial 489, 3) := by decide +kernel
theorem d24_6 : decode jdk_42_method_53_code 6 = .ok (.return_, 1) := by decide +kernel
theorem pn_26 : plainFor (⟨"java/lang/String", "<init>", "(Ljava/lang/StringBuilder;)V"⟩ : MethodName) = true := by first | exact plainFor_of_name (by first | (simp [plainName, overriddenIn]; done) | decide +kernel) | decide +kernel
set_option maxRecDepth 65536 in
set_option maxHeartbeats 40000000 in
theorem met_si1 (l : Launch) (Z : State) (a0 : Array Value) (hw : ∀ d ∈ tables_1, d.before a0 Z = true) (ws : List Jvm.Cond) (z : Int32) (n0 : Nat) (x b tv : Addr) (kt : ClassId) (cs : List Int32) (h0 : Heap) (O : Old Z n0 h0) (ge_x : n0 ≤ x) (A_x : Exa Z h0 x ST) (F_x_value : Fld Z h0 x ST "value" "[B" .null) (F_x_coder : Fld Z h0 x ST "coder" "B" (.int (0 : Int32))) (Sc : Stat Z z) (S_b : SB Z h0 b tv kt cs) (hl : Lat cs) (hn : cs.length < 16) :
    MetFree l (⟨"java/lang/String", "<init>", "(Ljava/lang/StringBuilder;)V"⟩ : MethodName) (head1 (Jvm.Cond.code (⟨"java/lang/String", "<init>", "(Ljava/lang/StringBuilder;)V"⟩ : MethodName) jdk_42_method_53_code 2 none :: ws) ({ frames := 4, cells := 1, slots := 16, locals := 107 } : Room)) (fun aa U => aa = #[(.ref x), (.ref b)] ∧ Z.Warmed39 U.vm ∧ U.heap = h0) (fun _ _ _ _ _ => True) (fun _ U o U' => ∃ v L, o = .returned v ∧ QS Z x cs n0 h0 v U'.heap L ∧ FrameEnd U o U' L ({ frames := 4, cells := 1, slots := 16, locals := 107 } : Room).cells ({ frames := 4, cells := 1, slots := 16, locals := 107 } : Room).slots) := by
  refine openP (y := (⟨"java/lang/String", "<init>", "(Ljava/lang/StringBuilder;)V"⟩ : MethodName)) pn_26 ?_
  intro p e s m below meth c T hx hby hml hret hlk hnm hZ hown X hT
  refine Go.st (fun _ k => castTop (ef_AA_2 m x b) k) ?_
  show Go p e below _ (T.setTop (mkF m 0 #[.val (.ref x), .val (.ref b)] []))
  refine Go.st (fun _ k => XS.aloadN X.here hx rfl (hb hby d24_0) rfl rfl k) ?_
  show Go p e below _ (T.setTop (mkF m 1 #[.val (.ref x), .val (.ref b)] [(.ref x)]))
  refine Go.st (fun _ k => XS.aloadN X.here hx rfl (hb hby d24_1) rfl rfl k) ?_
  show Go p e below _ (T.setTop (mkF m 2 #[.val (.ref x), .val (.ref b)] [(.ref b), (.ref x)]))
  refine Go.st (fun _ k => XS.aconstNull X.here hx rfl (hb hby d24_2) k) ?_
  show Go p e below _ (T.setTop (mkF m 3 #[.val (.ref x), .val (.ref b)] [.null, (.ref b), (.ref x)]))
  refine Go.specP (argsL := [(.ref b), .null]) (rest := []) (W := 0) (ck := 1) (sk := 16) X hx hZ hown (hml.trans rfl) hT rfl (hw _ (List.mem_of_getElem? (i := 141) rfl)) (hw _ (List.mem_of_getElem? (i := 142) rfl)) (hw _ (List.mem_of_getElem? (i := 143) rfl)) (by decide) pd_18 rfl rfl (Nat.le_of_ble_eq_true rfl) (hb hby d24_3) (backOf (W := 0) (met_si2 l Z a0 hw [] z n0 x b tv kt cs _ O ge_x A_x F_x_value F_x_coder Sc S_b hl hn) hZ (hw _ (List.mem_of_getElem? (i := 143) rfl)) (hw _ (List.mem_of_getElem? (i := 10) rfl)) (by decide) (by decide)) (by decide) (by decide) ?_
  intro v T h1 L hT hQ X
  obtain ⟨rfl, N0, K0, S_x⟩ := hQ
  show Go p e below _ (T.setTop (mkF m 6 #[.val (.ref x), .val (.ref b)] []))
  refine Go.retV X hx hlk hT hret (hb hby d24_6) (by decide) (by decide) ?_
  exact ⟨rfl, N0, K0, S_x⟩
theorem pd_19 : parseMethodDescriptor "(Ljava/lang/StringBuilder;)V" = some ⟨[(.object "java/lang/StringBuilder")], none⟩ := by decide +kernel
theorem d23_0 : decode jdk_67_method_42_code 0 = .ok (.new 18, 3) := by decide +kernel
theorem d23_3 : decode jdk_67_method_42_code 3 = .ok (.dup, 1) := by decide +kernel
theorem d23_4 : decode jdk_67_method_42_code 4 = .ok (.aload_n 0, 1) := by decide +kernel
theorem d23_5 : decode jdk_67_method_42_code 5 = .ok (.invokespecial 137, 3) := by decide +kernel
theorem d23_8 : decode jdk_67_method_42_code 8 = .ok (.areturn, 1) := by decide +kernel
theorem pn_27 : plainFor (⟨"java/lang/StringBuilder", "toString", "()Ljava/lang/String;"⟩ : MethodName) = true := by first | exact plainFor_of_name (by first | (simp [plainName, overriddenIn]; done) | decide +kernel) | decide +kernel
set_option maxRecDepth 65536 in
set_option maxHeartbeats 40000000 in
theorem met_sts (l : Launch) (Z : State) (a0 : Array Value) (hw : ∀ d ∈ tables_1, d.before a0 Z = true) (ws : List Jvm.Cond) (z : Int32) (n0 : Nat) (b tv : Addr) (kt : ClassId) (cs : List Int32) (h0 : Heap) (O : Old Z n0 h0) (Sc : Stat Z z) (S_b : SB Z h0 b tv kt cs) (hl : Lat cs) (hn : cs.length < 16) :
    MetFree l (⟨"java/lang/StringBuilder", "toString", "()Ljava/lang/String;"⟩ : MethodName) (head1 (Jvm.Cond.code (⟨"java/lang/StringBuilder", "toString", "()Ljava/lang/String;"⟩ : MethodName) jdk_67_method_42_code 1 (some (.object "java/lang/String")) :: ws) ({ frames := 5, cells := 2, slots := 20, locals := 121 } : Room)) (fun aa U => aa = #[(.ref b)] ∧ Z.Warmed39 U.vm ∧ U.heap = h0) (fun _ _ _ _ _ => True) (fun _ U o U' => ∃ v L, o = .returned v ∧ QStr Z n0 cs h0 v U'.heap L ∧ FrameEnd U o U' L ({ frames := 5, cells := 2, slots := 20, locals := 121 } : Room).cells ({ frames := 5, cells := 2, slots := 20, locals := 121 } : Room).slots) := by
  refine openP (y := (⟨"java/lang/StringBuilder", "toString", "()Ljava/lang/String;"⟩ : MethodName)) pn_27 ?_
  intro p e s m below meth c T hx hby hml hret hlk hnm hZ hown X hT
  refine Go.st (fun _ k => castTop (ef_A_1 m b) k) ?_
  show Go p e below _ (T.setTop (mkF m 0 #[.val (.ref b)] []))
  have N := Fr.nil n0
  have K0b : Keep h0 h0 [] := Keep.refl _ _
  obtain ⟨T, h1, X, hT, Ex0, A_x, D_x, -, st⟩ := newO X hx hZ hown (hw _ (List.mem_of_getElem? (i := 137) rfl)) (hw _ (List.mem_of_getElem? (i := 9) rfl)) (hw _ (List.mem_of_getElem? (i := 10) rfl)) hT (g := (mkF m 0 #[.val (.ref b)] [])) rfl (hb hby d23_0) (by decide) (by decide)
  obtain ⟨x, g_x⟩ : ∃ z, z = h0.size := ⟨_, rfl⟩
  rw [← g_x] at A_x D_x st
  refine Go.st st ?_
  have ge_x : n0 ≤ x := Nat.le_trans (own_le (O)) (Nat.le_of_eq g_x.symm)
  have gk_x : h0.size ≤ x := Nat.le_trans (Keep.refl h0 []).1 (Nat.le_of_eq g_x.symm)
  have KB := (Keep.refl h0 []).ext Ex0
  have F_x_coder := D_x (Or.inr (hw _ (List.mem_of_getElem? (i := 35) rfl))) (ty := .byte) (by decide)
  have F_x_value := D_x (Or.inr (hw _ (List.mem_of_getElem? (i := 37) rfl))) (ty := (.array .byte)) (by decide)
  show Go p e below _ (T.setTop (mkF m 3 #[.val (.ref b)] [(.ref x)]))
  refine Go.st (fun _ k => XS.dup X.here hx rfl (hb hby d23_3) rfl rfl k) ?_
  show Go p e below _ (T.setTop (mkF m 4 #[.val (.ref b)] [(.ref x), (.ref x)]))
  refine Go.st (fun _ k => XS.aloadN X.here hx rfl (hb hby d23_4) rfl rfl k) ?_
  show Go p e below _ (T.setTop (mkF m 5 #[.val (.ref b)] [(.ref b), (.ref x), (.ref x)]))
  have O2 := O.keep KB all0
  have S_b2 := S_b.ext (keepE KB)
  refine Go.specP (argsL := [(.ref b)]) (rest := [(.ref x)]) (W := 1) (ck := 1) (sk := 16) X hx hZ hown (hml.trans rfl) hT rfl (hw _ (List.mem_of_getElem? (i := 138) rfl)) (hw _ (List.mem_of_getElem? (i := 139) rfl)) (hw _ (List.mem_of_getElem? (i := 140) rfl)) (by decide) pd_19 rfl rfl (Nat.le_of_ble_eq_true rfl) (hb hby d23_5) (backOf (W := 1) (met_si1 l Z a0 hw [] z n0 x b tv kt cs _ O2 ge_x A_x F_x_value F_x_coder Sc S_b2 hl hn) hZ (hw _ (List.mem_of_getElem? (i := 140) rfl)) (hw _ (List.mem_of_getElem? (i := 10) rfl)) (by decide) (by decide)) (by decide) (by decide) ?_
  intro v T h2 L hT hQ X
  obtain ⟨rfl, N0, K0, S_x⟩ := hQ
  have N := Fr.app N N0
  have KB := (KB).trans K0 (allS (Or.inr gk_x) all0)
  have O := O.keep KB all0
  have K0b := K0b.trans KB (fun _ q => nomatch q)
  show Go p e below _ (T.setTop (mkF m 8 #[.val (.ref b)] [(.ref x)]))
  refine Go.ret X hx hlk hT hret rfl (riA rfl rfl) (hb hby d23_8) (by decide) (by decide) ?_
  exact ⟨x, rfl, N, keepE K0b, S_x⟩
abbrev L8 (y : Int32) : Prop := ¬ y < 0 ∧ ¬ (255 : Int32) < y
theorem own_narc {y : Int32} (h : L8 y) : nar .char y = y := by
  have h2 := c_i2c y
  have e0 := h.1; have e1 := h.2
  rw [Int32.lt_iff_toInt_lt] at e0 e1
  have f0 : (0 : Int32).toInt = 0 := by decide
  have f1 : (255 : Int32).toInt = 255 := by decide
  rw [f0] at e0; rw [f1] at e1
  show y.toUInt32.toUInt16.toUInt32.toInt32 = y
  apply Int32.toInt_inj.mp
  omega
theorem own_k8 (v : Int64) : L8 ((v &&& (255 : Int64)).toInt32.toUInt32.toUInt16.toUInt32.toInt32) := by
  have h1 := c_maskL v 255 8 (by decide) (by decide)
  have h0 := c_l2i (v &&& 255)
  have hr := rng32 (v &&& 255).toInt32
  have e : ((2 ^ 8 : Nat) : Int) = 256 := by decide
  rw [h1, e] at h0
  have h2 := c_i2c (v &&& 255).toInt32
  have e1 : (255 : Int32).toInt = 255 := by decide
  constructor
  · rw [Int32.lt_iff_toInt_lt]; show ¬ _ < (0 : Int); omega
  · rw [Int32.lt_iff_toInt_lt, e1]; omega
theorem own_l58 : nar .char (58 : Int32) = (58 : Int32) := by decide
def wordL (n c0 c1 c2 : Int32) : List Int32 := if n = (0 : Int32) then [] else if n = (1 : Int32) then [c0] else if n = (2 : Int32) then [c0, c1] else [c0, c1, c2]
theorem own_wlat {n c0 c1 c2 : Int32} (l0 : L8 c0) (l1 : L8 c1) (l2 : L8 c2) : Lat (wordL n c0 c1 c2) := by
  intro c hc
  rw [wordL] at hc
  repeat' split at hc
  all_goals simp only [List.mem_cons, List.not_mem_nil, or_false] at hc
  · rw [hc]; exact l0
  · rcases hc with h | h <;> rw [h] <;> assumption
  · rcases hc with h | h | h <;> rw [h] <;> assumption
theorem own_wlen (n c0 c1 c2 : Int32) : (wordL n c0 c1 c2).length ≤ 3 := by
  rw [wordL]; repeat' split
  all_goals simp
theorem own_latp {p : Int32} {ns : List Int32} (hp : L8 p) (hn : Lat ns) : Lat (p :: 58 :: ns) := by
  intro c hc
  rcases List.mem_cons.mp hc with h | hc
  · rw [h]; exact hp
  rcases List.mem_cons.mp hc with h | hc
  · rw [h]; decide
  · exact hn c hc
theorem own_and3 (y : Int32) (h0 : ¬ (y &&& (3 : Int32)) = 0) (h1 : ¬ (y &&& (3 : Int32)) = 1) (h2 : ¬ (y &&& (3 : Int32)) = 2) : (y &&& (3 : Int32)) = 3 := by
  have q := c_and y 3 (by decide)
  have e3 : (3 : Int32).toInt = 3 := by decide
  rw [e3] at q
  rw [← Int32.toInt_inj] at h0 h1 h2 ⊢
  have e0 : (0 : Int32).toInt = 0 := by decide
  have e1 : (1 : Int32).toInt = 1 := by decide
  have e2 : (2 : Int32).toInt = 2 := by decide
  rw [e0] at h0; rw [e1] at h1; rw [e2] at h2; rw [e3]
  omega
theorem d1_0 : decode method_3_code 0 = .ok (.iload_n 0, 1) := by decide +kernel
theorem d1_1 : decode method_3_code 1 = .ok (.ifCond .ne 14, 3) := by decide +kernel
theorem d1_4 : decode method_3_code 4 = .ok (.new 37, 3) := by decide +kernel
theorem d1_7 : decode method_3_code 7 = .ok (.dup, 1) := by decide +kernel
theorem d1_8 : decode method_3_code 8 = .ok (.iconst 0, 1) := by decide +kernel
theorem d1_9 : decode method_3_code 9 = .ok (.newarray .char, 2) := by decide +kernel
theorem d1_11 : decode method_3_code 11 = .ok (.invokespecial 50, 3) := by decide +kernel
theorem d1_14 : decode method_3_code 14 = .ok (.areturn, 1) := by decide +kernel
theorem d1_15 : decode method_3_code 15 = .ok (.iload_n 0, 1) := by decide +kernel
theorem d1_16 : decode method_3_code 16 = .ok (.iconst 1, 1) := by decide +kernel
theorem d1_17 : decode method_3_code 17 = .ok (.if_icmp .ne 18, 3) := by decide +kernel
theorem d1_20 : decode method_3_code 20 = .ok (.new 37, 3) := by decide +kernel
theorem d1_23 : decode method_3_code 23 = .ok (.dup, 1) := by decide +kernel
theorem d1_24 : decode method_3_code 24 = .ok (.iconst 1, 1) := by decide +kernel
theorem d1_25 : decode method_3_code 25 = .ok (.newarray .char, 2) := by decide +kernel
theorem d1_27 : decode method_3_code 27 = .ok (.dup, 1) := by decide +kernel
theorem d1_28 : decode method_3_code 28 = .ok (.iconst 0, 1) := by decide +kernel
theorem d1_29 : decode method_3_code 29 = .ok (.iload_n 1, 1) := by decide +kernel
theorem d1_30 : decode method_3_code 30 = .ok (.castore, 1) := by decide +kernel
theorem d1_31 : decode method_3_code 31 = .ok (.invokespecial 50, 3) := by decide +kernel
theorem d1_34 : decode method_3_code 34 = .ok (.areturn, 1) := by decide +kernel
theorem d1_35 : decode method_3_code 35 = .ok (.iload_n 0, 1) := by decide +kernel
theorem d1_36 : decode method_3_code 36 = .ok (.iconst 2, 1) := by decide +kernel
theorem d1_37 : decode method_3_code 37 = .ok (.if_icmp .ne 22, 3) := by decide +kernel
theorem d1_40 : decode method_3_code 40 = .ok (.new 37, 3) := by decide +kernel
theorem d1_43 : decode method_3_code 43 = .ok (.dup, 1) := by decide +kernel
theorem d1_44 : decode method_3_code 44 = .ok (.iconst 2, 1) := by decide +kernel
theorem d1_45 : decode method_3_code 45 = .ok (.newarray .char, 2) := by decide +kernel
theorem d1_47 : decode method_3_code 47 = .ok (.dup, 1) := by decide +kernel
theorem d1_48 : decode method_3_code 48 = .ok (.iconst 0, 1) := by decide +kernel
theorem d1_49 : decode method_3_code 49 = .ok (.iload_n 1, 1) := by decide +kernel
theorem d1_50 : decode method_3_code 50 = .ok (.castore, 1) := by decide +kernel
theorem d1_51 : decode method_3_code 51 = .ok (.dup, 1) := by decide +kernel
theorem d1_52 : decode method_3_code 52 = .ok (.iconst 1, 1) := by decide +kernel
theorem d1_53 : decode method_3_code 53 = .ok (.iload_n 2, 1) := by decide +kernel
theorem d1_54 : decode method_3_code 54 = .ok (.castore, 1) := by decide +kernel
theorem d1_55 : decode method_3_code 55 = .ok (.invokespecial 50, 3) := by decide +kernel
theorem d1_58 : decode method_3_code 58 = .ok (.areturn, 1) := by decide +kernel
theorem d1_59 : decode method_3_code 59 = .ok (.new 37, 3) := by decide +kernel
theorem d1_62 : decode method_3_code 62 = .ok (.dup, 1) := by decide +kernel
theorem d1_63 : decode method_3_code 63 = .ok (.iconst 3, 1) := by decide +kernel
theorem d1_64 : decode method_3_code 64 = .ok (.newarray .char, 2) := by decide +kernel
theorem d1_66 : decode method_3_code 66 = .ok (.dup, 1) := by decide +kernel
theorem d1_67 : decode method_3_code 67 = .ok (.iconst 0, 1) := by decide +kernel
theorem d1_68 : decode method_3_code 68 = .ok (.iload_n 1, 1) := by decide +kernel
theorem d1_69 : decode method_3_code 69 = .ok (.castore, 1) := by decide +kernel
theorem d1_70 : decode method_3_code 70 = .ok (.dup, 1) := by decide +kernel
theorem d1_71 : decode method_3_code 71 = .ok (.iconst 1, 1) := by decide +kernel
theorem d1_72 : decode method_3_code 72 = .ok (.iload_n 2, 1) := by decide +kernel
theorem d1_73 : decode method_3_code 73 = .ok (.castore, 1) := by decide +kernel
theorem d1_74 : decode method_3_code 74 = .ok (.dup, 1) := by decide +kernel
theorem d1_75 : decode method_3_code 75 = .ok (.iconst 2, 1) := by decide +kernel
theorem d1_76 : decode method_3_code 76 = .ok (.iload_n 3, 1) := by decide +kernel
theorem d1_77 : decode method_3_code 77 = .ok (.castore, 1) := by decide +kernel
theorem d1_78 : decode method_3_code 78 = .ok (.invokespecial 50, 3) := by decide +kernel
theorem d1_81 : decode method_3_code 81 = .ok (.areturn, 1) := by decide +kernel
theorem pn_28 : plainFor (⟨"com/example/nandi/nandi/model/EntryKeyPinLaw", "word", "(ICCC)Ljava/lang/String;"⟩ : MethodName) = true := by first | exact plainFor_of_name (by first | (simp [plainName, overriddenIn]; done) | decide +kernel) | decide +kernel
theorem ef_IIII_4 (m : MethodId) (y0 : Int32) (y1 : Int32) (y2 : Int32) (y3 : Int32) : entryFrame m #[(.int y0), (.int y1), (.int y2), (.int y3)] 4 = mkF m 0 #[.val (.int y0), .val (.int y1), .val (.int y2), .val (.int y3)] [] := by first | (simp [entryFrame, mkF, argsToLocals, Value.category]; done) | rfl
set_option maxRecDepth 65536 in
set_option maxHeartbeats 40000000 in
theorem met_word (l : Launch) (Z : State) (a0 : Array Value) (hw : ∀ d ∈ tables_1, d.before a0 Z = true) (ws : List Jvm.Cond) (n c0 c1 c2 z : Int32) (n0 : Nat) (h0 : Heap) (O : Old Z n0 h0) (Sc : Stat Z z) (l0 : L8 c0) (l1 : L8 c1) (l2 : L8 c2) :
    MetFree l (⟨"com/example/nandi/nandi/model/EntryKeyPinLaw", "word", "(ICCC)Ljava/lang/String;"⟩ : MethodName) (head1 (Jvm.Cond.code (⟨"com/example/nandi/nandi/model/EntryKeyPinLaw", "word", "(ICCC)Ljava/lang/String;"⟩ : MethodName) method_3_code 4 (some (.object "java/lang/String")) :: ws) ({ frames := 4, cells := 6, slots := 18, locals := 66 } : Room)) (fun aa U => aa = #[(.int n), (.int c0), (.int c1), (.int c2)] ∧ Z.Warmed39 U.vm ∧ U.heap = h0 ∧ CHv Z EL0 U.vm h0) (fun _ _ _ _ _ => True) (fun _ U o U' => ∃ v L, o = .returned v ∧ QStr Z n0 (wordL n c0 c1 c2) h0 v U'.heap L ∧ CHr Z EL0 U.vm U.heap U'.vm U'.heap ∧ ReturnedEndW U o U' L ({ frames := 4, cells := 6, slots := 18, locals := 66 } : Room).cells ({ frames := 4, cells := 6, slots := 18, locals := 66 } : Room).slots) := by
  refine openH (y := (⟨"com/example/nandi/nandi/model/EntryKeyPinLaw", "word", "(ICCC)Ljava/lang/String;"⟩ : MethodName)) pn_28 ?_
  intro p e s m below meth c T vm hx hby hml hret hlk hnm hZ hown X hT H
  have hEL := own_EW hw
  refine Go.st (fun _ k => castTop (ef_IIII_4 m n c0 c1 c2) k) ?_
  show Go p e below _ (T.setTop (mkF m 0 #[.val (.int n), .val (.int c0), .val (.int c1), .val (.int c2)] []))
  have N := Fr.nil n0
  have K0b : Keep h0 h0 [] := Keep.refl _ _
  refine Go.st (fun _ k => XS.iloadN X.here hx rfl (hb hby d1_0) rfl k) ?_
  show Go p e below _ (T.setTop (mkF m 1 #[.val (.int n), .val (.int c0), .val (.int c1), .val (.int c2)] [(.int n)]))
  by_cases hc1 : n = (0 : Int32)
  · refine Go.st (fun _ k => XS.ifNo X.here hx rfl (hb hby d1_1) rfl (Jvm.Free.XT.i0_ne_f hc1) k) ?_
    show Go p e below _ (T.setTop (mkF m 4 #[.val (.int n), .val (.int c0), .val (.int c1), .val (.int c2)] []))
    obtain ⟨T, h1, X, hT, Ex0, A_o2, D_o2, -, st⟩ := newO X hx hZ hown (hw _ (List.mem_of_getElem? (i := 8) rfl)) (hw _ (List.mem_of_getElem? (i := 9) rfl)) (hw _ (List.mem_of_getElem? (i := 10) rfl)) hT (g := (mkF m 4 #[.val (.int n), .val (.int c0), .val (.int c1), .val (.int c2)] [])) rfl (hb hby d1_4) (by decide) (by decide)
    obtain ⟨o2, g_o2⟩ : ∃ z, z = h0.size := ⟨_, rfl⟩
    rw [← g_o2] at A_o2 D_o2 st
    refine Go.st st ?_
    have ge_o2 : n0 ≤ o2 := Nat.le_trans (own_le (O)) (Nat.le_of_eq g_o2.symm)
    have gk_o2 : h0.size ≤ o2 := Nat.le_trans (Keep.refl h0 []).1 (Nat.le_of_eq g_o2.symm)
    have Sf_o2 := Safe.ext Ex0 H.2.1 (Safe.new (Nat.le_of_eq g_o2.symm))
    have H := H.ext Ex0
    have KB := (Keep.refl h0 []).ext Ex0
    have F_o2_coder := D_o2 (Or.inr (hw _ (List.mem_of_getElem? (i := 35) rfl))) (ty := .byte) (by decide)
    have F_o2_value := D_o2 (Or.inr (hw _ (List.mem_of_getElem? (i := 37) rfl))) (ty := (.array .byte)) (by decide)
    show Go p e below _ (T.setTop (mkF m 7 #[.val (.int n), .val (.int c0), .val (.int c1), .val (.int c2)] [(.ref o2)]))
    refine Go.st (fun _ k => XS.dup X.here hx rfl (hb hby d1_7) rfl rfl k) ?_
    show Go p e below _ (T.setTop (mkF m 8 #[.val (.int n), .val (.int c0), .val (.int c1), .val (.int c2)] [(.ref o2), (.ref o2)]))
    refine Go.st (fun _ k => XS.iconst X.here hx rfl (hb hby d1_8) k) ?_
    show Go p e below _ (T.setTop (mkF m 9 #[.val (.int n), .val (.int c0), .val (.int c1), .val (.int c2)] [(.int (0 : Int32)), (.ref o2), (.ref o2)]))
    obtain ⟨T, h2, k_o3, X, hT, Ex0, A_o3, st⟩ := newP X hx hZ (hw _ (List.mem_of_getElem? (i := 11) rfl)) hT (g := (mkF m 9 #[.val (.int n), .val (.int c0), .val (.int c1), .val (.int c2)] [(.int (0 : Int32)), (.ref o2), (.ref o2)])) rfl (hb hby d1_9) rfl (by decide : ¬ ((0 : Int32) < (0 : Int32))) (cap := 0) (by decide) (by decide) (by decide) (by decide)
    obtain ⟨o3, g_o3⟩ : ∃ z, z = h1.size := ⟨_, rfl⟩
    rw [← g_o3] at A_o3 st
    refine Go.st st ?_
    have ge_o3 : n0 ≤ o3 := Nat.le_trans (own_le (O.keep KB all0)) (Nat.le_of_eq g_o3.symm)
    have gk_o3 : h0.size ≤ o3 := Nat.le_trans (KB).1 (Nat.le_of_eq g_o3.symm)
    have H := H.ext Ex0
    have A_o2 := A_o2.ext Ex0
    have F_o2_coder := F_o2_coder.ext Ex0
    have F_o2_value := F_o2_value.ext Ex0
    have KB := (KB).ext Ex0
    have V_o3 : Arv Z _ o3 k_o3 .char (0 : Int32) [] (.int (0 : Int32)) := (Arv.new A_o3 (by decide)).pad (pad_rep [] (.int (0 : Int32)) 0)
    have ne_o2_o3 : o2 ≠ o3 := Exa.neArv A_o2 V_o3 (hw _ (List.mem_of_getElem? (i := 9) rfl))
    show Go p e below _ (T.setTop (mkF m 11 #[.val (.int n), .val (.int c0), .val (.int c1), .val (.int c2)] [(.ref o3), (.ref o2), (.ref o2)]))
    refine Go.newS (W := 1) (n := 0) (rest := [(.ref o2)]) (cs := []) hw H X hx hZ hown (hml.trans rfl) hT (hw _ (List.mem_of_getElem? (i := 12) rfl)) (hb hby d1_11) (O.keep KB all0) ge_o2 Sc A_o2 F_o2_value F_o2_coder (by have q := V_o3; (try simp only [own_l58, own_narc l0, own_narc l1, own_narc l2] at q); exact q) rfl (Nat.le_of_ble_eq_true rfl) (by decide) (fun _ q => (nomatch q)) (Nat.le_of_ble_eq_true rfl) (by decide) (by decide) (by decide) (by decide) ?_
    intro T h3 L vm hT N0 K0 S_o2 hZ hown H X
    have N := Fr.app N N0
    have KB := (KB).trans K0 (allS (Or.inr gk_o2) all0)
    have O := O.keep KB all0
    have K0b := K0b.trans KB (fun _ q => nomatch q)
    show Go p e below _ (T.setTop (mkF m 14 #[.val (.int n), .val (.int c0), .val (.int c1), .val (.int c2)] [(.ref o2)]))
    refine Go.retH hEL H hZ X hx hlk hT hret rfl (riA rfl rfl) (hb hby d1_14) (by decide) (by decide) ?_
    refine ⟨_, rfl, N, keepE K0b, ?_⟩
    rw [wordL, if_pos hc1]
    exact S_o2
  · refine Go.st (fun _ k => XS.ifYes X.here hx rfl (pc0 := 1) (pc' := 15) rfl (hb hby d1_1) rfl (Jvm.Free.XT.i0_ne_t hc1) (by decide) (by decide) k) ?_
    show Go p e below _ (T.setTop (mkF m 15 #[.val (.int n), .val (.int c0), .val (.int c1), .val (.int c2)] []))
    refine Go.st (fun _ k => XS.iloadN X.here hx rfl (hb hby d1_15) rfl k) ?_
    show Go p e below _ (T.setTop (mkF m 16 #[.val (.int n), .val (.int c0), .val (.int c1), .val (.int c2)] [(.int n)]))
    refine Go.st (fun _ k => XS.iconst X.here hx rfl (hb hby d1_16) k) ?_
    show Go p e below _ (T.setTop (mkF m 17 #[.val (.int n), .val (.int c0), .val (.int c1), .val (.int c2)] [(.int (1 : Int32)), (.int n)]))
    by_cases hc4 : n = (1 : Int32)
    · refine Go.st (fun _ k => XS.icmpNo X.here hx rfl (hb hby d1_17) rfl (Jvm.Free.XT.ii_ne_f hc4) k) ?_
      show Go p e below _ (T.setTop (mkF m 20 #[.val (.int n), .val (.int c0), .val (.int c1), .val (.int c2)] []))
      obtain ⟨T, h4, X, hT, Ex0, A_o5, D_o5, -, st⟩ := newO X hx hZ hown (hw _ (List.mem_of_getElem? (i := 8) rfl)) (hw _ (List.mem_of_getElem? (i := 9) rfl)) (hw _ (List.mem_of_getElem? (i := 10) rfl)) hT (g := (mkF m 20 #[.val (.int n), .val (.int c0), .val (.int c1), .val (.int c2)] [])) rfl (hb hby d1_20) (by decide) (by decide)
      obtain ⟨o5, g_o5⟩ : ∃ z, z = h0.size := ⟨_, rfl⟩
      rw [← g_o5] at A_o5 D_o5 st
      refine Go.st st ?_
      have ge_o5 : n0 ≤ o5 := Nat.le_trans (own_le (O)) (Nat.le_of_eq g_o5.symm)
      have gk_o5 : h0.size ≤ o5 := Nat.le_trans (Keep.refl h0 []).1 (Nat.le_of_eq g_o5.symm)
      have Sf_o5 := Safe.ext Ex0 H.2.1 (Safe.new (Nat.le_of_eq g_o5.symm))
      have H := H.ext Ex0
      have KB := (Keep.refl h0 []).ext Ex0
      have F_o5_coder := D_o5 (Or.inr (hw _ (List.mem_of_getElem? (i := 35) rfl))) (ty := .byte) (by decide)
      have F_o5_value := D_o5 (Or.inr (hw _ (List.mem_of_getElem? (i := 37) rfl))) (ty := (.array .byte)) (by decide)
      show Go p e below _ (T.setTop (mkF m 23 #[.val (.int n), .val (.int c0), .val (.int c1), .val (.int c2)] [(.ref o5)]))
      refine Go.st (fun _ k => XS.dup X.here hx rfl (hb hby d1_23) rfl rfl k) ?_
      show Go p e below _ (T.setTop (mkF m 24 #[.val (.int n), .val (.int c0), .val (.int c1), .val (.int c2)] [(.ref o5), (.ref o5)]))
      refine Go.st (fun _ k => XS.iconst X.here hx rfl (hb hby d1_24) k) ?_
      show Go p e below _ (T.setTop (mkF m 25 #[.val (.int n), .val (.int c0), .val (.int c1), .val (.int c2)] [(.int (1 : Int32)), (.ref o5), (.ref o5)]))
      obtain ⟨T, h5, k_o6, X, hT, Ex0, A_o6, st⟩ := newP X hx hZ (hw _ (List.mem_of_getElem? (i := 11) rfl)) hT (g := (mkF m 25 #[.val (.int n), .val (.int c0), .val (.int c1), .val (.int c2)] [(.int (1 : Int32)), (.ref o5), (.ref o5)])) rfl (hb hby d1_25) rfl (by decide : ¬ ((1 : Int32) < (0 : Int32))) (cap := 1) (by decide) (by decide) (by decide) (by decide)
      obtain ⟨o6, g_o6⟩ : ∃ z, z = h4.size := ⟨_, rfl⟩
      rw [← g_o6] at A_o6 st
      refine Go.st st ?_
      have ge_o6 : n0 ≤ o6 := Nat.le_trans (own_le (O.keep KB all0)) (Nat.le_of_eq g_o6.symm)
      have gk_o6 : h0.size ≤ o6 := Nat.le_trans (KB).1 (Nat.le_of_eq g_o6.symm)
      have H := H.ext Ex0
      have A_o5 := A_o5.ext Ex0
      have F_o5_coder := F_o5_coder.ext Ex0
      have F_o5_value := F_o5_value.ext Ex0
      have KB := (KB).ext Ex0
      have V_o6 : Arv Z _ o6 k_o6 .char (1 : Int32) [(.int (0 : Int32))] (.int (0 : Int32)) := (Arv.new A_o6 (by decide)).pad (pad_rep [] (.int (0 : Int32)) 1)
      have ne_o5_o6 : o5 ≠ o6 := Exa.neArv A_o5 V_o6 (hw _ (List.mem_of_getElem? (i := 9) rfl))
      show Go p e below _ (T.setTop (mkF m 27 #[.val (.int n), .val (.int c0), .val (.int c1), .val (.int c2)] [(.ref o6), (.ref o5), (.ref o5)]))
      refine Go.st (fun _ k => XS.dup X.here hx rfl (hb hby d1_27) rfl rfl k) ?_
      show Go p e below _ (T.setTop (mkF m 28 #[.val (.int n), .val (.int c0), .val (.int c1), .val (.int c2)] [(.ref o6), (.ref o6), (.ref o5), (.ref o5)]))
      refine Go.st (fun _ k => XS.iconst X.here hx rfl (hb hby d1_28) k) ?_
      show Go p e below _ (T.setTop (mkF m 29 #[.val (.int n), .val (.int c0), .val (.int c1), .val (.int c2)] [(.int (0 : Int32)), (.ref o6), (.ref o6), (.ref o5), (.ref o5)]))
      refine Go.st (fun _ k => XS.iloadN X.here hx rfl (hb hby d1_29) rfl k) ?_
      show Go p e below _ (T.setTop (mkF m 30 #[.val (.int n), .val (.int c0), .val (.int c1), .val (.int c2)] [(.int c0), (.int (0 : Int32)), (.ref o6), (.ref o6), (.ref o5), (.ref o5)]))
      obtain ⟨cl0, Ar0, q0, S0, M0, H0, U0⟩ := id V_o6
      obtain ⟨T, h6, X, hT, Wr0, st⟩ := stC X hx hZ hT Ar0 (j := (0 : Int32)) (inb_of S0 ⟨(by decide : ¬ ((0 : Int32) < (0 : Int32))), (by decide : (0 : Int32) < (1 : Int32))⟩) (g := (mkF m 30 #[.val (.int n), .val (.int c0), .val (.int c1), .val (.int c2)] [(.int c0), (.int (0 : Int32)), (.ref o6), (.ref o6), (.ref o5), (.ref o5)])) rfl rfl (hb hby d1_30)
      refine Go.st st ?_
      have N := Fr.snoc X N ge_o6
      have H := H.wr Wr0 (Safe.arr hZ.alike Ar0 (by decide))
      have A_o5 := A_o5.wr Wr0
      have F_o5_coder := F_o5_coder.other Wr0 (Or.inl ne_o5_o6)
      have F_o5_value := F_o5_value.other Wr0 (Or.inl ne_o5_o6)
      have KB := (KB).wr Wr0 (Or.inr gk_o6)
      have V_o6 : Arv Z _ o6 k_o6 .char (1 : Int32) [(.int (nar .char c0))] (.int (0 : Int32)) := Arv.set Ar0 q0 S0 M0 H0 U0 (fits_nar_char _) Wr0 0 rfl (Nat.le_of_ble_eq_true rfl)
      show Go p e below _ (T.setTop (mkF m 31 #[.val (.int n), .val (.int c0), .val (.int c1), .val (.int c2)] [(.ref o6), (.ref o5), (.ref o5)]))
      refine Go.newS (W := 1) (n := 1) (rest := [(.ref o5)]) (cs := [c0]) hw H X hx hZ hown (hml.trans rfl) hT (hw _ (List.mem_of_getElem? (i := 12) rfl)) (hb hby d1_31) (O.keep KB all0) ge_o5 Sc A_o5 F_o5_value F_o5_coder (by have q := V_o6; (try simp only [own_l58, own_narc l0, own_narc l1, own_narc l2] at q); exact q) rfl (Nat.le_of_ble_eq_true rfl) (by decide) (by intro c hc; rw [List.mem_singleton.mp hc]; first | exact l0 | exact l1 | exact l2) (Nat.le_of_ble_eq_true rfl) (by decide) (by decide) (by decide) (by decide) ?_
      intro T h7 L vm hT N0 K0 S_o5 hZ hown H X
      have N := Fr.app N N0
      have KB := (KB).trans K0 (allS (Or.inr gk_o5) all0)
      have O := O.keep KB all0
      have K0b := K0b.trans KB (fun _ q => nomatch q)
      show Go p e below _ (T.setTop (mkF m 34 #[.val (.int n), .val (.int c0), .val (.int c1), .val (.int c2)] [(.ref o5)]))
      refine Go.retH hEL H hZ X hx hlk hT hret rfl (riA rfl rfl) (hb hby d1_34) (by decide) (by decide) ?_
      refine ⟨_, rfl, N, keepE K0b, ?_⟩
      rw [wordL, if_neg hc1, if_pos hc4]
      exact S_o5
    · refine Go.st (fun _ k => XS.icmpYes X.here hx rfl (pc0 := 17) (pc' := 35) rfl (hb hby d1_17) rfl (Jvm.Free.XT.ii_ne_t hc4) (by decide) (by decide) k) ?_
      show Go p e below _ (T.setTop (mkF m 35 #[.val (.int n), .val (.int c0), .val (.int c1), .val (.int c2)] []))
      refine Go.st (fun _ k => XS.iloadN X.here hx rfl (hb hby d1_35) rfl k) ?_
      show Go p e below _ (T.setTop (mkF m 36 #[.val (.int n), .val (.int c0), .val (.int c1), .val (.int c2)] [(.int n)]))
      refine Go.st (fun _ k => XS.iconst X.here hx rfl (hb hby d1_36) k) ?_
      show Go p e below _ (T.setTop (mkF m 37 #[.val (.int n), .val (.int c0), .val (.int c1), .val (.int c2)] [(.int (2 : Int32)), (.int n)]))
      by_cases hc7 : n = (2 : Int32)
      · refine Go.st (fun _ k => XS.icmpNo X.here hx rfl (hb hby d1_37) rfl (Jvm.Free.XT.ii_ne_f hc7) k) ?_
        show Go p e below _ (T.setTop (mkF m 40 #[.val (.int n), .val (.int c0), .val (.int c1), .val (.int c2)] []))
        obtain ⟨T, h8, X, hT, Ex0, A_o8, D_o8, -, st⟩ := newO X hx hZ hown (hw _ (List.mem_of_getElem? (i := 8) rfl)) (hw _ (List.mem_of_getElem? (i := 9) rfl)) (hw _ (List.mem_of_getElem? (i := 10) rfl)) hT (g := (mkF m 40 #[.val (.int n), .val (.int c0), .val (.int c1), .val (.int c2)] [])) rfl (hb hby d1_40) (by decide) (by decide)
        obtain ⟨o8, g_o8⟩ : ∃ z, z = h0.size := ⟨_, rfl⟩
        rw [← g_o8] at A_o8 D_o8 st
        refine Go.st st ?_
        have ge_o8 : n0 ≤ o8 := Nat.le_trans (own_le (O)) (Nat.le_of_eq g_o8.symm)
        have gk_o8 : h0.size ≤ o8 := Nat.le_trans (Keep.refl h0 []).1 (Nat.le_of_eq g_o8.symm)
        have Sf_o8 := Safe.ext Ex0 H.2.1 (Safe.new (Nat.le_of_eq g_o8.symm))
        have H := H.ext Ex0
        have KB := (Keep.refl h0 []).ext Ex0
        have F_o8_coder := D_o8 (Or.inr (hw _ (List.mem_of_getElem? (i := 35) rfl))) (ty := .byte) (by decide)
        have F_o8_value := D_o8 (Or.inr (hw _ (List.mem_of_getElem? (i := 37) rfl))) (ty := (.array .byte)) (by decide)
        show Go p e below _ (T.setTop (mkF m 43 #[.val (.int n), .val (.int c0), .val (.int c1), .val (.int c2)] [(.ref o8)]))
        refine Go.st (fun _ k => XS.dup X.here hx rfl (hb hby d1_43) rfl rfl k) ?_
        show Go p e below _ (T.setTop (mkF m 44 #[.val (.int n), .val (.int c0), .val (.int c1), .val (.int c2)] [(.ref o8), (.ref o8)]))
        refine Go.st (fun _ k => XS.iconst X.here hx rfl (hb hby d1_44) k) ?_
        show Go p e below _ (T.setTop (mkF m 45 #[.val (.int n), .val (.int c0), .val (.int c1), .val (.int c2)] [(.int (2 : Int32)), (.ref o8), (.ref o8)]))
        obtain ⟨T, h9, k_o9, X, hT, Ex0, A_o9, st⟩ := newP X hx hZ (hw _ (List.mem_of_getElem? (i := 11) rfl)) hT (g := (mkF m 45 #[.val (.int n), .val (.int c0), .val (.int c1), .val (.int c2)] [(.int (2 : Int32)), (.ref o8), (.ref o8)])) rfl (hb hby d1_45) rfl (by decide : ¬ ((2 : Int32) < (0 : Int32))) (cap := 2) (by decide) (by decide) (by decide) (by decide)
        obtain ⟨o9, g_o9⟩ : ∃ z, z = h8.size := ⟨_, rfl⟩
        rw [← g_o9] at A_o9 st
        refine Go.st st ?_
        have ge_o9 : n0 ≤ o9 := Nat.le_trans (own_le (O.keep KB all0)) (Nat.le_of_eq g_o9.symm)
        have gk_o9 : h0.size ≤ o9 := Nat.le_trans (KB).1 (Nat.le_of_eq g_o9.symm)
        have H := H.ext Ex0
        have A_o8 := A_o8.ext Ex0
        have F_o8_coder := F_o8_coder.ext Ex0
        have F_o8_value := F_o8_value.ext Ex0
        have KB := (KB).ext Ex0
        have V_o9 : Arv Z _ o9 k_o9 .char (2 : Int32) [(.int (0 : Int32)), (.int (0 : Int32))] (.int (0 : Int32)) := (Arv.new A_o9 (by decide)).pad (pad_rep [] (.int (0 : Int32)) 2)
        have ne_o8_o9 : o8 ≠ o9 := Exa.neArv A_o8 V_o9 (hw _ (List.mem_of_getElem? (i := 9) rfl))
        show Go p e below _ (T.setTop (mkF m 47 #[.val (.int n), .val (.int c0), .val (.int c1), .val (.int c2)] [(.ref o9), (.ref o8), (.ref o8)]))
        refine Go.st (fun _ k => XS.dup X.here hx rfl (hb hby d1_47) rfl rfl k) ?_
        show Go p e below _ (T.setTop (mkF m 48 #[.val (.int n), .val (.int c0), .val (.int c1), .val (.int c2)] [(.ref o9), (.ref o9), (.ref o8), (.ref o8)]))
        refine Go.st (fun _ k => XS.iconst X.here hx rfl (hb hby d1_48) k) ?_
        show Go p e below _ (T.setTop (mkF m 49 #[.val (.int n), .val (.int c0), .val (.int c1), .val (.int c2)] [(.int (0 : Int32)), (.ref o9), (.ref o9), (.ref o8), (.ref o8)]))
        refine Go.st (fun _ k => XS.iloadN X.here hx rfl (hb hby d1_49) rfl k) ?_
        show Go p e below _ (T.setTop (mkF m 50 #[.val (.int n), .val (.int c0), .val (.int c1), .val (.int c2)] [(.int c0), (.int (0 : Int32)), (.ref o9), (.ref o9), (.ref o8), (.ref o8)]))
        obtain ⟨cl0, Ar0, q0, S0, M0, H0, U0⟩ := id V_o9
        obtain ⟨T, h10, X, hT, Wr0, st⟩ := stC X hx hZ hT Ar0 (j := (0 : Int32)) (inb_of S0 ⟨(by decide : ¬ ((0 : Int32) < (0 : Int32))), (by decide : (0 : Int32) < (2 : Int32))⟩) (g := (mkF m 50 #[.val (.int n), .val (.int c0), .val (.int c1), .val (.int c2)] [(.int c0), (.int (0 : Int32)), (.ref o9), (.ref o9), (.ref o8), (.ref o8)])) rfl rfl (hb hby d1_50)
        refine Go.st st ?_
        have N := Fr.snoc X N ge_o9
        have H := H.wr Wr0 (Safe.arr hZ.alike Ar0 (by decide))
        have A_o8 := A_o8.wr Wr0
        have F_o8_coder := F_o8_coder.other Wr0 (Or.inl ne_o8_o9)
        have F_o8_value := F_o8_value.other Wr0 (Or.inl ne_o8_o9)
        have KB := (KB).wr Wr0 (Or.inr gk_o9)
        have V_o9 : Arv Z _ o9 k_o9 .char (2 : Int32) [(.int (nar .char c0)), (.int (0 : Int32))] (.int (0 : Int32)) := Arv.set Ar0 q0 S0 M0 H0 U0 (fits_nar_char _) Wr0 0 rfl (Nat.le_of_ble_eq_true rfl)
        show Go p e below _ (T.setTop (mkF m 51 #[.val (.int n), .val (.int c0), .val (.int c1), .val (.int c2)] [(.ref o9), (.ref o8), (.ref o8)]))
        refine Go.st (fun _ k => XS.dup X.here hx rfl (hb hby d1_51) rfl rfl k) ?_
        show Go p e below _ (T.setTop (mkF m 52 #[.val (.int n), .val (.int c0), .val (.int c1), .val (.int c2)] [(.ref o9), (.ref o9), (.ref o8), (.ref o8)]))
        refine Go.st (fun _ k => XS.iconst X.here hx rfl (hb hby d1_52) k) ?_
        show Go p e below _ (T.setTop (mkF m 53 #[.val (.int n), .val (.int c0), .val (.int c1), .val (.int c2)] [(.int (1 : Int32)), (.ref o9), (.ref o9), (.ref o8), (.ref o8)]))
        refine Go.st (fun _ k => XS.iloadN X.here hx rfl (hb hby d1_53) rfl k) ?_
        show Go p e below _ (T.setTop (mkF m 54 #[.val (.int n), .val (.int c0), .val (.int c1), .val (.int c2)] [(.int c1), (.int (1 : Int32)), (.ref o9), (.ref o9), (.ref o8), (.ref o8)]))
        obtain ⟨cl0, Ar0, q0, S0, M0, H0, U0⟩ := id V_o9
        obtain ⟨T, h11, X, hT, Wr0, st⟩ := stC X hx hZ hT Ar0 (j := (1 : Int32)) (inb_of S0 ⟨(by decide : ¬ ((1 : Int32) < (0 : Int32))), (by decide : (1 : Int32) < (2 : Int32))⟩) (g := (mkF m 54 #[.val (.int n), .val (.int c0), .val (.int c1), .val (.int c2)] [(.int c1), (.int (1 : Int32)), (.ref o9), (.ref o9), (.ref o8), (.ref o8)])) rfl rfl (hb hby d1_54)
        refine Go.st st ?_
        have N := Fr.snoc X N ge_o9
        have H := H.wr Wr0 (Safe.arr hZ.alike Ar0 (by decide))
        have A_o8 := A_o8.wr Wr0
        have F_o8_coder := F_o8_coder.other Wr0 (Or.inl ne_o8_o9)
        have F_o8_value := F_o8_value.other Wr0 (Or.inl ne_o8_o9)
        have KB := (KB).wr Wr0 (Or.inr gk_o9)
        have V_o9 : Arv Z _ o9 k_o9 .char (2 : Int32) [(.int (nar .char c0)), (.int (nar .char c1))] (.int (0 : Int32)) := Arv.set Ar0 q0 S0 M0 H0 U0 (fits_nar_char _) Wr0 1 rfl (Nat.le_of_ble_eq_true rfl)
        show Go p e below _ (T.setTop (mkF m 55 #[.val (.int n), .val (.int c0), .val (.int c1), .val (.int c2)] [(.ref o9), (.ref o8), (.ref o8)]))
        refine Go.newS (W := 1) (n := 2) (rest := [(.ref o8)]) (cs := [c0, c1]) hw H X hx hZ hown (hml.trans rfl) hT (hw _ (List.mem_of_getElem? (i := 12) rfl)) (hb hby d1_55) (O.keep KB all0) ge_o8 Sc A_o8 F_o8_value F_o8_coder (by have q := V_o9; (try simp only [own_l58, own_narc l0, own_narc l1, own_narc l2] at q); exact q) rfl (Nat.le_of_ble_eq_true rfl) (by decide) (by intro c hc; simp only [List.mem_cons, List.not_mem_nil, or_false] at hc; rcases hc with h | h <;> rw [h] <;> first | exact l0 | exact l1 | exact l2) (Nat.le_of_ble_eq_true rfl) (by decide) (by decide) (by decide) (by decide) ?_
        intro T h12 L vm hT N0 K0 S_o8 hZ hown H X
        have N := Fr.app N N0
        have KB := (KB).trans K0 (allS (Or.inr gk_o8) all0)
        have O := O.keep KB all0
        have K0b := K0b.trans KB (fun _ q => nomatch q)
        show Go p e below _ (T.setTop (mkF m 58 #[.val (.int n), .val (.int c0), .val (.int c1), .val (.int c2)] [(.ref o8)]))
        refine Go.retH hEL H hZ X hx hlk hT hret rfl (riA rfl rfl) (hb hby d1_58) (by decide) (by decide) ?_
        refine ⟨_, rfl, N, keepE K0b, ?_⟩
        rw [wordL, if_neg hc1, if_neg hc4, if_pos hc7]
        exact S_o8
      · refine Go.st (fun _ k => XS.icmpYes X.here hx rfl (pc0 := 37) (pc' := 59) rfl (hb hby d1_37) rfl (Jvm.Free.XT.ii_ne_t hc7) (by decide) (by decide) k) ?_
        show Go p e below _ (T.setTop (mkF m 59 #[.val (.int n), .val (.int c0), .val (.int c1), .val (.int c2)] []))
        obtain ⟨T, h13, X, hT, Ex0, A_o10, D_o10, -, st⟩ := newO X hx hZ hown (hw _ (List.mem_of_getElem? (i := 8) rfl)) (hw _ (List.mem_of_getElem? (i := 9) rfl)) (hw _ (List.mem_of_getElem? (i := 10) rfl)) hT (g := (mkF m 59 #[.val (.int n), .val (.int c0), .val (.int c1), .val (.int c2)] [])) rfl (hb hby d1_59) (by decide) (by decide)
        obtain ⟨o10, g_o10⟩ : ∃ z, z = h0.size := ⟨_, rfl⟩
        rw [← g_o10] at A_o10 D_o10 st
        refine Go.st st ?_
        have ge_o10 : n0 ≤ o10 := Nat.le_trans (own_le (O)) (Nat.le_of_eq g_o10.symm)
        have gk_o10 : h0.size ≤ o10 := Nat.le_trans (Keep.refl h0 []).1 (Nat.le_of_eq g_o10.symm)
        have Sf_o10 := Safe.ext Ex0 H.2.1 (Safe.new (Nat.le_of_eq g_o10.symm))
        have H := H.ext Ex0
        have KB := (Keep.refl h0 []).ext Ex0
        have F_o10_coder := D_o10 (Or.inr (hw _ (List.mem_of_getElem? (i := 35) rfl))) (ty := .byte) (by decide)
        have F_o10_value := D_o10 (Or.inr (hw _ (List.mem_of_getElem? (i := 37) rfl))) (ty := (.array .byte)) (by decide)
        show Go p e below _ (T.setTop (mkF m 62 #[.val (.int n), .val (.int c0), .val (.int c1), .val (.int c2)] [(.ref o10)]))
        refine Go.st (fun _ k => XS.dup X.here hx rfl (hb hby d1_62) rfl rfl k) ?_
        show Go p e below _ (T.setTop (mkF m 63 #[.val (.int n), .val (.int c0), .val (.int c1), .val (.int c2)] [(.ref o10), (.ref o10)]))
        refine Go.st (fun _ k => XS.iconst X.here hx rfl (hb hby d1_63) k) ?_
        show Go p e below _ (T.setTop (mkF m 64 #[.val (.int n), .val (.int c0), .val (.int c1), .val (.int c2)] [(.int (3 : Int32)), (.ref o10), (.ref o10)]))
        obtain ⟨T, h14, k_o11, X, hT, Ex0, A_o11, st⟩ := newP X hx hZ (hw _ (List.mem_of_getElem? (i := 11) rfl)) hT (g := (mkF m 64 #[.val (.int n), .val (.int c0), .val (.int c1), .val (.int c2)] [(.int (3 : Int32)), (.ref o10), (.ref o10)])) rfl (hb hby d1_64) rfl (by decide : ¬ ((3 : Int32) < (0 : Int32))) (cap := 3) (by decide) (by decide) (by decide) (by decide)
        obtain ⟨o11, g_o11⟩ : ∃ z, z = h13.size := ⟨_, rfl⟩
        rw [← g_o11] at A_o11 st
        refine Go.st st ?_
        have ge_o11 : n0 ≤ o11 := Nat.le_trans (own_le (O.keep KB all0)) (Nat.le_of_eq g_o11.symm)
        have gk_o11 : h0.size ≤ o11 := Nat.le_trans (KB).1 (Nat.le_of_eq g_o11.symm)
        have H := H.ext Ex0
        have A_o10 := A_o10.ext Ex0
        have F_o10_coder := F_o10_coder.ext Ex0
        have F_o10_value := F_o10_value.ext Ex0
        have KB := (KB).ext Ex0
        have V_o11 : Arv Z _ o11 k_o11 .char (3 : Int32) [(.int (0 : Int32)), (.int (0 : Int32)), (.int (0 : Int32))] (.int (0 : Int32)) := (Arv.new A_o11 (by decide)).pad (pad_rep [] (.int (0 : Int32)) 3)
        have ne_o10_o11 : o10 ≠ o11 := Exa.neArv A_o10 V_o11 (hw _ (List.mem_of_getElem? (i := 9) rfl))
        show Go p e below _ (T.setTop (mkF m 66 #[.val (.int n), .val (.int c0), .val (.int c1), .val (.int c2)] [(.ref o11), (.ref o10), (.ref o10)]))
        refine Go.st (fun _ k => XS.dup X.here hx rfl (hb hby d1_66) rfl rfl k) ?_
        show Go p e below _ (T.setTop (mkF m 67 #[.val (.int n), .val (.int c0), .val (.int c1), .val (.int c2)] [(.ref o11), (.ref o11), (.ref o10), (.ref o10)]))
        refine Go.st (fun _ k => XS.iconst X.here hx rfl (hb hby d1_67) k) ?_
        show Go p e below _ (T.setTop (mkF m 68 #[.val (.int n), .val (.int c0), .val (.int c1), .val (.int c2)] [(.int (0 : Int32)), (.ref o11), (.ref o11), (.ref o10), (.ref o10)]))
        refine Go.st (fun _ k => XS.iloadN X.here hx rfl (hb hby d1_68) rfl k) ?_
        show Go p e below _ (T.setTop (mkF m 69 #[.val (.int n), .val (.int c0), .val (.int c1), .val (.int c2)] [(.int c0), (.int (0 : Int32)), (.ref o11), (.ref o11), (.ref o10), (.ref o10)]))
        obtain ⟨cl0, Ar0, q0, S0, M0, H0, U0⟩ := id V_o11
        obtain ⟨T, h15, X, hT, Wr0, st⟩ := stC X hx hZ hT Ar0 (j := (0 : Int32)) (inb_of S0 ⟨(by decide : ¬ ((0 : Int32) < (0 : Int32))), (by decide : (0 : Int32) < (3 : Int32))⟩) (g := (mkF m 69 #[.val (.int n), .val (.int c0), .val (.int c1), .val (.int c2)] [(.int c0), (.int (0 : Int32)), (.ref o11), (.ref o11), (.ref o10), (.ref o10)])) rfl rfl (hb hby d1_69)
        refine Go.st st ?_
        have N := Fr.snoc X N ge_o11
        have H := H.wr Wr0 (Safe.arr hZ.alike Ar0 (by decide))
        have A_o10 := A_o10.wr Wr0
        have F_o10_coder := F_o10_coder.other Wr0 (Or.inl ne_o10_o11)
        have F_o10_value := F_o10_value.other Wr0 (Or.inl ne_o10_o11)
        have KB := (KB).wr Wr0 (Or.inr gk_o11)
        have V_o11 : Arv Z _ o11 k_o11 .char (3 : Int32) [(.int (nar .char c0)), (.int (0 : Int32)), (.int (0 : Int32))] (.int (0 : Int32)) := Arv.set Ar0 q0 S0 M0 H0 U0 (fits_nar_char _) Wr0 0 rfl (Nat.le_of_ble_eq_true rfl)
        show Go p e below _ (T.setTop (mkF m 70 #[.val (.int n), .val (.int c0), .val (.int c1), .val (.int c2)] [(.ref o11), (.ref o10), (.ref o10)]))
        refine Go.st (fun _ k => XS.dup X.here hx rfl (hb hby d1_70) rfl rfl k) ?_
        show Go p e below _ (T.setTop (mkF m 71 #[.val (.int n), .val (.int c0), .val (.int c1), .val (.int c2)] [(.ref o11), (.ref o11), (.ref o10), (.ref o10)]))
        refine Go.st (fun _ k => XS.iconst X.here hx rfl (hb hby d1_71) k) ?_
        show Go p e below _ (T.setTop (mkF m 72 #[.val (.int n), .val (.int c0), .val (.int c1), .val (.int c2)] [(.int (1 : Int32)), (.ref o11), (.ref o11), (.ref o10), (.ref o10)]))
        refine Go.st (fun _ k => XS.iloadN X.here hx rfl (hb hby d1_72) rfl k) ?_
        show Go p e below _ (T.setTop (mkF m 73 #[.val (.int n), .val (.int c0), .val (.int c1), .val (.int c2)] [(.int c1), (.int (1 : Int32)), (.ref o11), (.ref o11), (.ref o10), (.ref o10)]))
        obtain ⟨cl0, Ar0, q0, S0, M0, H0, U0⟩ := id V_o11
        obtain ⟨T, h16, X, hT, Wr0, st⟩ := stC X hx hZ hT Ar0 (j := (1 : Int32)) (inb_of S0 ⟨(by decide : ¬ ((1 : Int32) < (0 : Int32))), (by decide : (1 : Int32) < (3 : Int32))⟩) (g := (mkF m 73 #[.val (.int n), .val (.int c0), .val (.int c1), .val (.int c2)] [(.int c1), (.int (1 : Int32)), (.ref o11), (.ref o11), (.ref o10), (.ref o10)])) rfl rfl (hb hby d1_73)
        refine Go.st st ?_
        have N := Fr.snoc X N ge_o11
        have H := H.wr Wr0 (Safe.arr hZ.alike Ar0 (by decide))
        have A_o10 := A_o10.wr Wr0
        have F_o10_coder := F_o10_coder.other Wr0 (Or.inl ne_o10_o11)
        have F_o10_value := F_o10_value.other Wr0 (Or.inl ne_o10_o11)
        have KB := (KB).wr Wr0 (Or.inr gk_o11)
        have V_o11 : Arv Z _ o11 k_o11 .char (3 : Int32) [(.int (nar .char c0)), (.int (nar .char c1)), (.int (0 : Int32))] (.int (0 : Int32)) := Arv.set Ar0 q0 S0 M0 H0 U0 (fits_nar_char _) Wr0 1 rfl (Nat.le_of_ble_eq_true rfl)
        show Go p e below _ (T.setTop (mkF m 74 #[.val (.int n), .val (.int c0), .val (.int c1), .val (.int c2)] [(.ref o11), (.ref o10), (.ref o10)]))
        refine Go.st (fun _ k => XS.dup X.here hx rfl (hb hby d1_74) rfl rfl k) ?_
        show Go p e below _ (T.setTop (mkF m 75 #[.val (.int n), .val (.int c0), .val (.int c1), .val (.int c2)] [(.ref o11), (.ref o11), (.ref o10), (.ref o10)]))
        refine Go.st (fun _ k => XS.iconst X.here hx rfl (hb hby d1_75) k) ?_
        show Go p e below _ (T.setTop (mkF m 76 #[.val (.int n), .val (.int c0), .val (.int c1), .val (.int c2)] [(.int (2 : Int32)), (.ref o11), (.ref o11), (.ref o10), (.ref o10)]))
        refine Go.st (fun _ k => XS.iloadN X.here hx rfl (hb hby d1_76) rfl k) ?_
        show Go p e below _ (T.setTop (mkF m 77 #[.val (.int n), .val (.int c0), .val (.int c1), .val (.int c2)] [(.int c2), (.int (2 : Int32)), (.ref o11), (.ref o11), (.ref o10), (.ref o10)]))
        obtain ⟨cl0, Ar0, q0, S0, M0, H0, U0⟩ := id V_o11
        obtain ⟨T, h17, X, hT, Wr0, st⟩ := stC X hx hZ hT Ar0 (j := (2 : Int32)) (inb_of S0 ⟨(by decide : ¬ ((2 : Int32) < (0 : Int32))), (by decide : (2 : Int32) < (3 : Int32))⟩) (g := (mkF m 77 #[.val (.int n), .val (.int c0), .val (.int c1), .val (.int c2)] [(.int c2), (.int (2 : Int32)), (.ref o11), (.ref o11), (.ref o10), (.ref o10)])) rfl rfl (hb hby d1_77)
        refine Go.st st ?_
        have N := Fr.snoc X N ge_o11
        have H := H.wr Wr0 (Safe.arr hZ.alike Ar0 (by decide))
        have A_o10 := A_o10.wr Wr0
        have F_o10_coder := F_o10_coder.other Wr0 (Or.inl ne_o10_o11)
        have F_o10_value := F_o10_value.other Wr0 (Or.inl ne_o10_o11)
        have KB := (KB).wr Wr0 (Or.inr gk_o11)
        have V_o11 : Arv Z _ o11 k_o11 .char (3 : Int32) [(.int (nar .char c0)), (.int (nar .char c1)), (.int (nar .char c2))] (.int (0 : Int32)) := Arv.set Ar0 q0 S0 M0 H0 U0 (fits_nar_char _) Wr0 2 rfl (Nat.le_of_ble_eq_true rfl)
        show Go p e below _ (T.setTop (mkF m 78 #[.val (.int n), .val (.int c0), .val (.int c1), .val (.int c2)] [(.ref o11), (.ref o10), (.ref o10)]))
        refine Go.newS (W := 1) (n := 3) (rest := [(.ref o10)]) (cs := [c0, c1, c2]) hw H X hx hZ hown (hml.trans rfl) hT (hw _ (List.mem_of_getElem? (i := 12) rfl)) (hb hby d1_78) (O.keep KB all0) ge_o10 Sc A_o10 F_o10_value F_o10_coder (by have q := V_o11; (try simp only [own_l58, own_narc l0, own_narc l1, own_narc l2] at q); exact q) rfl (Nat.le_of_ble_eq_true rfl) (by decide) (by intro c hc; simp only [List.mem_cons, List.not_mem_nil, or_false] at hc; rcases hc with h | h | h <;> rw [h] <;> first | exact l0 | exact l1 | exact l2) (Nat.le_of_ble_eq_true rfl) (by decide) (by decide) (by decide) (by decide) ?_
        intro T h18 L vm hT N0 K0 S_o10 hZ hown H X
        have N := Fr.app N N0
        have KB := (KB).trans K0 (allS (Or.inr gk_o10) all0)
        have O := O.keep KB all0
        have K0b := K0b.trans KB (fun _ q => nomatch q)
        show Go p e below _ (T.setTop (mkF m 81 #[.val (.int n), .val (.int c0), .val (.int c1), .val (.int c2)] [(.ref o10)]))
        refine Go.retH hEL H hZ X hx hlk hT hret rfl (riA rfl rfl) (hb hby d1_81) (by decide) (by decide) ?_
        refine ⟨_, rfl, N, keepE K0b, ?_⟩
        rw [wordL, if_neg hc1, if_neg hc4, if_neg hc7]
        exact S_o10
theorem d33_0 : decode method_4_code 0 = .ok (.iload_n 1, 1) := by decide +kernel
theorem d33_1 : decode method_4_code 1 = .ok (.ifCond .ne 23, 3) := by decide +kernel
theorem d33_4 : decode method_4_code 4 = .ok (.new 37, 3) := by decide +kernel
theorem d33_7 : decode method_4_code 7 = .ok (.dup, 1) := by decide +kernel
theorem d33_8 : decode method_4_code 8 = .ok (.iconst 2, 1) := by decide +kernel
theorem d33_9 : decode method_4_code 9 = .ok (.newarray .char, 2) := by decide +kernel
theorem d33_11 : decode method_4_code 11 = .ok (.dup, 1) := by decide +kernel
theorem d33_12 : decode method_4_code 12 = .ok (.iconst 0, 1) := by decide +kernel
theorem d33_13 : decode method_4_code 13 = .ok (.iload_n 0, 1) := by decide +kernel
theorem d33_14 : decode method_4_code 14 = .ok (.castore, 1) := by decide +kernel
theorem d33_15 : decode method_4_code 15 = .ok (.dup, 1) := by decide +kernel
theorem d33_16 : decode method_4_code 16 = .ok (.iconst 1, 1) := by decide +kernel
theorem d33_17 : decode method_4_code 17 = .ok (.bipush 58, 2) := by decide +kernel
theorem d33_19 : decode method_4_code 19 = .ok (.castore, 1) := by decide +kernel
theorem d33_20 : decode method_4_code 20 = .ok (.invokespecial 50, 3) := by decide +kernel
theorem d33_23 : decode method_4_code 23 = .ok (.areturn, 1) := by decide +kernel
theorem d33_24 : decode method_4_code 24 = .ok (.iload_n 1, 1) := by decide +kernel
theorem d33_25 : decode method_4_code 25 = .ok (.iconst 1, 1) := by decide +kernel
theorem d33_26 : decode method_4_code 26 = .ok (.if_icmp .ne 27, 3) := by decide +kernel
theorem d33_29 : decode method_4_code 29 = .ok (.new 37, 3) := by decide +kernel
theorem d33_32 : decode method_4_code 32 = .ok (.dup, 1) := by decide +kernel
theorem d33_33 : decode method_4_code 33 = .ok (.iconst 3, 1) := by decide +kernel
theorem d33_34 : decode method_4_code 34 = .ok (.newarray .char, 2) := by decide +kernel
theorem d33_36 : decode method_4_code 36 = .ok (.dup, 1) := by decide +kernel
theorem d33_37 : decode method_4_code 37 = .ok (.iconst 0, 1) := by decide +kernel
theorem d33_38 : decode method_4_code 38 = .ok (.iload_n 0, 1) := by decide +kernel
theorem d33_39 : decode method_4_code 39 = .ok (.castore, 1) := by decide +kernel
theorem d33_40 : decode method_4_code 40 = .ok (.dup, 1) := by decide +kernel
theorem d33_41 : decode method_4_code 41 = .ok (.iconst 1, 1) := by decide +kernel
theorem d33_42 : decode method_4_code 42 = .ok (.bipush 58, 2) := by decide +kernel
theorem d33_44 : decode method_4_code 44 = .ok (.castore, 1) := by decide +kernel
theorem d33_45 : decode method_4_code 45 = .ok (.dup, 1) := by decide +kernel
theorem d33_46 : decode method_4_code 46 = .ok (.iconst 2, 1) := by decide +kernel
theorem d33_47 : decode method_4_code 47 = .ok (.iload_n 2, 1) := by decide +kernel
theorem d33_48 : decode method_4_code 48 = .ok (.castore, 1) := by decide +kernel
theorem d33_49 : decode method_4_code 49 = .ok (.invokespecial 50, 3) := by decide +kernel
theorem d33_52 : decode method_4_code 52 = .ok (.areturn, 1) := by decide +kernel
theorem d33_53 : decode method_4_code 53 = .ok (.iload_n 1, 1) := by decide +kernel
theorem d33_54 : decode method_4_code 54 = .ok (.iconst 2, 1) := by decide +kernel
theorem d33_55 : decode method_4_code 55 = .ok (.if_icmp .ne 31, 3) := by decide +kernel
theorem d33_58 : decode method_4_code 58 = .ok (.new 37, 3) := by decide +kernel
theorem d33_61 : decode method_4_code 61 = .ok (.dup, 1) := by decide +kernel
theorem d33_62 : decode method_4_code 62 = .ok (.iconst 4, 1) := by decide +kernel
theorem d33_63 : decode method_4_code 63 = .ok (.newarray .char, 2) := by decide +kernel
theorem d33_65 : decode method_4_code 65 = .ok (.dup, 1) := by decide +kernel
theorem d33_66 : decode method_4_code 66 = .ok (.iconst 0, 1) := by decide +kernel
theorem d33_67 : decode method_4_code 67 = .ok (.iload_n 0, 1) := by decide +kernel
theorem d33_68 : decode method_4_code 68 = .ok (.castore, 1) := by decide +kernel
theorem d33_69 : decode method_4_code 69 = .ok (.dup, 1) := by decide +kernel
theorem d33_70 : decode method_4_code 70 = .ok (.iconst 1, 1) := by decide +kernel
theorem d33_71 : decode method_4_code 71 = .ok (.bipush 58, 2) := by decide +kernel
theorem d33_73 : decode method_4_code 73 = .ok (.castore, 1) := by decide +kernel
theorem d33_74 : decode method_4_code 74 = .ok (.dup, 1) := by decide +kernel
theorem d33_75 : decode method_4_code 75 = .ok (.iconst 2, 1) := by decide +kernel
theorem d33_76 : decode method_4_code 76 = .ok (.iload_n 2, 1) := by decide +kernel
theorem d33_77 : decode method_4_code 77 = .ok (.castore, 1) := by decide +kernel
theorem d33_78 : decode method_4_code 78 = .ok (.dup, 1) := by decide +kernel
theorem d33_79 : decode method_4_code 79 = .ok (.iconst 3, 1) := by decide +kernel
theorem d33_80 : decode method_4_code 80 = .ok (.iload_n 3, 1) := by decide +kernel
theorem d33_81 : decode method_4_code 81 = .ok (.castore, 1) := by decide +kernel
theorem d33_82 : decode method_4_code 82 = .ok (.invokespecial 50, 3) := by decide +kernel
theorem d33_85 : decode method_4_code 85 = .ok (.areturn, 1) := by decide +kernel
theorem d33_86 : decode method_4_code 86 = .ok (.new 37, 3) := by decide +kernel
theorem d33_89 : decode method_4_code 89 = .ok (.dup, 1) := by decide +kernel
theorem d33_90 : decode method_4_code 90 = .ok (.iconst 5, 1) := by decide +kernel
theorem d33_91 : decode method_4_code 91 = .ok (.newarray .char, 2) := by decide +kernel
theorem d33_93 : decode method_4_code 93 = .ok (.dup, 1) := by decide +kernel
theorem d33_94 : decode method_4_code 94 = .ok (.iconst 0, 1) := by decide +kernel
theorem d33_95 : decode method_4_code 95 = .ok (.iload_n 0, 1) := by decide +kernel
theorem d33_96 : decode method_4_code 96 = .ok (.castore, 1) := by decide +kernel
theorem d33_97 : decode method_4_code 97 = .ok (.dup, 1) := by decide +kernel
theorem d33_98 : decode method_4_code 98 = .ok (.iconst 1, 1) := by decide +kernel
theorem d33_99 : decode method_4_code 99 = .ok (.bipush 58, 2) := by decide +kernel
theorem d33_101 : decode method_4_code 101 = .ok (.castore, 1) := by decide +kernel
theorem d33_102 : decode method_4_code 102 = .ok (.dup, 1) := by decide +kernel
theorem d33_103 : decode method_4_code 103 = .ok (.iconst 2, 1) := by decide +kernel
theorem d33_104 : decode method_4_code 104 = .ok (.iload_n 2, 1) := by decide +kernel
theorem d33_105 : decode method_4_code 105 = .ok (.castore, 1) := by decide +kernel
theorem d33_106 : decode method_4_code 106 = .ok (.dup, 1) := by decide +kernel
theorem d33_107 : decode method_4_code 107 = .ok (.iconst 3, 1) := by decide +kernel
theorem d33_108 : decode method_4_code 108 = .ok (.iload_n 3, 1) := by decide +kernel
theorem d33_109 : decode method_4_code 109 = .ok (.castore, 1) := by decide +kernel
theorem d33_110 : decode method_4_code 110 = .ok (.dup, 1) := by decide +kernel
theorem d33_111 : decode method_4_code 111 = .ok (.iconst 4, 1) := by decide +kernel
theorem d33_112 : decode method_4_code 112 = .ok (.iload 4, 2) := by decide +kernel
theorem d33_114 : decode method_4_code 114 = .ok (.castore, 1) := by decide +kernel
theorem d33_115 : decode method_4_code 115 = .ok (.invokespecial 50, 3) := by decide +kernel
theorem d33_118 : decode method_4_code 118 = .ok (.areturn, 1) := by decide +kernel
theorem pn_29 : plainFor (⟨"com/example/nandi/nandi/model/EntryKeyPinLaw", "keyText", "(CICCC)Ljava/lang/String;"⟩ : MethodName) = true := by first | exact plainFor_of_name (by first | (simp [plainName, overriddenIn]; done) | decide +kernel) | decide +kernel
theorem ef_IIIII_5 (m : MethodId) (y0 : Int32) (y1 : Int32) (y2 : Int32) (y3 : Int32) (y4 : Int32) : entryFrame m #[(.int y0), (.int y1), (.int y2), (.int y3), (.int y4)] 5 = mkF m 0 #[.val (.int y0), .val (.int y1), .val (.int y2), .val (.int y3), .val (.int y4)] [] := by first | (simp [entryFrame, mkF, argsToLocals, Value.category]; done) | rfl
set_option maxRecDepth 65536 in
set_option maxHeartbeats 40000000 in
theorem met_ktxt (l : Launch) (Z : State) (a0 : Array Value) (hw : ∀ d ∈ tables_1, d.before a0 Z = true) (ws : List Jvm.Cond) (lt n c0 c1 c2 z : Int32) (n0 : Nat) (h0 : Heap) (O : Old Z n0 h0) (Sc : Stat Z z) (l0 : L8 c0) (l1 : L8 c1) (l2 : L8 c2) (ll : L8 lt) :
    MetFree l (⟨"com/example/nandi/nandi/model/EntryKeyPinLaw", "keyText", "(CICCC)Ljava/lang/String;"⟩ : MethodName) (head1 (Jvm.Cond.code (⟨"com/example/nandi/nandi/model/EntryKeyPinLaw", "keyText", "(CICCC)Ljava/lang/String;"⟩ : MethodName) method_4_code 5 (some (.object "java/lang/String")) :: ws) ({ frames := 4, cells := 6, slots := 22, locals := 66 } : Room)) (fun aa U => aa = #[(.int lt), (.int n), (.int c0), (.int c1), (.int c2)] ∧ Z.Warmed39 U.vm ∧ U.heap = h0 ∧ CHv Z EL0 U.vm h0) (fun _ _ _ _ _ => True) (fun _ U o U' => ∃ v L, o = .returned v ∧ QStr Z n0 (lt :: 58 :: wordL n c0 c1 c2) h0 v U'.heap L ∧ CHr Z EL0 U.vm U.heap U'.vm U'.heap ∧ ReturnedEndW U o U' L ({ frames := 4, cells := 6, slots := 22, locals := 66 } : Room).cells ({ frames := 4, cells := 6, slots := 22, locals := 66 } : Room).slots) := by
  refine openH (y := (⟨"com/example/nandi/nandi/model/EntryKeyPinLaw", "keyText", "(CICCC)Ljava/lang/String;"⟩ : MethodName)) pn_29 ?_
  intro p e s m below meth c T vm hx hby hml hret hlk hnm hZ hown X hT H
  have hEL := own_EW hw
  refine Go.st (fun _ k => castTop (ef_IIIII_5 m lt n c0 c1 c2) k) ?_
  show Go p e below _ (T.setTop (mkF m 0 #[.val (.int lt), .val (.int n), .val (.int c0), .val (.int c1), .val (.int c2)] []))
  have N := Fr.nil n0
  have K0b : Keep h0 h0 [] := Keep.refl _ _
  refine Go.st (fun _ k => XS.iloadN X.here hx rfl (hb hby d33_0) rfl k) ?_
  show Go p e below _ (T.setTop (mkF m 1 #[.val (.int lt), .val (.int n), .val (.int c0), .val (.int c1), .val (.int c2)] [(.int n)]))
  by_cases hc1 : n = (0 : Int32)
  · refine Go.st (fun _ k => XS.ifNo X.here hx rfl (hb hby d33_1) rfl (Jvm.Free.XT.i0_ne_f hc1) k) ?_
    show Go p e below _ (T.setTop (mkF m 4 #[.val (.int lt), .val (.int n), .val (.int c0), .val (.int c1), .val (.int c2)] []))
    obtain ⟨T, h1, X, hT, Ex0, A_o2, D_o2, -, st⟩ := newO X hx hZ hown (hw _ (List.mem_of_getElem? (i := 8) rfl)) (hw _ (List.mem_of_getElem? (i := 9) rfl)) (hw _ (List.mem_of_getElem? (i := 10) rfl)) hT (g := (mkF m 4 #[.val (.int lt), .val (.int n), .val (.int c0), .val (.int c1), .val (.int c2)] [])) rfl (hb hby d33_4) (by decide) (by decide)
    obtain ⟨o2, g_o2⟩ : ∃ z, z = h0.size := ⟨_, rfl⟩
    rw [← g_o2] at A_o2 D_o2 st
    refine Go.st st ?_
    have ge_o2 : n0 ≤ o2 := Nat.le_trans (own_le (O)) (Nat.le_of_eq g_o2.symm)
    have gk_o2 : h0.size ≤ o2 := Nat.le_trans (Keep.refl h0 []).1 (Nat.le_of_eq g_o2.symm)
    have Sf_o2 := Safe.ext Ex0 H.2.1 (Safe.new (Nat.le_of_eq g_o2.symm))
    have H := H.ext Ex0
    have KB := (Keep.refl h0 []).ext Ex0
    have F_o2_coder := D_o2 (Or.inr (hw _ (List.mem_of_getElem? (i := 35) rfl))) (ty := .byte) (by decide)
    have F_o2_value := D_o2 (Or.inr (hw _ (List.mem_of_getElem? (i := 37) rfl))) (ty := (.array .byte)) (by decide)
    show Go p e below _ (T.setTop (mkF m 7 #[.val (.int lt), .val (.int n), .val (.int c0), .val (.int c1), .val (.int c2)] [(.ref o2)]))
    refine Go.st (fun _ k => XS.dup X.here hx rfl (hb hby d33_7) rfl rfl k) ?_
    show Go p e below _ (T.setTop (mkF m 8 #[.val (.int lt), .val (.int n), .val (.int c0), .val (.int c1), .val (.int c2)] [(.ref o2), (.ref o2)]))
    refine Go.st (fun _ k => XS.iconst X.here hx rfl (hb hby d33_8) k) ?_
    show Go p e below _ (T.setTop (mkF m 9 #[.val (.int lt), .val (.int n), .val (.int c0), .val (.int c1), .val (.int c2)] [(.int (2 : Int32)), (.ref o2), (.ref o2)]))
    obtain ⟨T, h2, k_o3, X, hT, Ex0, A_o3, st⟩ := newP X hx hZ (hw _ (List.mem_of_getElem? (i := 11) rfl)) hT (g := (mkF m 9 #[.val (.int lt), .val (.int n), .val (.int c0), .val (.int c1), .val (.int c2)] [(.int (2 : Int32)), (.ref o2), (.ref o2)])) rfl (hb hby d33_9) rfl (by decide : ¬ ((2 : Int32) < (0 : Int32))) (cap := 2) (by decide) (by decide) (by decide) (by decide)
    obtain ⟨o3, g_o3⟩ : ∃ z, z = h1.size := ⟨_, rfl⟩
    rw [← g_o3] at A_o3 st
    refine Go.st st ?_
    have ge_o3 : n0 ≤ o3 := Nat.le_trans (own_le (O.keep KB all0)) (Nat.le_of_eq g_o3.symm)
    have gk_o3 : h0.size ≤ o3 := Nat.le_trans (KB).1 (Nat.le_of_eq g_o3.symm)
    have H := H.ext Ex0
    have A_o2 := A_o2.ext Ex0
    have F_o2_coder := F_o2_coder.ext Ex0
    have F_o2_value := F_o2_value.ext Ex0
    have KB := (KB).ext Ex0
    have V_o3 : Arv Z _ o3 k_o3 .char (2 : Int32) [(.int (0 : Int32)), (.int (0 : Int32))] (.int (0 : Int32)) := (Arv.new A_o3 (by decide)).pad (pad_rep [] (.int (0 : Int32)) 2)
    have ne_o2_o3 : o2 ≠ o3 := Exa.neArv A_o2 V_o3 (hw _ (List.mem_of_getElem? (i := 9) rfl))
    show Go p e below _ (T.setTop (mkF m 11 #[.val (.int lt), .val (.int n), .val (.int c0), .val (.int c1), .val (.int c2)] [(.ref o3), (.ref o2), (.ref o2)]))
    refine Go.st (fun _ k => XS.dup X.here hx rfl (hb hby d33_11) rfl rfl k) ?_
    show Go p e below _ (T.setTop (mkF m 12 #[.val (.int lt), .val (.int n), .val (.int c0), .val (.int c1), .val (.int c2)] [(.ref o3), (.ref o3), (.ref o2), (.ref o2)]))
    refine Go.st (fun _ k => XS.iconst X.here hx rfl (hb hby d33_12) k) ?_
    show Go p e below _ (T.setTop (mkF m 13 #[.val (.int lt), .val (.int n), .val (.int c0), .val (.int c1), .val (.int c2)] [(.int (0 : Int32)), (.ref o3), (.ref o3), (.ref o2), (.ref o2)]))
    refine Go.st (fun _ k => XS.iloadN X.here hx rfl (hb hby d33_13) rfl k) ?_
    show Go p e below _ (T.setTop (mkF m 14 #[.val (.int lt), .val (.int n), .val (.int c0), .val (.int c1), .val (.int c2)] [(.int lt), (.int (0 : Int32)), (.ref o3), (.ref o3), (.ref o2), (.ref o2)]))
    obtain ⟨cl0, Ar0, q0, S0, M0, H0, U0⟩ := id V_o3
    obtain ⟨T, h3, X, hT, Wr0, st⟩ := stC X hx hZ hT Ar0 (j := (0 : Int32)) (inb_of S0 ⟨(by decide : ¬ ((0 : Int32) < (0 : Int32))), (by decide : (0 : Int32) < (2 : Int32))⟩) (g := (mkF m 14 #[.val (.int lt), .val (.int n), .val (.int c0), .val (.int c1), .val (.int c2)] [(.int lt), (.int (0 : Int32)), (.ref o3), (.ref o3), (.ref o2), (.ref o2)])) rfl rfl (hb hby d33_14)
    refine Go.st st ?_
    have N := Fr.snoc X N ge_o3
    have H := H.wr Wr0 (Safe.arr hZ.alike Ar0 (by decide))
    have A_o2 := A_o2.wr Wr0
    have F_o2_coder := F_o2_coder.other Wr0 (Or.inl ne_o2_o3)
    have F_o2_value := F_o2_value.other Wr0 (Or.inl ne_o2_o3)
    have KB := (KB).wr Wr0 (Or.inr gk_o3)
    have V_o3 : Arv Z _ o3 k_o3 .char (2 : Int32) [(.int (nar .char lt)), (.int (0 : Int32))] (.int (0 : Int32)) := Arv.set Ar0 q0 S0 M0 H0 U0 (fits_nar_char _) Wr0 0 rfl (Nat.le_of_ble_eq_true rfl)
    show Go p e below _ (T.setTop (mkF m 15 #[.val (.int lt), .val (.int n), .val (.int c0), .val (.int c1), .val (.int c2)] [(.ref o3), (.ref o2), (.ref o2)]))
    refine Go.st (fun _ k => XS.dup X.here hx rfl (hb hby d33_15) rfl rfl k) ?_
    show Go p e below _ (T.setTop (mkF m 16 #[.val (.int lt), .val (.int n), .val (.int c0), .val (.int c1), .val (.int c2)] [(.ref o3), (.ref o3), (.ref o2), (.ref o2)]))
    refine Go.st (fun _ k => XS.iconst X.here hx rfl (hb hby d33_16) k) ?_
    show Go p e below _ (T.setTop (mkF m 17 #[.val (.int lt), .val (.int n), .val (.int c0), .val (.int c1), .val (.int c2)] [(.int (1 : Int32)), (.ref o3), (.ref o3), (.ref o2), (.ref o2)]))
    refine Go.st (fun _ k => XS.bipush X.here hx rfl (hb hby d33_17) k) ?_
    show Go p e below _ (T.setTop (mkF m 19 #[.val (.int lt), .val (.int n), .val (.int c0), .val (.int c1), .val (.int c2)] [(.int (58 : Int32)), (.int (1 : Int32)), (.ref o3), (.ref o3), (.ref o2), (.ref o2)]))
    obtain ⟨cl0, Ar0, q0, S0, M0, H0, U0⟩ := id V_o3
    obtain ⟨T, h4, X, hT, Wr0, st⟩ := stC X hx hZ hT Ar0 (j := (1 : Int32)) (inb_of S0 ⟨(by decide : ¬ ((1 : Int32) < (0 : Int32))), (by decide : (1 : Int32) < (2 : Int32))⟩) (g := (mkF m 19 #[.val (.int lt), .val (.int n), .val (.int c0), .val (.int c1), .val (.int c2)] [(.int (58 : Int32)), (.int (1 : Int32)), (.ref o3), (.ref o3), (.ref o2), (.ref o2)])) rfl rfl (hb hby d33_19)
    refine Go.st st ?_
    have N := Fr.snoc X N ge_o3
    have H := H.wr Wr0 (Safe.arr hZ.alike Ar0 (by decide))
    have A_o2 := A_o2.wr Wr0
    have F_o2_coder := F_o2_coder.other Wr0 (Or.inl ne_o2_o3)
    have F_o2_value := F_o2_value.other Wr0 (Or.inl ne_o2_o3)
    have KB := (KB).wr Wr0 (Or.inr gk_o3)
    have V_o3 : Arv Z _ o3 k_o3 .char (2 : Int32) [(.int (nar .char lt)), (.int (nar .char (58 : Int32)))] (.int (0 : Int32)) := Arv.set Ar0 q0 S0 M0 H0 U0 (fits_nar_char _) Wr0 1 rfl (Nat.le_of_ble_eq_true rfl)
    show Go p e below _ (T.setTop (mkF m 20 #[.val (.int lt), .val (.int n), .val (.int c0), .val (.int c1), .val (.int c2)] [(.ref o3), (.ref o2), (.ref o2)]))
    refine Go.newS (W := 1) (n := 2) (rest := [(.ref o2)]) (cs := [lt, (58 : Int32)]) hw H X hx hZ hown (hml.trans rfl) hT (hw _ (List.mem_of_getElem? (i := 12) rfl)) (hb hby d33_20) (O.keep KB all0) ge_o2 Sc A_o2 F_o2_value F_o2_coder (by have q := V_o3; (try simp only [own_l58, own_narc l0, own_narc l1, own_narc l2, own_narc ll] at q); exact q) rfl (Nat.le_of_ble_eq_true rfl) (by decide) (by intro c hc; simp only [List.mem_cons, List.not_mem_nil, or_false] at hc; rcases hc with h | h <;> rw [h] <;> first | exact l0 | exact l1 | exact l2 | exact ll | decide) (Nat.le_of_ble_eq_true rfl) (by decide) (by decide) (by decide) (by decide) ?_
    intro T h5 L vm hT N0 K0 S_o2 hZ hown H X
    have N := Fr.app N N0
    have KB := (KB).trans K0 (allS (Or.inr gk_o2) all0)
    have O := O.keep KB all0
    have K0b := K0b.trans KB (fun _ q => nomatch q)
    show Go p e below _ (T.setTop (mkF m 23 #[.val (.int lt), .val (.int n), .val (.int c0), .val (.int c1), .val (.int c2)] [(.ref o2)]))
    refine Go.retH hEL H hZ X hx hlk hT hret rfl (riA rfl rfl) (hb hby d33_23) (by decide) (by decide) ?_
    refine ⟨_, rfl, N, keepE K0b, ?_⟩
    rw [wordL, if_pos hc1]
    exact S_o2
  · refine Go.st (fun _ k => XS.ifYes X.here hx rfl (pc0 := 1) (pc' := 24) rfl (hb hby d33_1) rfl (Jvm.Free.XT.i0_ne_t hc1) (by decide) (by decide) k) ?_
    show Go p e below _ (T.setTop (mkF m 24 #[.val (.int lt), .val (.int n), .val (.int c0), .val (.int c1), .val (.int c2)] []))
    refine Go.st (fun _ k => XS.iloadN X.here hx rfl (hb hby d33_24) rfl k) ?_
    show Go p e below _ (T.setTop (mkF m 25 #[.val (.int lt), .val (.int n), .val (.int c0), .val (.int c1), .val (.int c2)] [(.int n)]))
    refine Go.st (fun _ k => XS.iconst X.here hx rfl (hb hby d33_25) k) ?_
    show Go p e below _ (T.setTop (mkF m 26 #[.val (.int lt), .val (.int n), .val (.int c0), .val (.int c1), .val (.int c2)] [(.int (1 : Int32)), (.int n)]))
    by_cases hc4 : n = (1 : Int32)
    · refine Go.st (fun _ k => XS.icmpNo X.here hx rfl (hb hby d33_26) rfl (Jvm.Free.XT.ii_ne_f hc4) k) ?_
      show Go p e below _ (T.setTop (mkF m 29 #[.val (.int lt), .val (.int n), .val (.int c0), .val (.int c1), .val (.int c2)] []))
      obtain ⟨T, h6, X, hT, Ex0, A_o5, D_o5, -, st⟩ := newO X hx hZ hown (hw _ (List.mem_of_getElem? (i := 8) rfl)) (hw _ (List.mem_of_getElem? (i := 9) rfl)) (hw _ (List.mem_of_getElem? (i := 10) rfl)) hT (g := (mkF m 29 #[.val (.int lt), .val (.int n), .val (.int c0), .val (.int c1), .val (.int c2)] [])) rfl (hb hby d33_29) (by decide) (by decide)
      obtain ⟨o5, g_o5⟩ : ∃ z, z = h0.size := ⟨_, rfl⟩
      rw [← g_o5] at A_o5 D_o5 st
      refine Go.st st ?_
      have ge_o5 : n0 ≤ o5 := Nat.le_trans (own_le (O)) (Nat.le_of_eq g_o5.symm)
      have gk_o5 : h0.size ≤ o5 := Nat.le_trans (Keep.refl h0 []).1 (Nat.le_of_eq g_o5.symm)
      have Sf_o5 := Safe.ext Ex0 H.2.1 (Safe.new (Nat.le_of_eq g_o5.symm))
      have H := H.ext Ex0
      have KB := (Keep.refl h0 []).ext Ex0
      have F_o5_coder := D_o5 (Or.inr (hw _ (List.mem_of_getElem? (i := 35) rfl))) (ty := .byte) (by decide)
      have F_o5_value := D_o5 (Or.inr (hw _ (List.mem_of_getElem? (i := 37) rfl))) (ty := (.array .byte)) (by decide)
      show Go p e below _ (T.setTop (mkF m 32 #[.val (.int lt), .val (.int n), .val (.int c0), .val (.int c1), .val (.int c2)] [(.ref o5)]))
      refine Go.st (fun _ k => XS.dup X.here hx rfl (hb hby d33_32) rfl rfl k) ?_
      show Go p e below _ (T.setTop (mkF m 33 #[.val (.int lt), .val (.int n), .val (.int c0), .val (.int c1), .val (.int c2)] [(.ref o5), (.ref o5)]))
      refine Go.st (fun _ k => XS.iconst X.here hx rfl (hb hby d33_33) k) ?_
      show Go p e below _ (T.setTop (mkF m 34 #[.val (.int lt), .val (.int n), .val (.int c0), .val (.int c1), .val (.int c2)] [(.int (3 : Int32)), (.ref o5), (.ref o5)]))
      obtain ⟨T, h7, k_o6, X, hT, Ex0, A_o6, st⟩ := newP X hx hZ (hw _ (List.mem_of_getElem? (i := 11) rfl)) hT (g := (mkF m 34 #[.val (.int lt), .val (.int n), .val (.int c0), .val (.int c1), .val (.int c2)] [(.int (3 : Int32)), (.ref o5), (.ref o5)])) rfl (hb hby d33_34) rfl (by decide : ¬ ((3 : Int32) < (0 : Int32))) (cap := 3) (by decide) (by decide) (by decide) (by decide)
      obtain ⟨o6, g_o6⟩ : ∃ z, z = h6.size := ⟨_, rfl⟩
      rw [← g_o6] at A_o6 st
      refine Go.st st ?_
      have ge_o6 : n0 ≤ o6 := Nat.le_trans (own_le (O.keep KB all0)) (Nat.le_of_eq g_o6.symm)
      have gk_o6 : h0.size ≤ o6 := Nat.le_trans (KB).1 (Nat.le_of_eq g_o6.symm)
      have H := H.ext Ex0
      have A_o5 := A_o5.ext Ex0
      have F_o5_coder := F_o5_coder.ext Ex0
      have F_o5_value := F_o5_value.ext Ex0
      have KB := (KB).ext Ex0
      have V_o6 : Arv Z _ o6 k_o6 .char (3 : Int32) [(.int (0 : Int32)), (.int (0 : Int32)), (.int (0 : Int32))] (.int (0 : Int32)) := (Arv.new A_o6 (by decide)).pad (pad_rep [] (.int (0 : Int32)) 3)
      have ne_o5_o6 : o5 ≠ o6 := Exa.neArv A_o5 V_o6 (hw _ (List.mem_of_getElem? (i := 9) rfl))
      show Go p e below _ (T.setTop (mkF m 36 #[.val (.int lt), .val (.int n), .val (.int c0), .val (.int c1), .val (.int c2)] [(.ref o6), (.ref o5), (.ref o5)]))
      refine Go.st (fun _ k => XS.dup X.here hx rfl (hb hby d33_36) rfl rfl k) ?_
      show Go p e below _ (T.setTop (mkF m 37 #[.val (.int lt), .val (.int n), .val (.int c0), .val (.int c1), .val (.int c2)] [(.ref o6), (.ref o6), (.ref o5), (.ref o5)]))
      refine Go.st (fun _ k => XS.iconst X.here hx rfl (hb hby d33_37) k) ?_
      show Go p e below _ (T.setTop (mkF m 38 #[.val (.int lt), .val (.int n), .val (.int c0), .val (.int c1), .val (.int c2)] [(.int (0 : Int32)), (.ref o6), (.ref o6), (.ref o5), (.ref o5)]))
      refine Go.st (fun _ k => XS.iloadN X.here hx rfl (hb hby d33_38) rfl k) ?_
      show Go p e below _ (T.setTop (mkF m 39 #[.val (.int lt), .val (.int n), .val (.int c0), .val (.int c1), .val (.int c2)] [(.int lt), (.int (0 : Int32)), (.ref o6), (.ref o6), (.ref o5), (.ref o5)]))
      obtain ⟨cl0, Ar0, q0, S0, M0, H0, U0⟩ := id V_o6
      obtain ⟨T, h8, X, hT, Wr0, st⟩ := stC X hx hZ hT Ar0 (j := (0 : Int32)) (inb_of S0 ⟨(by decide : ¬ ((0 : Int32) < (0 : Int32))), (by decide : (0 : Int32) < (3 : Int32))⟩) (g := (mkF m 39 #[.val (.int lt), .val (.int n), .val (.int c0), .val (.int c1), .val (.int c2)] [(.int lt), (.int (0 : Int32)), (.ref o6), (.ref o6), (.ref o5), (.ref o5)])) rfl rfl (hb hby d33_39)
      refine Go.st st ?_
      have N := Fr.snoc X N ge_o6
      have H := H.wr Wr0 (Safe.arr hZ.alike Ar0 (by decide))
      have A_o5 := A_o5.wr Wr0
      have F_o5_coder := F_o5_coder.other Wr0 (Or.inl ne_o5_o6)
      have F_o5_value := F_o5_value.other Wr0 (Or.inl ne_o5_o6)
      have KB := (KB).wr Wr0 (Or.inr gk_o6)
      have V_o6 : Arv Z _ o6 k_o6 .char (3 : Int32) [(.int (nar .char lt)), (.int (0 : Int32)), (.int (0 : Int32))] (.int (0 : Int32)) := Arv.set Ar0 q0 S0 M0 H0 U0 (fits_nar_char _) Wr0 0 rfl (Nat.le_of_ble_eq_true rfl)
      show Go p e below _ (T.setTop (mkF m 40 #[.val (.int lt), .val (.int n), .val (.int c0), .val (.int c1), .val (.int c2)] [(.ref o6), (.ref o5), (.ref o5)]))
      refine Go.st (fun _ k => XS.dup X.here hx rfl (hb hby d33_40) rfl rfl k) ?_
      show Go p e below _ (T.setTop (mkF m 41 #[.val (.int lt), .val (.int n), .val (.int c0), .val (.int c1), .val (.int c2)] [(.ref o6), (.ref o6), (.ref o5), (.ref o5)]))
      refine Go.st (fun _ k => XS.iconst X.here hx rfl (hb hby d33_41) k) ?_
      show Go p e below _ (T.setTop (mkF m 42 #[.val (.int lt), .val (.int n), .val (.int c0), .val (.int c1), .val (.int c2)] [(.int (1 : Int32)), (.ref o6), (.ref o6), (.ref o5), (.ref o5)]))
      refine Go.st (fun _ k => XS.bipush X.here hx rfl (hb hby d33_42) k) ?_
      show Go p e below _ (T.setTop (mkF m 44 #[.val (.int lt), .val (.int n), .val (.int c0), .val (.int c1), .val (.int c2)] [(.int (58 : Int32)), (.int (1 : Int32)), (.ref o6), (.ref o6), (.ref o5), (.ref o5)]))
      obtain ⟨cl0, Ar0, q0, S0, M0, H0, U0⟩ := id V_o6
      obtain ⟨T, h9, X, hT, Wr0, st⟩ := stC X hx hZ hT Ar0 (j := (1 : Int32)) (inb_of S0 ⟨(by decide : ¬ ((1 : Int32) < (0 : Int32))), (by decide : (1 : Int32) < (3 : Int32))⟩) (g := (mkF m 44 #[.val (.int lt), .val (.int n), .val (.int c0), .val (.int c1), .val (.int c2)] [(.int (58 : Int32)), (.int (1 : Int32)), (.ref o6), (.ref o6), (.ref o5), (.ref o5)])) rfl rfl (hb hby d33_44)
      refine Go.st st ?_
      have N := Fr.snoc X N ge_o6
      have H := H.wr Wr0 (Safe.arr hZ.alike Ar0 (by decide))
      have A_o5 := A_o5.wr Wr0
      have F_o5_coder := F_o5_coder.other Wr0 (Or.inl ne_o5_o6)
      have F_o5_value := F_o5_value.other Wr0 (Or.inl ne_o5_o6)
      have KB := (KB).wr Wr0 (Or.inr gk_o6)
      have V_o6 : Arv Z _ o6 k_o6 .char (3 : Int32) [(.int (nar .char lt)), (.int (nar .char (58 : Int32))), (.int (0 : Int32))] (.int (0 : Int32)) := Arv.set Ar0 q0 S0 M0 H0 U0 (fits_nar_char _) Wr0 1 rfl (Nat.le_of_ble_eq_true rfl)
      show Go p e below _ (T.setTop (mkF m 45 #[.val (.int lt), .val (.int n), .val (.int c0), .val (.int c1), .val (.int c2)] [(.ref o6), (.ref o5), (.ref o5)]))
      refine Go.st (fun _ k => XS.dup X.here hx rfl (hb hby d33_45) rfl rfl k) ?_
      show Go p e below _ (T.setTop (mkF m 46 #[.val (.int lt), .val (.int n), .val (.int c0), .val (.int c1), .val (.int c2)] [(.ref o6), (.ref o6), (.ref o5), (.ref o5)]))
      refine Go.st (fun _ k => XS.iconst X.here hx rfl (hb hby d33_46) k) ?_
      show Go p e below _ (T.setTop (mkF m 47 #[.val (.int lt), .val (.int n), .val (.int c0), .val (.int c1), .val (.int c2)] [(.int (2 : Int32)), (.ref o6), (.ref o6), (.ref o5), (.ref o5)]))
      refine Go.st (fun _ k => XS.iloadN X.here hx rfl (hb hby d33_47) rfl k) ?_
      show Go p e below _ (T.setTop (mkF m 48 #[.val (.int lt), .val (.int n), .val (.int c0), .val (.int c1), .val (.int c2)] [(.int c0), (.int (2 : Int32)), (.ref o6), (.ref o6), (.ref o5), (.ref o5)]))
      obtain ⟨cl0, Ar0, q0, S0, M0, H0, U0⟩ := id V_o6
      obtain ⟨T, h10, X, hT, Wr0, st⟩ := stC X hx hZ hT Ar0 (j := (2 : Int32)) (inb_of S0 ⟨(by decide : ¬ ((2 : Int32) < (0 : Int32))), (by decide : (2 : Int32) < (3 : Int32))⟩) (g := (mkF m 48 #[.val (.int lt), .val (.int n), .val (.int c0), .val (.int c1), .val (.int c2)] [(.int c0), (.int (2 : Int32)), (.ref o6), (.ref o6), (.ref o5), (.ref o5)])) rfl rfl (hb hby d33_48)
      refine Go.st st ?_
      have N := Fr.snoc X N ge_o6
      have H := H.wr Wr0 (Safe.arr hZ.alike Ar0 (by decide))
      have A_o5 := A_o5.wr Wr0
      have F_o5_coder := F_o5_coder.other Wr0 (Or.inl ne_o5_o6)
      have F_o5_value := F_o5_value.other Wr0 (Or.inl ne_o5_o6)
      have KB := (KB).wr Wr0 (Or.inr gk_o6)
      have V_o6 : Arv Z _ o6 k_o6 .char (3 : Int32) [(.int (nar .char lt)), (.int (nar .char (58 : Int32))), (.int (nar .char c0))] (.int (0 : Int32)) := Arv.set Ar0 q0 S0 M0 H0 U0 (fits_nar_char _) Wr0 2 rfl (Nat.le_of_ble_eq_true rfl)
      show Go p e below _ (T.setTop (mkF m 49 #[.val (.int lt), .val (.int n), .val (.int c0), .val (.int c1), .val (.int c2)] [(.ref o6), (.ref o5), (.ref o5)]))
      refine Go.newS (W := 1) (n := 3) (rest := [(.ref o5)]) (cs := [lt, (58 : Int32), c0]) hw H X hx hZ hown (hml.trans rfl) hT (hw _ (List.mem_of_getElem? (i := 12) rfl)) (hb hby d33_49) (O.keep KB all0) ge_o5 Sc A_o5 F_o5_value F_o5_coder (by have q := V_o6; (try simp only [own_l58, own_narc l0, own_narc l1, own_narc l2, own_narc ll] at q); exact q) rfl (Nat.le_of_ble_eq_true rfl) (by decide) (by intro c hc; simp only [List.mem_cons, List.not_mem_nil, or_false] at hc; rcases hc with h | h | h <;> rw [h] <;> first | exact l0 | exact l1 | exact l2 | exact ll | decide) (Nat.le_of_ble_eq_true rfl) (by decide) (by decide) (by decide) (by decide) ?_
      intro T h11 L vm hT N0 K0 S_o5 hZ hown H X
      have N := Fr.app N N0
      have KB := (KB).trans K0 (allS (Or.inr gk_o5) all0)
      have O := O.keep KB all0
      have K0b := K0b.trans KB (fun _ q => nomatch q)
      show Go p e below _ (T.setTop (mkF m 52 #[.val (.int lt), .val (.int n), .val (.int c0), .val (.int c1), .val (.int c2)] [(.ref o5)]))
      refine Go.retH hEL H hZ X hx hlk hT hret rfl (riA rfl rfl) (hb hby d33_52) (by decide) (by decide) ?_
      refine ⟨_, rfl, N, keepE K0b, ?_⟩
      rw [wordL, if_neg hc1, if_pos hc4]
      exact S_o5
    · refine Go.st (fun _ k => XS.icmpYes X.here hx rfl (pc0 := 26) (pc' := 53) rfl (hb hby d33_26) rfl (Jvm.Free.XT.ii_ne_t hc4) (by decide) (by decide) k) ?_
      show Go p e below _ (T.setTop (mkF m 53 #[.val (.int lt), .val (.int n), .val (.int c0), .val (.int c1), .val (.int c2)] []))
      refine Go.st (fun _ k => XS.iloadN X.here hx rfl (hb hby d33_53) rfl k) ?_
      show Go p e below _ (T.setTop (mkF m 54 #[.val (.int lt), .val (.int n), .val (.int c0), .val (.int c1), .val (.int c2)] [(.int n)]))
      refine Go.st (fun _ k => XS.iconst X.here hx rfl (hb hby d33_54) k) ?_
      show Go p e below _ (T.setTop (mkF m 55 #[.val (.int lt), .val (.int n), .val (.int c0), .val (.int c1), .val (.int c2)] [(.int (2 : Int32)), (.int n)]))
      by_cases hc7 : n = (2 : Int32)
      · refine Go.st (fun _ k => XS.icmpNo X.here hx rfl (hb hby d33_55) rfl (Jvm.Free.XT.ii_ne_f hc7) k) ?_
        show Go p e below _ (T.setTop (mkF m 58 #[.val (.int lt), .val (.int n), .val (.int c0), .val (.int c1), .val (.int c2)] []))
        obtain ⟨T, h12, X, hT, Ex0, A_o8, D_o8, -, st⟩ := newO X hx hZ hown (hw _ (List.mem_of_getElem? (i := 8) rfl)) (hw _ (List.mem_of_getElem? (i := 9) rfl)) (hw _ (List.mem_of_getElem? (i := 10) rfl)) hT (g := (mkF m 58 #[.val (.int lt), .val (.int n), .val (.int c0), .val (.int c1), .val (.int c2)] [])) rfl (hb hby d33_58) (by decide) (by decide)
        obtain ⟨o8, g_o8⟩ : ∃ z, z = h0.size := ⟨_, rfl⟩
        rw [← g_o8] at A_o8 D_o8 st
        refine Go.st st ?_
        have ge_o8 : n0 ≤ o8 := Nat.le_trans (own_le (O)) (Nat.le_of_eq g_o8.symm)
        have gk_o8 : h0.size ≤ o8 := Nat.le_trans (Keep.refl h0 []).1 (Nat.le_of_eq g_o8.symm)
        have Sf_o8 := Safe.ext Ex0 H.2.1 (Safe.new (Nat.le_of_eq g_o8.symm))
        have H := H.ext Ex0
        have KB := (Keep.refl h0 []).ext Ex0
        have F_o8_coder := D_o8 (Or.inr (hw _ (List.mem_of_getElem? (i := 35) rfl))) (ty := .byte) (by decide)
        have F_o8_value := D_o8 (Or.inr (hw _ (List.mem_of_getElem? (i := 37) rfl))) (ty := (.array .byte)) (by decide)
        show Go p e below _ (T.setTop (mkF m 61 #[.val (.int lt), .val (.int n), .val (.int c0), .val (.int c1), .val (.int c2)] [(.ref o8)]))
        refine Go.st (fun _ k => XS.dup X.here hx rfl (hb hby d33_61) rfl rfl k) ?_
        show Go p e below _ (T.setTop (mkF m 62 #[.val (.int lt), .val (.int n), .val (.int c0), .val (.int c1), .val (.int c2)] [(.ref o8), (.ref o8)]))
        refine Go.st (fun _ k => XS.iconst X.here hx rfl (hb hby d33_62) k) ?_
        show Go p e below _ (T.setTop (mkF m 63 #[.val (.int lt), .val (.int n), .val (.int c0), .val (.int c1), .val (.int c2)] [(.int (4 : Int32)), (.ref o8), (.ref o8)]))
        obtain ⟨T, h13, k_o9, X, hT, Ex0, A_o9, st⟩ := newP X hx hZ (hw _ (List.mem_of_getElem? (i := 11) rfl)) hT (g := (mkF m 63 #[.val (.int lt), .val (.int n), .val (.int c0), .val (.int c1), .val (.int c2)] [(.int (4 : Int32)), (.ref o8), (.ref o8)])) rfl (hb hby d33_63) rfl (by decide : ¬ ((4 : Int32) < (0 : Int32))) (cap := 4) (by decide) (by decide) (by decide) (by decide)
        obtain ⟨o9, g_o9⟩ : ∃ z, z = h12.size := ⟨_, rfl⟩
        rw [← g_o9] at A_o9 st
        refine Go.st st ?_
        have ge_o9 : n0 ≤ o9 := Nat.le_trans (own_le (O.keep KB all0)) (Nat.le_of_eq g_o9.symm)
        have gk_o9 : h0.size ≤ o9 := Nat.le_trans (KB).1 (Nat.le_of_eq g_o9.symm)
        have H := H.ext Ex0
        have A_o8 := A_o8.ext Ex0
        have F_o8_coder := F_o8_coder.ext Ex0
        have F_o8_value := F_o8_value.ext Ex0
        have KB := (KB).ext Ex0
        have V_o9 : Arv Z _ o9 k_o9 .char (4 : Int32) [(.int (0 : Int32)), (.int (0 : Int32)), (.int (0 : Int32)), (.int (0 : Int32))] (.int (0 : Int32)) := (Arv.new A_o9 (by decide)).pad (pad_rep [] (.int (0 : Int32)) 4)
        have ne_o8_o9 : o8 ≠ o9 := Exa.neArv A_o8 V_o9 (hw _ (List.mem_of_getElem? (i := 9) rfl))
        show Go p e below _ (T.setTop (mkF m 65 #[.val (.int lt), .val (.int n), .val (.int c0), .val (.int c1), .val (.int c2)] [(.ref o9), (.ref o8), (.ref o8)]))
        refine Go.st (fun _ k => XS.dup X.here hx rfl (hb hby d33_65) rfl rfl k) ?_
        show Go p e below _ (T.setTop (mkF m 66 #[.val (.int lt), .val (.int n), .val (.int c0), .val (.int c1), .val (.int c2)] [(.ref o9), (.ref o9), (.ref o8), (.ref o8)]))
        refine Go.st (fun _ k => XS.iconst X.here hx rfl (hb hby d33_66) k) ?_
        show Go p e below _ (T.setTop (mkF m 67 #[.val (.int lt), .val (.int n), .val (.int c0), .val (.int c1), .val (.int c2)] [(.int (0 : Int32)), (.ref o9), (.ref o9), (.ref o8), (.ref o8)]))
        refine Go.st (fun _ k => XS.iloadN X.here hx rfl (hb hby d33_67) rfl k) ?_
        show Go p e below _ (T.setTop (mkF m 68 #[.val (.int lt), .val (.int n), .val (.int c0), .val (.int c1), .val (.int c2)] [(.int lt), (.int (0 : Int32)), (.ref o9), (.ref o9), (.ref o8), (.ref o8)]))
        obtain ⟨cl0, Ar0, q0, S0, M0, H0, U0⟩ := id V_o9
        obtain ⟨T, h14, X, hT, Wr0, st⟩ := stC X hx hZ hT Ar0 (j := (0 : Int32)) (inb_of S0 ⟨(by decide : ¬ ((0 : Int32) < (0 : Int32))), (by decide : (0 : Int32) < (4 : Int32))⟩) (g := (mkF m 68 #[.val (.int lt), .val (.int n), .val (.int c0), .val (.int c1), .val (.int c2)] [(.int lt), (.int (0 : Int32)), (.ref o9), (.ref o9), (.ref o8), (.ref o8)])) rfl rfl (hb hby d33_68)
        refine Go.st st ?_
        have N := Fr.snoc X N ge_o9
        have H := H.wr Wr0 (Safe.arr hZ.alike Ar0 (by decide))
        have A_o8 := A_o8.wr Wr0
        have F_o8_coder := F_o8_coder.other Wr0 (Or.inl ne_o8_o9)
        have F_o8_value := F_o8_value.other Wr0 (Or.inl ne_o8_o9)
        have KB := (KB).wr Wr0 (Or.inr gk_o9)
        have V_o9 : Arv Z _ o9 k_o9 .char (4 : Int32) [(.int (nar .char lt)), (.int (0 : Int32)), (.int (0 : Int32)), (.int (0 : Int32))] (.int (0 : Int32)) := Arv.set Ar0 q0 S0 M0 H0 U0 (fits_nar_char _) Wr0 0 rfl (Nat.le_of_ble_eq_true rfl)
        show Go p e below _ (T.setTop (mkF m 69 #[.val (.int lt), .val (.int n), .val (.int c0), .val (.int c1), .val (.int c2)] [(.ref o9), (.ref o8), (.ref o8)]))
        refine Go.st (fun _ k => XS.dup X.here hx rfl (hb hby d33_69) rfl rfl k) ?_
        show Go p e below _ (T.setTop (mkF m 70 #[.val (.int lt), .val (.int n), .val (.int c0), .val (.int c1), .val (.int c2)] [(.ref o9), (.ref o9), (.ref o8), (.ref o8)]))
        refine Go.st (fun _ k => XS.iconst X.here hx rfl (hb hby d33_70) k) ?_
        show Go p e below _ (T.setTop (mkF m 71 #[.val (.int lt), .val (.int n), .val (.int c0), .val (.int c1), .val (.int c2)] [(.int (1 : Int32)), (.ref o9), (.ref o9), (.ref o8), (.ref o8)]))
        refine Go.st (fun _ k => XS.bipush X.here hx rfl (hb hby d33_71) k) ?_
        show Go p e below _ (T.setTop (mkF m 73 #[.val (.int lt), .val (.int n), .val (.int c0), .val (.int c1), .val (.int c2)] [(.int (58 : Int32)), (.int (1 : Int32)), (.ref o9), (.ref o9), (.ref o8), (.ref o8)]))
        obtain ⟨cl0, Ar0, q0, S0, M0, H0, U0⟩ := id V_o9
        obtain ⟨T, h15, X, hT, Wr0, st⟩ := stC X hx hZ hT Ar0 (j := (1 : Int32)) (inb_of S0 ⟨(by decide : ¬ ((1 : Int32) < (0 : Int32))), (by decide : (1 : Int32) < (4 : Int32))⟩) (g := (mkF m 73 #[.val (.int lt), .val (.int n), .val (.int c0), .val (.int c1), .val (.int c2)] [(.int (58 : Int32)), (.int (1 : Int32)), (.ref o9), (.ref o9), (.ref o8), (.ref o8)])) rfl rfl (hb hby d33_73)
        refine Go.st st ?_
        have N := Fr.snoc X N ge_o9
        have H := H.wr Wr0 (Safe.arr hZ.alike Ar0 (by decide))
        have A_o8 := A_o8.wr Wr0
        have F_o8_coder := F_o8_coder.other Wr0 (Or.inl ne_o8_o9)
        have F_o8_value := F_o8_value.other Wr0 (Or.inl ne_o8_o9)
        have KB := (KB).wr Wr0 (Or.inr gk_o9)
        have V_o9 : Arv Z _ o9 k_o9 .char (4 : Int32) [(.int (nar .char lt)), (.int (nar .char (58 : Int32))), (.int (0 : Int32)), (.int (0 : Int32))] (.int (0 : Int32)) := Arv.set Ar0 q0 S0 M0 H0 U0 (fits_nar_char _) Wr0 1 rfl (Nat.le_of_ble_eq_true rfl)
        show Go p e below _ (T.setTop (mkF m 74 #[.val (.int lt), .val (.int n), .val (.int c0), .val (.int c1), .val (.int c2)] [(.ref o9), (.ref o8), (.ref o8)]))
        refine Go.st (fun _ k => XS.dup X.here hx rfl (hb hby d33_74) rfl rfl k) ?_
        show Go p e below _ (T.setTop (mkF m 75 #[.val (.int lt), .val (.int n), .val (.int c0), .val (.int c1), .val (.int c2)] [(.ref o9), (.ref o9), (.ref o8), (.ref o8)]))
        refine Go.st (fun _ k => XS.iconst X.here hx rfl (hb hby d33_75) k) ?_
        show Go p e below _ (T.setTop (mkF m 76 #[.val (.int lt), .val (.int n), .val (.int c0), .val (.int c1), .val (.int c2)] [(.int (2 : Int32)), (.ref o9), (.ref o9), (.ref o8), (.ref o8)]))
        refine Go.st (fun _ k => XS.iloadN X.here hx rfl (hb hby d33_76) rfl k) ?_
        show Go p e below _ (T.setTop (mkF m 77 #[.val (.int lt), .val (.int n), .val (.int c0), .val (.int c1), .val (.int c2)] [(.int c0), (.int (2 : Int32)), (.ref o9), (.ref o9), (.ref o8), (.ref o8)]))
        obtain ⟨cl0, Ar0, q0, S0, M0, H0, U0⟩ := id V_o9
        obtain ⟨T, h16, X, hT, Wr0, st⟩ := stC X hx hZ hT Ar0 (j := (2 : Int32)) (inb_of S0 ⟨(by decide : ¬ ((2 : Int32) < (0 : Int32))), (by decide : (2 : Int32) < (4 : Int32))⟩) (g := (mkF m 77 #[.val (.int lt), .val (.int n), .val (.int c0), .val (.int c1), .val (.int c2)] [(.int c0), (.int (2 : Int32)), (.ref o9), (.ref o9), (.ref o8), (.ref o8)])) rfl rfl (hb hby d33_77)
        refine Go.st st ?_
        have N := Fr.snoc X N ge_o9
        have H := H.wr Wr0 (Safe.arr hZ.alike Ar0 (by decide))
        have A_o8 := A_o8.wr Wr0
        have F_o8_coder := F_o8_coder.other Wr0 (Or.inl ne_o8_o9)
        have F_o8_value := F_o8_value.other Wr0 (Or.inl ne_o8_o9)
        have KB := (KB).wr Wr0 (Or.inr gk_o9)
        have V_o9 : Arv Z _ o9 k_o9 .char (4 : Int32) [(.int (nar .char lt)), (.int (nar .char (58 : Int32))), (.int (nar .char c0)), (.int (0 : Int32))] (.int (0 : Int32)) := Arv.set Ar0 q0 S0 M0 H0 U0 (fits_nar_char _) Wr0 2 rfl (Nat.le_of_ble_eq_true rfl)
        show Go p e below _ (T.setTop (mkF m 78 #[.val (.int lt), .val (.int n), .val (.int c0), .val (.int c1), .val (.int c2)] [(.ref o9), (.ref o8), (.ref o8)]))
        refine Go.st (fun _ k => XS.dup X.here hx rfl (hb hby d33_78) rfl rfl k) ?_
        show Go p e below _ (T.setTop (mkF m 79 #[.val (.int lt), .val (.int n), .val (.int c0), .val (.int c1), .val (.int c2)] [(.ref o9), (.ref o9), (.ref o8), (.ref o8)]))
        refine Go.st (fun _ k => XS.iconst X.here hx rfl (hb hby d33_79) k) ?_
        show Go p e below _ (T.setTop (mkF m 80 #[.val (.int lt), .val (.int n), .val (.int c0), .val (.int c1), .val (.int c2)] [(.int (3 : Int32)), (.ref o9), (.ref o9), (.ref o8), (.ref o8)]))
        refine Go.st (fun _ k => XS.iloadN X.here hx rfl (hb hby d33_80) rfl k) ?_
        show Go p e below _ (T.setTop (mkF m 81 #[.val (.int lt), .val (.int n), .val (.int c0), .val (.int c1), .val (.int c2)] [(.int c1), (.int (3 : Int32)), (.ref o9), (.ref o9), (.ref o8), (.ref o8)]))
        obtain ⟨cl0, Ar0, q0, S0, M0, H0, U0⟩ := id V_o9
        obtain ⟨T, h17, X, hT, Wr0, st⟩ := stC X hx hZ hT Ar0 (j := (3 : Int32)) (inb_of S0 ⟨(by decide : ¬ ((3 : Int32) < (0 : Int32))), (by decide : (3 : Int32) < (4 : Int32))⟩) (g := (mkF m 81 #[.val (.int lt), .val (.int n), .val (.int c0), .val (.int c1), .val (.int c2)] [(.int c1), (.int (3 : Int32)), (.ref o9), (.ref o9), (.ref o8), (.ref o8)])) rfl rfl (hb hby d33_81)
        refine Go.st st ?_
        have N := Fr.snoc X N ge_o9
        have H := H.wr Wr0 (Safe.arr hZ.alike Ar0 (by decide))
        have A_o8 := A_o8.wr Wr0
        have F_o8_coder := F_o8_coder.other Wr0 (Or.inl ne_o8_o9)
        have F_o8_value := F_o8_value.other Wr0 (Or.inl ne_o8_o9)
        have KB := (KB).wr Wr0 (Or.inr gk_o9)
        have V_o9 : Arv Z _ o9 k_o9 .char (4 : Int32) [(.int (nar .char lt)), (.int (nar .char (58 : Int32))), (.int (nar .char c0)), (.int (nar .char c1))] (.int (0 : Int32)) := Arv.set Ar0 q0 S0 M0 H0 U0 (fits_nar_char _) Wr0 3 rfl (Nat.le_of_ble_eq_true rfl)
        show Go p e below _ (T.setTop (mkF m 82 #[.val (.int lt), .val (.int n), .val (.int c0), .val (.int c1), .val (.int c2)] [(.ref o9), (.ref o8), (.ref o8)]))
        refine Go.newS (W := 1) (n := 4) (rest := [(.ref o8)]) (cs := [lt, (58 : Int32), c0, c1]) hw H X hx hZ hown (hml.trans rfl) hT (hw _ (List.mem_of_getElem? (i := 12) rfl)) (hb hby d33_82) (O.keep KB all0) ge_o8 Sc A_o8 F_o8_value F_o8_coder (by have q := V_o9; (try simp only [own_l58, own_narc l0, own_narc l1, own_narc l2, own_narc ll] at q); exact q) rfl (Nat.le_of_ble_eq_true rfl) (by decide) (by intro c hc; simp only [List.mem_cons, List.not_mem_nil, or_false] at hc; rcases hc with h | h | h | h <;> rw [h] <;> first | exact l0 | exact l1 | exact l2 | exact ll | decide) (Nat.le_of_ble_eq_true rfl) (by decide) (by decide) (by decide) (by decide) ?_
        intro T h18 L vm hT N0 K0 S_o8 hZ hown H X
        have N := Fr.app N N0
        have KB := (KB).trans K0 (allS (Or.inr gk_o8) all0)
        have O := O.keep KB all0
        have K0b := K0b.trans KB (fun _ q => nomatch q)
        show Go p e below _ (T.setTop (mkF m 85 #[.val (.int lt), .val (.int n), .val (.int c0), .val (.int c1), .val (.int c2)] [(.ref o8)]))
        refine Go.retH hEL H hZ X hx hlk hT hret rfl (riA rfl rfl) (hb hby d33_85) (by decide) (by decide) ?_
        refine ⟨_, rfl, N, keepE K0b, ?_⟩
        rw [wordL, if_neg hc1, if_neg hc4, if_pos hc7]
        exact S_o8
      · refine Go.st (fun _ k => XS.icmpYes X.here hx rfl (pc0 := 55) (pc' := 86) rfl (hb hby d33_55) rfl (Jvm.Free.XT.ii_ne_t hc7) (by decide) (by decide) k) ?_
        show Go p e below _ (T.setTop (mkF m 86 #[.val (.int lt), .val (.int n), .val (.int c0), .val (.int c1), .val (.int c2)] []))
        obtain ⟨T, h19, X, hT, Ex0, A_o10, D_o10, -, st⟩ := newO X hx hZ hown (hw _ (List.mem_of_getElem? (i := 8) rfl)) (hw _ (List.mem_of_getElem? (i := 9) rfl)) (hw _ (List.mem_of_getElem? (i := 10) rfl)) hT (g := (mkF m 86 #[.val (.int lt), .val (.int n), .val (.int c0), .val (.int c1), .val (.int c2)] [])) rfl (hb hby d33_86) (by decide) (by decide)
        obtain ⟨o10, g_o10⟩ : ∃ z, z = h0.size := ⟨_, rfl⟩
        rw [← g_o10] at A_o10 D_o10 st
        refine Go.st st ?_
        have ge_o10 : n0 ≤ o10 := Nat.le_trans (own_le (O)) (Nat.le_of_eq g_o10.symm)
        have gk_o10 : h0.size ≤ o10 := Nat.le_trans (Keep.refl h0 []).1 (Nat.le_of_eq g_o10.symm)
        have Sf_o10 := Safe.ext Ex0 H.2.1 (Safe.new (Nat.le_of_eq g_o10.symm))
        have H := H.ext Ex0
        have KB := (Keep.refl h0 []).ext Ex0
        have F_o10_coder := D_o10 (Or.inr (hw _ (List.mem_of_getElem? (i := 35) rfl))) (ty := .byte) (by decide)
        have F_o10_value := D_o10 (Or.inr (hw _ (List.mem_of_getElem? (i := 37) rfl))) (ty := (.array .byte)) (by decide)
        show Go p e below _ (T.setTop (mkF m 89 #[.val (.int lt), .val (.int n), .val (.int c0), .val (.int c1), .val (.int c2)] [(.ref o10)]))
        refine Go.st (fun _ k => XS.dup X.here hx rfl (hb hby d33_89) rfl rfl k) ?_
        show Go p e below _ (T.setTop (mkF m 90 #[.val (.int lt), .val (.int n), .val (.int c0), .val (.int c1), .val (.int c2)] [(.ref o10), (.ref o10)]))
        refine Go.st (fun _ k => XS.iconst X.here hx rfl (hb hby d33_90) k) ?_
        show Go p e below _ (T.setTop (mkF m 91 #[.val (.int lt), .val (.int n), .val (.int c0), .val (.int c1), .val (.int c2)] [(.int (5 : Int32)), (.ref o10), (.ref o10)]))
        obtain ⟨T, h20, k_o11, X, hT, Ex0, A_o11, st⟩ := newP X hx hZ (hw _ (List.mem_of_getElem? (i := 11) rfl)) hT (g := (mkF m 91 #[.val (.int lt), .val (.int n), .val (.int c0), .val (.int c1), .val (.int c2)] [(.int (5 : Int32)), (.ref o10), (.ref o10)])) rfl (hb hby d33_91) rfl (by decide : ¬ ((5 : Int32) < (0 : Int32))) (cap := 5) (by decide) (by decide) (by decide) (by decide)
        obtain ⟨o11, g_o11⟩ : ∃ z, z = h19.size := ⟨_, rfl⟩
        rw [← g_o11] at A_o11 st
        refine Go.st st ?_
        have ge_o11 : n0 ≤ o11 := Nat.le_trans (own_le (O.keep KB all0)) (Nat.le_of_eq g_o11.symm)
        have gk_o11 : h0.size ≤ o11 := Nat.le_trans (KB).1 (Nat.le_of_eq g_o11.symm)
        have H := H.ext Ex0
        have A_o10 := A_o10.ext Ex0
        have F_o10_coder := F_o10_coder.ext Ex0
        have F_o10_value := F_o10_value.ext Ex0
        have KB := (KB).ext Ex0
        have V_o11 : Arv Z _ o11 k_o11 .char (5 : Int32) [(.int (0 : Int32)), (.int (0 : Int32)), (.int (0 : Int32)), (.int (0 : Int32)), (.int (0 : Int32))] (.int (0 : Int32)) := (Arv.new A_o11 (by decide)).pad (pad_rep [] (.int (0 : Int32)) 5)
        have ne_o10_o11 : o10 ≠ o11 := Exa.neArv A_o10 V_o11 (hw _ (List.mem_of_getElem? (i := 9) rfl))
        show Go p e below _ (T.setTop (mkF m 93 #[.val (.int lt), .val (.int n), .val (.int c0), .val (.int c1), .val (.int c2)] [(.ref o11), (.ref o10), (.ref o10)]))
        refine Go.st (fun _ k => XS.dup X.here hx rfl (hb hby d33_93) rfl rfl k) ?_
        show Go p e below _ (T.setTop (mkF m 94 #[.val (.int lt), .val (.int n), .val (.int c0), .val (.int c1), .val (.int c2)] [(.ref o11), (.ref o11), (.ref o10), (.ref o10)]))
        refine Go.st (fun _ k => XS.iconst X.here hx rfl (hb hby d33_94) k) ?_
        show Go p e below _ (T.setTop (mkF m 95 #[.val (.int lt), .val (.int n), .val (.int c0), .val (.int c1), .val (.int c2)] [(.int (0 : Int32)), (.ref o11), (.ref o11), (.ref o10), (.ref o10)]))
        refine Go.st (fun _ k => XS.iloadN X.here hx rfl (hb hby d33_95) rfl k) ?_
        show Go p e below _ (T.setTop (mkF m 96 #[.val (.int lt), .val (.int n), .val (.int c0), .val (.int c1), .val (.int c2)] [(.int lt), (.int (0 : Int32)), (.ref o11), (.ref o11), (.ref o10), (.ref o10)]))
        obtain ⟨cl0, Ar0, q0, S0, M0, H0, U0⟩ := id V_o11
        obtain ⟨T, h21, X, hT, Wr0, st⟩ := stC X hx hZ hT Ar0 (j := (0 : Int32)) (inb_of S0 ⟨(by decide : ¬ ((0 : Int32) < (0 : Int32))), (by decide : (0 : Int32) < (5 : Int32))⟩) (g := (mkF m 96 #[.val (.int lt), .val (.int n), .val (.int c0), .val (.int c1), .val (.int c2)] [(.int lt), (.int (0 : Int32)), (.ref o11), (.ref o11), (.ref o10), (.ref o10)])) rfl rfl (hb hby d33_96)
        refine Go.st st ?_
        have N := Fr.snoc X N ge_o11
        have H := H.wr Wr0 (Safe.arr hZ.alike Ar0 (by decide))
        have A_o10 := A_o10.wr Wr0
        have F_o10_coder := F_o10_coder.other Wr0 (Or.inl ne_o10_o11)
        have F_o10_value := F_o10_value.other Wr0 (Or.inl ne_o10_o11)
        have KB := (KB).wr Wr0 (Or.inr gk_o11)
        have V_o11 : Arv Z _ o11 k_o11 .char (5 : Int32) [(.int (nar .char lt)), (.int (0 : Int32)), (.int (0 : Int32)), (.int (0 : Int32)), (.int (0 : Int32))] (.int (0 : Int32)) := Arv.set Ar0 q0 S0 M0 H0 U0 (fits_nar_char _) Wr0 0 rfl (Nat.le_of_ble_eq_true rfl)
        show Go p e below _ (T.setTop (mkF m 97 #[.val (.int lt), .val (.int n), .val (.int c0), .val (.int c1), .val (.int c2)] [(.ref o11), (.ref o10), (.ref o10)]))
        refine Go.st (fun _ k => XS.dup X.here hx rfl (hb hby d33_97) rfl rfl k) ?_
        show Go p e below _ (T.setTop (mkF m 98 #[.val (.int lt), .val (.int n), .val (.int c0), .val (.int c1), .val (.int c2)] [(.ref o11), (.ref o11), (.ref o10), (.ref o10)]))
        refine Go.st (fun _ k => XS.iconst X.here hx rfl (hb hby d33_98) k) ?_
        show Go p e below _ (T.setTop (mkF m 99 #[.val (.int lt), .val (.int n), .val (.int c0), .val (.int c1), .val (.int c2)] [(.int (1 : Int32)), (.ref o11), (.ref o11), (.ref o10), (.ref o10)]))
        refine Go.st (fun _ k => XS.bipush X.here hx rfl (hb hby d33_99) k) ?_
        show Go p e below _ (T.setTop (mkF m 101 #[.val (.int lt), .val (.int n), .val (.int c0), .val (.int c1), .val (.int c2)] [(.int (58 : Int32)), (.int (1 : Int32)), (.ref o11), (.ref o11), (.ref o10), (.ref o10)]))
        obtain ⟨cl0, Ar0, q0, S0, M0, H0, U0⟩ := id V_o11
        obtain ⟨T, h22, X, hT, Wr0, st⟩ := stC X hx hZ hT Ar0 (j := (1 : Int32)) (inb_of S0 ⟨(by decide : ¬ ((1 : Int32) < (0 : Int32))), (by decide : (1 : Int32) < (5 : Int32))⟩) (g := (mkF m 101 #[.val (.int lt), .val (.int n), .val (.int c0), .val (.int c1), .val (.int c2)] [(.int (58 : Int32)), (.int (1 : Int32)), (.ref o11), (.ref o11), (.ref o10), (.ref o10)])) rfl rfl (hb hby d33_101)
        refine Go.st st ?_
        have N := Fr.snoc X N ge_o11
        have H := H.wr Wr0 (Safe.arr hZ.alike Ar0 (by decide))
        have A_o10 := A_o10.wr Wr0
        have F_o10_coder := F_o10_coder.other Wr0 (Or.inl ne_o10_o11)
        have F_o10_value := F_o10_value.other Wr0 (Or.inl ne_o10_o11)
        have KB := (KB).wr Wr0 (Or.inr gk_o11)
        have V_o11 : Arv Z _ o11 k_o11 .char (5 : Int32) [(.int (nar .char lt)), (.int (nar .char (58 : Int32))), (.int (0 : Int32)), (.int (0 : Int32)), (.int (0 : Int32))] (.int (0 : Int32)) := Arv.set Ar0 q0 S0 M0 H0 U0 (fits_nar_char _) Wr0 1 rfl (Nat.le_of_ble_eq_true rfl)
        show Go p e below _ (T.setTop (mkF m 102 #[.val (.int lt), .val (.int n), .val (.int c0), .val (.int c1), .val (.int c2)] [(.ref o11), (.ref o10), (.ref o10)]))
        refine Go.st (fun _ k => XS.dup X.here hx rfl (hb hby d33_102) rfl rfl k) ?_
        show Go p e below _ (T.setTop (mkF m 103 #[.val (.int lt), .val (.int n), .val (.int c0), .val (.int c1), .val (.int c2)] [(.ref o11), (.ref o11), (.ref o10), (.ref o10)]))
        refine Go.st (fun _ k => XS.iconst X.here hx rfl (hb hby d33_103) k) ?_
        show Go p e below _ (T.setTop (mkF m 104 #[.val (.int lt), .val (.int n), .val (.int c0), .val (.int c1), .val (.int c2)] [(.int (2 : Int32)), (.ref o11), (.ref o11), (.ref o10), (.ref o10)]))
        refine Go.st (fun _ k => XS.iloadN X.here hx rfl (hb hby d33_104) rfl k) ?_
        show Go p e below _ (T.setTop (mkF m 105 #[.val (.int lt), .val (.int n), .val (.int c0), .val (.int c1), .val (.int c2)] [(.int c0), (.int (2 : Int32)), (.ref o11), (.ref o11), (.ref o10), (.ref o10)]))
        obtain ⟨cl0, Ar0, q0, S0, M0, H0, U0⟩ := id V_o11
        obtain ⟨T, h23, X, hT, Wr0, st⟩ := stC X hx hZ hT Ar0 (j := (2 : Int32)) (inb_of S0 ⟨(by decide : ¬ ((2 : Int32) < (0 : Int32))), (by decide : (2 : Int32) < (5 : Int32))⟩) (g := (mkF m 105 #[.val (.int lt), .val (.int n), .val (.int c0), .val (.int c1), .val (.int c2)] [(.int c0), (.int (2 : Int32)), (.ref o11), (.ref o11), (.ref o10), (.ref o10)])) rfl rfl (hb hby d33_105)
        refine Go.st st ?_
        have N := Fr.snoc X N ge_o11
        have H := H.wr Wr0 (Safe.arr hZ.alike Ar0 (by decide))
        have A_o10 := A_o10.wr Wr0
        have F_o10_coder := F_o10_coder.other Wr0 (Or.inl ne_o10_o11)
        have F_o10_value := F_o10_value.other Wr0 (Or.inl ne_o10_o11)
        have KB := (KB).wr Wr0 (Or.inr gk_o11)
        have V_o11 : Arv Z _ o11 k_o11 .char (5 : Int32) [(.int (nar .char lt)), (.int (nar .char (58 : Int32))), (.int (nar .char c0)), (.int (0 : Int32)), (.int (0 : Int32))] (.int (0 : Int32)) := Arv.set Ar0 q0 S0 M0 H0 U0 (fits_nar_char _) Wr0 2 rfl (Nat.le_of_ble_eq_true rfl)
        show Go p e below _ (T.setTop (mkF m 106 #[.val (.int lt), .val (.int n), .val (.int c0), .val (.int c1), .val (.int c2)] [(.ref o11), (.ref o10), (.ref o10)]))
        refine Go.st (fun _ k => XS.dup X.here hx rfl (hb hby d33_106) rfl rfl k) ?_
        show Go p e below _ (T.setTop (mkF m 107 #[.val (.int lt), .val (.int n), .val (.int c0), .val (.int c1), .val (.int c2)] [(.ref o11), (.ref o11), (.ref o10), (.ref o10)]))
        refine Go.st (fun _ k => XS.iconst X.here hx rfl (hb hby d33_107) k) ?_
        show Go p e below _ (T.setTop (mkF m 108 #[.val (.int lt), .val (.int n), .val (.int c0), .val (.int c1), .val (.int c2)] [(.int (3 : Int32)), (.ref o11), (.ref o11), (.ref o10), (.ref o10)]))
        refine Go.st (fun _ k => XS.iloadN X.here hx rfl (hb hby d33_108) rfl k) ?_
        show Go p e below _ (T.setTop (mkF m 109 #[.val (.int lt), .val (.int n), .val (.int c0), .val (.int c1), .val (.int c2)] [(.int c1), (.int (3 : Int32)), (.ref o11), (.ref o11), (.ref o10), (.ref o10)]))
        obtain ⟨cl0, Ar0, q0, S0, M0, H0, U0⟩ := id V_o11
        obtain ⟨T, h24, X, hT, Wr0, st⟩ := stC X hx hZ hT Ar0 (j := (3 : Int32)) (inb_of S0 ⟨(by decide : ¬ ((3 : Int32) < (0 : Int32))), (by decide : (3 : Int32) < (5 : Int32))⟩) (g := (mkF m 109 #[.val (.int lt), .val (.int n), .val (.int c0), .val (.int c1), .val (.int c2)] [(.int c1), (.int (3 : Int32)), (.ref o11), (.ref o11), (.ref o10), (.ref o10)])) rfl rfl (hb hby d33_109)
        refine Go.st st ?_
        have N := Fr.snoc X N ge_o11
        have H := H.wr Wr0 (Safe.arr hZ.alike Ar0 (by decide))
        have A_o10 := A_o10.wr Wr0
        have F_o10_coder := F_o10_coder.other Wr0 (Or.inl ne_o10_o11)
        have F_o10_value := F_o10_value.other Wr0 (Or.inl ne_o10_o11)
        have KB := (KB).wr Wr0 (Or.inr gk_o11)
        have V_o11 : Arv Z _ o11 k_o11 .char (5 : Int32) [(.int (nar .char lt)), (.int (nar .char (58 : Int32))), (.int (nar .char c0)), (.int (nar .char c1)), (.int (0 : Int32))] (.int (0 : Int32)) := Arv.set Ar0 q0 S0 M0 H0 U0 (fits_nar_char _) Wr0 3 rfl (Nat.le_of_ble_eq_true rfl)
        show Go p e below _ (T.setTop (mkF m 110 #[.val (.int lt), .val (.int n), .val (.int c0), .val (.int c1), .val (.int c2)] [(.ref o11), (.ref o10), (.ref o10)]))
        refine Go.st (fun _ k => XS.dup X.here hx rfl (hb hby d33_110) rfl rfl k) ?_
        show Go p e below _ (T.setTop (mkF m 111 #[.val (.int lt), .val (.int n), .val (.int c0), .val (.int c1), .val (.int c2)] [(.ref o11), (.ref o11), (.ref o10), (.ref o10)]))
        refine Go.st (fun _ k => XS.iconst X.here hx rfl (hb hby d33_111) k) ?_
        show Go p e below _ (T.setTop (mkF m 112 #[.val (.int lt), .val (.int n), .val (.int c0), .val (.int c1), .val (.int c2)] [(.int (4 : Int32)), (.ref o11), (.ref o11), (.ref o10), (.ref o10)]))
        refine Go.st (fun _ k => XS.iload X.here hx rfl (hb hby d33_112) rfl k) ?_
        show Go p e below _ (T.setTop (mkF m 114 #[.val (.int lt), .val (.int n), .val (.int c0), .val (.int c1), .val (.int c2)] [(.int c2), (.int (4 : Int32)), (.ref o11), (.ref o11), (.ref o10), (.ref o10)]))
        obtain ⟨cl0, Ar0, q0, S0, M0, H0, U0⟩ := id V_o11
        obtain ⟨T, h25, X, hT, Wr0, st⟩ := stC X hx hZ hT Ar0 (j := (4 : Int32)) (inb_of S0 ⟨(by decide : ¬ ((4 : Int32) < (0 : Int32))), (by decide : (4 : Int32) < (5 : Int32))⟩) (g := (mkF m 114 #[.val (.int lt), .val (.int n), .val (.int c0), .val (.int c1), .val (.int c2)] [(.int c2), (.int (4 : Int32)), (.ref o11), (.ref o11), (.ref o10), (.ref o10)])) rfl rfl (hb hby d33_114)
        refine Go.st st ?_
        have N := Fr.snoc X N ge_o11
        have H := H.wr Wr0 (Safe.arr hZ.alike Ar0 (by decide))
        have A_o10 := A_o10.wr Wr0
        have F_o10_coder := F_o10_coder.other Wr0 (Or.inl ne_o10_o11)
        have F_o10_value := F_o10_value.other Wr0 (Or.inl ne_o10_o11)
        have KB := (KB).wr Wr0 (Or.inr gk_o11)
        have V_o11 : Arv Z _ o11 k_o11 .char (5 : Int32) [(.int (nar .char lt)), (.int (nar .char (58 : Int32))), (.int (nar .char c0)), (.int (nar .char c1)), (.int (nar .char c2))] (.int (0 : Int32)) := Arv.set Ar0 q0 S0 M0 H0 U0 (fits_nar_char _) Wr0 4 rfl (Nat.le_of_ble_eq_true rfl)
        show Go p e below _ (T.setTop (mkF m 115 #[.val (.int lt), .val (.int n), .val (.int c0), .val (.int c1), .val (.int c2)] [(.ref o11), (.ref o10), (.ref o10)]))
        refine Go.newS (W := 1) (n := 5) (rest := [(.ref o10)]) (cs := [lt, (58 : Int32), c0, c1, c2]) hw H X hx hZ hown (hml.trans rfl) hT (hw _ (List.mem_of_getElem? (i := 12) rfl)) (hb hby d33_115) (O.keep KB all0) ge_o10 Sc A_o10 F_o10_value F_o10_coder (by have q := V_o11; (try simp only [own_l58, own_narc l0, own_narc l1, own_narc l2, own_narc ll] at q); exact q) rfl (Nat.le_of_ble_eq_true rfl) (by decide) (by intro c hc; simp only [List.mem_cons, List.not_mem_nil, or_false] at hc; rcases hc with h | h | h | h | h <;> rw [h] <;> first | exact l0 | exact l1 | exact l2 | exact ll | decide) (Nat.le_of_ble_eq_true rfl) (by decide) (by decide) (by decide) (by decide) ?_
        intro T h26 L vm hT N0 K0 S_o10 hZ hown H X
        have N := Fr.app N N0
        have KB := (KB).trans K0 (allS (Or.inr gk_o10) all0)
        have O := O.keep KB all0
        have K0b := K0b.trans KB (fun _ q => nomatch q)
        show Go p e below _ (T.setTop (mkF m 118 #[.val (.int lt), .val (.int n), .val (.int c0), .val (.int c1), .val (.int c2)] [(.ref o10)]))
        refine Go.retH hEL H hZ X hx hlk hT hret rfl (riA rfl rfl) (hb hby d33_118) (by decide) (by decide) ?_
        refine ⟨_, rfl, N, keepE K0b, ?_⟩
        rw [wordL, if_neg hc1, if_neg hc4, if_neg hc7]
        exact S_o10
def Kinds (Z : State) (u0 u1 u2 u3 : Addr) : Prop := Sta Z Z.heap "com/example/nandi/nandi/model/Entry$Kind" "USER" "Lcom/example/nandi/nandi/model/Entry$Kind;" (.ref u0) ∧ Sta Z Z.heap "com/example/nandi/nandi/model/Entry$Kind" "GROUP" "Lcom/example/nandi/nandi/model/Entry$Kind;" (.ref u1) ∧ Sta Z Z.heap "com/example/nandi/nandi/model/Entry$Kind" "ROLE" "Lcom/example/nandi/nandi/model/Entry$Kind;" (.ref u2) ∧ Sta Z Z.heap "com/example/nandi/nandi/model/Entry$Kind" "EVERYONE" "Lcom/example/nandi/nandi/model/Entry$Kind;" (.ref u3) ∧ Fld Z Z.heap u0 "com/example/nandi/nandi/model/Entry$Kind" "letter" "C" (.int 117) ∧ Fld Z Z.heap u1 "com/example/nandi/nandi/model/Entry$Kind" "letter" "C" (.int 103) ∧ Fld Z Z.heap u2 "com/example/nandi/nandi/model/Entry$Kind" "letter" "C" (.int 114) ∧ Fld Z Z.heap u3 "com/example/nandi/nandi/model/Entry$Kind" "letter" "C" (.int 42)
theorem pd_20 : parseMethodDescriptor "(C)Ljava/lang/String;" = some ⟨[.char], (some (.object "java/lang/String"))⟩ := by decide +kernel
theorem d8_0 : decode prog_2_method_5_code 0 = .ok (.aload_n 0, 1) := by decide +kernel
theorem d8_1 : decode prog_2_method_5_code 1 = .ok (.getstatic 43, 3) := by decide +kernel
theorem d8_4 : decode prog_2_method_5_code 4 = .ok (.if_acmp .ne 13, 3) := by decide +kernel
theorem d8_7 : decode prog_2_method_5_code 7 = .ok (.aload_n 0, 1) := by decide +kernel
theorem d8_8 : decode prog_2_method_5_code 8 = .ok (.getfield 93, 3) := by decide +kernel
theorem d8_11 : decode prog_2_method_5_code 11 = .ok (.invokestatic 97, 3) := by decide +kernel
theorem d8_14 : decode prog_2_method_5_code 14 = .ok (.goto 29, 3) := by decide +kernel
theorem d8_43 : decode prog_2_method_5_code 43 = .ok (.areturn, 1) := by decide +kernel
theorem pn_30 : plainFor (⟨"com/example/nandi/nandi/model/Entry", "key", "(Lcom/example/nandi/nandi/model/Entry$Kind;Ljava/lang/String;)Ljava/lang/String;"⟩ : MethodName) = true := by first | exact plainFor_of_name (by first | (simp [plainName, overriddenIn]; done) | decide +kernel) | decide +kernel
theorem ef_AV_2 (m : MethodId) (y0 : Addr) (y1 : Value) (r1 : y1.isRef = true) : entryFrame m #[(.ref y0), y1] 2 = mkF m 0 #[.val (.ref y0), .val y1] [] := by
  rcases Jvm.Free.XT.refc r1 with rfl | ⟨_, rfl⟩ <;> first | (simp [entryFrame, mkF, argsToLocals, Value.category]; done) | rfl
set_option maxRecDepth 65536 in
set_option maxHeartbeats 40000000 in
theorem met_keyE (l : Launch) (Z : State) (a0 : Array Value) (hw : ∀ d ∈ tables_1, d.before a0 Z = true) (ws : List Jvm.Cond) (z : Int32) (n0 : Nat) (nm : Value) {u0 u1 u2 u3 : Addr} (h0 : Heap) (rn : nm.isRef = true) (O : Old Z n0 h0) (Sc : Stat Z z) (KD : Kinds Z u0 u1 u2 u3) :
    MetFree l (⟨"com/example/nandi/nandi/model/Entry", "key", "(Lcom/example/nandi/nandi/model/Entry$Kind;Ljava/lang/String;)Ljava/lang/String;"⟩ : MethodName) (head1 (Jvm.Cond.code (⟨"com/example/nandi/nandi/model/Entry", "key", "(Lcom/example/nandi/nandi/model/Entry$Kind;Ljava/lang/String;)Ljava/lang/String;"⟩ : MethodName) prog_2_method_5_code 2 (some (.object "java/lang/String")) :: ws) ({ frames := 3, cells := 2, slots := 5, locals := 39 } : Room)) (fun aa U => aa = #[(.ref u3), nm] ∧ Z.Warmed39 U.vm ∧ U.heap = h0) (fun _ _ _ _ _ => True) (fun _ U o U' => ∃ v L, o = .returned v ∧ QStr Z n0 [42] h0 v U'.heap L ∧ FrameEnd U o U' L ({ frames := 3, cells := 2, slots := 5, locals := 39 } : Room).cells ({ frames := 3, cells := 2, slots := 5, locals := 39 } : Room).slots) := by
  refine openP (y := (⟨"com/example/nandi/nandi/model/Entry", "key", "(Lcom/example/nandi/nandi/model/Entry$Kind;Ljava/lang/String;)Ljava/lang/String;"⟩ : MethodName)) pn_30 ?_
  intro p e s m below meth c T hx hby hml hret hlk hnm hZ hown X hT
  refine Go.st (fun _ k => castTop (ef_AV_2 m u3 nm rn) k) ?_
  show Go p e below _ (T.setTop (mkF m 0 #[.val (.ref u3), .val nm] []))
  obtain ⟨T0, T1, T2, T3, L0, L1, L2, L3⟩ := KD
  have N := Fr.nil n0
  have K0b : Keep h0 h0 [] := Keep.refl _ _
  refine Go.st (fun _ k => XS.aloadN X.here hx rfl (hb hby d8_0) rfl rfl k) ?_
  show Go p e below _ (T.setTop (mkF m 1 #[.val (.ref u3), .val nm] [(.ref u3)]))
  obtain ⟨T, X, hT, st⟩ := getS2 X hx hZ hown (host := "") (Or.inl (hw _ (List.mem_of_getElem? (i := 42) rfl))) Via.refl hT (T3.ext O.2) (g := (mkF m 1 #[.val (.ref u3), .val nm] [(.ref u3)])) rfl (hb hby d8_1)
  refine Go.st st ?_
  show Go p e below _ (T.setTop (mkF m 4 #[.val (.ref u3), .val nm] [(.ref u3), (.ref u3)]))
  refine Go.st (fun _ k => acmp X hx rfl (cd := .ne) rfl rfl (pc0 := 4) (pc' := 7) (same := true) rfl (hb hby d8_4) rfl (decide_eq_true rfl) (by decide) (by decide) k) ?_
  show Go p e below _ (T.setTop (mkF m 7 #[.val (.ref u3), .val nm] []))
  refine Go.st (fun _ k => XS.aloadN X.here hx rfl (hb hby d8_7) rfl rfl k) ?_
  show Go p e below _ (T.setTop (mkF m 8 #[.val (.ref u3), .val nm] [(.ref u3)]))
  refine Go.st (own_getR X hx hZ hown (hw _ (List.mem_of_getElem? (i := 62) rfl)) hT (L3.ext O.2) (g := (mkF m 8 #[.val (.ref u3), .val nm] [(.ref u3)])) rfl rfl (hb hby d8_8)) ?_
  show Go p e below _ (T.setTop (mkF m 11 #[.val (.ref u3), .val nm] [(.int (42 : Int32))]))
  refine Go.callP (argsL := [(.int (42 : Int32))]) (rest := []) (W := 0) (ck := 2) (sk := 5) X hx hZ hown (hml.trans rfl) hT (hw _ (List.mem_of_getElem? (i := 186) rfl)) (hw _ (List.mem_of_getElem? (i := 187) rfl)) (hw _ (List.mem_of_getElem? (i := 10) rfl)) (hw _ (List.mem_of_getElem? (i := 188) rfl)) (by decide) pd_20 rfl rfl (Nat.le_of_ble_eq_true rfl) (hb hby d8_11) (backOf (W := 0) (met_valof l Z a0 hw [] n0 (42 : Int32) z _ O Sc (by decide) (by decide)) hZ (hw _ (List.mem_of_getElem? (i := 188) rfl)) (hw _ (List.mem_of_getElem? (i := 10) rfl)) (by decide) (by decide)) (by decide) (by decide) ?_
  intro v T h1 L hT hQ X
  obtain ⟨o1, rfl, N0, Ex0, S_o1⟩ := hQ
  have N := Fr.app N N0
  have KB := (Keep.refl h0 []).ext Ex0
  have O := O.keep KB all0
  have K0b := K0b.trans KB (fun _ q => nomatch q)
  show Go p e below _ (T.setTop (mkF m 14 #[.val (.ref u3), .val nm] [(.ref o1)]))
  refine Go.st (fun _ k => XS.goto X.here hx rfl (pc0 := 14) (pc' := 43) rfl (hb hby d8_14) (by decide) (by decide) k) ?_
  show Go p e below _ (T.setTop (mkF m 43 #[.val (.ref u3), .val nm] [(.ref o1)]))
  refine Go.ret X hx hlk hT hret rfl (riA rfl rfl) (hb hby d8_43) (by decide) (by decide) ?_
  exact ⟨_, rfl, N, keepE K0b, S_o1⟩
theorem pd_21 : parseMethodDescriptor "()V" = some ⟨[], none⟩ := by decide +kernel
theorem pd_22 : parseMethodDescriptor "(C)Ljava/lang/StringBuilder;" = some ⟨[.char], (some (.object "java/lang/StringBuilder"))⟩ := by decide +kernel
theorem pd_23 : parseMethodDescriptor "(Ljava/lang/String;)Ljava/lang/StringBuilder;" = some ⟨[(.object "java/lang/String")], (some (.object "java/lang/StringBuilder"))⟩ := by decide +kernel
theorem pd_24 : parseMethodDescriptor "()Ljava/lang/String;" = some ⟨[], (some (.object "java/lang/String"))⟩ := by decide +kernel
theorem d8_17 : decode prog_2_method_5_code 17 = .ok (.new 101, 3) := by decide +kernel
theorem d8_20 : decode prog_2_method_5_code 20 = .ok (.dup, 1) := by decide +kernel
theorem d8_21 : decode prog_2_method_5_code 21 = .ok (.invokespecial 103, 3) := by decide +kernel
theorem d8_24 : decode prog_2_method_5_code 24 = .ok (.aload_n 0, 1) := by decide +kernel
theorem d8_25 : decode prog_2_method_5_code 25 = .ok (.getfield 93, 3) := by decide +kernel
theorem d8_28 : decode prog_2_method_5_code 28 = .ok (.invokevirtual 104, 3) := by decide +kernel
theorem d8_31 : decode prog_2_method_5_code 31 = .ok (.ldc 108, 2) := by decide +kernel
theorem d8_33 : decode prog_2_method_5_code 33 = .ok (.invokevirtual 110, 3) := by decide +kernel
theorem d8_36 : decode prog_2_method_5_code 36 = .ok (.aload_n 1, 1) := by decide +kernel
theorem d8_37 : decode prog_2_method_5_code 37 = .ok (.invokevirtual 110, 3) := by decide +kernel
theorem d8_40 : decode prog_2_method_5_code 40 = .ok (.invokevirtual 113, 3) := by decide +kernel
set_option maxRecDepth 65536 in
set_option maxHeartbeats 40000000 in
theorem met_keyN (l : Launch) (Z : State) (a0 : Array Value) (hw : ∀ d ∈ tables_1, d.before a0 Z = true) (ws : List Jvm.Cond) (z lt : Int32) (n0 : Nat) (kk y : Addr) (ds : List Int32) {u0 u1 u2 u3 : Addr} (h0 : Heap) (O : Old Z n0 h0) (Sc : Stat Z z) (KD : Kinds Z u0 u1 u2 u3) (F_k : Fld Z Z.heap kk "com/example/nandi/nandi/model/Entry$Kind" "letter" "C" (.int lt)) (nek : kk ≠ u3) (ll : L8 lt) (S_y : Str Z h0 y ds) (hl : Lat ds) (hn : ds.length ≤ 3) :
    MetFree l (⟨"com/example/nandi/nandi/model/Entry", "key", "(Lcom/example/nandi/nandi/model/Entry$Kind;Ljava/lang/String;)Ljava/lang/String;"⟩ : MethodName) (head1 (Jvm.Cond.code (⟨"com/example/nandi/nandi/model/Entry", "key", "(Lcom/example/nandi/nandi/model/Entry$Kind;Ljava/lang/String;)Ljava/lang/String;"⟩ : MethodName) prog_2_method_5_code 2 (some (.object "java/lang/String")) :: ws) ({ frames := 6, cells := 6, slots := 48, locals := 133 } : Room)) (fun aa U => aa = #[(.ref kk), (.ref y)] ∧ Z.Warmed39 U.vm ∧ U.heap = h0 ∧ CHv Z EL0 U.vm h0) (fun _ _ _ _ _ => True) (fun _ U o U' => ∃ v L, o = .returned v ∧ QStr Z n0 (lt :: 58 :: ds) h0 v U'.heap L ∧ CHr Z EL0 U.vm U.heap U'.vm U'.heap ∧ ReturnedEndW U o U' L ({ frames := 6, cells := 6, slots := 48, locals := 133 } : Room).cells ({ frames := 6, cells := 6, slots := 48, locals := 133 } : Room).slots) := by
  refine openH (y := (⟨"com/example/nandi/nandi/model/Entry", "key", "(Lcom/example/nandi/nandi/model/Entry$Kind;Ljava/lang/String;)Ljava/lang/String;"⟩ : MethodName)) pn_30 ?_
  intro p e s m below meth c T vm hx hby hml hret hlk hnm hZ hown X hT H
  have hEL := own_EW hw
  refine Go.st (fun _ k => castTop (ef_AA_2 m kk y) k) ?_
  show Go p e below _ (T.setTop (mkF m 0 #[.val (.ref kk), .val (.ref y)] []))
  obtain ⟨T0, T1, T2, T3, L0, L1, L2, L3⟩ := KD
  have N := Fr.nil n0
  refine Go.st (fun _ k => XS.aloadN X.here hx rfl (hb hby d8_0) rfl rfl k) ?_
  show Go p e below _ (T.setTop (mkF m 1 #[.val (.ref kk), .val (.ref y)] [(.ref kk)]))
  obtain ⟨T, X, hT, st⟩ := getS2 X hx hZ hown (host := "") (Or.inl (hw _ (List.mem_of_getElem? (i := 42) rfl))) Via.refl hT (T3.ext (O).2) (g := (mkF m 1 #[.val (.ref kk), .val (.ref y)] [(.ref kk)])) rfl (hb hby d8_1)
  refine Go.st st ?_
  show Go p e below _ (T.setTop (mkF m 4 #[.val (.ref kk), .val (.ref y)] [(.ref u3), (.ref kk)]))
  refine Go.st (fun _ k => acmp X hx rfl (cd := .ne) rfl rfl (pc0 := 4) (pc' := 17) (same := false) rfl (hb hby d8_4) rfl (decide_eq_false (fun q => nek (Value.ref.inj q))) (by decide) (by decide) k) ?_
  show Go p e below _ (T.setTop (mkF m 17 #[.val (.ref kk), .val (.ref y)] []))
  obtain ⟨T, h1, X, hT, Ex0, A_x, D_x, -, st⟩ := newO X hx hZ hown (hw _ (List.mem_of_getElem? (i := 44) rfl)) (hw _ (List.mem_of_getElem? (i := 45) rfl)) (hw _ (List.mem_of_getElem? (i := 46) rfl)) hT (g := (mkF m 17 #[.val (.ref kk), .val (.ref y)] [])) rfl (hb hby d8_17) (by decide) (by decide)
  obtain ⟨x, g_x⟩ : ∃ z, z = h0.size := ⟨_, rfl⟩
  rw [← g_x] at A_x D_x st
  refine Go.st st ?_
  have ge_x : n0 ≤ x := Nat.le_trans (own_le (O)) (Nat.le_of_eq g_x.symm)
  have gk_x : h0.size ≤ x := Nat.le_trans (Keep.refl h0 []).1 (Nat.le_of_eq g_x.symm)
  have Sf_x := Safe.ext Ex0 H.2.1 (Safe.new (Nat.le_of_eq g_x.symm))
  have H := H.ext Ex0
  have KB := (Keep.refl h0 []).ext Ex0
  have F_x_value := D_x (Or.inl (hw _ (List.mem_of_getElem? (i := 59) rfl))) (ty := (.array .byte)) (by decide)
  have F_x_coder := D_x (Or.inl (hw _ (List.mem_of_getElem? (i := 61) rfl))) (ty := .byte) (by decide)
  have F_x_count := D_x (Or.inl (hw _ (List.mem_of_getElem? (i := 75) rfl))) (ty := .int) (by decide)
  show Go p e below _ (T.setTop (mkF m 20 #[.val (.ref kk), .val (.ref y)] [(.ref x)]))
  refine Go.st (fun _ k => XS.dup X.here hx rfl (hb hby d8_20) rfl rfl k) ?_
  show Go p e below _ (T.setTop (mkF m 21 #[.val (.ref kk), .val (.ref y)] [(.ref x), (.ref x)]))
  have O2 := O.keep KB all0
  have Sf0 := Sf_x
  refine Go.specP (argsL := []) (rest := [(.ref x)]) (W := 1) (ck := 1) (sk := 16) X hx hZ hown (hml.trans rfl) hT rfl (hw _ (List.mem_of_getElem? (i := 47) rfl)) (hw _ (List.mem_of_getElem? (i := 48) rfl)) (hw _ (List.mem_of_getElem? (i := 49) rfl)) (by decide) pd_21 rfl rfl (Nat.le_of_ble_eq_true rfl) (hb hby d8_21) (backOf (W := 1) (met_sbi l Z a0 hw [] z n0 x _ O2 Sc ge_x A_x F_x_value F_x_coder F_x_count) hZ (hw _ (List.mem_of_getElem? (i := 49) rfl)) (hw _ (List.mem_of_getElem? (i := 46) rfl)) (by decide) (by decide)) (by decide) (by decide) ?_
  intro v T h2 L hT hQ X
  obtain ⟨tv, kt, rfl, N0, K0, gk0, S_b⟩ := hQ
  have N := Fr.app N N0
  have Sf_tv := Safe.keep K0 (sfS Sf0 sf0) H.2.1 (Safe.new gk0)
  have Sf_x := Safe.keep K0 (sfS Sf0 sf0) H.2.1 Sf0
  have H := H.keep K0 (sfS Sf0 sf0)
  have ge_tv : n0 ≤ tv := Nat.le_trans (own_le O2) gk0
  have gk_tv : h0.size ≤ tv := Nat.le_trans (KB).1 gk0
  have KB := (KB).trans K0 (allS (Or.inr gk_x) all0)
  show Go p e below _ (T.setTop (mkF m 24 #[.val (.ref kk), .val (.ref y)] [(.ref x)]))
  refine Go.st (fun _ k => XS.aloadN X.here hx rfl (hb hby d8_24) rfl rfl k) ?_
  show Go p e below _ (T.setTop (mkF m 25 #[.val (.ref kk), .val (.ref y)] [(.ref kk), (.ref x)]))
  refine Go.st (own_getR X hx hZ hown (hw _ (List.mem_of_getElem? (i := 62) rfl)) hT (F_k.ext (O.keep KB all0).2) (g := (mkF m 25 #[.val (.ref kk), .val (.ref y)] [(.ref kk), (.ref x)])) rfl rfl (hb hby d8_25)) ?_
  show Go p e below _ (T.setTop (mkF m 28 #[.val (.ref kk), .val (.ref y)] [(.int lt), (.ref x)]))
  have O2 := O.keep KB all0
  refine Go.virtP (K := "java/lang/StringBuilder") (z := (⟨"java/lang/StringBuilder", "append", "(C)Ljava/lang/StringBuilder;"⟩ : MethodName)) (argsL := [(.int lt)]) (rest := []) (W := 0) (ck := 0) (sk := 0) X hx hZ hown (hml.trans rfl) hT S_b.1 (hw _ (List.mem_of_getElem? (i := 64) rfl)) (hw _ (List.mem_of_getElem? (i := 65) rfl)) (hw _ (List.mem_of_getElem? (i := 67) rfl)) (hw _ (List.mem_of_getElem? (i := 66) rfl)) (by decide) pd_22 rfl rfl (Nat.le_of_ble_eq_true rfl) (hb hby d8_28) (notFace_of_selects (args := #[]) (mvT hZ (hw _ (List.mem_of_getElem? (i := 67) rfl)))) (backOf (W := 0) (met_sac l Z a0 hw [] z n0 x tv kt ([] : List Int32) lt _ O2 Sc S_b ge_x ge_tv ll.1 ll.2 (by decide)) hZ (hw _ (List.mem_of_getElem? (i := 68) rfl)) (hw _ (List.mem_of_getElem? (i := 46) rfl)) (by decide) (by decide)) (by decide) (by decide) ?_
  intro v T h3 L hT hQ X
  obtain ⟨rfl, N0, K0, S_b⟩ := hQ
  have N := Fr.app N N0
  have SS := sfS Sf_x (sfS Sf_tv sf0)
  have Sf_x := Safe.keep K0 SS H.2.1 Sf_x
  have Sf_tv := Safe.keep K0 SS H.2.1 Sf_tv
  have H := H.keep K0 SS
  have KB := (KB).trans K0 (allS (Or.inr gk_x) (allS (Or.inr gk_tv) all0))
  have S_b : SB Z h3 x tv kt [lt] := S_b
  show Go p e below _ (T.setTop (mkF m 31 #[.val (.ref kk), .val (.ref y)] [(.ref x)]))
  refine Go.ldcS (text := ":") (vs := lows [(58 : Int32)]) (z := Int32.ofNat ([(58 : Int32)] : List Int32).length) (n := 4) H X hx hZ hown hT (hw _ (List.mem_of_getElem? (i := 90) rfl)) (own_wS hw) hEL (List.mem_of_getElem? (i := 0) rfl) ⟨by decide, by decide⟩ (by decide) (by decide) (hb hby d8_31) (by decide) (by decide) (by decide) (by decide) ?_
  intro r T h4 vm b_r k_r hT Ex0 hZ hown H Rc LE LC LV LA X
  have Sf_x := Rc.safe S_b.1.lt Sf_x
  have Sf_tv := Rc.safe S_b.2.2.2.2.lt Sf_tv
  have S_b := S_b.ext Ex0
  have KB := (KB).ext Ex0
  have S_r : Str Z h4 r [58] := own_lat_str (by decide) (by decide) LE LV LC LA
  show Go p e below _ (T.setTop (mkF m 33 #[.val (.ref kk), .val (.ref y)] [(.ref r), (.ref x)]))
  have O2 := O.keep KB all0
  refine Go.virtP (K := "java/lang/StringBuilder") (z := (⟨"java/lang/StringBuilder", "append", "(Ljava/lang/String;)Ljava/lang/StringBuilder;"⟩ : MethodName)) (argsL := [(.ref r)]) (rest := []) (W := 0) (ck := 0) (sk := 0) X hx hZ hown (hml.trans rfl) hT S_b.1 (hw _ (List.mem_of_getElem? (i := 93) rfl)) (hw _ (List.mem_of_getElem? (i := 94) rfl)) (hw _ (List.mem_of_getElem? (i := 96) rfl)) (hw _ (List.mem_of_getElem? (i := 95) rfl)) (by decide) pd_23 rfl rfl (Nat.le_of_ble_eq_true rfl) (hb hby d8_33) (notFace_of_selects (args := #[]) (mvT hZ (hw _ (List.mem_of_getElem? (i := 96) rfl)))) (backOf (W := 0) (met_sas l Z a0 hw [] z n0 x tv kt [lt] r [58] _ O2 Sc S_b ge_x ge_tv S_r (by decide) (by simp)) hZ (hw _ (List.mem_of_getElem? (i := 97) rfl)) (hw _ (List.mem_of_getElem? (i := 46) rfl)) (by decide) (by decide)) (by decide) (by decide) ?_
  intro v T h5 L hT hQ X
  obtain ⟨rfl, N0, K0, S_b⟩ := hQ
  have N := Fr.app N N0
  have SS := sfS Sf_x (sfS Sf_tv sf0)
  have Sf_x := Safe.keep K0 SS H.2.1 Sf_x
  have Sf_tv := Safe.keep K0 SS H.2.1 Sf_tv
  have H := H.keep K0 SS
  have KB := (KB).trans K0 (allS (Or.inr gk_x) (allS (Or.inr gk_tv) all0))
  have S_b : SB Z h5 x tv kt [lt, 58] := S_b
  show Go p e below _ (T.setTop (mkF m 36 #[.val (.ref kk), .val (.ref y)] [(.ref x)]))
  refine Go.st (fun _ k => XS.aloadN X.here hx rfl (hb hby d8_36) rfl rfl k) ?_
  show Go p e below _ (T.setTop (mkF m 37 #[.val (.ref kk), .val (.ref y)] [(.ref y), (.ref x)]))
  have S_y2 := S_y.ext (keepE KB)
  have O2 := O.keep KB all0
  refine Go.virtP (K := "java/lang/StringBuilder") (z := (⟨"java/lang/StringBuilder", "append", "(Ljava/lang/String;)Ljava/lang/StringBuilder;"⟩ : MethodName)) (argsL := [(.ref y)]) (rest := []) (W := 0) (ck := 0) (sk := 0) X hx hZ hown (hml.trans rfl) hT S_b.1 (hw _ (List.mem_of_getElem? (i := 93) rfl)) (hw _ (List.mem_of_getElem? (i := 94) rfl)) (hw _ (List.mem_of_getElem? (i := 96) rfl)) (hw _ (List.mem_of_getElem? (i := 95) rfl)) (by decide) pd_23 rfl rfl (Nat.le_of_ble_eq_true rfl) (hb hby d8_37) (notFace_of_selects (args := #[]) (mvT hZ (hw _ (List.mem_of_getElem? (i := 96) rfl)))) (backOf (W := 0) (met_sas l Z a0 hw [] z n0 x tv kt [lt, 58] y ds _ O2 Sc S_b ge_x ge_tv S_y2 hl (by simp only [List.length_cons, List.length_nil]; omega)) hZ (hw _ (List.mem_of_getElem? (i := 97) rfl)) (hw _ (List.mem_of_getElem? (i := 46) rfl)) (by decide) (by decide)) (by decide) (by decide) ?_
  intro v T h6 L hT hQ X
  obtain ⟨rfl, N0, K0, S_b⟩ := hQ
  have N := Fr.app N N0
  have SS := sfS Sf_x (sfS Sf_tv sf0)
  have Sf_x := Safe.keep K0 SS H.2.1 Sf_x
  have Sf_tv := Safe.keep K0 SS H.2.1 Sf_tv
  have H := H.keep K0 SS
  have KB := (KB).trans K0 (allS (Or.inr gk_x) (allS (Or.inr gk_tv) all0))
  have S_b : SB Z h6 x tv kt (lt :: 58 :: ds) := S_b
  show Go p e below _ (T.setTop (mkF m 40 #[.val (.ref kk), .val (.ref y)] [(.ref x)]))
  have O2 := O.keep KB all0
  refine Go.virtP (K := "java/lang/StringBuilder") (z := (⟨"java/lang/StringBuilder", "toString", "()Ljava/lang/String;"⟩ : MethodName)) (argsL := []) (rest := []) (W := 0) (ck := 2) (sk := 20) X hx hZ hown (hml.trans rfl) hT S_b.1 (hw _ (List.mem_of_getElem? (i := 132) rfl)) (hw _ (List.mem_of_getElem? (i := 133) rfl)) (hw _ (List.mem_of_getElem? (i := 135) rfl)) (hw _ (List.mem_of_getElem? (i := 134) rfl)) (by decide) pd_24 rfl rfl (Nat.le_of_ble_eq_true rfl) (hb hby d8_40) (notFace_of_selects (args := #[]) (mvT hZ (hw _ (List.mem_of_getElem? (i := 135) rfl)))) (backOf (W := 0) (met_sts l Z a0 hw [] z n0 x tv kt (lt :: 58 :: ds) _ O2 Sc S_b (own_latp ll hl) (by simp only [List.length_cons]; omega)) hZ (hw _ (List.mem_of_getElem? (i := 136) rfl)) (hw _ (List.mem_of_getElem? (i := 46) rfl)) (by decide) (by decide)) (by decide) (by decide) ?_
  intro v T h7 L hT hQ X
  obtain ⟨o1, rfl, N0, Ex0, S_o⟩ := hQ
  have N := Fr.app N N0
  have H := H.ext Ex0
  have KB := (KB).ext Ex0
  show Go p e below _ (T.setTop (mkF m 43 #[.val (.ref kk), .val (.ref y)] [(.ref o1)]))
  refine Go.retH hEL H hZ X hx hlk hT hret rfl (riA rfl rfl) (hb hby d8_43) (by decide) (by decide) ?_
  exact ⟨o1, rfl, N, keepE KB, S_o⟩
theorem pd_25 : parseMethodDescriptor "(ICCC)Ljava/lang/String;" = some ⟨[.int, .char, .char, .char], (some (.object "java/lang/String"))⟩ := by decide +kernel
theorem pd_26 : parseMethodDescriptor "(Lcom/example/nandi/nandi/model/Entry$Kind;Ljava/lang/String;)Ljava/lang/String;" = some ⟨[(.object "com/example/nandi/nandi/model/Entry$Kind"), (.object "java/lang/String")], (some (.object "java/lang/String"))⟩ := by decide +kernel
theorem pd_27 : parseMethodDescriptor "(CICCC)Ljava/lang/String;" = some ⟨[.char, .int, .char, .char, .char], (some (.object "java/lang/String"))⟩ := by decide +kernel
theorem pd_28 : parseMethodDescriptor "(Ljava/lang/Object;)Z" = some ⟨[(.object "java/lang/Object")], (some .boolean)⟩ := by decide +kernel
def QLaw (n0 : Nat) (v : Option Value) (h : Heap) (L : List Loc) : Prop := v = some (.int 1) ∧ Fr n0 L
theorem pn_31 : plainFor x = true := by first | exact plainFor_of_name (by first | (simp [plainName, overriddenIn]; done) | decide +kernel) | decide +kernel
theorem ef_IIJ_15 (m : MethodId) (y0 : Int32) (y1 : Int32) (y2 : Int64) : entryFrame m #[(.int y0), (.int y1), (.long y2)] 15 = mkF m 0 #[.val (.int y0), .val (.int y1), .val (.long y2), .second, .unset, .unset, .unset, .unset, .unset, .unset, .unset, .unset, .unset, .unset, .unset] [] := by first | (simp [entryFrame, mkF, argsToLocals, Value.category]; done) | rfl
set_option maxRecDepth 65536 in
set_option maxHeartbeats 40000000 in
theorem met_law (l : Launch) (Z : State) (a0 : Array Value) (hw : ∀ d ∈ tables_1, d.before a0 Z = true) (ws : List Jvm.Cond) (p0 p1 : Int32) (p2 : Int64) (z : Int32) (n0 : Nat) {u0 u1 u2 u3 : Addr} (h0 : Heap) (O : Old Z n0 h0) (Sc : Stat Z z) (KD : Kinds Z u0 u1 u2 u3) :
    MetFree l x (head1 (Jvm.Cond.code x code maxLocals ret :: ws) room_1) (fun aa U => aa = #[(.int p0), (.int p1), (.long p2)] ∧ Z.Warmed39 U.vm ∧ U.heap = h0 ∧ CHv Z EL0 U.vm h0) (fun _ _ _ _ _ => True) (fun _ U o U' => ∃ v L, o = .returned v ∧ QLaw n0 v U'.heap L ∧ CHr Z EL0 U.vm U.heap U'.vm U'.heap ∧ ReturnedEndW U o U' L room_1.cells room_1.slots) := by
  refine openH (y := x) pn_31 ?_
  intro p e s m below meth c T vm hx hby hml hret hlk hnm hZ hown X hT H
  have hEL := own_EW hw
  refine Go.st (fun _ k => castTop (ef_IIJ_15 m p0 p1 p2) k) ?_
  show Go p e below _ (T.setTop (mkF m 0 #[.val (.int p0), .val (.int p1), .val (.long p2), .second, .unset, .unset, .unset, .unset, .unset, .unset, .unset, .unset, .unset, .unset, .unset] []))
  have KD0 := KD
  obtain ⟨T0, T1, T2, T3, L0, L1, L2, L3⟩ := KD
  have N := Fr.nil n0
  have ne03 : u0 ≠ u3 := L0.ne L3 (by decide)
  have ne13 : u1 ≠ u3 := L1.ne L3 (by decide)
  have ne23 : u2 ≠ u3 := L2.ne L3 (by decide)
  refine Go.st (fun _ k => XS.iloadN X.here hx rfl (hb hby at_0) rfl k) ?_
  show Go p e below _ (T.setTop (mkF m 1 #[.val (.int p0), .val (.int p1), .val (.long p2), .second, .unset, .unset, .unset, .unset, .unset, .unset, .unset, .unset, .unset, .unset, .unset] [(.int p0)]))
  refine Go.st (fun _ k => XS.iconst X.here hx rfl (hb hby at_1) k) ?_
  show Go p e below _ (T.setTop (mkF m 2 #[.val (.int p0), .val (.int p1), .val (.long p2), .second, .unset, .unset, .unset, .unset, .unset, .unset, .unset, .unset, .unset, .unset, .unset] [(.int (3 : Int32)), (.int p0)]))
  refine Go.st (fun _ k => XS.iand X.here hx rfl (hb hby at_2) rfl k) ?_
  show Go p e below _ (T.setTop (mkF m 3 #[.val (.int p0), .val (.int p1), .val (.long p2), .second, .unset, .unset, .unset, .unset, .unset, .unset, .unset, .unset, .unset, .unset, .unset] [(.int (p0 &&& (3 : Int32)))]))
  refine Go.st (fun _ k => XS.istore X.here hx rfl (hb hby at_3) rfl (l' := #[.val (.int p0), .val (.int p1), .val (.long p2), .second, .val (.int (p0 &&& (3 : Int32))), .unset, .unset, .unset, .unset, .unset, .unset, .unset, .unset, .unset, .unset]) rfl k) ?_
  show Go p e below _ (T.setTop (mkF m 5 #[.val (.int p0), .val (.int p1), .val (.long p2), .second, .val (.int (p0 &&& (3 : Int32))), .unset, .unset, .unset, .unset, .unset, .unset, .unset, .unset, .unset, .unset] []))
  refine Go.st (fun _ k => XS.iload X.here hx rfl (hb hby at_5) rfl k) ?_
  show Go p e below _ (T.setTop (mkF m 7 #[.val (.int p0), .val (.int p1), .val (.long p2), .second, .val (.int (p0 &&& (3 : Int32))), .unset, .unset, .unset, .unset, .unset, .unset, .unset, .unset, .unset, .unset] [(.int (p0 &&& (3 : Int32)))]))
  by_cases hc1 : (p0 &&& (3 : Int32)) = (0 : Int32)
  · refine Go.st (fun _ k => XS.ifNo X.here hx rfl (hb hby at_7) rfl (Jvm.Free.XT.i0_ne_f hc1) k) ?_
    show Go p e below _ (T.setTop (mkF m 10 #[.val (.int p0), .val (.int p1), .val (.long p2), .second, .val (.int (p0 &&& (3 : Int32))), .unset, .unset, .unset, .unset, .unset, .unset, .unset, .unset, .unset, .unset] []))
    obtain ⟨T, X, hT, st⟩ := getS2 X hx hZ hown (host := "") (Or.inl (hw _ (List.mem_of_getElem? (i := 0) rfl))) Via.refl hT (T0.ext (O).2) (g := (mkF m 10 #[.val (.int p0), .val (.int p1), .val (.long p2), .second, .val (.int (p0 &&& (3 : Int32))), .unset, .unset, .unset, .unset, .unset, .unset, .unset, .unset, .unset, .unset] [])) rfl (hb hby at_10)
    refine Go.st st ?_
    show Go p e below _ (T.setTop (mkF m 13 #[.val (.int p0), .val (.int p1), .val (.long p2), .second, .val (.int (p0 &&& (3 : Int32))), .unset, .unset, .unset, .unset, .unset, .unset, .unset, .unset, .unset, .unset] [(.ref u0)]))
    refine Go.st (fun _ k => XS.astore X.here hx rfl (hb hby at_13) rfl rfl (l' := #[.val (.int p0), .val (.int p1), .val (.long p2), .second, .val (.int (p0 &&& (3 : Int32))), .val (.ref u0), .unset, .unset, .unset, .unset, .unset, .unset, .unset, .unset, .unset]) rfl k) ?_
    show Go p e below _ (T.setTop (mkF m 15 #[.val (.int p0), .val (.int p1), .val (.long p2), .second, .val (.int (p0 &&& (3 : Int32))), .val (.ref u0), .unset, .unset, .unset, .unset, .unset, .unset, .unset, .unset, .unset] []))
    refine Go.st (fun _ k => XS.bipush X.here hx rfl (hb hby at_15) k) ?_
    show Go p e below _ (T.setTop (mkF m 17 #[.val (.int p0), .val (.int p1), .val (.long p2), .second, .val (.int (p0 &&& (3 : Int32))), .val (.ref u0), .unset, .unset, .unset, .unset, .unset, .unset, .unset, .unset, .unset] [(.int (117 : Int32))]))
    refine Go.st (fun _ k => XS.istore X.here hx rfl (hb hby at_17) rfl (l' := #[.val (.int p0), .val (.int p1), .val (.long p2), .second, .val (.int (p0 &&& (3 : Int32))), .val (.ref u0), .val (.int (117 : Int32)), .unset, .unset, .unset, .unset, .unset, .unset, .unset, .unset]) rfl k) ?_
    show Go p e below _ (T.setTop (mkF m 19 #[.val (.int p0), .val (.int p1), .val (.long p2), .second, .val (.int (p0 &&& (3 : Int32))), .val (.ref u0), .val (.int (117 : Int32)), .unset, .unset, .unset, .unset, .unset, .unset, .unset, .unset] []))
    refine Go.st (fun _ k => XS.goto X.here hx rfl (pc0 := 19) (pc' := 67) rfl (hb hby at_19) (by decide) (by decide) k) ?_
    show Go p e below _ (T.setTop (mkF m 67 #[.val (.int p0), .val (.int p1), .val (.long p2), .second, .val (.int (p0 &&& (3 : Int32))), .val (.ref u0), .val (.int (117 : Int32)), .unset, .unset, .unset, .unset, .unset, .unset, .unset, .unset] []))
    refine Go.st (fun _ k => XS.iloadN X.here hx rfl (hb hby at_67) rfl k) ?_
    show Go p e below _ (T.setTop (mkF m 68 #[.val (.int p0), .val (.int p1), .val (.long p2), .second, .val (.int (p0 &&& (3 : Int32))), .val (.ref u0), .val (.int (117 : Int32)), .unset, .unset, .unset, .unset, .unset, .unset, .unset, .unset] [(.int p1)]))
    refine Go.st (fun _ k => XS.iconst X.here hx rfl (hb hby at_68) k) ?_
    show Go p e below _ (T.setTop (mkF m 69 #[.val (.int p0), .val (.int p1), .val (.long p2), .second, .val (.int (p0 &&& (3 : Int32))), .val (.ref u0), .val (.int (117 : Int32)), .unset, .unset, .unset, .unset, .unset, .unset, .unset, .unset] [(.int (3 : Int32)), (.int p1)]))
    refine Go.st (fun _ k => XS.iand X.here hx rfl (hb hby at_69) rfl k) ?_
    show Go p e below _ (T.setTop (mkF m 70 #[.val (.int p0), .val (.int p1), .val (.long p2), .second, .val (.int (p0 &&& (3 : Int32))), .val (.ref u0), .val (.int (117 : Int32)), .unset, .unset, .unset, .unset, .unset, .unset, .unset, .unset] [(.int (p1 &&& (3 : Int32)))]))
    refine Go.st (fun _ k => XS.istore X.here hx rfl (hb hby at_70) rfl (l' := #[.val (.int p0), .val (.int p1), .val (.long p2), .second, .val (.int (p0 &&& (3 : Int32))), .val (.ref u0), .val (.int (117 : Int32)), .val (.int (p1 &&& (3 : Int32))), .unset, .unset, .unset, .unset, .unset, .unset, .unset]) rfl k) ?_
    show Go p e below _ (T.setTop (mkF m 72 #[.val (.int p0), .val (.int p1), .val (.long p2), .second, .val (.int (p0 &&& (3 : Int32))), .val (.ref u0), .val (.int (117 : Int32)), .val (.int (p1 &&& (3 : Int32))), .unset, .unset, .unset, .unset, .unset, .unset, .unset] []))
    refine Go.st (fun _ k => XS.lloadN X.here hx rfl (hb hby at_72) rfl k) ?_
    show Go p e below _ (T.setTop (mkF m 73 #[.val (.int p0), .val (.int p1), .val (.long p2), .second, .val (.int (p0 &&& (3 : Int32))), .val (.ref u0), .val (.int (117 : Int32)), .val (.int (p1 &&& (3 : Int32))), .unset, .unset, .unset, .unset, .unset, .unset, .unset] [(.long p2)]))
    refine Go.st (fun _ k => X.ldc2J hx hown (mvT hZ (hw _ (List.mem_of_getElem? (i := 3) rfl))) rfl (hb hby at_73) k) ?_
    show Go p e below _ (T.setTop (mkF m 76 #[.val (.int p0), .val (.int p1), .val (.long p2), .second, .val (.int (p0 &&& (3 : Int32))), .val (.ref u0), .val (.int (117 : Int32)), .val (.int (p1 &&& (3 : Int32))), .unset, .unset, .unset, .unset, .unset, .unset, .unset] [(.long (255 : Int64)), (.long p2)]))
    refine Go.st (fun _ k => XS.land X.here hx rfl (hb hby at_76) rfl k) ?_
    show Go p e below _ (T.setTop (mkF m 77 #[.val (.int p0), .val (.int p1), .val (.long p2), .second, .val (.int (p0 &&& (3 : Int32))), .val (.ref u0), .val (.int (117 : Int32)), .val (.int (p1 &&& (3 : Int32))), .unset, .unset, .unset, .unset, .unset, .unset, .unset] [(.long (p2 &&& (255 : Int64)))]))
    refine Go.st (fun _ k => XS.l2i X.here hx rfl (hb hby at_77) rfl k) ?_
    show Go p e below _ (T.setTop (mkF m 78 #[.val (.int p0), .val (.int p1), .val (.long p2), .second, .val (.int (p0 &&& (3 : Int32))), .val (.ref u0), .val (.int (117 : Int32)), .val (.int (p1 &&& (3 : Int32))), .unset, .unset, .unset, .unset, .unset, .unset, .unset] [(.int ((p2 &&& (255 : Int64)).toInt32))]))
    refine Go.st (fun _ k => XS.i2c X.here hx rfl (hb hby at_78) rfl k) ?_
    show Go p e below _ (T.setTop (mkF m 79 #[.val (.int p0), .val (.int p1), .val (.long p2), .second, .val (.int (p0 &&& (3 : Int32))), .val (.ref u0), .val (.int (117 : Int32)), .val (.int (p1 &&& (3 : Int32))), .unset, .unset, .unset, .unset, .unset, .unset, .unset] [(.int (((p2 &&& (255 : Int64)).toInt32).toUInt32.toUInt16.toUInt32.toInt32))]))
    obtain ⟨c0, hg0⟩ : ∃ z, z = (((p2 &&& (255 : Int64)).toInt32).toUInt32.toUInt16.toUInt32.toInt32) := ⟨_, rfl⟩
    rw [← hg0]
    show Go p e below _ (T.setTop (mkF m 79 #[.val (.int p0), .val (.int p1), .val (.long p2), .second, .val (.int (p0 &&& (3 : Int32))), .val (.ref u0), .val (.int (117 : Int32)), .val (.int (p1 &&& (3 : Int32))), .unset, .unset, .unset, .unset, .unset, .unset, .unset] [(.int c0)]))
    have l0 : L8 c0 := hg0 ▸ own_k8 _
    refine Go.st (fun _ k => XS.istore X.here hx rfl (hb hby at_79) rfl (l' := #[.val (.int p0), .val (.int p1), .val (.long p2), .second, .val (.int (p0 &&& (3 : Int32))), .val (.ref u0), .val (.int (117 : Int32)), .val (.int (p1 &&& (3 : Int32))), .val (.int c0), .unset, .unset, .unset, .unset, .unset, .unset]) rfl k) ?_
    show Go p e below _ (T.setTop (mkF m 81 #[.val (.int p0), .val (.int p1), .val (.long p2), .second, .val (.int (p0 &&& (3 : Int32))), .val (.ref u0), .val (.int (117 : Int32)), .val (.int (p1 &&& (3 : Int32))), .val (.int c0), .unset, .unset, .unset, .unset, .unset, .unset] []))
    refine Go.st (fun _ k => XS.lloadN X.here hx rfl (hb hby at_81) rfl k) ?_
    show Go p e below _ (T.setTop (mkF m 82 #[.val (.int p0), .val (.int p1), .val (.long p2), .second, .val (.int (p0 &&& (3 : Int32))), .val (.ref u0), .val (.int (117 : Int32)), .val (.int (p1 &&& (3 : Int32))), .val (.int c0), .unset, .unset, .unset, .unset, .unset, .unset] [(.long p2)]))
    refine Go.st (fun _ k => XS.bipush X.here hx rfl (hb hby at_82) k) ?_
    show Go p e below _ (T.setTop (mkF m 84 #[.val (.int p0), .val (.int p1), .val (.long p2), .second, .val (.int (p0 &&& (3 : Int32))), .val (.ref u0), .val (.int (117 : Int32)), .val (.int (p1 &&& (3 : Int32))), .val (.int c0), .unset, .unset, .unset, .unset, .unset, .unset] [(.int (8 : Int32)), (.long p2)]))
    refine Go.st (fun _ k => XS.lushr X.here hx rfl (hb hby at_84) rfl k) ?_
    show Go p e below _ (T.setTop (mkF m 85 #[.val (.int p0), .val (.int p1), .val (.long p2), .second, .val (.int (p0 &&& (3 : Int32))), .val (.ref u0), .val (.int (117 : Int32)), .val (.int (p1 &&& (3 : Int32))), .val (.int c0), .unset, .unset, .unset, .unset, .unset, .unset] [(.long (((p2).toUInt64 >>> ((8 : Int32) &&& 0x3f).toInt64.toUInt64).toInt64))]))
    refine Go.st (fun _ k => X.ldc2J hx hown (mvT hZ (hw _ (List.mem_of_getElem? (i := 3) rfl))) rfl (hb hby at_85) k) ?_
    show Go p e below _ (T.setTop (mkF m 88 #[.val (.int p0), .val (.int p1), .val (.long p2), .second, .val (.int (p0 &&& (3 : Int32))), .val (.ref u0), .val (.int (117 : Int32)), .val (.int (p1 &&& (3 : Int32))), .val (.int c0), .unset, .unset, .unset, .unset, .unset, .unset] [(.long (255 : Int64)), (.long (((p2).toUInt64 >>> ((8 : Int32) &&& 0x3f).toInt64.toUInt64).toInt64))]))
    refine Go.st (fun _ k => XS.land X.here hx rfl (hb hby at_88) rfl k) ?_
    show Go p e below _ (T.setTop (mkF m 89 #[.val (.int p0), .val (.int p1), .val (.long p2), .second, .val (.int (p0 &&& (3 : Int32))), .val (.ref u0), .val (.int (117 : Int32)), .val (.int (p1 &&& (3 : Int32))), .val (.int c0), .unset, .unset, .unset, .unset, .unset, .unset] [(.long ((((p2).toUInt64 >>> ((8 : Int32) &&& 0x3f).toInt64.toUInt64).toInt64) &&& (255 : Int64)))]))
    refine Go.st (fun _ k => XS.l2i X.here hx rfl (hb hby at_89) rfl k) ?_
    show Go p e below _ (T.setTop (mkF m 90 #[.val (.int p0), .val (.int p1), .val (.long p2), .second, .val (.int (p0 &&& (3 : Int32))), .val (.ref u0), .val (.int (117 : Int32)), .val (.int (p1 &&& (3 : Int32))), .val (.int c0), .unset, .unset, .unset, .unset, .unset, .unset] [(.int (((((p2).toUInt64 >>> ((8 : Int32) &&& 0x3f).toInt64.toUInt64).toInt64) &&& (255 : Int64)).toInt32))]))
    refine Go.st (fun _ k => XS.i2c X.here hx rfl (hb hby at_90) rfl k) ?_
    show Go p e below _ (T.setTop (mkF m 91 #[.val (.int p0), .val (.int p1), .val (.long p2), .second, .val (.int (p0 &&& (3 : Int32))), .val (.ref u0), .val (.int (117 : Int32)), .val (.int (p1 &&& (3 : Int32))), .val (.int c0), .unset, .unset, .unset, .unset, .unset, .unset] [(.int ((((((p2).toUInt64 >>> ((8 : Int32) &&& 0x3f).toInt64.toUInt64).toInt64) &&& (255 : Int64)).toInt32).toUInt32.toUInt16.toUInt32.toInt32))]))
    obtain ⟨c1, hg1⟩ : ∃ z, z = ((((((p2).toUInt64 >>> ((8 : Int32) &&& 0x3f).toInt64.toUInt64).toInt64) &&& (255 : Int64)).toInt32).toUInt32.toUInt16.toUInt32.toInt32) := ⟨_, rfl⟩
    rw [← hg1]
    show Go p e below _ (T.setTop (mkF m 91 #[.val (.int p0), .val (.int p1), .val (.long p2), .second, .val (.int (p0 &&& (3 : Int32))), .val (.ref u0), .val (.int (117 : Int32)), .val (.int (p1 &&& (3 : Int32))), .val (.int c0), .unset, .unset, .unset, .unset, .unset, .unset] [(.int c1)]))
    have l1 : L8 c1 := hg1 ▸ own_k8 _
    refine Go.st (fun _ k => XS.istore X.here hx rfl (hb hby at_91) rfl (l' := #[.val (.int p0), .val (.int p1), .val (.long p2), .second, .val (.int (p0 &&& (3 : Int32))), .val (.ref u0), .val (.int (117 : Int32)), .val (.int (p1 &&& (3 : Int32))), .val (.int c0), .val (.int c1), .unset, .unset, .unset, .unset, .unset]) rfl k) ?_
    show Go p e below _ (T.setTop (mkF m 93 #[.val (.int p0), .val (.int p1), .val (.long p2), .second, .val (.int (p0 &&& (3 : Int32))), .val (.ref u0), .val (.int (117 : Int32)), .val (.int (p1 &&& (3 : Int32))), .val (.int c0), .val (.int c1), .unset, .unset, .unset, .unset, .unset] []))
    refine Go.st (fun _ k => XS.lloadN X.here hx rfl (hb hby at_93) rfl k) ?_
    show Go p e below _ (T.setTop (mkF m 94 #[.val (.int p0), .val (.int p1), .val (.long p2), .second, .val (.int (p0 &&& (3 : Int32))), .val (.ref u0), .val (.int (117 : Int32)), .val (.int (p1 &&& (3 : Int32))), .val (.int c0), .val (.int c1), .unset, .unset, .unset, .unset, .unset] [(.long p2)]))
    refine Go.st (fun _ k => XS.bipush X.here hx rfl (hb hby at_94) k) ?_
    show Go p e below _ (T.setTop (mkF m 96 #[.val (.int p0), .val (.int p1), .val (.long p2), .second, .val (.int (p0 &&& (3 : Int32))), .val (.ref u0), .val (.int (117 : Int32)), .val (.int (p1 &&& (3 : Int32))), .val (.int c0), .val (.int c1), .unset, .unset, .unset, .unset, .unset] [(.int (16 : Int32)), (.long p2)]))
    refine Go.st (fun _ k => XS.lushr X.here hx rfl (hb hby at_96) rfl k) ?_
    show Go p e below _ (T.setTop (mkF m 97 #[.val (.int p0), .val (.int p1), .val (.long p2), .second, .val (.int (p0 &&& (3 : Int32))), .val (.ref u0), .val (.int (117 : Int32)), .val (.int (p1 &&& (3 : Int32))), .val (.int c0), .val (.int c1), .unset, .unset, .unset, .unset, .unset] [(.long (((p2).toUInt64 >>> ((16 : Int32) &&& 0x3f).toInt64.toUInt64).toInt64))]))
    refine Go.st (fun _ k => X.ldc2J hx hown (mvT hZ (hw _ (List.mem_of_getElem? (i := 3) rfl))) rfl (hb hby at_97) k) ?_
    show Go p e below _ (T.setTop (mkF m 100 #[.val (.int p0), .val (.int p1), .val (.long p2), .second, .val (.int (p0 &&& (3 : Int32))), .val (.ref u0), .val (.int (117 : Int32)), .val (.int (p1 &&& (3 : Int32))), .val (.int c0), .val (.int c1), .unset, .unset, .unset, .unset, .unset] [(.long (255 : Int64)), (.long (((p2).toUInt64 >>> ((16 : Int32) &&& 0x3f).toInt64.toUInt64).toInt64))]))
    refine Go.st (fun _ k => XS.land X.here hx rfl (hb hby at_100) rfl k) ?_
    show Go p e below _ (T.setTop (mkF m 101 #[.val (.int p0), .val (.int p1), .val (.long p2), .second, .val (.int (p0 &&& (3 : Int32))), .val (.ref u0), .val (.int (117 : Int32)), .val (.int (p1 &&& (3 : Int32))), .val (.int c0), .val (.int c1), .unset, .unset, .unset, .unset, .unset] [(.long ((((p2).toUInt64 >>> ((16 : Int32) &&& 0x3f).toInt64.toUInt64).toInt64) &&& (255 : Int64)))]))
    refine Go.st (fun _ k => XS.l2i X.here hx rfl (hb hby at_101) rfl k) ?_
    show Go p e below _ (T.setTop (mkF m 102 #[.val (.int p0), .val (.int p1), .val (.long p2), .second, .val (.int (p0 &&& (3 : Int32))), .val (.ref u0), .val (.int (117 : Int32)), .val (.int (p1 &&& (3 : Int32))), .val (.int c0), .val (.int c1), .unset, .unset, .unset, .unset, .unset] [(.int (((((p2).toUInt64 >>> ((16 : Int32) &&& 0x3f).toInt64.toUInt64).toInt64) &&& (255 : Int64)).toInt32))]))
    refine Go.st (fun _ k => XS.i2c X.here hx rfl (hb hby at_102) rfl k) ?_
    show Go p e below _ (T.setTop (mkF m 103 #[.val (.int p0), .val (.int p1), .val (.long p2), .second, .val (.int (p0 &&& (3 : Int32))), .val (.ref u0), .val (.int (117 : Int32)), .val (.int (p1 &&& (3 : Int32))), .val (.int c0), .val (.int c1), .unset, .unset, .unset, .unset, .unset] [(.int ((((((p2).toUInt64 >>> ((16 : Int32) &&& 0x3f).toInt64.toUInt64).toInt64) &&& (255 : Int64)).toInt32).toUInt32.toUInt16.toUInt32.toInt32))]))
    obtain ⟨c2, hg2⟩ : ∃ z, z = ((((((p2).toUInt64 >>> ((16 : Int32) &&& 0x3f).toInt64.toUInt64).toInt64) &&& (255 : Int64)).toInt32).toUInt32.toUInt16.toUInt32.toInt32) := ⟨_, rfl⟩
    rw [← hg2]
    show Go p e below _ (T.setTop (mkF m 103 #[.val (.int p0), .val (.int p1), .val (.long p2), .second, .val (.int (p0 &&& (3 : Int32))), .val (.ref u0), .val (.int (117 : Int32)), .val (.int (p1 &&& (3 : Int32))), .val (.int c0), .val (.int c1), .unset, .unset, .unset, .unset, .unset] [(.int c2)]))
    have l2 : L8 c2 := hg2 ▸ own_k8 _
    refine Go.st (fun _ k => XS.istore X.here hx rfl (hb hby at_103) rfl (l' := #[.val (.int p0), .val (.int p1), .val (.long p2), .second, .val (.int (p0 &&& (3 : Int32))), .val (.ref u0), .val (.int (117 : Int32)), .val (.int (p1 &&& (3 : Int32))), .val (.int c0), .val (.int c1), .val (.int c2), .unset, .unset, .unset, .unset]) rfl k) ?_
    show Go p e below _ (T.setTop (mkF m 105 #[.val (.int p0), .val (.int p1), .val (.long p2), .second, .val (.int (p0 &&& (3 : Int32))), .val (.ref u0), .val (.int (117 : Int32)), .val (.int (p1 &&& (3 : Int32))), .val (.int c0), .val (.int c1), .val (.int c2), .unset, .unset, .unset, .unset] []))
    refine Go.st (fun _ k => XS.iload X.here hx rfl (hb hby at_105) rfl k) ?_
    show Go p e below _ (T.setTop (mkF m 107 #[.val (.int p0), .val (.int p1), .val (.long p2), .second, .val (.int (p0 &&& (3 : Int32))), .val (.ref u0), .val (.int (117 : Int32)), .val (.int (p1 &&& (3 : Int32))), .val (.int c0), .val (.int c1), .val (.int c2), .unset, .unset, .unset, .unset] [(.int (p1 &&& (3 : Int32)))]))
    refine Go.st (fun _ k => XS.iload X.here hx rfl (hb hby at_107) rfl k) ?_
    show Go p e below _ (T.setTop (mkF m 109 #[.val (.int p0), .val (.int p1), .val (.long p2), .second, .val (.int (p0 &&& (3 : Int32))), .val (.ref u0), .val (.int (117 : Int32)), .val (.int (p1 &&& (3 : Int32))), .val (.int c0), .val (.int c1), .val (.int c2), .unset, .unset, .unset, .unset] [(.int c0), (.int (p1 &&& (3 : Int32)))]))
    refine Go.st (fun _ k => XS.iload X.here hx rfl (hb hby at_109) rfl k) ?_
    show Go p e below _ (T.setTop (mkF m 111 #[.val (.int p0), .val (.int p1), .val (.long p2), .second, .val (.int (p0 &&& (3 : Int32))), .val (.ref u0), .val (.int (117 : Int32)), .val (.int (p1 &&& (3 : Int32))), .val (.int c0), .val (.int c1), .val (.int c2), .unset, .unset, .unset, .unset] [(.int c1), (.int c0), (.int (p1 &&& (3 : Int32)))]))
    refine Go.st (fun _ k => XS.iload X.here hx rfl (hb hby at_111) rfl k) ?_
    show Go p e below _ (T.setTop (mkF m 113 #[.val (.int p0), .val (.int p1), .val (.long p2), .second, .val (.int (p0 &&& (3 : Int32))), .val (.ref u0), .val (.int (117 : Int32)), .val (.int (p1 &&& (3 : Int32))), .val (.int c0), .val (.int c1), .val (.int c2), .unset, .unset, .unset, .unset] [(.int c2), (.int c1), (.int c0), (.int (p1 &&& (3 : Int32)))]))
    refine Go.callH (argsL := [(.int (p1 &&& (3 : Int32))), (.int c0), (.int c1), (.int c2)]) (rest := []) (W := 0) (ck := 6) (sk := 18) H X hx hZ hown (hml.trans rfl) hT (hw _ (List.mem_of_getElem? (i := 4) rfl)) (hw _ (List.mem_of_getElem? (i := 5) rfl)) (hw _ (List.mem_of_getElem? (i := 6) rfl)) (hw _ (List.mem_of_getElem? (i := 7) rfl)) (by decide) pd_25 rfl rfl (Nat.le_of_ble_eq_true rfl) (hb hby at_113) (backOfSH (W := 0) (met_word l Z a0 hw [] (p1 &&& (3 : Int32)) c0 c1 c2 z n0 _ O Sc l0 l1 l2) hZ (hw _ (List.mem_of_getElem? (i := 7) rfl)) (hw _ (List.mem_of_getElem? (i := 6) rfl)) (by decide) (by decide) hEL H.2.1) (by decide) (by decide) ?_
    intro v T h1 L vm hT hQ hZ hown H Rc X
    obtain ⟨o2, rfl, N0, Ex0, S_o2⟩ := hQ
    have N := Fr.app N N0
    have KB := (Keep.refl h0 []).ext Ex0
    have O := O.keep KB all0
    show Go p e below _ (T.setTop (mkF m 116 #[.val (.int p0), .val (.int p1), .val (.long p2), .second, .val (.int (p0 &&& (3 : Int32))), .val (.ref u0), .val (.int (117 : Int32)), .val (.int (p1 &&& (3 : Int32))), .val (.int c0), .val (.int c1), .val (.int c2), .unset, .unset, .unset, .unset] [(.ref o2)]))
    refine Go.st (fun _ k => XS.astore X.here hx rfl (hb hby at_116) rfl rfl (l' := #[.val (.int p0), .val (.int p1), .val (.long p2), .second, .val (.int (p0 &&& (3 : Int32))), .val (.ref u0), .val (.int (117 : Int32)), .val (.int (p1 &&& (3 : Int32))), .val (.int c0), .val (.int c1), .val (.int c2), .val (.ref o2), .unset, .unset, .unset]) rfl k) ?_
    show Go p e below _ (T.setTop (mkF m 118 #[.val (.int p0), .val (.int p1), .val (.long p2), .second, .val (.int (p0 &&& (3 : Int32))), .val (.ref u0), .val (.int (117 : Int32)), .val (.int (p1 &&& (3 : Int32))), .val (.int c0), .val (.int c1), .val (.int c2), .val (.ref o2), .unset, .unset, .unset] []))
    refine Go.st (fun _ k => XS.iloadN X.here hx rfl (hb hby at_118) rfl k) ?_
    show Go p e below _ (T.setTop (mkF m 119 #[.val (.int p0), .val (.int p1), .val (.long p2), .second, .val (.int (p0 &&& (3 : Int32))), .val (.ref u0), .val (.int (117 : Int32)), .val (.int (p1 &&& (3 : Int32))), .val (.int c0), .val (.int c1), .val (.int c2), .val (.ref o2), .unset, .unset, .unset] [(.int p0)]))
    refine Go.st (fun _ k => XS.iconst X.here hx rfl (hb hby at_119) k) ?_
    show Go p e below _ (T.setTop (mkF m 120 #[.val (.int p0), .val (.int p1), .val (.long p2), .second, .val (.int (p0 &&& (3 : Int32))), .val (.ref u0), .val (.int (117 : Int32)), .val (.int (p1 &&& (3 : Int32))), .val (.int c0), .val (.int c1), .val (.int c2), .val (.ref o2), .unset, .unset, .unset] [(.int (2 : Int32)), (.int p0)]))
    refine Go.st (fun _ k => XS.iushr X.here hx rfl (hb hby at_120) rfl k) ?_
    show Go p e below _ (T.setTop (mkF m 121 #[.val (.int p0), .val (.int p1), .val (.long p2), .second, .val (.int (p0 &&& (3 : Int32))), .val (.ref u0), .val (.int (117 : Int32)), .val (.int (p1 &&& (3 : Int32))), .val (.int c0), .val (.int c1), .val (.int c2), .val (.ref o2), .unset, .unset, .unset] [(.int (((p0).toUInt32 >>> ((2 : Int32) &&& 31).toUInt32).toInt32))]))
    refine Go.st (fun _ k => XS.iconst X.here hx rfl (hb hby at_121) k) ?_
    show Go p e below _ (T.setTop (mkF m 122 #[.val (.int p0), .val (.int p1), .val (.long p2), .second, .val (.int (p0 &&& (3 : Int32))), .val (.ref u0), .val (.int (117 : Int32)), .val (.int (p1 &&& (3 : Int32))), .val (.int c0), .val (.int c1), .val (.int c2), .val (.ref o2), .unset, .unset, .unset] [(.int (1 : Int32)), (.int (((p0).toUInt32 >>> ((2 : Int32) &&& 31).toUInt32).toInt32))]))
    refine Go.st (fun _ k => XS.iand X.here hx rfl (hb hby at_122) rfl k) ?_
    show Go p e below _ (T.setTop (mkF m 123 #[.val (.int p0), .val (.int p1), .val (.long p2), .second, .val (.int (p0 &&& (3 : Int32))), .val (.ref u0), .val (.int (117 : Int32)), .val (.int (p1 &&& (3 : Int32))), .val (.int c0), .val (.int c1), .val (.int c2), .val (.ref o2), .unset, .unset, .unset] [(.int ((((p0).toUInt32 >>> ((2 : Int32) &&& 31).toUInt32).toInt32) &&& (1 : Int32)))]))
    refine own_cutT X hT (fun nn => (mkF m 131 #[.val (.int p0), .val (.int p1), .val (.long p2), .second, .val (.int (p0 &&& (3 : Int32))), .val (.ref u0), .val (.int (117 : Int32)), .val (.int (p1 &&& (3 : Int32))), .val (.int c0), .val (.int c1), .val (.int c2), .val (.ref o2), .unset, .unset, .unset] [(.int nn)])) (if ((((p0).toUInt32 >>> ((2 : Int32) &&& 31).toUInt32).toInt32) &&& (1 : Int32)) = (0 : Int32) then (0 : Int32) else (1 : Int32)) ?_ ?_
    · intro nn T hnn hT X
      show Go p e below _ (T.setTop (mkF m 131 #[.val (.int p0), .val (.int p1), .val (.long p2), .second, .val (.int (p0 &&& (3 : Int32))), .val (.ref u0), .val (.int (117 : Int32)), .val (.int (p1 &&& (3 : Int32))), .val (.int c0), .val (.int c1), .val (.int c2), .val (.ref o2), .unset, .unset, .unset] [(.int nn)]))
      refine Go.st (fun _ k => XS.istore X.here hx rfl (hb hby at_131) rfl (l' := #[.val (.int p0), .val (.int p1), .val (.long p2), .second, .val (.int (p0 &&& (3 : Int32))), .val (.ref u0), .val (.int (117 : Int32)), .val (.int (p1 &&& (3 : Int32))), .val (.int c0), .val (.int c1), .val (.int c2), .val (.ref o2), .val (.int nn), .unset, .unset]) rfl k) ?_
      show Go p e below _ (T.setTop (mkF m 133 #[.val (.int p0), .val (.int p1), .val (.long p2), .second, .val (.int (p0 &&& (3 : Int32))), .val (.ref u0), .val (.int (117 : Int32)), .val (.int (p1 &&& (3 : Int32))), .val (.int c0), .val (.int c1), .val (.int c2), .val (.ref o2), .val (.int nn), .unset, .unset] []))
      refine Go.st (fun _ k => XS.iload X.here hx rfl (hb hby at_133) rfl k) ?_
      show Go p e below _ (T.setTop (mkF m 135 #[.val (.int p0), .val (.int p1), .val (.long p2), .second, .val (.int (p0 &&& (3 : Int32))), .val (.ref u0), .val (.int (117 : Int32)), .val (.int (p1 &&& (3 : Int32))), .val (.int c0), .val (.int c1), .val (.int c2), .val (.ref o2), .val (.int nn), .unset, .unset] [(.int (p0 &&& (3 : Int32)))]))
      refine Go.st (fun _ k => XS.iconst X.here hx rfl (hb hby at_135) k) ?_
      show Go p e below _ (T.setTop (mkF m 136 #[.val (.int p0), .val (.int p1), .val (.long p2), .second, .val (.int (p0 &&& (3 : Int32))), .val (.ref u0), .val (.int (117 : Int32)), .val (.int (p1 &&& (3 : Int32))), .val (.int c0), .val (.int c1), .val (.int c2), .val (.ref o2), .val (.int nn), .unset, .unset] [(.int (3 : Int32)), (.int (p0 &&& (3 : Int32)))]))
      refine Go.st (fun _ k => XS.icmpYes X.here hx rfl (pc0 := 136) (pc' := 167) rfl (hb hby at_136) rfl (Jvm.Free.XT.ii_ne_t (by rw [hc1]; decide : ¬ ((p0 &&& (3 : Int32)) = (3 : Int32)))) (by decide) (by decide) k) ?_
      show Go p e below _ (T.setTop (mkF m 167 #[.val (.int p0), .val (.int p1), .val (.long p2), .second, .val (.int (p0 &&& (3 : Int32))), .val (.ref u0), .val (.int (117 : Int32)), .val (.int (p1 &&& (3 : Int32))), .val (.int c0), .val (.int c1), .val (.int c2), .val (.ref o2), .val (.int nn), .unset, .unset] []))
      refine Go.st (fun _ k => XS.aload X.here hx rfl (hb hby at_167) rfl rfl k) ?_
      show Go p e below _ (T.setTop (mkF m 169 #[.val (.int p0), .val (.int p1), .val (.long p2), .second, .val (.int (p0 &&& (3 : Int32))), .val (.ref u0), .val (.int (117 : Int32)), .val (.int (p1 &&& (3 : Int32))), .val (.int c0), .val (.int c1), .val (.int c2), .val (.ref o2), .val (.int nn), .unset, .unset] [(.ref u0)]))
      refine Go.st (fun _ k => XS.aload X.here hx rfl (hb hby at_169) rfl rfl k) ?_
      show Go p e below _ (T.setTop (mkF m 171 #[.val (.int p0), .val (.int p1), .val (.long p2), .second, .val (.int (p0 &&& (3 : Int32))), .val (.ref u0), .val (.int (117 : Int32)), .val (.int (p1 &&& (3 : Int32))), .val (.int c0), .val (.int c1), .val (.int c2), .val (.ref o2), .val (.int nn), .unset, .unset] [(.ref o2), (.ref u0)]))
      refine Go.callH (argsL := [(.ref u0), (.ref o2)]) (rest := []) (W := 0) (ck := 6) (sk := 48) H X hx hZ hown (hml.trans rfl) hT (hw _ (List.mem_of_getElem? (i := 38) rfl)) (hw _ (List.mem_of_getElem? (i := 39) rfl)) (hw _ (List.mem_of_getElem? (i := 40) rfl)) (hw _ (List.mem_of_getElem? (i := 41) rfl)) (by decide) pd_26 rfl rfl (Nat.le_of_ble_eq_true rfl) (hb hby at_171) (backOfSH (W := 0) (met_keyN l Z a0 hw [] z (117 : Int32) n0 u0 o2 (wordL (p1 &&& (3 : Int32)) c0 c1 c2) _ O Sc KD0 L0 ne03 (by decide) S_o2 (own_wlat l0 l1 l2) (own_wlen _ _ _ _)) hZ (hw _ (List.mem_of_getElem? (i := 41) rfl)) (hw _ (List.mem_of_getElem? (i := 40) rfl)) (by decide) (by decide) hEL H.2.1) (by decide) (by decide) ?_
      intro v T h2 L vm hT hQ hZ hown H Rc X
      obtain ⟨o3, rfl, N0, Ex0, S_o3⟩ := hQ
      have N := Fr.app N N0
      have KB := (Keep.refl h1 []).ext Ex0
      have O := O.keep KB all0
      have S_o2 := S_o2.ext (keepE KB)
      show Go p e below _ (T.setTop (mkF m 174 #[.val (.int p0), .val (.int p1), .val (.long p2), .second, .val (.int (p0 &&& (3 : Int32))), .val (.ref u0), .val (.int (117 : Int32)), .val (.int (p1 &&& (3 : Int32))), .val (.int c0), .val (.int c1), .val (.int c2), .val (.ref o2), .val (.int nn), .unset, .unset] [(.ref o3)]))
      refine Go.st (fun _ k => XS.astore X.here hx rfl (hb hby at_174) rfl rfl (l' := #[.val (.int p0), .val (.int p1), .val (.long p2), .second, .val (.int (p0 &&& (3 : Int32))), .val (.ref u0), .val (.int (117 : Int32)), .val (.int (p1 &&& (3 : Int32))), .val (.int c0), .val (.int c1), .val (.int c2), .val (.ref o2), .val (.int nn), .val (.ref o3), .unset]) rfl k) ?_
      show Go p e below _ (T.setTop (mkF m 176 #[.val (.int p0), .val (.int p1), .val (.long p2), .second, .val (.int (p0 &&& (3 : Int32))), .val (.ref u0), .val (.int (117 : Int32)), .val (.int (p1 &&& (3 : Int32))), .val (.int c0), .val (.int c1), .val (.int c2), .val (.ref o2), .val (.int nn), .val (.ref o3), .unset] []))
      refine Go.st (fun _ k => XS.iload X.here hx rfl (hb hby at_176) rfl k) ?_
      show Go p e below _ (T.setTop (mkF m 178 #[.val (.int p0), .val (.int p1), .val (.long p2), .second, .val (.int (p0 &&& (3 : Int32))), .val (.ref u0), .val (.int (117 : Int32)), .val (.int (p1 &&& (3 : Int32))), .val (.int c0), .val (.int c1), .val (.int c2), .val (.ref o2), .val (.int nn), .val (.ref o3), .unset] [(.int (117 : Int32))]))
      refine Go.st (fun _ k => XS.iload X.here hx rfl (hb hby at_178) rfl k) ?_
      show Go p e below _ (T.setTop (mkF m 180 #[.val (.int p0), .val (.int p1), .val (.long p2), .second, .val (.int (p0 &&& (3 : Int32))), .val (.ref u0), .val (.int (117 : Int32)), .val (.int (p1 &&& (3 : Int32))), .val (.int c0), .val (.int c1), .val (.int c2), .val (.ref o2), .val (.int nn), .val (.ref o3), .unset] [(.int (p1 &&& (3 : Int32))), (.int (117 : Int32))]))
      refine Go.st (fun _ k => XS.iload X.here hx rfl (hb hby at_180) rfl k) ?_
      show Go p e below _ (T.setTop (mkF m 182 #[.val (.int p0), .val (.int p1), .val (.long p2), .second, .val (.int (p0 &&& (3 : Int32))), .val (.ref u0), .val (.int (117 : Int32)), .val (.int (p1 &&& (3 : Int32))), .val (.int c0), .val (.int c1), .val (.int c2), .val (.ref o2), .val (.int nn), .val (.ref o3), .unset] [(.int c0), (.int (p1 &&& (3 : Int32))), (.int (117 : Int32))]))
      refine Go.st (fun _ k => XS.iload X.here hx rfl (hb hby at_182) rfl k) ?_
      show Go p e below _ (T.setTop (mkF m 184 #[.val (.int p0), .val (.int p1), .val (.long p2), .second, .val (.int (p0 &&& (3 : Int32))), .val (.ref u0), .val (.int (117 : Int32)), .val (.int (p1 &&& (3 : Int32))), .val (.int c0), .val (.int c1), .val (.int c2), .val (.ref o2), .val (.int nn), .val (.ref o3), .unset] [(.int c1), (.int c0), (.int (p1 &&& (3 : Int32))), (.int (117 : Int32))]))
      refine Go.st (fun _ k => XS.iload X.here hx rfl (hb hby at_184) rfl k) ?_
      show Go p e below _ (T.setTop (mkF m 186 #[.val (.int p0), .val (.int p1), .val (.long p2), .second, .val (.int (p0 &&& (3 : Int32))), .val (.ref u0), .val (.int (117 : Int32)), .val (.int (p1 &&& (3 : Int32))), .val (.int c0), .val (.int c1), .val (.int c2), .val (.ref o2), .val (.int nn), .val (.ref o3), .unset] [(.int c2), (.int c1), (.int c0), (.int (p1 &&& (3 : Int32))), (.int (117 : Int32))]))
      refine Go.callH (argsL := [(.int (117 : Int32)), (.int (p1 &&& (3 : Int32))), (.int c0), (.int c1), (.int c2)]) (rest := []) (W := 0) (ck := 6) (sk := 22) H X hx hZ hown (hml.trans rfl) hT (hw _ (List.mem_of_getElem? (i := 173) rfl)) (hw _ (List.mem_of_getElem? (i := 174) rfl)) (hw _ (List.mem_of_getElem? (i := 6) rfl)) (hw _ (List.mem_of_getElem? (i := 175) rfl)) (by decide) pd_27 rfl rfl (Nat.le_of_ble_eq_true rfl) (hb hby at_186) (backOfSH (W := 0) (met_ktxt l Z a0 hw [] (117 : Int32) (p1 &&& (3 : Int32)) c0 c1 c2 z n0 _ O Sc l0 l1 l2 (by decide)) hZ (hw _ (List.mem_of_getElem? (i := 175) rfl)) (hw _ (List.mem_of_getElem? (i := 6) rfl)) (by decide) (by decide) hEL H.2.1) (by decide) (by decide) ?_
      intro v T h3 L vm hT hQ hZ hown H Rc X
      obtain ⟨o4, rfl, N0, Ex0, S_o4⟩ := hQ
      have N := Fr.app N N0
      have KB := (Keep.refl h2 []).ext Ex0
      have O := O.keep KB all0
      have S_o2 := S_o2.ext (keepE KB)
      have S_o3 := S_o3.ext (keepE KB)
      show Go p e below _ (T.setTop (mkF m 189 #[.val (.int p0), .val (.int p1), .val (.long p2), .second, .val (.int (p0 &&& (3 : Int32))), .val (.ref u0), .val (.int (117 : Int32)), .val (.int (p1 &&& (3 : Int32))), .val (.int c0), .val (.int c1), .val (.int c2), .val (.ref o2), .val (.int nn), .val (.ref o3), .unset] [(.ref o4)]))
      refine Go.st (fun _ k => XS.astore X.here hx rfl (hb hby at_189) rfl rfl (l' := #[.val (.int p0), .val (.int p1), .val (.long p2), .second, .val (.int (p0 &&& (3 : Int32))), .val (.ref u0), .val (.int (117 : Int32)), .val (.int (p1 &&& (3 : Int32))), .val (.int c0), .val (.int c1), .val (.int c2), .val (.ref o2), .val (.int nn), .val (.ref o3), .val (.ref o4)]) rfl k) ?_
      show Go p e below _ (T.setTop (mkF m 191 #[.val (.int p0), .val (.int p1), .val (.long p2), .second, .val (.int (p0 &&& (3 : Int32))), .val (.ref u0), .val (.int (117 : Int32)), .val (.int (p1 &&& (3 : Int32))), .val (.int c0), .val (.int c1), .val (.int c2), .val (.ref o2), .val (.int nn), .val (.ref o3), .val (.ref o4)] []))
      refine Go.st (fun _ k => XS.aload X.here hx rfl (hb hby at_191) rfl rfl k) ?_
      show Go p e below _ (T.setTop (mkF m 193 #[.val (.int p0), .val (.int p1), .val (.long p2), .second, .val (.int (p0 &&& (3 : Int32))), .val (.ref u0), .val (.int (117 : Int32)), .val (.int (p1 &&& (3 : Int32))), .val (.int c0), .val (.int c1), .val (.int c2), .val (.ref o2), .val (.int nn), .val (.ref o3), .val (.ref o4)] [(.ref o3)]))
      refine Go.st (fun _ k => XS.ifnullNo X.here hx rfl (hb hby at_193) rfl k) ?_
      show Go p e below _ (T.setTop (mkF m 196 #[.val (.int p0), .val (.int p1), .val (.long p2), .second, .val (.int (p0 &&& (3 : Int32))), .val (.ref u0), .val (.int (117 : Int32)), .val (.int (p1 &&& (3 : Int32))), .val (.int c0), .val (.int c1), .val (.int c2), .val (.ref o2), .val (.int nn), .val (.ref o3), .val (.ref o4)] []))
      refine Go.st (fun _ k => XS.aload X.here hx rfl (hb hby at_196) rfl rfl k) ?_
      show Go p e below _ (T.setTop (mkF m 198 #[.val (.int p0), .val (.int p1), .val (.long p2), .second, .val (.int (p0 &&& (3 : Int32))), .val (.ref u0), .val (.int (117 : Int32)), .val (.int (p1 &&& (3 : Int32))), .val (.int c0), .val (.int c1), .val (.int c2), .val (.ref o2), .val (.int nn), .val (.ref o3), .val (.ref o4)] [(.ref o3)]))
      refine Go.st (fun _ k => XS.aload X.here hx rfl (hb hby at_198) rfl rfl k) ?_
      show Go p e below _ (T.setTop (mkF m 200 #[.val (.int p0), .val (.int p1), .val (.long p2), .second, .val (.int (p0 &&& (3 : Int32))), .val (.ref u0), .val (.int (117 : Int32)), .val (.int (p1 &&& (3 : Int32))), .val (.int c0), .val (.int c1), .val (.int c2), .val (.ref o2), .val (.int nn), .val (.ref o3), .val (.ref o4)] [(.ref o4), (.ref o3)]))
      refine Go.virtV (K := "java/lang/String") (z := (⟨"java/lang/String", "equals", "(Ljava/lang/Object;)Z"⟩ : MethodName)) (argsL := [(.ref o4)]) (rest := []) (W := 0) (w := (.int (if ((117 : Int32) :: 58 :: (wordL (p1 &&& (3 : Int32)) c0 c1 c2)) = ((117 : Int32) :: 58 :: (wordL (p1 &&& (3 : Int32)) c0 c1 c2)) then 1 else 0))) X hx hZ hown (hml.trans rfl) hT S_o3.exa (hw _ (List.mem_of_getElem? (i := 176) rfl)) (hw _ (List.mem_of_getElem? (i := 177) rfl)) (hw _ (List.mem_of_getElem? (i := 179) rfl)) (hw _ (List.mem_of_getElem? (i := 178) rfl)) (by decide) pd_28 rfl rfl (Nat.le_of_ble_eq_true rfl) (hb hby at_200) (notFace_of_selects (args := #[]) (mvT hZ (hw _ (List.mem_of_getElem? (i := 179) rfl)))) (own_eq (W := 0) hw hZ O Sc S_o3 S_o4 (by decide) (by decide)) (by decide) (by decide) ?_
      intro T hT X
      show Go p e below _ (T.setTop (mkF m 203 #[.val (.int p0), .val (.int p1), .val (.long p2), .second, .val (.int (p0 &&& (3 : Int32))), .val (.ref u0), .val (.int (117 : Int32)), .val (.int (p1 &&& (3 : Int32))), .val (.int c0), .val (.int c1), .val (.int c2), .val (.ref o2), .val (.int nn), .val (.ref o3), .val (.ref o4)] [(.int (if ((117 : Int32) :: 58 :: (wordL (p1 &&& (3 : Int32)) c0 c1 c2)) = ((117 : Int32) :: 58 :: (wordL (p1 &&& (3 : Int32)) c0 c1 c2)) then 1 else 0))]))
      rw [if_pos rfl]
      show Go p e below _ (T.setTop (mkF m 203 #[.val (.int p0), .val (.int p1), .val (.long p2), .second, .val (.int (p0 &&& (3 : Int32))), .val (.ref u0), .val (.int (117 : Int32)), .val (.int (p1 &&& (3 : Int32))), .val (.int c0), .val (.int c1), .val (.int c2), .val (.ref o2), .val (.int nn), .val (.ref o3), .val (.ref o4)] [(.int (1 : Int32))]))
      refine Go.st (fun _ k => XS.ifNo X.here hx rfl (hb hby at_203) rfl (Jvm.Free.XT.i0_eq_f (by decide : ¬ ((1 : Int32) = (0 : Int32)))) k) ?_
      show Go p e below _ (T.setTop (mkF m 206 #[.val (.int p0), .val (.int p1), .val (.long p2), .second, .val (.int (p0 &&& (3 : Int32))), .val (.ref u0), .val (.int (117 : Int32)), .val (.int (p1 &&& (3 : Int32))), .val (.int c0), .val (.int c1), .val (.int c2), .val (.ref o2), .val (.int nn), .val (.ref o3), .val (.ref o4)] []))
      refine Go.st (fun _ k => XS.iconst X.here hx rfl (hb hby at_206) k) ?_
      show Go p e below _ (T.setTop (mkF m 207 #[.val (.int p0), .val (.int p1), .val (.long p2), .second, .val (.int (p0 &&& (3 : Int32))), .val (.ref u0), .val (.int (117 : Int32)), .val (.int (p1 &&& (3 : Int32))), .val (.int c0), .val (.int c1), .val (.int c2), .val (.ref o2), .val (.int nn), .val (.ref o3), .val (.ref o4)] [(.int (1 : Int32))]))
      refine Go.st (fun _ k => XS.goto X.here hx rfl (pc0 := 207) (pc' := 211) rfl (hb hby at_207) (by decide) (by decide) k) ?_
      show Go p e below _ (T.setTop (mkF m 211 #[.val (.int p0), .val (.int p1), .val (.long p2), .second, .val (.int (p0 &&& (3 : Int32))), .val (.ref u0), .val (.int (117 : Int32)), .val (.int (p1 &&& (3 : Int32))), .val (.int c0), .val (.int c1), .val (.int c2), .val (.ref o2), .val (.int nn), .val (.ref o3), .val (.ref o4)] [(.int (1 : Int32))]))
      refine Go.retH hEL H hZ X hx hlk hT hret (by decide) (riI (by simp)) (hb hby at_211) (by decide) (by decide) ?_
      exact ⟨rfl, N⟩
    · intro K
      by_cases hc3 : ((((p0).toUInt32 >>> ((2 : Int32) &&& 31).toUInt32).toInt32) &&& (1 : Int32)) = (0 : Int32)
      · refine Go.st (fun _ k => XS.ifYes X.here hx rfl (pc0 := 123) (pc' := 130) rfl (hb hby at_123) rfl (Jvm.Free.XT.i0_eq_t hc3) (by decide) (by decide) k) ?_
        show Go p e below _ (T.setTop (mkF m 130 #[.val (.int p0), .val (.int p1), .val (.long p2), .second, .val (.int (p0 &&& (3 : Int32))), .val (.ref u0), .val (.int (117 : Int32)), .val (.int (p1 &&& (3 : Int32))), .val (.int c0), .val (.int c1), .val (.int c2), .val (.ref o2), .unset, .unset, .unset] []))
        refine Go.st (fun _ k => XS.iconst X.here hx rfl (hb hby at_130) k) ?_
        show Go p e below _ (T.setTop (mkF m 131 #[.val (.int p0), .val (.int p1), .val (.long p2), .second, .val (.int (p0 &&& (3 : Int32))), .val (.ref u0), .val (.int (117 : Int32)), .val (.int (p1 &&& (3 : Int32))), .val (.int c0), .val (.int c1), .val (.int c2), .val (.ref o2), .unset, .unset, .unset] [(.int (0 : Int32))]))
        exact K _ _ (by rw [if_pos hc3]) hT X
      · refine Go.st (fun _ k => XS.ifNo X.here hx rfl (hb hby at_123) rfl (Jvm.Free.XT.i0_eq_f hc3) k) ?_
        show Go p e below _ (T.setTop (mkF m 126 #[.val (.int p0), .val (.int p1), .val (.long p2), .second, .val (.int (p0 &&& (3 : Int32))), .val (.ref u0), .val (.int (117 : Int32)), .val (.int (p1 &&& (3 : Int32))), .val (.int c0), .val (.int c1), .val (.int c2), .val (.ref o2), .unset, .unset, .unset] []))
        refine Go.st (fun _ k => XS.iconst X.here hx rfl (hb hby at_126) k) ?_
        show Go p e below _ (T.setTop (mkF m 127 #[.val (.int p0), .val (.int p1), .val (.long p2), .second, .val (.int (p0 &&& (3 : Int32))), .val (.ref u0), .val (.int (117 : Int32)), .val (.int (p1 &&& (3 : Int32))), .val (.int c0), .val (.int c1), .val (.int c2), .val (.ref o2), .unset, .unset, .unset] [(.int (1 : Int32))]))
        refine Go.st (fun _ k => XS.goto X.here hx rfl (pc0 := 127) (pc' := 131) rfl (hb hby at_127) (by decide) (by decide) k) ?_
        show Go p e below _ (T.setTop (mkF m 131 #[.val (.int p0), .val (.int p1), .val (.long p2), .second, .val (.int (p0 &&& (3 : Int32))), .val (.ref u0), .val (.int (117 : Int32)), .val (.int (p1 &&& (3 : Int32))), .val (.int c0), .val (.int c1), .val (.int c2), .val (.ref o2), .unset, .unset, .unset] [(.int (1 : Int32))]))
        exact K _ _ (by rw [if_neg hc3]) hT X
  · refine Go.st (fun _ k => XS.ifYes X.here hx rfl (pc0 := 7) (pc' := 22) rfl (hb hby at_7) rfl (Jvm.Free.XT.i0_ne_t hc1) (by decide) (by decide) k) ?_
    show Go p e below _ (T.setTop (mkF m 22 #[.val (.int p0), .val (.int p1), .val (.long p2), .second, .val (.int (p0 &&& (3 : Int32))), .unset, .unset, .unset, .unset, .unset, .unset, .unset, .unset, .unset, .unset] []))
    refine Go.st (fun _ k => XS.iload X.here hx rfl (hb hby at_22) rfl k) ?_
    show Go p e below _ (T.setTop (mkF m 24 #[.val (.int p0), .val (.int p1), .val (.long p2), .second, .val (.int (p0 &&& (3 : Int32))), .unset, .unset, .unset, .unset, .unset, .unset, .unset, .unset, .unset, .unset] [(.int (p0 &&& (3 : Int32)))]))
    refine Go.st (fun _ k => XS.iconst X.here hx rfl (hb hby at_24) k) ?_
    show Go p e below _ (T.setTop (mkF m 25 #[.val (.int p0), .val (.int p1), .val (.long p2), .second, .val (.int (p0 &&& (3 : Int32))), .unset, .unset, .unset, .unset, .unset, .unset, .unset, .unset, .unset, .unset] [(.int (1 : Int32)), (.int (p0 &&& (3 : Int32)))]))
    by_cases hc5 : (p0 &&& (3 : Int32)) = (1 : Int32)
    · refine Go.st (fun _ k => XS.icmpNo X.here hx rfl (hb hby at_25) rfl (Jvm.Free.XT.ii_ne_f hc5) k) ?_
      show Go p e below _ (T.setTop (mkF m 28 #[.val (.int p0), .val (.int p1), .val (.long p2), .second, .val (.int (p0 &&& (3 : Int32))), .unset, .unset, .unset, .unset, .unset, .unset, .unset, .unset, .unset, .unset] []))
      obtain ⟨T, X, hT, st⟩ := getS2 X hx hZ hown (host := "") (Or.inl (hw _ (List.mem_of_getElem? (i := 200) rfl))) Via.refl hT (T1.ext (O).2) (g := (mkF m 28 #[.val (.int p0), .val (.int p1), .val (.long p2), .second, .val (.int (p0 &&& (3 : Int32))), .unset, .unset, .unset, .unset, .unset, .unset, .unset, .unset, .unset, .unset] [])) rfl (hb hby at_28)
      refine Go.st st ?_
      show Go p e below _ (T.setTop (mkF m 31 #[.val (.int p0), .val (.int p1), .val (.long p2), .second, .val (.int (p0 &&& (3 : Int32))), .unset, .unset, .unset, .unset, .unset, .unset, .unset, .unset, .unset, .unset] [(.ref u1)]))
      refine Go.st (fun _ k => XS.astore X.here hx rfl (hb hby at_31) rfl rfl (l' := #[.val (.int p0), .val (.int p1), .val (.long p2), .second, .val (.int (p0 &&& (3 : Int32))), .val (.ref u1), .unset, .unset, .unset, .unset, .unset, .unset, .unset, .unset, .unset]) rfl k) ?_
      show Go p e below _ (T.setTop (mkF m 33 #[.val (.int p0), .val (.int p1), .val (.long p2), .second, .val (.int (p0 &&& (3 : Int32))), .val (.ref u1), .unset, .unset, .unset, .unset, .unset, .unset, .unset, .unset, .unset] []))
      refine Go.st (fun _ k => XS.bipush X.here hx rfl (hb hby at_33) k) ?_
      show Go p e below _ (T.setTop (mkF m 35 #[.val (.int p0), .val (.int p1), .val (.long p2), .second, .val (.int (p0 &&& (3 : Int32))), .val (.ref u1), .unset, .unset, .unset, .unset, .unset, .unset, .unset, .unset, .unset] [(.int (103 : Int32))]))
      refine Go.st (fun _ k => XS.istore X.here hx rfl (hb hby at_35) rfl (l' := #[.val (.int p0), .val (.int p1), .val (.long p2), .second, .val (.int (p0 &&& (3 : Int32))), .val (.ref u1), .val (.int (103 : Int32)), .unset, .unset, .unset, .unset, .unset, .unset, .unset, .unset]) rfl k) ?_
      show Go p e below _ (T.setTop (mkF m 37 #[.val (.int p0), .val (.int p1), .val (.long p2), .second, .val (.int (p0 &&& (3 : Int32))), .val (.ref u1), .val (.int (103 : Int32)), .unset, .unset, .unset, .unset, .unset, .unset, .unset, .unset] []))
      refine Go.st (fun _ k => XS.goto X.here hx rfl (pc0 := 37) (pc' := 67) rfl (hb hby at_37) (by decide) (by decide) k) ?_
      show Go p e below _ (T.setTop (mkF m 67 #[.val (.int p0), .val (.int p1), .val (.long p2), .second, .val (.int (p0 &&& (3 : Int32))), .val (.ref u1), .val (.int (103 : Int32)), .unset, .unset, .unset, .unset, .unset, .unset, .unset, .unset] []))
      refine Go.st (fun _ k => XS.iloadN X.here hx rfl (hb hby at_67) rfl k) ?_
      show Go p e below _ (T.setTop (mkF m 68 #[.val (.int p0), .val (.int p1), .val (.long p2), .second, .val (.int (p0 &&& (3 : Int32))), .val (.ref u1), .val (.int (103 : Int32)), .unset, .unset, .unset, .unset, .unset, .unset, .unset, .unset] [(.int p1)]))
      refine Go.st (fun _ k => XS.iconst X.here hx rfl (hb hby at_68) k) ?_
      show Go p e below _ (T.setTop (mkF m 69 #[.val (.int p0), .val (.int p1), .val (.long p2), .second, .val (.int (p0 &&& (3 : Int32))), .val (.ref u1), .val (.int (103 : Int32)), .unset, .unset, .unset, .unset, .unset, .unset, .unset, .unset] [(.int (3 : Int32)), (.int p1)]))
      refine Go.st (fun _ k => XS.iand X.here hx rfl (hb hby at_69) rfl k) ?_
      show Go p e below _ (T.setTop (mkF m 70 #[.val (.int p0), .val (.int p1), .val (.long p2), .second, .val (.int (p0 &&& (3 : Int32))), .val (.ref u1), .val (.int (103 : Int32)), .unset, .unset, .unset, .unset, .unset, .unset, .unset, .unset] [(.int (p1 &&& (3 : Int32)))]))
      refine Go.st (fun _ k => XS.istore X.here hx rfl (hb hby at_70) rfl (l' := #[.val (.int p0), .val (.int p1), .val (.long p2), .second, .val (.int (p0 &&& (3 : Int32))), .val (.ref u1), .val (.int (103 : Int32)), .val (.int (p1 &&& (3 : Int32))), .unset, .unset, .unset, .unset, .unset, .unset, .unset]) rfl k) ?_
      show Go p e below _ (T.setTop (mkF m 72 #[.val (.int p0), .val (.int p1), .val (.long p2), .second, .val (.int (p0 &&& (3 : Int32))), .val (.ref u1), .val (.int (103 : Int32)), .val (.int (p1 &&& (3 : Int32))), .unset, .unset, .unset, .unset, .unset, .unset, .unset] []))
      refine Go.st (fun _ k => XS.lloadN X.here hx rfl (hb hby at_72) rfl k) ?_
      show Go p e below _ (T.setTop (mkF m 73 #[.val (.int p0), .val (.int p1), .val (.long p2), .second, .val (.int (p0 &&& (3 : Int32))), .val (.ref u1), .val (.int (103 : Int32)), .val (.int (p1 &&& (3 : Int32))), .unset, .unset, .unset, .unset, .unset, .unset, .unset] [(.long p2)]))
      refine Go.st (fun _ k => X.ldc2J hx hown (mvT hZ (hw _ (List.mem_of_getElem? (i := 3) rfl))) rfl (hb hby at_73) k) ?_
      show Go p e below _ (T.setTop (mkF m 76 #[.val (.int p0), .val (.int p1), .val (.long p2), .second, .val (.int (p0 &&& (3 : Int32))), .val (.ref u1), .val (.int (103 : Int32)), .val (.int (p1 &&& (3 : Int32))), .unset, .unset, .unset, .unset, .unset, .unset, .unset] [(.long (255 : Int64)), (.long p2)]))
      refine Go.st (fun _ k => XS.land X.here hx rfl (hb hby at_76) rfl k) ?_
      show Go p e below _ (T.setTop (mkF m 77 #[.val (.int p0), .val (.int p1), .val (.long p2), .second, .val (.int (p0 &&& (3 : Int32))), .val (.ref u1), .val (.int (103 : Int32)), .val (.int (p1 &&& (3 : Int32))), .unset, .unset, .unset, .unset, .unset, .unset, .unset] [(.long (p2 &&& (255 : Int64)))]))
      refine Go.st (fun _ k => XS.l2i X.here hx rfl (hb hby at_77) rfl k) ?_
      show Go p e below _ (T.setTop (mkF m 78 #[.val (.int p0), .val (.int p1), .val (.long p2), .second, .val (.int (p0 &&& (3 : Int32))), .val (.ref u1), .val (.int (103 : Int32)), .val (.int (p1 &&& (3 : Int32))), .unset, .unset, .unset, .unset, .unset, .unset, .unset] [(.int ((p2 &&& (255 : Int64)).toInt32))]))
      refine Go.st (fun _ k => XS.i2c X.here hx rfl (hb hby at_78) rfl k) ?_
      show Go p e below _ (T.setTop (mkF m 79 #[.val (.int p0), .val (.int p1), .val (.long p2), .second, .val (.int (p0 &&& (3 : Int32))), .val (.ref u1), .val (.int (103 : Int32)), .val (.int (p1 &&& (3 : Int32))), .unset, .unset, .unset, .unset, .unset, .unset, .unset] [(.int (((p2 &&& (255 : Int64)).toInt32).toUInt32.toUInt16.toUInt32.toInt32))]))
      obtain ⟨c0, hg0⟩ : ∃ z, z = (((p2 &&& (255 : Int64)).toInt32).toUInt32.toUInt16.toUInt32.toInt32) := ⟨_, rfl⟩
      rw [← hg0]
      show Go p e below _ (T.setTop (mkF m 79 #[.val (.int p0), .val (.int p1), .val (.long p2), .second, .val (.int (p0 &&& (3 : Int32))), .val (.ref u1), .val (.int (103 : Int32)), .val (.int (p1 &&& (3 : Int32))), .unset, .unset, .unset, .unset, .unset, .unset, .unset] [(.int c0)]))
      have l0 : L8 c0 := hg0 ▸ own_k8 _
      refine Go.st (fun _ k => XS.istore X.here hx rfl (hb hby at_79) rfl (l' := #[.val (.int p0), .val (.int p1), .val (.long p2), .second, .val (.int (p0 &&& (3 : Int32))), .val (.ref u1), .val (.int (103 : Int32)), .val (.int (p1 &&& (3 : Int32))), .val (.int c0), .unset, .unset, .unset, .unset, .unset, .unset]) rfl k) ?_
      show Go p e below _ (T.setTop (mkF m 81 #[.val (.int p0), .val (.int p1), .val (.long p2), .second, .val (.int (p0 &&& (3 : Int32))), .val (.ref u1), .val (.int (103 : Int32)), .val (.int (p1 &&& (3 : Int32))), .val (.int c0), .unset, .unset, .unset, .unset, .unset, .unset] []))
      refine Go.st (fun _ k => XS.lloadN X.here hx rfl (hb hby at_81) rfl k) ?_
      show Go p e below _ (T.setTop (mkF m 82 #[.val (.int p0), .val (.int p1), .val (.long p2), .second, .val (.int (p0 &&& (3 : Int32))), .val (.ref u1), .val (.int (103 : Int32)), .val (.int (p1 &&& (3 : Int32))), .val (.int c0), .unset, .unset, .unset, .unset, .unset, .unset] [(.long p2)]))
      refine Go.st (fun _ k => XS.bipush X.here hx rfl (hb hby at_82) k) ?_
      show Go p e below _ (T.setTop (mkF m 84 #[.val (.int p0), .val (.int p1), .val (.long p2), .second, .val (.int (p0 &&& (3 : Int32))), .val (.ref u1), .val (.int (103 : Int32)), .val (.int (p1 &&& (3 : Int32))), .val (.int c0), .unset, .unset, .unset, .unset, .unset, .unset] [(.int (8 : Int32)), (.long p2)]))
      refine Go.st (fun _ k => XS.lushr X.here hx rfl (hb hby at_84) rfl k) ?_
      show Go p e below _ (T.setTop (mkF m 85 #[.val (.int p0), .val (.int p1), .val (.long p2), .second, .val (.int (p0 &&& (3 : Int32))), .val (.ref u1), .val (.int (103 : Int32)), .val (.int (p1 &&& (3 : Int32))), .val (.int c0), .unset, .unset, .unset, .unset, .unset, .unset] [(.long (((p2).toUInt64 >>> ((8 : Int32) &&& 0x3f).toInt64.toUInt64).toInt64))]))
      refine Go.st (fun _ k => X.ldc2J hx hown (mvT hZ (hw _ (List.mem_of_getElem? (i := 3) rfl))) rfl (hb hby at_85) k) ?_
      show Go p e below _ (T.setTop (mkF m 88 #[.val (.int p0), .val (.int p1), .val (.long p2), .second, .val (.int (p0 &&& (3 : Int32))), .val (.ref u1), .val (.int (103 : Int32)), .val (.int (p1 &&& (3 : Int32))), .val (.int c0), .unset, .unset, .unset, .unset, .unset, .unset] [(.long (255 : Int64)), (.long (((p2).toUInt64 >>> ((8 : Int32) &&& 0x3f).toInt64.toUInt64).toInt64))]))
      refine Go.st (fun _ k => XS.land X.here hx rfl (hb hby at_88) rfl k) ?_
      show Go p e below _ (T.setTop (mkF m 89 #[.val (.int p0), .val (.int p1), .val (.long p2), .second, .val (.int (p0 &&& (3 : Int32))), .val (.ref u1), .val (.int (103 : Int32)), .val (.int (p1 &&& (3 : Int32))), .val (.int c0), .unset, .unset, .unset, .unset, .unset, .unset] [(.long ((((p2).toUInt64 >>> ((8 : Int32) &&& 0x3f).toInt64.toUInt64).toInt64) &&& (255 : Int64)))]))
      refine Go.st (fun _ k => XS.l2i X.here hx rfl (hb hby at_89) rfl k) ?_
      show Go p e below _ (T.setTop (mkF m 90 #[.val (.int p0), .val (.int p1), .val (.long p2), .second, .val (.int (p0 &&& (3 : Int32))), .val (.ref u1), .val (.int (103 : Int32)), .val (.int (p1 &&& (3 : Int32))), .val (.int c0), .unset, .unset, .unset, .unset, .unset, .unset] [(.int (((((p2).toUInt64 >>> ((8 : Int32) &&& 0x3f).toInt64.toUInt64).toInt64) &&& (255 : Int64)).toInt32))]))
      refine Go.st (fun _ k => XS.i2c X.here hx rfl (hb hby at_90) rfl k) ?_
      show Go p e below _ (T.setTop (mkF m 91 #[.val (.int p0), .val (.int p1), .val (.long p2), .second, .val (.int (p0 &&& (3 : Int32))), .val (.ref u1), .val (.int (103 : Int32)), .val (.int (p1 &&& (3 : Int32))), .val (.int c0), .unset, .unset, .unset, .unset, .unset, .unset] [(.int ((((((p2).toUInt64 >>> ((8 : Int32) &&& 0x3f).toInt64.toUInt64).toInt64) &&& (255 : Int64)).toInt32).toUInt32.toUInt16.toUInt32.toInt32))]))
      obtain ⟨c1, hg1⟩ : ∃ z, z = ((((((p2).toUInt64 >>> ((8 : Int32) &&& 0x3f).toInt64.toUInt64).toInt64) &&& (255 : Int64)).toInt32).toUInt32.toUInt16.toUInt32.toInt32) := ⟨_, rfl⟩
      rw [← hg1]
      show Go p e below _ (T.setTop (mkF m 91 #[.val (.int p0), .val (.int p1), .val (.long p2), .second, .val (.int (p0 &&& (3 : Int32))), .val (.ref u1), .val (.int (103 : Int32)), .val (.int (p1 &&& (3 : Int32))), .val (.int c0), .unset, .unset, .unset, .unset, .unset, .unset] [(.int c1)]))
      have l1 : L8 c1 := hg1 ▸ own_k8 _
      refine Go.st (fun _ k => XS.istore X.here hx rfl (hb hby at_91) rfl (l' := #[.val (.int p0), .val (.int p1), .val (.long p2), .second, .val (.int (p0 &&& (3 : Int32))), .val (.ref u1), .val (.int (103 : Int32)), .val (.int (p1 &&& (3 : Int32))), .val (.int c0), .val (.int c1), .unset, .unset, .unset, .unset, .unset]) rfl k) ?_
      show Go p e below _ (T.setTop (mkF m 93 #[.val (.int p0), .val (.int p1), .val (.long p2), .second, .val (.int (p0 &&& (3 : Int32))), .val (.ref u1), .val (.int (103 : Int32)), .val (.int (p1 &&& (3 : Int32))), .val (.int c0), .val (.int c1), .unset, .unset, .unset, .unset, .unset] []))
      refine Go.st (fun _ k => XS.lloadN X.here hx rfl (hb hby at_93) rfl k) ?_
      show Go p e below _ (T.setTop (mkF m 94 #[.val (.int p0), .val (.int p1), .val (.long p2), .second, .val (.int (p0 &&& (3 : Int32))), .val (.ref u1), .val (.int (103 : Int32)), .val (.int (p1 &&& (3 : Int32))), .val (.int c0), .val (.int c1), .unset, .unset, .unset, .unset, .unset] [(.long p2)]))
      refine Go.st (fun _ k => XS.bipush X.here hx rfl (hb hby at_94) k) ?_
      show Go p e below _ (T.setTop (mkF m 96 #[.val (.int p0), .val (.int p1), .val (.long p2), .second, .val (.int (p0 &&& (3 : Int32))), .val (.ref u1), .val (.int (103 : Int32)), .val (.int (p1 &&& (3 : Int32))), .val (.int c0), .val (.int c1), .unset, .unset, .unset, .unset, .unset] [(.int (16 : Int32)), (.long p2)]))
      refine Go.st (fun _ k => XS.lushr X.here hx rfl (hb hby at_96) rfl k) ?_
      show Go p e below _ (T.setTop (mkF m 97 #[.val (.int p0), .val (.int p1), .val (.long p2), .second, .val (.int (p0 &&& (3 : Int32))), .val (.ref u1), .val (.int (103 : Int32)), .val (.int (p1 &&& (3 : Int32))), .val (.int c0), .val (.int c1), .unset, .unset, .unset, .unset, .unset] [(.long (((p2).toUInt64 >>> ((16 : Int32) &&& 0x3f).toInt64.toUInt64).toInt64))]))
      refine Go.st (fun _ k => X.ldc2J hx hown (mvT hZ (hw _ (List.mem_of_getElem? (i := 3) rfl))) rfl (hb hby at_97) k) ?_
      show Go p e below _ (T.setTop (mkF m 100 #[.val (.int p0), .val (.int p1), .val (.long p2), .second, .val (.int (p0 &&& (3 : Int32))), .val (.ref u1), .val (.int (103 : Int32)), .val (.int (p1 &&& (3 : Int32))), .val (.int c0), .val (.int c1), .unset, .unset, .unset, .unset, .unset] [(.long (255 : Int64)), (.long (((p2).toUInt64 >>> ((16 : Int32) &&& 0x3f).toInt64.toUInt64).toInt64))]))
      refine Go.st (fun _ k => XS.land X.here hx rfl (hb hby at_100) rfl k) ?_
      show Go p e below _ (T.setTop (mkF m 101 #[.val (.int p0), .val (.int p1), .val (.long p2), .second, .val (.int (p0 &&& (3 : Int32))), .val (.ref u1), .val (.int (103 : Int32)), .val (.int (p1 &&& (3 : Int32))), .val (.int c0), .val (.int c1), .unset, .unset, .unset, .unset, .unset] [(.long ((((p2).toUInt64 >>> ((16 : Int32) &&& 0x3f).toInt64.toUInt64).toInt64) &&& (255 : Int64)))]))
      refine Go.st (fun _ k => XS.l2i X.here hx rfl (hb hby at_101) rfl k) ?_
      show Go p e below _ (T.setTop (mkF m 102 #[.val (.int p0), .val (.int p1), .val (.long p2), .second, .val (.int (p0 &&& (3 : Int32))), .val (.ref u1), .val (.int (103 : Int32)), .val (.int (p1 &&& (3 : Int32))), .val (.int c0), .val (.int c1), .unset, .unset, .unset, .unset, .unset] [(.int (((((p2).toUInt64 >>> ((16 : Int32) &&& 0x3f).toInt64.toUInt64).toInt64) &&& (255 : Int64)).toInt32))]))
      refine Go.st (fun _ k => XS.i2c X.here hx rfl (hb hby at_102) rfl k) ?_
      show Go p e below _ (T.setTop (mkF m 103 #[.val (.int p0), .val (.int p1), .val (.long p2), .second, .val (.int (p0 &&& (3 : Int32))), .val (.ref u1), .val (.int (103 : Int32)), .val (.int (p1 &&& (3 : Int32))), .val (.int c0), .val (.int c1), .unset, .unset, .unset, .unset, .unset] [(.int ((((((p2).toUInt64 >>> ((16 : Int32) &&& 0x3f).toInt64.toUInt64).toInt64) &&& (255 : Int64)).toInt32).toUInt32.toUInt16.toUInt32.toInt32))]))
      obtain ⟨c2, hg2⟩ : ∃ z, z = ((((((p2).toUInt64 >>> ((16 : Int32) &&& 0x3f).toInt64.toUInt64).toInt64) &&& (255 : Int64)).toInt32).toUInt32.toUInt16.toUInt32.toInt32) := ⟨_, rfl⟩
      rw [← hg2]
      show Go p e below _ (T.setTop (mkF m 103 #[.val (.int p0), .val (.int p1), .val (.long p2), .second, .val (.int (p0 &&& (3 : Int32))), .val (.ref u1), .val (.int (103 : Int32)), .val (.int (p1 &&& (3 : Int32))), .val (.int c0), .val (.int c1), .unset, .unset, .unset, .unset, .unset] [(.int c2)]))
      have l2 : L8 c2 := hg2 ▸ own_k8 _
      refine Go.st (fun _ k => XS.istore X.here hx rfl (hb hby at_103) rfl (l' := #[.val (.int p0), .val (.int p1), .val (.long p2), .second, .val (.int (p0 &&& (3 : Int32))), .val (.ref u1), .val (.int (103 : Int32)), .val (.int (p1 &&& (3 : Int32))), .val (.int c0), .val (.int c1), .val (.int c2), .unset, .unset, .unset, .unset]) rfl k) ?_
      show Go p e below _ (T.setTop (mkF m 105 #[.val (.int p0), .val (.int p1), .val (.long p2), .second, .val (.int (p0 &&& (3 : Int32))), .val (.ref u1), .val (.int (103 : Int32)), .val (.int (p1 &&& (3 : Int32))), .val (.int c0), .val (.int c1), .val (.int c2), .unset, .unset, .unset, .unset] []))
      refine Go.st (fun _ k => XS.iload X.here hx rfl (hb hby at_105) rfl k) ?_
      show Go p e below _ (T.setTop (mkF m 107 #[.val (.int p0), .val (.int p1), .val (.long p2), .second, .val (.int (p0 &&& (3 : Int32))), .val (.ref u1), .val (.int (103 : Int32)), .val (.int (p1 &&& (3 : Int32))), .val (.int c0), .val (.int c1), .val (.int c2), .unset, .unset, .unset, .unset] [(.int (p1 &&& (3 : Int32)))]))
      refine Go.st (fun _ k => XS.iload X.here hx rfl (hb hby at_107) rfl k) ?_
      show Go p e below _ (T.setTop (mkF m 109 #[.val (.int p0), .val (.int p1), .val (.long p2), .second, .val (.int (p0 &&& (3 : Int32))), .val (.ref u1), .val (.int (103 : Int32)), .val (.int (p1 &&& (3 : Int32))), .val (.int c0), .val (.int c1), .val (.int c2), .unset, .unset, .unset, .unset] [(.int c0), (.int (p1 &&& (3 : Int32)))]))
      refine Go.st (fun _ k => XS.iload X.here hx rfl (hb hby at_109) rfl k) ?_
      show Go p e below _ (T.setTop (mkF m 111 #[.val (.int p0), .val (.int p1), .val (.long p2), .second, .val (.int (p0 &&& (3 : Int32))), .val (.ref u1), .val (.int (103 : Int32)), .val (.int (p1 &&& (3 : Int32))), .val (.int c0), .val (.int c1), .val (.int c2), .unset, .unset, .unset, .unset] [(.int c1), (.int c0), (.int (p1 &&& (3 : Int32)))]))
      refine Go.st (fun _ k => XS.iload X.here hx rfl (hb hby at_111) rfl k) ?_
      show Go p e below _ (T.setTop (mkF m 113 #[.val (.int p0), .val (.int p1), .val (.long p2), .second, .val (.int (p0 &&& (3 : Int32))), .val (.ref u1), .val (.int (103 : Int32)), .val (.int (p1 &&& (3 : Int32))), .val (.int c0), .val (.int c1), .val (.int c2), .unset, .unset, .unset, .unset] [(.int c2), (.int c1), (.int c0), (.int (p1 &&& (3 : Int32)))]))
      refine Go.callH (argsL := [(.int (p1 &&& (3 : Int32))), (.int c0), (.int c1), (.int c2)]) (rest := []) (W := 0) (ck := 6) (sk := 18) H X hx hZ hown (hml.trans rfl) hT (hw _ (List.mem_of_getElem? (i := 4) rfl)) (hw _ (List.mem_of_getElem? (i := 5) rfl)) (hw _ (List.mem_of_getElem? (i := 6) rfl)) (hw _ (List.mem_of_getElem? (i := 7) rfl)) (by decide) pd_25 rfl rfl (Nat.le_of_ble_eq_true rfl) (hb hby at_113) (backOfSH (W := 0) (met_word l Z a0 hw [] (p1 &&& (3 : Int32)) c0 c1 c2 z n0 _ O Sc l0 l1 l2) hZ (hw _ (List.mem_of_getElem? (i := 7) rfl)) (hw _ (List.mem_of_getElem? (i := 6) rfl)) (by decide) (by decide) hEL H.2.1) (by decide) (by decide) ?_
      intro v T h4 L vm hT hQ hZ hown H Rc X
      obtain ⟨o6, rfl, N0, Ex0, S_o6⟩ := hQ
      have N := Fr.app N N0
      have KB := (Keep.refl h0 []).ext Ex0
      have O := O.keep KB all0
      show Go p e below _ (T.setTop (mkF m 116 #[.val (.int p0), .val (.int p1), .val (.long p2), .second, .val (.int (p0 &&& (3 : Int32))), .val (.ref u1), .val (.int (103 : Int32)), .val (.int (p1 &&& (3 : Int32))), .val (.int c0), .val (.int c1), .val (.int c2), .unset, .unset, .unset, .unset] [(.ref o6)]))
      refine Go.st (fun _ k => XS.astore X.here hx rfl (hb hby at_116) rfl rfl (l' := #[.val (.int p0), .val (.int p1), .val (.long p2), .second, .val (.int (p0 &&& (3 : Int32))), .val (.ref u1), .val (.int (103 : Int32)), .val (.int (p1 &&& (3 : Int32))), .val (.int c0), .val (.int c1), .val (.int c2), .val (.ref o6), .unset, .unset, .unset]) rfl k) ?_
      show Go p e below _ (T.setTop (mkF m 118 #[.val (.int p0), .val (.int p1), .val (.long p2), .second, .val (.int (p0 &&& (3 : Int32))), .val (.ref u1), .val (.int (103 : Int32)), .val (.int (p1 &&& (3 : Int32))), .val (.int c0), .val (.int c1), .val (.int c2), .val (.ref o6), .unset, .unset, .unset] []))
      refine Go.st (fun _ k => XS.iloadN X.here hx rfl (hb hby at_118) rfl k) ?_
      show Go p e below _ (T.setTop (mkF m 119 #[.val (.int p0), .val (.int p1), .val (.long p2), .second, .val (.int (p0 &&& (3 : Int32))), .val (.ref u1), .val (.int (103 : Int32)), .val (.int (p1 &&& (3 : Int32))), .val (.int c0), .val (.int c1), .val (.int c2), .val (.ref o6), .unset, .unset, .unset] [(.int p0)]))
      refine Go.st (fun _ k => XS.iconst X.here hx rfl (hb hby at_119) k) ?_
      show Go p e below _ (T.setTop (mkF m 120 #[.val (.int p0), .val (.int p1), .val (.long p2), .second, .val (.int (p0 &&& (3 : Int32))), .val (.ref u1), .val (.int (103 : Int32)), .val (.int (p1 &&& (3 : Int32))), .val (.int c0), .val (.int c1), .val (.int c2), .val (.ref o6), .unset, .unset, .unset] [(.int (2 : Int32)), (.int p0)]))
      refine Go.st (fun _ k => XS.iushr X.here hx rfl (hb hby at_120) rfl k) ?_
      show Go p e below _ (T.setTop (mkF m 121 #[.val (.int p0), .val (.int p1), .val (.long p2), .second, .val (.int (p0 &&& (3 : Int32))), .val (.ref u1), .val (.int (103 : Int32)), .val (.int (p1 &&& (3 : Int32))), .val (.int c0), .val (.int c1), .val (.int c2), .val (.ref o6), .unset, .unset, .unset] [(.int (((p0).toUInt32 >>> ((2 : Int32) &&& 31).toUInt32).toInt32))]))
      refine Go.st (fun _ k => XS.iconst X.here hx rfl (hb hby at_121) k) ?_
      show Go p e below _ (T.setTop (mkF m 122 #[.val (.int p0), .val (.int p1), .val (.long p2), .second, .val (.int (p0 &&& (3 : Int32))), .val (.ref u1), .val (.int (103 : Int32)), .val (.int (p1 &&& (3 : Int32))), .val (.int c0), .val (.int c1), .val (.int c2), .val (.ref o6), .unset, .unset, .unset] [(.int (1 : Int32)), (.int (((p0).toUInt32 >>> ((2 : Int32) &&& 31).toUInt32).toInt32))]))
      refine Go.st (fun _ k => XS.iand X.here hx rfl (hb hby at_122) rfl k) ?_
      show Go p e below _ (T.setTop (mkF m 123 #[.val (.int p0), .val (.int p1), .val (.long p2), .second, .val (.int (p0 &&& (3 : Int32))), .val (.ref u1), .val (.int (103 : Int32)), .val (.int (p1 &&& (3 : Int32))), .val (.int c0), .val (.int c1), .val (.int c2), .val (.ref o6), .unset, .unset, .unset] [(.int ((((p0).toUInt32 >>> ((2 : Int32) &&& 31).toUInt32).toInt32) &&& (1 : Int32)))]))
      refine own_cutT X hT (fun nn => (mkF m 131 #[.val (.int p0), .val (.int p1), .val (.long p2), .second, .val (.int (p0 &&& (3 : Int32))), .val (.ref u1), .val (.int (103 : Int32)), .val (.int (p1 &&& (3 : Int32))), .val (.int c0), .val (.int c1), .val (.int c2), .val (.ref o6), .unset, .unset, .unset] [(.int nn)])) (if ((((p0).toUInt32 >>> ((2 : Int32) &&& 31).toUInt32).toInt32) &&& (1 : Int32)) = (0 : Int32) then (0 : Int32) else (1 : Int32)) ?_ ?_
      · intro nn T hnn hT X
        show Go p e below _ (T.setTop (mkF m 131 #[.val (.int p0), .val (.int p1), .val (.long p2), .second, .val (.int (p0 &&& (3 : Int32))), .val (.ref u1), .val (.int (103 : Int32)), .val (.int (p1 &&& (3 : Int32))), .val (.int c0), .val (.int c1), .val (.int c2), .val (.ref o6), .unset, .unset, .unset] [(.int nn)]))
        refine Go.st (fun _ k => XS.istore X.here hx rfl (hb hby at_131) rfl (l' := #[.val (.int p0), .val (.int p1), .val (.long p2), .second, .val (.int (p0 &&& (3 : Int32))), .val (.ref u1), .val (.int (103 : Int32)), .val (.int (p1 &&& (3 : Int32))), .val (.int c0), .val (.int c1), .val (.int c2), .val (.ref o6), .val (.int nn), .unset, .unset]) rfl k) ?_
        show Go p e below _ (T.setTop (mkF m 133 #[.val (.int p0), .val (.int p1), .val (.long p2), .second, .val (.int (p0 &&& (3 : Int32))), .val (.ref u1), .val (.int (103 : Int32)), .val (.int (p1 &&& (3 : Int32))), .val (.int c0), .val (.int c1), .val (.int c2), .val (.ref o6), .val (.int nn), .unset, .unset] []))
        refine Go.st (fun _ k => XS.iload X.here hx rfl (hb hby at_133) rfl k) ?_
        show Go p e below _ (T.setTop (mkF m 135 #[.val (.int p0), .val (.int p1), .val (.long p2), .second, .val (.int (p0 &&& (3 : Int32))), .val (.ref u1), .val (.int (103 : Int32)), .val (.int (p1 &&& (3 : Int32))), .val (.int c0), .val (.int c1), .val (.int c2), .val (.ref o6), .val (.int nn), .unset, .unset] [(.int (p0 &&& (3 : Int32)))]))
        refine Go.st (fun _ k => XS.iconst X.here hx rfl (hb hby at_135) k) ?_
        show Go p e below _ (T.setTop (mkF m 136 #[.val (.int p0), .val (.int p1), .val (.long p2), .second, .val (.int (p0 &&& (3 : Int32))), .val (.ref u1), .val (.int (103 : Int32)), .val (.int (p1 &&& (3 : Int32))), .val (.int c0), .val (.int c1), .val (.int c2), .val (.ref o6), .val (.int nn), .unset, .unset] [(.int (3 : Int32)), (.int (p0 &&& (3 : Int32)))]))
        refine Go.st (fun _ k => XS.icmpYes X.here hx rfl (pc0 := 136) (pc' := 167) rfl (hb hby at_136) rfl (Jvm.Free.XT.ii_ne_t (by rw [hc5]; decide : ¬ ((p0 &&& (3 : Int32)) = (3 : Int32)))) (by decide) (by decide) k) ?_
        show Go p e below _ (T.setTop (mkF m 167 #[.val (.int p0), .val (.int p1), .val (.long p2), .second, .val (.int (p0 &&& (3 : Int32))), .val (.ref u1), .val (.int (103 : Int32)), .val (.int (p1 &&& (3 : Int32))), .val (.int c0), .val (.int c1), .val (.int c2), .val (.ref o6), .val (.int nn), .unset, .unset] []))
        refine Go.st (fun _ k => XS.aload X.here hx rfl (hb hby at_167) rfl rfl k) ?_
        show Go p e below _ (T.setTop (mkF m 169 #[.val (.int p0), .val (.int p1), .val (.long p2), .second, .val (.int (p0 &&& (3 : Int32))), .val (.ref u1), .val (.int (103 : Int32)), .val (.int (p1 &&& (3 : Int32))), .val (.int c0), .val (.int c1), .val (.int c2), .val (.ref o6), .val (.int nn), .unset, .unset] [(.ref u1)]))
        refine Go.st (fun _ k => XS.aload X.here hx rfl (hb hby at_169) rfl rfl k) ?_
        show Go p e below _ (T.setTop (mkF m 171 #[.val (.int p0), .val (.int p1), .val (.long p2), .second, .val (.int (p0 &&& (3 : Int32))), .val (.ref u1), .val (.int (103 : Int32)), .val (.int (p1 &&& (3 : Int32))), .val (.int c0), .val (.int c1), .val (.int c2), .val (.ref o6), .val (.int nn), .unset, .unset] [(.ref o6), (.ref u1)]))
        refine Go.callH (argsL := [(.ref u1), (.ref o6)]) (rest := []) (W := 0) (ck := 6) (sk := 48) H X hx hZ hown (hml.trans rfl) hT (hw _ (List.mem_of_getElem? (i := 38) rfl)) (hw _ (List.mem_of_getElem? (i := 39) rfl)) (hw _ (List.mem_of_getElem? (i := 40) rfl)) (hw _ (List.mem_of_getElem? (i := 41) rfl)) (by decide) pd_26 rfl rfl (Nat.le_of_ble_eq_true rfl) (hb hby at_171) (backOfSH (W := 0) (met_keyN l Z a0 hw [] z (103 : Int32) n0 u1 o6 (wordL (p1 &&& (3 : Int32)) c0 c1 c2) _ O Sc KD0 L1 ne13 (by decide) S_o6 (own_wlat l0 l1 l2) (own_wlen _ _ _ _)) hZ (hw _ (List.mem_of_getElem? (i := 41) rfl)) (hw _ (List.mem_of_getElem? (i := 40) rfl)) (by decide) (by decide) hEL H.2.1) (by decide) (by decide) ?_
        intro v T h5 L vm hT hQ hZ hown H Rc X
        obtain ⟨o7, rfl, N0, Ex0, S_o7⟩ := hQ
        have N := Fr.app N N0
        have KB := (Keep.refl h4 []).ext Ex0
        have O := O.keep KB all0
        have S_o6 := S_o6.ext (keepE KB)
        show Go p e below _ (T.setTop (mkF m 174 #[.val (.int p0), .val (.int p1), .val (.long p2), .second, .val (.int (p0 &&& (3 : Int32))), .val (.ref u1), .val (.int (103 : Int32)), .val (.int (p1 &&& (3 : Int32))), .val (.int c0), .val (.int c1), .val (.int c2), .val (.ref o6), .val (.int nn), .unset, .unset] [(.ref o7)]))
        refine Go.st (fun _ k => XS.astore X.here hx rfl (hb hby at_174) rfl rfl (l' := #[.val (.int p0), .val (.int p1), .val (.long p2), .second, .val (.int (p0 &&& (3 : Int32))), .val (.ref u1), .val (.int (103 : Int32)), .val (.int (p1 &&& (3 : Int32))), .val (.int c0), .val (.int c1), .val (.int c2), .val (.ref o6), .val (.int nn), .val (.ref o7), .unset]) rfl k) ?_
        show Go p e below _ (T.setTop (mkF m 176 #[.val (.int p0), .val (.int p1), .val (.long p2), .second, .val (.int (p0 &&& (3 : Int32))), .val (.ref u1), .val (.int (103 : Int32)), .val (.int (p1 &&& (3 : Int32))), .val (.int c0), .val (.int c1), .val (.int c2), .val (.ref o6), .val (.int nn), .val (.ref o7), .unset] []))
        refine Go.st (fun _ k => XS.iload X.here hx rfl (hb hby at_176) rfl k) ?_
        show Go p e below _ (T.setTop (mkF m 178 #[.val (.int p0), .val (.int p1), .val (.long p2), .second, .val (.int (p0 &&& (3 : Int32))), .val (.ref u1), .val (.int (103 : Int32)), .val (.int (p1 &&& (3 : Int32))), .val (.int c0), .val (.int c1), .val (.int c2), .val (.ref o6), .val (.int nn), .val (.ref o7), .unset] [(.int (103 : Int32))]))
        refine Go.st (fun _ k => XS.iload X.here hx rfl (hb hby at_178) rfl k) ?_
        show Go p e below _ (T.setTop (mkF m 180 #[.val (.int p0), .val (.int p1), .val (.long p2), .second, .val (.int (p0 &&& (3 : Int32))), .val (.ref u1), .val (.int (103 : Int32)), .val (.int (p1 &&& (3 : Int32))), .val (.int c0), .val (.int c1), .val (.int c2), .val (.ref o6), .val (.int nn), .val (.ref o7), .unset] [(.int (p1 &&& (3 : Int32))), (.int (103 : Int32))]))
        refine Go.st (fun _ k => XS.iload X.here hx rfl (hb hby at_180) rfl k) ?_
        show Go p e below _ (T.setTop (mkF m 182 #[.val (.int p0), .val (.int p1), .val (.long p2), .second, .val (.int (p0 &&& (3 : Int32))), .val (.ref u1), .val (.int (103 : Int32)), .val (.int (p1 &&& (3 : Int32))), .val (.int c0), .val (.int c1), .val (.int c2), .val (.ref o6), .val (.int nn), .val (.ref o7), .unset] [(.int c0), (.int (p1 &&& (3 : Int32))), (.int (103 : Int32))]))
        refine Go.st (fun _ k => XS.iload X.here hx rfl (hb hby at_182) rfl k) ?_
        show Go p e below _ (T.setTop (mkF m 184 #[.val (.int p0), .val (.int p1), .val (.long p2), .second, .val (.int (p0 &&& (3 : Int32))), .val (.ref u1), .val (.int (103 : Int32)), .val (.int (p1 &&& (3 : Int32))), .val (.int c0), .val (.int c1), .val (.int c2), .val (.ref o6), .val (.int nn), .val (.ref o7), .unset] [(.int c1), (.int c0), (.int (p1 &&& (3 : Int32))), (.int (103 : Int32))]))
        refine Go.st (fun _ k => XS.iload X.here hx rfl (hb hby at_184) rfl k) ?_
        show Go p e below _ (T.setTop (mkF m 186 #[.val (.int p0), .val (.int p1), .val (.long p2), .second, .val (.int (p0 &&& (3 : Int32))), .val (.ref u1), .val (.int (103 : Int32)), .val (.int (p1 &&& (3 : Int32))), .val (.int c0), .val (.int c1), .val (.int c2), .val (.ref o6), .val (.int nn), .val (.ref o7), .unset] [(.int c2), (.int c1), (.int c0), (.int (p1 &&& (3 : Int32))), (.int (103 : Int32))]))
        refine Go.callH (argsL := [(.int (103 : Int32)), (.int (p1 &&& (3 : Int32))), (.int c0), (.int c1), (.int c2)]) (rest := []) (W := 0) (ck := 6) (sk := 22) H X hx hZ hown (hml.trans rfl) hT (hw _ (List.mem_of_getElem? (i := 173) rfl)) (hw _ (List.mem_of_getElem? (i := 174) rfl)) (hw _ (List.mem_of_getElem? (i := 6) rfl)) (hw _ (List.mem_of_getElem? (i := 175) rfl)) (by decide) pd_27 rfl rfl (Nat.le_of_ble_eq_true rfl) (hb hby at_186) (backOfSH (W := 0) (met_ktxt l Z a0 hw [] (103 : Int32) (p1 &&& (3 : Int32)) c0 c1 c2 z n0 _ O Sc l0 l1 l2 (by decide)) hZ (hw _ (List.mem_of_getElem? (i := 175) rfl)) (hw _ (List.mem_of_getElem? (i := 6) rfl)) (by decide) (by decide) hEL H.2.1) (by decide) (by decide) ?_
        intro v T h6 L vm hT hQ hZ hown H Rc X
        obtain ⟨o8, rfl, N0, Ex0, S_o8⟩ := hQ
        have N := Fr.app N N0
        have KB := (Keep.refl h5 []).ext Ex0
        have O := O.keep KB all0
        have S_o6 := S_o6.ext (keepE KB)
        have S_o7 := S_o7.ext (keepE KB)
        show Go p e below _ (T.setTop (mkF m 189 #[.val (.int p0), .val (.int p1), .val (.long p2), .second, .val (.int (p0 &&& (3 : Int32))), .val (.ref u1), .val (.int (103 : Int32)), .val (.int (p1 &&& (3 : Int32))), .val (.int c0), .val (.int c1), .val (.int c2), .val (.ref o6), .val (.int nn), .val (.ref o7), .unset] [(.ref o8)]))
        refine Go.st (fun _ k => XS.astore X.here hx rfl (hb hby at_189) rfl rfl (l' := #[.val (.int p0), .val (.int p1), .val (.long p2), .second, .val (.int (p0 &&& (3 : Int32))), .val (.ref u1), .val (.int (103 : Int32)), .val (.int (p1 &&& (3 : Int32))), .val (.int c0), .val (.int c1), .val (.int c2), .val (.ref o6), .val (.int nn), .val (.ref o7), .val (.ref o8)]) rfl k) ?_
        show Go p e below _ (T.setTop (mkF m 191 #[.val (.int p0), .val (.int p1), .val (.long p2), .second, .val (.int (p0 &&& (3 : Int32))), .val (.ref u1), .val (.int (103 : Int32)), .val (.int (p1 &&& (3 : Int32))), .val (.int c0), .val (.int c1), .val (.int c2), .val (.ref o6), .val (.int nn), .val (.ref o7), .val (.ref o8)] []))
        refine Go.st (fun _ k => XS.aload X.here hx rfl (hb hby at_191) rfl rfl k) ?_
        show Go p e below _ (T.setTop (mkF m 193 #[.val (.int p0), .val (.int p1), .val (.long p2), .second, .val (.int (p0 &&& (3 : Int32))), .val (.ref u1), .val (.int (103 : Int32)), .val (.int (p1 &&& (3 : Int32))), .val (.int c0), .val (.int c1), .val (.int c2), .val (.ref o6), .val (.int nn), .val (.ref o7), .val (.ref o8)] [(.ref o7)]))
        refine Go.st (fun _ k => XS.ifnullNo X.here hx rfl (hb hby at_193) rfl k) ?_
        show Go p e below _ (T.setTop (mkF m 196 #[.val (.int p0), .val (.int p1), .val (.long p2), .second, .val (.int (p0 &&& (3 : Int32))), .val (.ref u1), .val (.int (103 : Int32)), .val (.int (p1 &&& (3 : Int32))), .val (.int c0), .val (.int c1), .val (.int c2), .val (.ref o6), .val (.int nn), .val (.ref o7), .val (.ref o8)] []))
        refine Go.st (fun _ k => XS.aload X.here hx rfl (hb hby at_196) rfl rfl k) ?_
        show Go p e below _ (T.setTop (mkF m 198 #[.val (.int p0), .val (.int p1), .val (.long p2), .second, .val (.int (p0 &&& (3 : Int32))), .val (.ref u1), .val (.int (103 : Int32)), .val (.int (p1 &&& (3 : Int32))), .val (.int c0), .val (.int c1), .val (.int c2), .val (.ref o6), .val (.int nn), .val (.ref o7), .val (.ref o8)] [(.ref o7)]))
        refine Go.st (fun _ k => XS.aload X.here hx rfl (hb hby at_198) rfl rfl k) ?_
        show Go p e below _ (T.setTop (mkF m 200 #[.val (.int p0), .val (.int p1), .val (.long p2), .second, .val (.int (p0 &&& (3 : Int32))), .val (.ref u1), .val (.int (103 : Int32)), .val (.int (p1 &&& (3 : Int32))), .val (.int c0), .val (.int c1), .val (.int c2), .val (.ref o6), .val (.int nn), .val (.ref o7), .val (.ref o8)] [(.ref o8), (.ref o7)]))
        refine Go.virtV (K := "java/lang/String") (z := (⟨"java/lang/String", "equals", "(Ljava/lang/Object;)Z"⟩ : MethodName)) (argsL := [(.ref o8)]) (rest := []) (W := 0) (w := (.int (if ((103 : Int32) :: 58 :: (wordL (p1 &&& (3 : Int32)) c0 c1 c2)) = ((103 : Int32) :: 58 :: (wordL (p1 &&& (3 : Int32)) c0 c1 c2)) then 1 else 0))) X hx hZ hown (hml.trans rfl) hT S_o7.exa (hw _ (List.mem_of_getElem? (i := 176) rfl)) (hw _ (List.mem_of_getElem? (i := 177) rfl)) (hw _ (List.mem_of_getElem? (i := 179) rfl)) (hw _ (List.mem_of_getElem? (i := 178) rfl)) (by decide) pd_28 rfl rfl (Nat.le_of_ble_eq_true rfl) (hb hby at_200) (notFace_of_selects (args := #[]) (mvT hZ (hw _ (List.mem_of_getElem? (i := 179) rfl)))) (own_eq (W := 0) hw hZ O Sc S_o7 S_o8 (by decide) (by decide)) (by decide) (by decide) ?_
        intro T hT X
        show Go p e below _ (T.setTop (mkF m 203 #[.val (.int p0), .val (.int p1), .val (.long p2), .second, .val (.int (p0 &&& (3 : Int32))), .val (.ref u1), .val (.int (103 : Int32)), .val (.int (p1 &&& (3 : Int32))), .val (.int c0), .val (.int c1), .val (.int c2), .val (.ref o6), .val (.int nn), .val (.ref o7), .val (.ref o8)] [(.int (if ((103 : Int32) :: 58 :: (wordL (p1 &&& (3 : Int32)) c0 c1 c2)) = ((103 : Int32) :: 58 :: (wordL (p1 &&& (3 : Int32)) c0 c1 c2)) then 1 else 0))]))
        rw [if_pos rfl]
        show Go p e below _ (T.setTop (mkF m 203 #[.val (.int p0), .val (.int p1), .val (.long p2), .second, .val (.int (p0 &&& (3 : Int32))), .val (.ref u1), .val (.int (103 : Int32)), .val (.int (p1 &&& (3 : Int32))), .val (.int c0), .val (.int c1), .val (.int c2), .val (.ref o6), .val (.int nn), .val (.ref o7), .val (.ref o8)] [(.int (1 : Int32))]))
        refine Go.st (fun _ k => XS.ifNo X.here hx rfl (hb hby at_203) rfl (Jvm.Free.XT.i0_eq_f (by decide : ¬ ((1 : Int32) = (0 : Int32)))) k) ?_
        show Go p e below _ (T.setTop (mkF m 206 #[.val (.int p0), .val (.int p1), .val (.long p2), .second, .val (.int (p0 &&& (3 : Int32))), .val (.ref u1), .val (.int (103 : Int32)), .val (.int (p1 &&& (3 : Int32))), .val (.int c0), .val (.int c1), .val (.int c2), .val (.ref o6), .val (.int nn), .val (.ref o7), .val (.ref o8)] []))
        refine Go.st (fun _ k => XS.iconst X.here hx rfl (hb hby at_206) k) ?_
        show Go p e below _ (T.setTop (mkF m 207 #[.val (.int p0), .val (.int p1), .val (.long p2), .second, .val (.int (p0 &&& (3 : Int32))), .val (.ref u1), .val (.int (103 : Int32)), .val (.int (p1 &&& (3 : Int32))), .val (.int c0), .val (.int c1), .val (.int c2), .val (.ref o6), .val (.int nn), .val (.ref o7), .val (.ref o8)] [(.int (1 : Int32))]))
        refine Go.st (fun _ k => XS.goto X.here hx rfl (pc0 := 207) (pc' := 211) rfl (hb hby at_207) (by decide) (by decide) k) ?_
        show Go p e below _ (T.setTop (mkF m 211 #[.val (.int p0), .val (.int p1), .val (.long p2), .second, .val (.int (p0 &&& (3 : Int32))), .val (.ref u1), .val (.int (103 : Int32)), .val (.int (p1 &&& (3 : Int32))), .val (.int c0), .val (.int c1), .val (.int c2), .val (.ref o6), .val (.int nn), .val (.ref o7), .val (.ref o8)] [(.int (1 : Int32))]))
        refine Go.retH hEL H hZ X hx hlk hT hret (by decide) (riI (by simp)) (hb hby at_211) (by decide) (by decide) ?_
        exact ⟨rfl, N⟩
      · intro K
        by_cases hc7 : ((((p0).toUInt32 >>> ((2 : Int32) &&& 31).toUInt32).toInt32) &&& (1 : Int32)) = (0 : Int32)
        · refine Go.st (fun _ k => XS.ifYes X.here hx rfl (pc0 := 123) (pc' := 130) rfl (hb hby at_123) rfl (Jvm.Free.XT.i0_eq_t hc7) (by decide) (by decide) k) ?_
          show Go p e below _ (T.setTop (mkF m 130 #[.val (.int p0), .val (.int p1), .val (.long p2), .second, .val (.int (p0 &&& (3 : Int32))), .val (.ref u1), .val (.int (103 : Int32)), .val (.int (p1 &&& (3 : Int32))), .val (.int c0), .val (.int c1), .val (.int c2), .val (.ref o6), .unset, .unset, .unset] []))
          refine Go.st (fun _ k => XS.iconst X.here hx rfl (hb hby at_130) k) ?_
          show Go p e below _ (T.setTop (mkF m 131 #[.val (.int p0), .val (.int p1), .val (.long p2), .second, .val (.int (p0 &&& (3 : Int32))), .val (.ref u1), .val (.int (103 : Int32)), .val (.int (p1 &&& (3 : Int32))), .val (.int c0), .val (.int c1), .val (.int c2), .val (.ref o6), .unset, .unset, .unset] [(.int (0 : Int32))]))
          exact K _ _ (by rw [if_pos hc7]) hT X
        · refine Go.st (fun _ k => XS.ifNo X.here hx rfl (hb hby at_123) rfl (Jvm.Free.XT.i0_eq_f hc7) k) ?_
          show Go p e below _ (T.setTop (mkF m 126 #[.val (.int p0), .val (.int p1), .val (.long p2), .second, .val (.int (p0 &&& (3 : Int32))), .val (.ref u1), .val (.int (103 : Int32)), .val (.int (p1 &&& (3 : Int32))), .val (.int c0), .val (.int c1), .val (.int c2), .val (.ref o6), .unset, .unset, .unset] []))
          refine Go.st (fun _ k => XS.iconst X.here hx rfl (hb hby at_126) k) ?_
          show Go p e below _ (T.setTop (mkF m 127 #[.val (.int p0), .val (.int p1), .val (.long p2), .second, .val (.int (p0 &&& (3 : Int32))), .val (.ref u1), .val (.int (103 : Int32)), .val (.int (p1 &&& (3 : Int32))), .val (.int c0), .val (.int c1), .val (.int c2), .val (.ref o6), .unset, .unset, .unset] [(.int (1 : Int32))]))
          refine Go.st (fun _ k => XS.goto X.here hx rfl (pc0 := 127) (pc' := 131) rfl (hb hby at_127) (by decide) (by decide) k) ?_
          show Go p e below _ (T.setTop (mkF m 131 #[.val (.int p0), .val (.int p1), .val (.long p2), .second, .val (.int (p0 &&& (3 : Int32))), .val (.ref u1), .val (.int (103 : Int32)), .val (.int (p1 &&& (3 : Int32))), .val (.int c0), .val (.int c1), .val (.int c2), .val (.ref o6), .unset, .unset, .unset] [(.int (1 : Int32))]))
          exact K _ _ (by rw [if_neg hc7]) hT X
    · refine Go.st (fun _ k => XS.icmpYes X.here hx rfl (pc0 := 25) (pc' := 40) rfl (hb hby at_25) rfl (Jvm.Free.XT.ii_ne_t hc5) (by decide) (by decide) k) ?_
      show Go p e below _ (T.setTop (mkF m 40 #[.val (.int p0), .val (.int p1), .val (.long p2), .second, .val (.int (p0 &&& (3 : Int32))), .unset, .unset, .unset, .unset, .unset, .unset, .unset, .unset, .unset, .unset] []))
      refine Go.st (fun _ k => XS.iload X.here hx rfl (hb hby at_40) rfl k) ?_
      show Go p e below _ (T.setTop (mkF m 42 #[.val (.int p0), .val (.int p1), .val (.long p2), .second, .val (.int (p0 &&& (3 : Int32))), .unset, .unset, .unset, .unset, .unset, .unset, .unset, .unset, .unset, .unset] [(.int (p0 &&& (3 : Int32)))]))
      refine Go.st (fun _ k => XS.iconst X.here hx rfl (hb hby at_42) k) ?_
      show Go p e below _ (T.setTop (mkF m 43 #[.val (.int p0), .val (.int p1), .val (.long p2), .second, .val (.int (p0 &&& (3 : Int32))), .unset, .unset, .unset, .unset, .unset, .unset, .unset, .unset, .unset, .unset] [(.int (2 : Int32)), (.int (p0 &&& (3 : Int32)))]))
      by_cases hc9 : (p0 &&& (3 : Int32)) = (2 : Int32)
      · refine Go.st (fun _ k => XS.icmpNo X.here hx rfl (hb hby at_43) rfl (Jvm.Free.XT.ii_ne_f hc9) k) ?_
        show Go p e below _ (T.setTop (mkF m 46 #[.val (.int p0), .val (.int p1), .val (.long p2), .second, .val (.int (p0 &&& (3 : Int32))), .unset, .unset, .unset, .unset, .unset, .unset, .unset, .unset, .unset, .unset] []))
        obtain ⟨T, X, hT, st⟩ := getS2 X hx hZ hown (host := "") (Or.inl (hw _ (List.mem_of_getElem? (i := 197) rfl))) Via.refl hT (T2.ext (O).2) (g := (mkF m 46 #[.val (.int p0), .val (.int p1), .val (.long p2), .second, .val (.int (p0 &&& (3 : Int32))), .unset, .unset, .unset, .unset, .unset, .unset, .unset, .unset, .unset, .unset] [])) rfl (hb hby at_46)
        refine Go.st st ?_
        show Go p e below _ (T.setTop (mkF m 49 #[.val (.int p0), .val (.int p1), .val (.long p2), .second, .val (.int (p0 &&& (3 : Int32))), .unset, .unset, .unset, .unset, .unset, .unset, .unset, .unset, .unset, .unset] [(.ref u2)]))
        refine Go.st (fun _ k => XS.astore X.here hx rfl (hb hby at_49) rfl rfl (l' := #[.val (.int p0), .val (.int p1), .val (.long p2), .second, .val (.int (p0 &&& (3 : Int32))), .val (.ref u2), .unset, .unset, .unset, .unset, .unset, .unset, .unset, .unset, .unset]) rfl k) ?_
        show Go p e below _ (T.setTop (mkF m 51 #[.val (.int p0), .val (.int p1), .val (.long p2), .second, .val (.int (p0 &&& (3 : Int32))), .val (.ref u2), .unset, .unset, .unset, .unset, .unset, .unset, .unset, .unset, .unset] []))
        refine Go.st (fun _ k => XS.bipush X.here hx rfl (hb hby at_51) k) ?_
        show Go p e below _ (T.setTop (mkF m 53 #[.val (.int p0), .val (.int p1), .val (.long p2), .second, .val (.int (p0 &&& (3 : Int32))), .val (.ref u2), .unset, .unset, .unset, .unset, .unset, .unset, .unset, .unset, .unset] [(.int (114 : Int32))]))
        refine Go.st (fun _ k => XS.istore X.here hx rfl (hb hby at_53) rfl (l' := #[.val (.int p0), .val (.int p1), .val (.long p2), .second, .val (.int (p0 &&& (3 : Int32))), .val (.ref u2), .val (.int (114 : Int32)), .unset, .unset, .unset, .unset, .unset, .unset, .unset, .unset]) rfl k) ?_
        show Go p e below _ (T.setTop (mkF m 55 #[.val (.int p0), .val (.int p1), .val (.long p2), .second, .val (.int (p0 &&& (3 : Int32))), .val (.ref u2), .val (.int (114 : Int32)), .unset, .unset, .unset, .unset, .unset, .unset, .unset, .unset] []))
        refine Go.st (fun _ k => XS.goto X.here hx rfl (pc0 := 55) (pc' := 67) rfl (hb hby at_55) (by decide) (by decide) k) ?_
        show Go p e below _ (T.setTop (mkF m 67 #[.val (.int p0), .val (.int p1), .val (.long p2), .second, .val (.int (p0 &&& (3 : Int32))), .val (.ref u2), .val (.int (114 : Int32)), .unset, .unset, .unset, .unset, .unset, .unset, .unset, .unset] []))
        refine Go.st (fun _ k => XS.iloadN X.here hx rfl (hb hby at_67) rfl k) ?_
        show Go p e below _ (T.setTop (mkF m 68 #[.val (.int p0), .val (.int p1), .val (.long p2), .second, .val (.int (p0 &&& (3 : Int32))), .val (.ref u2), .val (.int (114 : Int32)), .unset, .unset, .unset, .unset, .unset, .unset, .unset, .unset] [(.int p1)]))
        refine Go.st (fun _ k => XS.iconst X.here hx rfl (hb hby at_68) k) ?_
        show Go p e below _ (T.setTop (mkF m 69 #[.val (.int p0), .val (.int p1), .val (.long p2), .second, .val (.int (p0 &&& (3 : Int32))), .val (.ref u2), .val (.int (114 : Int32)), .unset, .unset, .unset, .unset, .unset, .unset, .unset, .unset] [(.int (3 : Int32)), (.int p1)]))
        refine Go.st (fun _ k => XS.iand X.here hx rfl (hb hby at_69) rfl k) ?_
        show Go p e below _ (T.setTop (mkF m 70 #[.val (.int p0), .val (.int p1), .val (.long p2), .second, .val (.int (p0 &&& (3 : Int32))), .val (.ref u2), .val (.int (114 : Int32)), .unset, .unset, .unset, .unset, .unset, .unset, .unset, .unset] [(.int (p1 &&& (3 : Int32)))]))
        refine Go.st (fun _ k => XS.istore X.here hx rfl (hb hby at_70) rfl (l' := #[.val (.int p0), .val (.int p1), .val (.long p2), .second, .val (.int (p0 &&& (3 : Int32))), .val (.ref u2), .val (.int (114 : Int32)), .val (.int (p1 &&& (3 : Int32))), .unset, .unset, .unset, .unset, .unset, .unset, .unset]) rfl k) ?_
        show Go p e below _ (T.setTop (mkF m 72 #[.val (.int p0), .val (.int p1), .val (.long p2), .second, .val (.int (p0 &&& (3 : Int32))), .val (.ref u2), .val (.int (114 : Int32)), .val (.int (p1 &&& (3 : Int32))), .unset, .unset, .unset, .unset, .unset, .unset, .unset] []))
        refine Go.st (fun _ k => XS.lloadN X.here hx rfl (hb hby at_72) rfl k) ?_
        show Go p e below _ (T.setTop (mkF m 73 #[.val (.int p0), .val (.int p1), .val (.long p2), .second, .val (.int (p0 &&& (3 : Int32))), .val (.ref u2), .val (.int (114 : Int32)), .val (.int (p1 &&& (3 : Int32))), .unset, .unset, .unset, .unset, .unset, .unset, .unset] [(.long p2)]))
        refine Go.st (fun _ k => X.ldc2J hx hown (mvT hZ (hw _ (List.mem_of_getElem? (i := 3) rfl))) rfl (hb hby at_73) k) ?_
        show Go p e below _ (T.setTop (mkF m 76 #[.val (.int p0), .val (.int p1), .val (.long p2), .second, .val (.int (p0 &&& (3 : Int32))), .val (.ref u2), .val (.int (114 : Int32)), .val (.int (p1 &&& (3 : Int32))), .unset, .unset, .unset, .unset, .unset, .unset, .unset] [(.long (255 : Int64)), (.long p2)]))
        refine Go.st (fun _ k => XS.land X.here hx rfl (hb hby at_76) rfl k) ?_
        show Go p e below _ (T.setTop (mkF m 77 #[.val (.int p0), .val (.int p1), .val (.long p2), .second, .val (.int (p0 &&& (3 : Int32))), .val (.ref u2), .val (.int (114 : Int32)), .val (.int (p1 &&& (3 : Int32))), .unset, .unset, .unset, .unset, .unset, .unset, .unset] [(.long (p2 &&& (255 : Int64)))]))
        refine Go.st (fun _ k => XS.l2i X.here hx rfl (hb hby at_77) rfl k) ?_
        show Go p e below _ (T.setTop (mkF m 78 #[.val (.int p0), .val (.int p1), .val (.long p2), .second, .val (.int (p0 &&& (3 : Int32))), .val (.ref u2), .val (.int (114 : Int32)), .val (.int (p1 &&& (3 : Int32))), .unset, .unset, .unset, .unset, .unset, .unset, .unset] [(.int ((p2 &&& (255 : Int64)).toInt32))]))
        refine Go.st (fun _ k => XS.i2c X.here hx rfl (hb hby at_78) rfl k) ?_
        show Go p e below _ (T.setTop (mkF m 79 #[.val (.int p0), .val (.int p1), .val (.long p2), .second, .val (.int (p0 &&& (3 : Int32))), .val (.ref u2), .val (.int (114 : Int32)), .val (.int (p1 &&& (3 : Int32))), .unset, .unset, .unset, .unset, .unset, .unset, .unset] [(.int (((p2 &&& (255 : Int64)).toInt32).toUInt32.toUInt16.toUInt32.toInt32))]))
        obtain ⟨c0, hg0⟩ : ∃ z, z = (((p2 &&& (255 : Int64)).toInt32).toUInt32.toUInt16.toUInt32.toInt32) := ⟨_, rfl⟩
        rw [← hg0]
        show Go p e below _ (T.setTop (mkF m 79 #[.val (.int p0), .val (.int p1), .val (.long p2), .second, .val (.int (p0 &&& (3 : Int32))), .val (.ref u2), .val (.int (114 : Int32)), .val (.int (p1 &&& (3 : Int32))), .unset, .unset, .unset, .unset, .unset, .unset, .unset] [(.int c0)]))
        have l0 : L8 c0 := hg0 ▸ own_k8 _
        refine Go.st (fun _ k => XS.istore X.here hx rfl (hb hby at_79) rfl (l' := #[.val (.int p0), .val (.int p1), .val (.long p2), .second, .val (.int (p0 &&& (3 : Int32))), .val (.ref u2), .val (.int (114 : Int32)), .val (.int (p1 &&& (3 : Int32))), .val (.int c0), .unset, .unset, .unset, .unset, .unset, .unset]) rfl k) ?_
        show Go p e below _ (T.setTop (mkF m 81 #[.val (.int p0), .val (.int p1), .val (.long p2), .second, .val (.int (p0 &&& (3 : Int32))), .val (.ref u2), .val (.int (114 : Int32)), .val (.int (p1 &&& (3 : Int32))), .val (.int c0), .unset, .unset, .unset, .unset, .unset, .unset] []))
        refine Go.st (fun _ k => XS.lloadN X.here hx rfl (hb hby at_81) rfl k) ?_
        show Go p e below _ (T.setTop (mkF m 82 #[.val (.int p0), .val (.int p1), .val (.long p2), .second, .val (.int (p0 &&& (3 : Int32))), .val (.ref u2), .val (.int (114 : Int32)), .val (.int (p1 &&& (3 : Int32))), .val (.int c0), .unset, .unset, .unset, .unset, .unset, .unset] [(.long p2)]))
        refine Go.st (fun _ k => XS.bipush X.here hx rfl (hb hby at_82) k) ?_
        show Go p e below _ (T.setTop (mkF m 84 #[.val (.int p0), .val (.int p1), .val (.long p2), .second, .val (.int (p0 &&& (3 : Int32))), .val (.ref u2), .val (.int (114 : Int32)), .val (.int (p1 &&& (3 : Int32))), .val (.int c0), .unset, .unset, .unset, .unset, .unset, .unset] [(.int (8 : Int32)), (.long p2)]))
        refine Go.st (fun _ k => XS.lushr X.here hx rfl (hb hby at_84) rfl k) ?_
        show Go p e below _ (T.setTop (mkF m 85 #[.val (.int p0), .val (.int p1), .val (.long p2), .second, .val (.int (p0 &&& (3 : Int32))), .val (.ref u2), .val (.int (114 : Int32)), .val (.int (p1 &&& (3 : Int32))), .val (.int c0), .unset, .unset, .unset, .unset, .unset, .unset] [(.long (((p2).toUInt64 >>> ((8 : Int32) &&& 0x3f).toInt64.toUInt64).toInt64))]))
        refine Go.st (fun _ k => X.ldc2J hx hown (mvT hZ (hw _ (List.mem_of_getElem? (i := 3) rfl))) rfl (hb hby at_85) k) ?_
        show Go p e below _ (T.setTop (mkF m 88 #[.val (.int p0), .val (.int p1), .val (.long p2), .second, .val (.int (p0 &&& (3 : Int32))), .val (.ref u2), .val (.int (114 : Int32)), .val (.int (p1 &&& (3 : Int32))), .val (.int c0), .unset, .unset, .unset, .unset, .unset, .unset] [(.long (255 : Int64)), (.long (((p2).toUInt64 >>> ((8 : Int32) &&& 0x3f).toInt64.toUInt64).toInt64))]))
        refine Go.st (fun _ k => XS.land X.here hx rfl (hb hby at_88) rfl k) ?_
        show Go p e below _ (T.setTop (mkF m 89 #[.val (.int p0), .val (.int p1), .val (.long p2), .second, .val (.int (p0 &&& (3 : Int32))), .val (.ref u2), .val (.int (114 : Int32)), .val (.int (p1 &&& (3 : Int32))), .val (.int c0), .unset, .unset, .unset, .unset, .unset, .unset] [(.long ((((p2).toUInt64 >>> ((8 : Int32) &&& 0x3f).toInt64.toUInt64).toInt64) &&& (255 : Int64)))]))
        refine Go.st (fun _ k => XS.l2i X.here hx rfl (hb hby at_89) rfl k) ?_
        show Go p e below _ (T.setTop (mkF m 90 #[.val (.int p0), .val (.int p1), .val (.long p2), .second, .val (.int (p0 &&& (3 : Int32))), .val (.ref u2), .val (.int (114 : Int32)), .val (.int (p1 &&& (3 : Int32))), .val (.int c0), .unset, .unset, .unset, .unset, .unset, .unset] [(.int (((((p2).toUInt64 >>> ((8 : Int32) &&& 0x3f).toInt64.toUInt64).toInt64) &&& (255 : Int64)).toInt32))]))
        refine Go.st (fun _ k => XS.i2c X.here hx rfl (hb hby at_90) rfl k) ?_
        show Go p e below _ (T.setTop (mkF m 91 #[.val (.int p0), .val (.int p1), .val (.long p2), .second, .val (.int (p0 &&& (3 : Int32))), .val (.ref u2), .val (.int (114 : Int32)), .val (.int (p1 &&& (3 : Int32))), .val (.int c0), .unset, .unset, .unset, .unset, .unset, .unset] [(.int ((((((p2).toUInt64 >>> ((8 : Int32) &&& 0x3f).toInt64.toUInt64).toInt64) &&& (255 : Int64)).toInt32).toUInt32.toUInt16.toUInt32.toInt32))]))
        obtain ⟨c1, hg1⟩ : ∃ z, z = ((((((p2).toUInt64 >>> ((8 : Int32) &&& 0x3f).toInt64.toUInt64).toInt64) &&& (255 : Int64)).toInt32).toUInt32.toUInt16.toUInt32.toInt32) := ⟨_, rfl⟩
        rw [← hg1]
        show Go p e below _ (T.setTop (mkF m 91 #[.val (.int p0), .val (.int p1), .val (.long p2), .second, .val (.int (p0 &&& (3 : Int32))), .val (.ref u2), .val (.int (114 : Int32)), .val (.int (p1 &&& (3 : Int32))), .val (.int c0), .unset, .unset, .unset, .unset, .unset, .unset] [(.int c1)]))
        have l1 : L8 c1 := hg1 ▸ own_k8 _
        refine Go.st (fun _ k => XS.istore X.here hx rfl (hb hby at_91) rfl (l' := #[.val (.int p0), .val (.int p1), .val (.long p2), .second, .val (.int (p0 &&& (3 : Int32))), .val (.ref u2), .val (.int (114 : Int32)), .val (.int (p1 &&& (3 : Int32))), .val (.int c0), .val (.int c1), .unset, .unset, .unset, .unset, .unset]) rfl k) ?_
        show Go p e below _ (T.setTop (mkF m 93 #[.val (.int p0), .val (.int p1), .val (.long p2), .second, .val (.int (p0 &&& (3 : Int32))), .val (.ref u2), .val (.int (114 : Int32)), .val (.int (p1 &&& (3 : Int32))), .val (.int c0), .val (.int c1), .unset, .unset, .unset, .unset, .unset] []))
        refine Go.st (fun _ k => XS.lloadN X.here hx rfl (hb hby at_93) rfl k) ?_
        show Go p e below _ (T.setTop (mkF m 94 #[.val (.int p0), .val (.int p1), .val (.long p2), .second, .val (.int (p0 &&& (3 : Int32))), .val (.ref u2), .val (.int (114 : Int32)), .val (.int (p1 &&& (3 : Int32))), .val (.int c0), .val (.int c1), .unset, .unset, .unset, .unset, .unset] [(.long p2)]))
        refine Go.st (fun _ k => XS.bipush X.here hx rfl (hb hby at_94) k) ?_
        show Go p e below _ (T.setTop (mkF m 96 #[.val (.int p0), .val (.int p1), .val (.long p2), .second, .val (.int (p0 &&& (3 : Int32))), .val (.ref u2), .val (.int (114 : Int32)), .val (.int (p1 &&& (3 : Int32))), .val (.int c0), .val (.int c1), .unset, .unset, .unset, .unset, .unset] [(.int (16 : Int32)), (.long p2)]))
        refine Go.st (fun _ k => XS.lushr X.here hx rfl (hb hby at_96) rfl k) ?_
        show Go p e below _ (T.setTop (mkF m 97 #[.val (.int p0), .val (.int p1), .val (.long p2), .second, .val (.int (p0 &&& (3 : Int32))), .val (.ref u2), .val (.int (114 : Int32)), .val (.int (p1 &&& (3 : Int32))), .val (.int c0), .val (.int c1), .unset, .unset, .unset, .unset, .unset] [(.long (((p2).toUInt64 >>> ((16 : Int32) &&& 0x3f).toInt64.toUInt64).toInt64))]))
        refine Go.st (fun _ k => X.ldc2J hx hown (mvT hZ (hw _ (List.mem_of_getElem? (i := 3) rfl))) rfl (hb hby at_97) k) ?_
        show Go p e below _ (T.setTop (mkF m 100 #[.val (.int p0), .val (.int p1), .val (.long p2), .second, .val (.int (p0 &&& (3 : Int32))), .val (.ref u2), .val (.int (114 : Int32)), .val (.int (p1 &&& (3 : Int32))), .val (.int c0), .val (.int c1), .unset, .unset, .unset, .unset, .unset] [(.long (255 : Int64)), (.long (((p2).toUInt64 >>> ((16 : Int32) &&& 0x3f).toInt64.toUInt64).toInt64))]))
        refine Go.st (fun _ k => XS.land X.here hx rfl (hb hby at_100) rfl k) ?_
        show Go p e below _ (T.setTop (mkF m 101 #[.val (.int p0), .val (.int p1), .val (.long p2), .second, .val (.int (p0 &&& (3 : Int32))), .val (.ref u2), .val (.int (114 : Int32)), .val (.int (p1 &&& (3 : Int32))), .val (.int c0), .val (.int c1), .unset, .unset, .unset, .unset, .unset] [(.long ((((p2).toUInt64 >>> ((16 : Int32) &&& 0x3f).toInt64.toUInt64).toInt64) &&& (255 : Int64)))]))
        refine Go.st (fun _ k => XS.l2i X.here hx rfl (hb hby at_101) rfl k) ?_
        show Go p e below _ (T.setTop (mkF m 102 #[.val (.int p0), .val (.int p1), .val (.long p2), .second, .val (.int (p0 &&& (3 : Int32))), .val (.ref u2), .val (.int (114 : Int32)), .val (.int (p1 &&& (3 : Int32))), .val (.int c0), .val (.int c1), .unset, .unset, .unset, .unset, .unset] [(.int (((((p2).toUInt64 >>> ((16 : Int32) &&& 0x3f).toInt64.toUInt64).toInt64) &&& (255 : Int64)).toInt32))]))
        refine Go.st (fun _ k => XS.i2c X.here hx rfl (hb hby at_102) rfl k) ?_
        show Go p e below _ (T.setTop (mkF m 103 #[.val (.int p0), .val (.int p1), .val (.long p2), .second, .val (.int (p0 &&& (3 : Int32))), .val (.ref u2), .val (.int (114 : Int32)), .val (.int (p1 &&& (3 : Int32))), .val (.int c0), .val (.int c1), .unset, .unset, .unset, .unset, .unset] [(.int ((((((p2).toUInt64 >>> ((16 : Int32) &&& 0x3f).toInt64.toUInt64).toInt64) &&& (255 : Int64)).toInt32).toUInt32.toUInt16.toUInt32.toInt32))]))
        obtain ⟨c2, hg2⟩ : ∃ z, z = ((((((p2).toUInt64 >>> ((16 : Int32) &&& 0x3f).toInt64.toUInt64).toInt64) &&& (255 : Int64)).toInt32).toUInt32.toUInt16.toUInt32.toInt32) := ⟨_, rfl⟩
        rw [← hg2]
        show Go p e below _ (T.setTop (mkF m 103 #[.val (.int p0), .val (.int p1), .val (.long p2), .second, .val (.int (p0 &&& (3 : Int32))), .val (.ref u2), .val (.int (114 : Int32)), .val (.int (p1 &&& (3 : Int32))), .val (.int c0), .val (.int c1), .unset, .unset, .unset, .unset, .unset] [(.int c2)]))
        have l2 : L8 c2 := hg2 ▸ own_k8 _
        refine Go.st (fun _ k => XS.istore X.here hx rfl (hb hby at_103) rfl (l' := #[.val (.int p0), .val (.int p1), .val (.long p2), .second, .val (.int (p0 &&& (3 : Int32))), .val (.ref u2), .val (.int (114 : Int32)), .val (.int (p1 &&& (3 : Int32))), .val (.int c0), .val (.int c1), .val (.int c2), .unset, .unset, .unset, .unset]) rfl k) ?_
        show Go p e below _ (T.setTop (mkF m 105 #[.val (.int p0), .val (.int p1), .val (.long p2), .second, .val (.int (p0 &&& (3 : Int32))), .val (.ref u2), .val (.int (114 : Int32)), .val (.int (p1 &&& (3 : Int32))), .val (.int c0), .val (.int c1), .val (.int c2), .unset, .unset, .unset, .unset] []))
        refine Go.st (fun _ k => XS.iload X.here hx rfl (hb hby at_105) rfl k) ?_
        show Go p e below _ (T.setTop (mkF m 107 #[.val (.int p0), .val (.int p1), .val (.long p2), .second, .val (.int (p0 &&& (3 : Int32))), .val (.ref u2), .val (.int (114 : Int32)), .val (.int (p1 &&& (3 : Int32))), .val (.int c0), .val (.int c1), .val (.int c2), .unset, .unset, .unset, .unset] [(.int (p1 &&& (3 : Int32)))]))
        refine Go.st (fun _ k => XS.iload X.here hx rfl (hb hby at_107) rfl k) ?_
        show Go p e below _ (T.setTop (mkF m 109 #[.val (.int p0), .val (.int p1), .val (.long p2), .second, .val (.int (p0 &&& (3 : Int32))), .val (.ref u2), .val (.int (114 : Int32)), .val (.int (p1 &&& (3 : Int32))), .val (.int c0), .val (.int c1), .val (.int c2), .unset, .unset, .unset, .unset] [(.int c0), (.int (p1 &&& (3 : Int32)))]))
        refine Go.st (fun _ k => XS.iload X.here hx rfl (hb hby at_109) rfl k) ?_
        show Go p e below _ (T.setTop (mkF m 111 #[.val (.int p0), .val (.int p1), .val (.long p2), .second, .val (.int (p0 &&& (3 : Int32))), .val (.ref u2), .val (.int (114 : Int32)), .val (.int (p1 &&& (3 : Int32))), .val (.int c0), .val (.int c1), .val (.int c2), .unset, .unset, .unset, .unset] [(.int c1), (.int c0), (.int (p1 &&& (3 : Int32)))]))
        refine Go.st (fun _ k => XS.iload X.here hx rfl (hb hby at_111) rfl k) ?_
        show Go p e below _ (T.setTop (mkF m 113 #[.val (.int p0), .val (.int p1), .val (.long p2), .second, .val (.int (p0 &&& (3 : Int32))), .val (.ref u2), .val (.int (114 : Int32)), .val (.int (p1 &&& (3 : Int32))), .val (.int c0), .val (.int c1), .val (.int c2), .unset, .unset, .unset, .unset] [(.int c2), (.int c1), (.int c0), (.int (p1 &&& (3 : Int32)))]))
        refine Go.callH (argsL := [(.int (p1 &&& (3 : Int32))), (.int c0), (.int c1), (.int c2)]) (rest := []) (W := 0) (ck := 6) (sk := 18) H X hx hZ hown (hml.trans rfl) hT (hw _ (List.mem_of_getElem? (i := 4) rfl)) (hw _ (List.mem_of_getElem? (i := 5) rfl)) (hw _ (List.mem_of_getElem? (i := 6) rfl)) (hw _ (List.mem_of_getElem? (i := 7) rfl)) (by decide) pd_25 rfl rfl (Nat.le_of_ble_eq_true rfl) (hb hby at_113) (backOfSH (W := 0) (met_word l Z a0 hw [] (p1 &&& (3 : Int32)) c0 c1 c2 z n0 _ O Sc l0 l1 l2) hZ (hw _ (List.mem_of_getElem? (i := 7) rfl)) (hw _ (List.mem_of_getElem? (i := 6) rfl)) (by decide) (by decide) hEL H.2.1) (by decide) (by decide) ?_
        intro v T h7 L vm hT hQ hZ hown H Rc X
        obtain ⟨o10, rfl, N0, Ex0, S_o10⟩ := hQ
        have N := Fr.app N N0
        have KB := (Keep.refl h0 []).ext Ex0
        have O := O.keep KB all0
        show Go p e below _ (T.setTop (mkF m 116 #[.val (.int p0), .val (.int p1), .val (.long p2), .second, .val (.int (p0 &&& (3 : Int32))), .val (.ref u2), .val (.int (114 : Int32)), .val (.int (p1 &&& (3 : Int32))), .val (.int c0), .val (.int c1), .val (.int c2), .unset, .unset, .unset, .unset] [(.ref o10)]))
        refine Go.st (fun _ k => XS.astore X.here hx rfl (hb hby at_116) rfl rfl (l' := #[.val (.int p0), .val (.int p1), .val (.long p2), .second, .val (.int (p0 &&& (3 : Int32))), .val (.ref u2), .val (.int (114 : Int32)), .val (.int (p1 &&& (3 : Int32))), .val (.int c0), .val (.int c1), .val (.int c2), .val (.ref o10), .unset, .unset, .unset]) rfl k) ?_
        show Go p e below _ (T.setTop (mkF m 118 #[.val (.int p0), .val (.int p1), .val (.long p2), .second, .val (.int (p0 &&& (3 : Int32))), .val (.ref u2), .val (.int (114 : Int32)), .val (.int (p1 &&& (3 : Int32))), .val (.int c0), .val (.int c1), .val (.int c2), .val (.ref o10), .unset, .unset, .unset] []))
        refine Go.st (fun _ k => XS.iloadN X.here hx rfl (hb hby at_118) rfl k) ?_
        show Go p e below _ (T.setTop (mkF m 119 #[.val (.int p0), .val (.int p1), .val (.long p2), .second, .val (.int (p0 &&& (3 : Int32))), .val (.ref u2), .val (.int (114 : Int32)), .val (.int (p1 &&& (3 : Int32))), .val (.int c0), .val (.int c1), .val (.int c2), .val (.ref o10), .unset, .unset, .unset] [(.int p0)]))
        refine Go.st (fun _ k => XS.iconst X.here hx rfl (hb hby at_119) k) ?_
        show Go p e below _ (T.setTop (mkF m 120 #[.val (.int p0), .val (.int p1), .val (.long p2), .second, .val (.int (p0 &&& (3 : Int32))), .val (.ref u2), .val (.int (114 : Int32)), .val (.int (p1 &&& (3 : Int32))), .val (.int c0), .val (.int c1), .val (.int c2), .val (.ref o10), .unset, .unset, .unset] [(.int (2 : Int32)), (.int p0)]))
        refine Go.st (fun _ k => XS.iushr X.here hx rfl (hb hby at_120) rfl k) ?_
        show Go p e below _ (T.setTop (mkF m 121 #[.val (.int p0), .val (.int p1), .val (.long p2), .second, .val (.int (p0 &&& (3 : Int32))), .val (.ref u2), .val (.int (114 : Int32)), .val (.int (p1 &&& (3 : Int32))), .val (.int c0), .val (.int c1), .val (.int c2), .val (.ref o10), .unset, .unset, .unset] [(.int (((p0).toUInt32 >>> ((2 : Int32) &&& 31).toUInt32).toInt32))]))
        refine Go.st (fun _ k => XS.iconst X.here hx rfl (hb hby at_121) k) ?_
        show Go p e below _ (T.setTop (mkF m 122 #[.val (.int p0), .val (.int p1), .val (.long p2), .second, .val (.int (p0 &&& (3 : Int32))), .val (.ref u2), .val (.int (114 : Int32)), .val (.int (p1 &&& (3 : Int32))), .val (.int c0), .val (.int c1), .val (.int c2), .val (.ref o10), .unset, .unset, .unset] [(.int (1 : Int32)), (.int (((p0).toUInt32 >>> ((2 : Int32) &&& 31).toUInt32).toInt32))]))
        refine Go.st (fun _ k => XS.iand X.here hx rfl (hb hby at_122) rfl k) ?_
        show Go p e below _ (T.setTop (mkF m 123 #[.val (.int p0), .val (.int p1), .val (.long p2), .second, .val (.int (p0 &&& (3 : Int32))), .val (.ref u2), .val (.int (114 : Int32)), .val (.int (p1 &&& (3 : Int32))), .val (.int c0), .val (.int c1), .val (.int c2), .val (.ref o10), .unset, .unset, .unset] [(.int ((((p0).toUInt32 >>> ((2 : Int32) &&& 31).toUInt32).toInt32) &&& (1 : Int32)))]))
        refine own_cutT X hT (fun nn => (mkF m 131 #[.val (.int p0), .val (.int p1), .val (.long p2), .second, .val (.int (p0 &&& (3 : Int32))), .val (.ref u2), .val (.int (114 : Int32)), .val (.int (p1 &&& (3 : Int32))), .val (.int c0), .val (.int c1), .val (.int c2), .val (.ref o10), .unset, .unset, .unset] [(.int nn)])) (if ((((p0).toUInt32 >>> ((2 : Int32) &&& 31).toUInt32).toInt32) &&& (1 : Int32)) = (0 : Int32) then (0 : Int32) else (1 : Int32)) ?_ ?_
        · intro nn T hnn hT X
          show Go p e below _ (T.setTop (mkF m 131 #[.val (.int p0), .val (.int p1), .val (.long p2), .second, .val (.int (p0 &&& (3 : Int32))), .val (.ref u2), .val (.int (114 : Int32)), .val (.int (p1 &&& (3 : Int32))), .val (.int c0), .val (.int c1), .val (.int c2), .val (.ref o10), .unset, .unset, .unset] [(.int nn)]))
          refine Go.st (fun _ k => XS.istore X.here hx rfl (hb hby at_131) rfl (l' := #[.val (.int p0), .val (.int p1), .val (.long p2), .second, .val (.int (p0 &&& (3 : Int32))), .val (.ref u2), .val (.int (114 : Int32)), .val (.int (p1 &&& (3 : Int32))), .val (.int c0), .val (.int c1), .val (.int c2), .val (.ref o10), .val (.int nn), .unset, .unset]) rfl k) ?_
          show Go p e below _ (T.setTop (mkF m 133 #[.val (.int p0), .val (.int p1), .val (.long p2), .second, .val (.int (p0 &&& (3 : Int32))), .val (.ref u2), .val (.int (114 : Int32)), .val (.int (p1 &&& (3 : Int32))), .val (.int c0), .val (.int c1), .val (.int c2), .val (.ref o10), .val (.int nn), .unset, .unset] []))
          refine Go.st (fun _ k => XS.iload X.here hx rfl (hb hby at_133) rfl k) ?_
          show Go p e below _ (T.setTop (mkF m 135 #[.val (.int p0), .val (.int p1), .val (.long p2), .second, .val (.int (p0 &&& (3 : Int32))), .val (.ref u2), .val (.int (114 : Int32)), .val (.int (p1 &&& (3 : Int32))), .val (.int c0), .val (.int c1), .val (.int c2), .val (.ref o10), .val (.int nn), .unset, .unset] [(.int (p0 &&& (3 : Int32)))]))
          refine Go.st (fun _ k => XS.iconst X.here hx rfl (hb hby at_135) k) ?_
          show Go p e below _ (T.setTop (mkF m 136 #[.val (.int p0), .val (.int p1), .val (.long p2), .second, .val (.int (p0 &&& (3 : Int32))), .val (.ref u2), .val (.int (114 : Int32)), .val (.int (p1 &&& (3 : Int32))), .val (.int c0), .val (.int c1), .val (.int c2), .val (.ref o10), .val (.int nn), .unset, .unset] [(.int (3 : Int32)), (.int (p0 &&& (3 : Int32)))]))
          refine Go.st (fun _ k => XS.icmpYes X.here hx rfl (pc0 := 136) (pc' := 167) rfl (hb hby at_136) rfl (Jvm.Free.XT.ii_ne_t (by rw [hc9]; decide : ¬ ((p0 &&& (3 : Int32)) = (3 : Int32)))) (by decide) (by decide) k) ?_
          show Go p e below _ (T.setTop (mkF m 167 #[.val (.int p0), .val (.int p1), .val (.long p2), .second, .val (.int (p0 &&& (3 : Int32))), .val (.ref u2), .val (.int (114 : Int32)), .val (.int (p1 &&& (3 : Int32))), .val (.int c0), .val (.int c1), .val (.int c2), .val (.ref o10), .val (.int nn), .unset, .unset] []))
          refine Go.st (fun _ k => XS.aload X.here hx rfl (hb hby at_167) rfl rfl k) ?_
          show Go p e below _ (T.setTop (mkF m 169 #[.val (.int p0), .val (.int p1), .val (.long p2), .second, .val (.int (p0 &&& (3 : Int32))), .val (.ref u2), .val (.int (114 : Int32)), .val (.int (p1 &&& (3 : Int32))), .val (.int c0), .val (.int c1), .val (.int c2), .val (.ref o10), .val (.int nn), .unset, .unset] [(.ref u2)]))
          refine Go.st (fun _ k => XS.aload X.here hx rfl (hb hby at_169) rfl rfl k) ?_
          show Go p e below _ (T.setTop (mkF m 171 #[.val (.int p0), .val (.int p1), .val (.long p2), .second, .val (.int (p0 &&& (3 : Int32))), .val (.ref u2), .val (.int (114 : Int32)), .val (.int (p1 &&& (3 : Int32))), .val (.int c0), .val (.int c1), .val (.int c2), .val (.ref o10), .val (.int nn), .unset, .unset] [(.ref o10), (.ref u2)]))
          refine Go.callH (argsL := [(.ref u2), (.ref o10)]) (rest := []) (W := 0) (ck := 6) (sk := 48) H X hx hZ hown (hml.trans rfl) hT (hw _ (List.mem_of_getElem? (i := 38) rfl)) (hw _ (List.mem_of_getElem? (i := 39) rfl)) (hw _ (List.mem_of_getElem? (i := 40) rfl)) (hw _ (List.mem_of_getElem? (i := 41) rfl)) (by decide) pd_26 rfl rfl (Nat.le_of_ble_eq_true rfl) (hb hby at_171) (backOfSH (W := 0) (met_keyN l Z a0 hw [] z (114 : Int32) n0 u2 o10 (wordL (p1 &&& (3 : Int32)) c0 c1 c2) _ O Sc KD0 L2 ne23 (by decide) S_o10 (own_wlat l0 l1 l2) (own_wlen _ _ _ _)) hZ (hw _ (List.mem_of_getElem? (i := 41) rfl)) (hw _ (List.mem_of_getElem? (i := 40) rfl)) (by decide) (by decide) hEL H.2.1) (by decide) (by decide) ?_
          intro v T h8 L vm hT hQ hZ hown H Rc X
          obtain ⟨o11, rfl, N0, Ex0, S_o11⟩ := hQ
          have N := Fr.app N N0
          have KB := (Keep.refl h7 []).ext Ex0
          have O := O.keep KB all0
          have S_o10 := S_o10.ext (keepE KB)
          show Go p e below _ (T.setTop (mkF m 174 #[.val (.int p0), .val (.int p1), .val (.long p2), .second, .val (.int (p0 &&& (3 : Int32))), .val (.ref u2), .val (.int (114 : Int32)), .val (.int (p1 &&& (3 : Int32))), .val (.int c0), .val (.int c1), .val (.int c2), .val (.ref o10), .val (.int nn), .unset, .unset] [(.ref o11)]))
          refine Go.st (fun _ k => XS.astore X.here hx rfl (hb hby at_174) rfl rfl (l' := #[.val (.int p0), .val (.int p1), .val (.long p2), .second, .val (.int (p0 &&& (3 : Int32))), .val (.ref u2), .val (.int (114 : Int32)), .val (.int (p1 &&& (3 : Int32))), .val (.int c0), .val (.int c1), .val (.int c2), .val (.ref o10), .val (.int nn), .val (.ref o11), .unset]) rfl k) ?_
          show Go p e below _ (T.setTop (mkF m 176 #[.val (.int p0), .val (.int p1), .val (.long p2), .second, .val (.int (p0 &&& (3 : Int32))), .val (.ref u2), .val (.int (114 : Int32)), .val (.int (p1 &&& (3 : Int32))), .val (.int c0), .val (.int c1), .val (.int c2), .val (.ref o10), .val (.int nn), .val (.ref o11), .unset] []))
          refine Go.st (fun _ k => XS.iload X.here hx rfl (hb hby at_176) rfl k) ?_
          show Go p e below _ (T.setTop (mkF m 178 #[.val (.int p0), .val (.int p1), .val (.long p2), .second, .val (.int (p0 &&& (3 : Int32))), .val (.ref u2), .val (.int (114 : Int32)), .val (.int (p1 &&& (3 : Int32))), .val (.int c0), .val (.int c1), .val (.int c2), .val (.ref o10), .val (.int nn), .val (.ref o11), .unset] [(.int (114 : Int32))]))
          refine Go.st (fun _ k => XS.iload X.here hx rfl (hb hby at_178) rfl k) ?_
          show Go p e below _ (T.setTop (mkF m 180 #[.val (.int p0), .val (.int p1), .val (.long p2), .second, .val (.int (p0 &&& (3 : Int32))), .val (.ref u2), .val (.int (114 : Int32)), .val (.int (p1 &&& (3 : Int32))), .val (.int c0), .val (.int c1), .val (.int c2), .val (.ref o10), .val (.int nn), .val (.ref o11), .unset] [(.int (p1 &&& (3 : Int32))), (.int (114 : Int32))]))
          refine Go.st (fun _ k => XS.iload X.here hx rfl (hb hby at_180) rfl k) ?_
          show Go p e below _ (T.setTop (mkF m 182 #[.val (.int p0), .val (.int p1), .val (.long p2), .second, .val (.int (p0 &&& (3 : Int32))), .val (.ref u2), .val (.int (114 : Int32)), .val (.int (p1 &&& (3 : Int32))), .val (.int c0), .val (.int c1), .val (.int c2), .val (.ref o10), .val (.int nn), .val (.ref o11), .unset] [(.int c0), (.int (p1 &&& (3 : Int32))), (.int (114 : Int32))]))
          refine Go.st (fun _ k => XS.iload X.here hx rfl (hb hby at_182) rfl k) ?_
          show Go p e below _ (T.setTop (mkF m 184 #[.val (.int p0), .val (.int p1), .val (.long p2), .second, .val (.int (p0 &&& (3 : Int32))), .val (.ref u2), .val (.int (114 : Int32)), .val (.int (p1 &&& (3 : Int32))), .val (.int c0), .val (.int c1), .val (.int c2), .val (.ref o10), .val (.int nn), .val (.ref o11), .unset] [(.int c1), (.int c0), (.int (p1 &&& (3 : Int32))), (.int (114 : Int32))]))
          refine Go.st (fun _ k => XS.iload X.here hx rfl (hb hby at_184) rfl k) ?_
          show Go p e below _ (T.setTop (mkF m 186 #[.val (.int p0), .val (.int p1), .val (.long p2), .second, .val (.int (p0 &&& (3 : Int32))), .val (.ref u2), .val (.int (114 : Int32)), .val (.int (p1 &&& (3 : Int32))), .val (.int c0), .val (.int c1), .val (.int c2), .val (.ref o10), .val (.int nn), .val (.ref o11), .unset] [(.int c2), (.int c1), (.int c0), (.int (p1 &&& (3 : Int32))), (.int (114 : Int32))]))
          refine Go.callH (argsL := [(.int (114 : Int32)), (.int (p1 &&& (3 : Int32))), (.int c0), (.int c1), (.int c2)]) (rest := []) (W := 0) (ck := 6) (sk := 22) H X hx hZ hown (hml.trans rfl) hT (hw _ (List.mem_of_getElem? (i := 173) rfl)) (hw _ (List.mem_of_getElem? (i := 174) rfl)) (hw _ (List.mem_of_getElem? (i := 6) rfl)) (hw _ (List.mem_of_getElem? (i := 175) rfl)) (by decide) pd_27 rfl rfl (Nat.le_of_ble_eq_true rfl) (hb hby at_186) (backOfSH (W := 0) (met_ktxt l Z a0 hw [] (114 : Int32) (p1 &&& (3 : Int32)) c0 c1 c2 z n0 _ O Sc l0 l1 l2 (by decide)) hZ (hw _ (List.mem_of_getElem? (i := 175) rfl)) (hw _ (List.mem_of_getElem? (i := 6) rfl)) (by decide) (by decide) hEL H.2.1) (by decide) (by decide) ?_
          intro v T h9 L vm hT hQ hZ hown H Rc X
          obtain ⟨o12, rfl, N0, Ex0, S_o12⟩ := hQ
          have N := Fr.app N N0
          have KB := (Keep.refl h8 []).ext Ex0
          have O := O.keep KB all0
          have S_o10 := S_o10.ext (keepE KB)
          have S_o11 := S_o11.ext (keepE KB)
          show Go p e below _ (T.setTop (mkF m 189 #[.val (.int p0), .val (.int p1), .val (.long p2), .second, .val (.int (p0 &&& (3 : Int32))), .val (.ref u2), .val (.int (114 : Int32)), .val (.int (p1 &&& (3 : Int32))), .val (.int c0), .val (.int c1), .val (.int c2), .val (.ref o10), .val (.int nn), .val (.ref o11), .unset] [(.ref o12)]))
          refine Go.st (fun _ k => XS.astore X.here hx rfl (hb hby at_189) rfl rfl (l' := #[.val (.int p0), .val (.int p1), .val (.long p2), .second, .val (.int (p0 &&& (3 : Int32))), .val (.ref u2), .val (.int (114 : Int32)), .val (.int (p1 &&& (3 : Int32))), .val (.int c0), .val (.int c1), .val (.int c2), .val (.ref o10), .val (.int nn), .val (.ref o11), .val (.ref o12)]) rfl k) ?_
          show Go p e below _ (T.setTop (mkF m 191 #[.val (.int p0), .val (.int p1), .val (.long p2), .second, .val (.int (p0 &&& (3 : Int32))), .val (.ref u2), .val (.int (114 : Int32)), .val (.int (p1 &&& (3 : Int32))), .val (.int c0), .val (.int c1), .val (.int c2), .val (.ref o10), .val (.int nn), .val (.ref o11), .val (.ref o12)] []))
          refine Go.st (fun _ k => XS.aload X.here hx rfl (hb hby at_191) rfl rfl k) ?_
          show Go p e below _ (T.setTop (mkF m 193 #[.val (.int p0), .val (.int p1), .val (.long p2), .second, .val (.int (p0 &&& (3 : Int32))), .val (.ref u2), .val (.int (114 : Int32)), .val (.int (p1 &&& (3 : Int32))), .val (.int c0), .val (.int c1), .val (.int c2), .val (.ref o10), .val (.int nn), .val (.ref o11), .val (.ref o12)] [(.ref o11)]))
          refine Go.st (fun _ k => XS.ifnullNo X.here hx rfl (hb hby at_193) rfl k) ?_
          show Go p e below _ (T.setTop (mkF m 196 #[.val (.int p0), .val (.int p1), .val (.long p2), .second, .val (.int (p0 &&& (3 : Int32))), .val (.ref u2), .val (.int (114 : Int32)), .val (.int (p1 &&& (3 : Int32))), .val (.int c0), .val (.int c1), .val (.int c2), .val (.ref o10), .val (.int nn), .val (.ref o11), .val (.ref o12)] []))
          refine Go.st (fun _ k => XS.aload X.here hx rfl (hb hby at_196) rfl rfl k) ?_
          show Go p e below _ (T.setTop (mkF m 198 #[.val (.int p0), .val (.int p1), .val (.long p2), .second, .val (.int (p0 &&& (3 : Int32))), .val (.ref u2), .val (.int (114 : Int32)), .val (.int (p1 &&& (3 : Int32))), .val (.int c0), .val (.int c1), .val (.int c2), .val (.ref o10), .val (.int nn), .val (.ref o11), .val (.ref o12)] [(.ref o11)]))
          refine Go.st (fun _ k => XS.aload X.here hx rfl (hb hby at_198) rfl rfl k) ?_
          show Go p e below _ (T.setTop (mkF m 200 #[.val (.int p0), .val (.int p1), .val (.long p2), .second, .val (.int (p0 &&& (3 : Int32))), .val (.ref u2), .val (.int (114 : Int32)), .val (.int (p1 &&& (3 : Int32))), .val (.int c0), .val (.int c1), .val (.int c2), .val (.ref o10), .val (.int nn), .val (.ref o11), .val (.ref o12)] [(.ref o12), (.ref o11)]))
          refine Go.virtV (K := "java/lang/String") (z := (⟨"java/lang/String", "equals", "(Ljava/lang/Object;)Z"⟩ : MethodName)) (argsL := [(.ref o12)]) (rest := []) (W := 0) (w := (.int (if ((114 : Int32) :: 58 :: (wordL (p1 &&& (3 : Int32)) c0 c1 c2)) = ((114 : Int32) :: 58 :: (wordL (p1 &&& (3 : Int32)) c0 c1 c2)) then 1 else 0))) X hx hZ hown (hml.trans rfl) hT S_o11.exa (hw _ (List.mem_of_getElem? (i := 176) rfl)) (hw _ (List.mem_of_getElem? (i := 177) rfl)) (hw _ (List.mem_of_getElem? (i := 179) rfl)) (hw _ (List.mem_of_getElem? (i := 178) rfl)) (by decide) pd_28 rfl rfl (Nat.le_of_ble_eq_true rfl) (hb hby at_200) (notFace_of_selects (args := #[]) (mvT hZ (hw _ (List.mem_of_getElem? (i := 179) rfl)))) (own_eq (W := 0) hw hZ O Sc S_o11 S_o12 (by decide) (by decide)) (by decide) (by decide) ?_
          intro T hT X
          show Go p e below _ (T.setTop (mkF m 203 #[.val (.int p0), .val (.int p1), .val (.long p2), .second, .val (.int (p0 &&& (3 : Int32))), .val (.ref u2), .val (.int (114 : Int32)), .val (.int (p1 &&& (3 : Int32))), .val (.int c0), .val (.int c1), .val (.int c2), .val (.ref o10), .val (.int nn), .val (.ref o11), .val (.ref o12)] [(.int (if ((114 : Int32) :: 58 :: (wordL (p1 &&& (3 : Int32)) c0 c1 c2)) = ((114 : Int32) :: 58 :: (wordL (p1 &&& (3 : Int32)) c0 c1 c2)) then 1 else 0))]))
          rw [if_pos rfl]
          show Go p e below _ (T.setTop (mkF m 203 #[.val (.int p0), .val (.int p1), .val (.long p2), .second, .val (.int (p0 &&& (3 : Int32))), .val (.ref u2), .val (.int (114 : Int32)), .val (.int (p1 &&& (3 : Int32))), .val (.int c0), .val (.int c1), .val (.int c2), .val (.ref o10), .val (.int nn), .val (.ref o11), .val (.ref o12)] [(.int (1 : Int32))]))
          refine Go.st (fun _ k => XS.ifNo X.here hx rfl (hb hby at_203) rfl (Jvm.Free.XT.i0_eq_f (by decide : ¬ ((1 : Int32) = (0 : Int32)))) k) ?_
          show Go p e below _ (T.setTop (mkF m 206 #[.val (.int p0), .val (.int p1), .val (.long p2), .second, .val (.int (p0 &&& (3 : Int32))), .val (.ref u2), .val (.int (114 : Int32)), .val (.int (p1 &&& (3 : Int32))), .val (.int c0), .val (.int c1), .val (.int c2), .val (.ref o10), .val (.int nn), .val (.ref o11), .val (.ref o12)] []))
          refine Go.st (fun _ k => XS.iconst X.here hx rfl (hb hby at_206) k) ?_
          show Go p e below _ (T.setTop (mkF m 207 #[.val (.int p0), .val (.int p1), .val (.long p2), .second, .val (.int (p0 &&& (3 : Int32))), .val (.ref u2), .val (.int (114 : Int32)), .val (.int (p1 &&& (3 : Int32))), .val (.int c0), .val (.int c1), .val (.int c2), .val (.ref o10), .val (.int nn), .val (.ref o11), .val (.ref o12)] [(.int (1 : Int32))]))
          refine Go.st (fun _ k => XS.goto X.here hx rfl (pc0 := 207) (pc' := 211) rfl (hb hby at_207) (by decide) (by decide) k) ?_
          show Go p e below _ (T.setTop (mkF m 211 #[.val (.int p0), .val (.int p1), .val (.long p2), .second, .val (.int (p0 &&& (3 : Int32))), .val (.ref u2), .val (.int (114 : Int32)), .val (.int (p1 &&& (3 : Int32))), .val (.int c0), .val (.int c1), .val (.int c2), .val (.ref o10), .val (.int nn), .val (.ref o11), .val (.ref o12)] [(.int (1 : Int32))]))
          refine Go.retH hEL H hZ X hx hlk hT hret (by decide) (riI (by simp)) (hb hby at_211) (by decide) (by decide) ?_
          exact ⟨rfl, N⟩
        · intro K
          by_cases hc11 : ((((p0).toUInt32 >>> ((2 : Int32) &&& 31).toUInt32).toInt32) &&& (1 : Int32)) = (0 : Int32)
          · refine Go.st (fun _ k => XS.ifYes X.here hx rfl (pc0 := 123) (pc' := 130) rfl (hb hby at_123) rfl (Jvm.Free.XT.i0_eq_t hc11) (by decide) (by decide) k) ?_
            show Go p e below _ (T.setTop (mkF m 130 #[.val (.int p0), .val (.int p1), .val (.long p2), .second, .val (.int (p0 &&& (3 : Int32))), .val (.ref u2), .val (.int (114 : Int32)), .val (.int (p1 &&& (3 : Int32))), .val (.int c0), .val (.int c1), .val (.int c2), .val (.ref o10), .unset, .unset, .unset] []))
            refine Go.st (fun _ k => XS.iconst X.here hx rfl (hb hby at_130) k) ?_
            show Go p e below _ (T.setTop (mkF m 131 #[.val (.int p0), .val (.int p1), .val (.long p2), .second, .val (.int (p0 &&& (3 : Int32))), .val (.ref u2), .val (.int (114 : Int32)), .val (.int (p1 &&& (3 : Int32))), .val (.int c0), .val (.int c1), .val (.int c2), .val (.ref o10), .unset, .unset, .unset] [(.int (0 : Int32))]))
            exact K _ _ (by rw [if_pos hc11]) hT X
          · refine Go.st (fun _ k => XS.ifNo X.here hx rfl (hb hby at_123) rfl (Jvm.Free.XT.i0_eq_f hc11) k) ?_
            show Go p e below _ (T.setTop (mkF m 126 #[.val (.int p0), .val (.int p1), .val (.long p2), .second, .val (.int (p0 &&& (3 : Int32))), .val (.ref u2), .val (.int (114 : Int32)), .val (.int (p1 &&& (3 : Int32))), .val (.int c0), .val (.int c1), .val (.int c2), .val (.ref o10), .unset, .unset, .unset] []))
            refine Go.st (fun _ k => XS.iconst X.here hx rfl (hb hby at_126) k) ?_
            show Go p e below _ (T.setTop (mkF m 127 #[.val (.int p0), .val (.int p1), .val (.long p2), .second, .val (.int (p0 &&& (3 : Int32))), .val (.ref u2), .val (.int (114 : Int32)), .val (.int (p1 &&& (3 : Int32))), .val (.int c0), .val (.int c1), .val (.int c2), .val (.ref o10), .unset, .unset, .unset] [(.int (1 : Int32))]))
            refine Go.st (fun _ k => XS.goto X.here hx rfl (pc0 := 127) (pc' := 131) rfl (hb hby at_127) (by decide) (by decide) k) ?_
            show Go p e below _ (T.setTop (mkF m 131 #[.val (.int p0), .val (.int p1), .val (.long p2), .second, .val (.int (p0 &&& (3 : Int32))), .val (.ref u2), .val (.int (114 : Int32)), .val (.int (p1 &&& (3 : Int32))), .val (.int c0), .val (.int c1), .val (.int c2), .val (.ref o10), .unset, .unset, .unset] [(.int (1 : Int32))]))
            exact K _ _ (by rw [if_neg hc11]) hT X
      · refine Go.st (fun _ k => XS.icmpYes X.here hx rfl (pc0 := 43) (pc' := 58) rfl (hb hby at_43) rfl (Jvm.Free.XT.ii_ne_t hc9) (by decide) (by decide) k) ?_
        show Go p e below _ (T.setTop (mkF m 58 #[.val (.int p0), .val (.int p1), .val (.long p2), .second, .val (.int (p0 &&& (3 : Int32))), .unset, .unset, .unset, .unset, .unset, .unset, .unset, .unset, .unset, .unset] []))
        obtain ⟨T, X, hT, st⟩ := getS2 X hx hZ hown (host := "") (Or.inl (hw _ (List.mem_of_getElem? (i := 185) rfl))) Via.refl hT (T3.ext (O).2) (g := (mkF m 58 #[.val (.int p0), .val (.int p1), .val (.long p2), .second, .val (.int (p0 &&& (3 : Int32))), .unset, .unset, .unset, .unset, .unset, .unset, .unset, .unset, .unset, .unset] [])) rfl (hb hby at_58)
        refine Go.st st ?_
        show Go p e below _ (T.setTop (mkF m 61 #[.val (.int p0), .val (.int p1), .val (.long p2), .second, .val (.int (p0 &&& (3 : Int32))), .unset, .unset, .unset, .unset, .unset, .unset, .unset, .unset, .unset, .unset] [(.ref u3)]))
        refine Go.st (fun _ k => XS.astore X.here hx rfl (hb hby at_61) rfl rfl (l' := #[.val (.int p0), .val (.int p1), .val (.long p2), .second, .val (.int (p0 &&& (3 : Int32))), .val (.ref u3), .unset, .unset, .unset, .unset, .unset, .unset, .unset, .unset, .unset]) rfl k) ?_
        show Go p e below _ (T.setTop (mkF m 63 #[.val (.int p0), .val (.int p1), .val (.long p2), .second, .val (.int (p0 &&& (3 : Int32))), .val (.ref u3), .unset, .unset, .unset, .unset, .unset, .unset, .unset, .unset, .unset] []))
        refine Go.st (fun _ k => XS.bipush X.here hx rfl (hb hby at_63) k) ?_
        show Go p e below _ (T.setTop (mkF m 65 #[.val (.int p0), .val (.int p1), .val (.long p2), .second, .val (.int (p0 &&& (3 : Int32))), .val (.ref u3), .unset, .unset, .unset, .unset, .unset, .unset, .unset, .unset, .unset] [(.int (42 : Int32))]))
        refine Go.st (fun _ k => XS.istore X.here hx rfl (hb hby at_65) rfl (l' := #[.val (.int p0), .val (.int p1), .val (.long p2), .second, .val (.int (p0 &&& (3 : Int32))), .val (.ref u3), .val (.int (42 : Int32)), .unset, .unset, .unset, .unset, .unset, .unset, .unset, .unset]) rfl k) ?_
        show Go p e below _ (T.setTop (mkF m 67 #[.val (.int p0), .val (.int p1), .val (.long p2), .second, .val (.int (p0 &&& (3 : Int32))), .val (.ref u3), .val (.int (42 : Int32)), .unset, .unset, .unset, .unset, .unset, .unset, .unset, .unset] []))
        refine Go.st (fun _ k => XS.iloadN X.here hx rfl (hb hby at_67) rfl k) ?_
        show Go p e below _ (T.setTop (mkF m 68 #[.val (.int p0), .val (.int p1), .val (.long p2), .second, .val (.int (p0 &&& (3 : Int32))), .val (.ref u3), .val (.int (42 : Int32)), .unset, .unset, .unset, .unset, .unset, .unset, .unset, .unset] [(.int p1)]))
        refine Go.st (fun _ k => XS.iconst X.here hx rfl (hb hby at_68) k) ?_
        show Go p e below _ (T.setTop (mkF m 69 #[.val (.int p0), .val (.int p1), .val (.long p2), .second, .val (.int (p0 &&& (3 : Int32))), .val (.ref u3), .val (.int (42 : Int32)), .unset, .unset, .unset, .unset, .unset, .unset, .unset, .unset] [(.int (3 : Int32)), (.int p1)]))
        refine Go.st (fun _ k => XS.iand X.here hx rfl (hb hby at_69) rfl k) ?_
        show Go p e below _ (T.setTop (mkF m 70 #[.val (.int p0), .val (.int p1), .val (.long p2), .second, .val (.int (p0 &&& (3 : Int32))), .val (.ref u3), .val (.int (42 : Int32)), .unset, .unset, .unset, .unset, .unset, .unset, .unset, .unset] [(.int (p1 &&& (3 : Int32)))]))
        refine Go.st (fun _ k => XS.istore X.here hx rfl (hb hby at_70) rfl (l' := #[.val (.int p0), .val (.int p1), .val (.long p2), .second, .val (.int (p0 &&& (3 : Int32))), .val (.ref u3), .val (.int (42 : Int32)), .val (.int (p1 &&& (3 : Int32))), .unset, .unset, .unset, .unset, .unset, .unset, .unset]) rfl k) ?_
        show Go p e below _ (T.setTop (mkF m 72 #[.val (.int p0), .val (.int p1), .val (.long p2), .second, .val (.int (p0 &&& (3 : Int32))), .val (.ref u3), .val (.int (42 : Int32)), .val (.int (p1 &&& (3 : Int32))), .unset, .unset, .unset, .unset, .unset, .unset, .unset] []))
        refine Go.st (fun _ k => XS.lloadN X.here hx rfl (hb hby at_72) rfl k) ?_
        show Go p e below _ (T.setTop (mkF m 73 #[.val (.int p0), .val (.int p1), .val (.long p2), .second, .val (.int (p0 &&& (3 : Int32))), .val (.ref u3), .val (.int (42 : Int32)), .val (.int (p1 &&& (3 : Int32))), .unset, .unset, .unset, .unset, .unset, .unset, .unset] [(.long p2)]))
        refine Go.st (fun _ k => X.ldc2J hx hown (mvT hZ (hw _ (List.mem_of_getElem? (i := 3) rfl))) rfl (hb hby at_73) k) ?_
        show Go p e below _ (T.setTop (mkF m 76 #[.val (.int p0), .val (.int p1), .val (.long p2), .second, .val (.int (p0 &&& (3 : Int32))), .val (.ref u3), .val (.int (42 : Int32)), .val (.int (p1 &&& (3 : Int32))), .unset, .unset, .unset, .unset, .unset, .unset, .unset] [(.long (255 : Int64)), (.long p2)]))
        refine Go.st (fun _ k => XS.land X.here hx rfl (hb hby at_76) rfl k) ?_
        show Go p e below _ (T.setTop (mkF m 77 #[.val (.int p0), .val (.int p1), .val (.long p2), .second, .val (.int (p0 &&& (3 : Int32))), .val (.ref u3), .val (.int (42 : Int32)), .val (.int (p1 &&& (3 : Int32))), .unset, .unset, .unset, .unset, .unset, .unset, .unset] [(.long (p2 &&& (255 : Int64)))]))
        refine Go.st (fun _ k => XS.l2i X.here hx rfl (hb hby at_77) rfl k) ?_
        show Go p e below _ (T.setTop (mkF m 78 #[.val (.int p0), .val (.int p1), .val (.long p2), .second, .val (.int (p0 &&& (3 : Int32))), .val (.ref u3), .val (.int (42 : Int32)), .val (.int (p1 &&& (3 : Int32))), .unset, .unset, .unset, .unset, .unset, .unset, .unset] [(.int ((p2 &&& (255 : Int64)).toInt32))]))
        refine Go.st (fun _ k => XS.i2c X.here hx rfl (hb hby at_78) rfl k) ?_
        show Go p e below _ (T.setTop (mkF m 79 #[.val (.int p0), .val (.int p1), .val (.long p2), .second, .val (.int (p0 &&& (3 : Int32))), .val (.ref u3), .val (.int (42 : Int32)), .val (.int (p1 &&& (3 : Int32))), .unset, .unset, .unset, .unset, .unset, .unset, .unset] [(.int (((p2 &&& (255 : Int64)).toInt32).toUInt32.toUInt16.toUInt32.toInt32))]))
        obtain ⟨c0, hg0⟩ : ∃ z, z = (((p2 &&& (255 : Int64)).toInt32).toUInt32.toUInt16.toUInt32.toInt32) := ⟨_, rfl⟩
        rw [← hg0]
        show Go p e below _ (T.setTop (mkF m 79 #[.val (.int p0), .val (.int p1), .val (.long p2), .second, .val (.int (p0 &&& (3 : Int32))), .val (.ref u3), .val (.int (42 : Int32)), .val (.int (p1 &&& (3 : Int32))), .unset, .unset, .unset, .unset, .unset, .unset, .unset] [(.int c0)]))
        have l0 : L8 c0 := hg0 ▸ own_k8 _
        refine Go.st (fun _ k => XS.istore X.here hx rfl (hb hby at_79) rfl (l' := #[.val (.int p0), .val (.int p1), .val (.long p2), .second, .val (.int (p0 &&& (3 : Int32))), .val (.ref u3), .val (.int (42 : Int32)), .val (.int (p1 &&& (3 : Int32))), .val (.int c0), .unset, .unset, .unset, .unset, .unset, .unset]) rfl k) ?_
        show Go p e below _ (T.setTop (mkF m 81 #[.val (.int p0), .val (.int p1), .val (.long p2), .second, .val (.int (p0 &&& (3 : Int32))), .val (.ref u3), .val (.int (42 : Int32)), .val (.int (p1 &&& (3 : Int32))), .val (.int c0), .unset, .unset, .unset, .unset, .unset, .unset] []))
        refine Go.st (fun _ k => XS.lloadN X.here hx rfl (hb hby at_81) rfl k) ?_
        show Go p e below _ (T.setTop (mkF m 82 #[.val (.int p0), .val (.int p1), .val (.long p2), .second, .val (.int (p0 &&& (3 : Int32))), .val (.ref u3), .val (.int (42 : Int32)), .val (.int (p1 &&& (3 : Int32))), .val (.int c0), .unset, .unset, .unset, .unset, .unset, .unset] [(.long p2)]))
        refine Go.st (fun _ k => XS.bipush X.here hx rfl (hb hby at_82) k) ?_
        show Go p e below _ (T.setTop (mkF m 84 #[.val (.int p0), .val (.int p1), .val (.long p2), .second, .val (.int (p0 &&& (3 : Int32))), .val (.ref u3), .val (.int (42 : Int32)), .val (.int (p1 &&& (3 : Int32))), .val (.int c0), .unset, .unset, .unset, .unset, .unset, .unset] [(.int (8 : Int32)), (.long p2)]))
        refine Go.st (fun _ k => XS.lushr X.here hx rfl (hb hby at_84) rfl k) ?_
        show Go p e below _ (T.setTop (mkF m 85 #[.val (.int p0), .val (.int p1), .val (.long p2), .second, .val (.int (p0 &&& (3 : Int32))), .val (.ref u3), .val (.int (42 : Int32)), .val (.int (p1 &&& (3 : Int32))), .val (.int c0), .unset, .unset, .unset, .unset, .unset, .unset] [(.long (((p2).toUInt64 >>> ((8 : Int32) &&& 0x3f).toInt64.toUInt64).toInt64))]))
        refine Go.st (fun _ k => X.ldc2J hx hown (mvT hZ (hw _ (List.mem_of_getElem? (i := 3) rfl))) rfl (hb hby at_85) k) ?_
        show Go p e below _ (T.setTop (mkF m 88 #[.val (.int p0), .val (.int p1), .val (.long p2), .second, .val (.int (p0 &&& (3 : Int32))), .val (.ref u3), .val (.int (42 : Int32)), .val (.int (p1 &&& (3 : Int32))), .val (.int c0), .unset, .unset, .unset, .unset, .unset, .unset] [(.long (255 : Int64)), (.long (((p2).toUInt64 >>> ((8 : Int32) &&& 0x3f).toInt64.toUInt64).toInt64))]))
        refine Go.st (fun _ k => XS.land X.here hx rfl (hb hby at_88) rfl k) ?_
        show Go p e below _ (T.setTop (mkF m 89 #[.val (.int p0), .val (.int p1), .val (.long p2), .second, .val (.int (p0 &&& (3 : Int32))), .val (.ref u3), .val (.int (42 : Int32)), .val (.int (p1 &&& (3 : Int32))), .val (.int c0), .unset, .unset, .unset, .unset, .unset, .unset] [(.long ((((p2).toUInt64 >>> ((8 : Int32) &&& 0x3f).toInt64.toUInt64).toInt64) &&& (255 : Int64)))]))
        refine Go.st (fun _ k => XS.l2i X.here hx rfl (hb hby at_89) rfl k) ?_
        show Go p e below _ (T.setTop (mkF m 90 #[.val (.int p0), .val (.int p1), .val (.long p2), .second, .val (.int (p0 &&& (3 : Int32))), .val (.ref u3), .val (.int (42 : Int32)), .val (.int (p1 &&& (3 : Int32))), .val (.int c0), .unset, .unset, .unset, .unset, .unset, .unset] [(.int (((((p2).toUInt64 >>> ((8 : Int32) &&& 0x3f).toInt64.toUInt64).toInt64) &&& (255 : Int64)).toInt32))]))
        refine Go.st (fun _ k => XS.i2c X.here hx rfl (hb hby at_90) rfl k) ?_
        show Go p e below _ (T.setTop (mkF m 91 #[.val (.int p0), .val (.int p1), .val (.long p2), .second, .val (.int (p0 &&& (3 : Int32))), .val (.ref u3), .val (.int (42 : Int32)), .val (.int (p1 &&& (3 : Int32))), .val (.int c0), .unset, .unset, .unset, .unset, .unset, .unset] [(.int ((((((p2).toUInt64 >>> ((8 : Int32) &&& 0x3f).toInt64.toUInt64).toInt64) &&& (255 : Int64)).toInt32).toUInt32.toUInt16.toUInt32.toInt32))]))
        obtain ⟨c1, hg1⟩ : ∃ z, z = ((((((p2).toUInt64 >>> ((8 : Int32) &&& 0x3f).toInt64.toUInt64).toInt64) &&& (255 : Int64)).toInt32).toUInt32.toUInt16.toUInt32.toInt32) := ⟨_, rfl⟩
        rw [← hg1]
        show Go p e below _ (T.setTop (mkF m 91 #[.val (.int p0), .val (.int p1), .val (.long p2), .second, .val (.int (p0 &&& (3 : Int32))), .val (.ref u3), .val (.int (42 : Int32)), .val (.int (p1 &&& (3 : Int32))), .val (.int c0), .unset, .unset, .unset, .unset, .unset, .unset] [(.int c1)]))
        have l1 : L8 c1 := hg1 ▸ own_k8 _
        refine Go.st (fun _ k => XS.istore X.here hx rfl (hb hby at_91) rfl (l' := #[.val (.int p0), .val (.int p1), .val (.long p2), .second, .val (.int (p0 &&& (3 : Int32))), .val (.ref u3), .val (.int (42 : Int32)), .val (.int (p1 &&& (3 : Int32))), .val (.int c0), .val (.int c1), .unset, .unset, .unset, .unset, .unset]) rfl k) ?_
        show Go p e below _ (T.setTop (mkF m 93 #[.val (.int p0), .val (.int p1), .val (.long p2), .second, .val (.int (p0 &&& (3 : Int32))), .val (.ref u3), .val (.int (42 : Int32)), .val (.int (p1 &&& (3 : Int32))), .val (.int c0), .val (.int c1), .unset, .unset, .unset, .unset, .unset] []))
        refine Go.st (fun _ k => XS.lloadN X.here hx rfl (hb hby at_93) rfl k) ?_
        show Go p e below _ (T.setTop (mkF m 94 #[.val (.int p0), .val (.int p1), .val (.long p2), .second, .val (.int (p0 &&& (3 : Int32))), .val (.ref u3), .val (.int (42 : Int32)), .val (.int (p1 &&& (3 : Int32))), .val (.int c0), .val (.int c1), .unset, .unset, .unset, .unset, .unset] [(.long p2)]))
        refine Go.st (fun _ k => XS.bipush X.here hx rfl (hb hby at_94) k) ?_
        show Go p e below _ (T.setTop (mkF m 96 #[.val (.int p0), .val (.int p1), .val (.long p2), .second, .val (.int (p0 &&& (3 : Int32))), .val (.ref u3), .val (.int (42 : Int32)), .val (.int (p1 &&& (3 : Int32))), .val (.int c0), .val (.int c1), .unset, .unset, .unset, .unset, .unset] [(.int (16 : Int32)), (.long p2)]))
        refine Go.st (fun _ k => XS.lushr X.here hx rfl (hb hby at_96) rfl k) ?_
        show Go p e below _ (T.setTop (mkF m 97 #[.val (.int p0), .val (.int p1), .val (.long p2), .second, .val (.int (p0 &&& (3 : Int32))), .val (.ref u3), .val (.int (42 : Int32)), .val (.int (p1 &&& (3 : Int32))), .val (.int c0), .val (.int c1), .unset, .unset, .unset, .unset, .unset] [(.long (((p2).toUInt64 >>> ((16 : Int32) &&& 0x3f).toInt64.toUInt64).toInt64))]))
        refine Go.st (fun _ k => X.ldc2J hx hown (mvT hZ (hw _ (List.mem_of_getElem? (i := 3) rfl))) rfl (hb hby at_97) k) ?_
        show Go p e below _ (T.setTop (mkF m 100 #[.val (.int p0), .val (.int p1), .val (.long p2), .second, .val (.int (p0 &&& (3 : Int32))), .val (.ref u3), .val (.int (42 : Int32)), .val (.int (p1 &&& (3 : Int32))), .val (.int c0), .val (.int c1), .unset, .unset, .unset, .unset, .unset] [(.long (255 : Int64)), (.long (((p2).toUInt64 >>> ((16 : Int32) &&& 0x3f).toInt64.toUInt64).toInt64))]))
        refine Go.st (fun _ k => XS.land X.here hx rfl (hb hby at_100) rfl k) ?_
        show Go p e below _ (T.setTop (mkF m 101 #[.val (.int p0), .val (.int p1), .val (.long p2), .second, .val (.int (p0 &&& (3 : Int32))), .val (.ref u3), .val (.int (42 : Int32)), .val (.int (p1 &&& (3 : Int32))), .val (.int c0), .val (.int c1), .unset, .unset, .unset, .unset, .unset] [(.long ((((p2).toUInt64 >>> ((16 : Int32) &&& 0x3f).toInt64.toUInt64).toInt64) &&& (255 : Int64)))]))
        refine Go.st (fun _ k => XS.l2i X.here hx rfl (hb hby at_101) rfl k) ?_
        show Go p e below _ (T.setTop (mkF m 102 #[.val (.int p0), .val (.int p1), .val (.long p2), .second, .val (.int (p0 &&& (3 : Int32))), .val (.ref u3), .val (.int (42 : Int32)), .val (.int (p1 &&& (3 : Int32))), .val (.int c0), .val (.int c1), .unset, .unset, .unset, .unset, .unset] [(.int (((((p2).toUInt64 >>> ((16 : Int32) &&& 0x3f).toInt64.toUInt64).toInt64) &&& (255 : Int64)).toInt32))]))
        refine Go.st (fun _ k => XS.i2c X.here hx rfl (hb hby at_102) rfl k) ?_
        show Go p e below _ (T.setTop (mkF m 103 #[.val (.int p0), .val (.int p1), .val (.long p2), .second, .val (.int (p0 &&& (3 : Int32))), .val (.ref u3), .val (.int (42 : Int32)), .val (.int (p1 &&& (3 : Int32))), .val (.int c0), .val (.int c1), .unset, .unset, .unset, .unset, .unset] [(.int ((((((p2).toUInt64 >>> ((16 : Int32) &&& 0x3f).toInt64.toUInt64).toInt64) &&& (255 : Int64)).toInt32).toUInt32.toUInt16.toUInt32.toInt32))]))
        obtain ⟨c2, hg2⟩ : ∃ z, z = ((((((p2).toUInt64 >>> ((16 : Int32) &&& 0x3f).toInt64.toUInt64).toInt64) &&& (255 : Int64)).toInt32).toUInt32.toUInt16.toUInt32.toInt32) := ⟨_, rfl⟩
        rw [← hg2]
        show Go p e below _ (T.setTop (mkF m 103 #[.val (.int p0), .val (.int p1), .val (.long p2), .second, .val (.int (p0 &&& (3 : Int32))), .val (.ref u3), .val (.int (42 : Int32)), .val (.int (p1 &&& (3 : Int32))), .val (.int c0), .val (.int c1), .unset, .unset, .unset, .unset, .unset] [(.int c2)]))
        have l2 : L8 c2 := hg2 ▸ own_k8 _
        refine Go.st (fun _ k => XS.istore X.here hx rfl (hb hby at_103) rfl (l' := #[.val (.int p0), .val (.int p1), .val (.long p2), .second, .val (.int (p0 &&& (3 : Int32))), .val (.ref u3), .val (.int (42 : Int32)), .val (.int (p1 &&& (3 : Int32))), .val (.int c0), .val (.int c1), .val (.int c2), .unset, .unset, .unset, .unset]) rfl k) ?_
        show Go p e below _ (T.setTop (mkF m 105 #[.val (.int p0), .val (.int p1), .val (.long p2), .second, .val (.int (p0 &&& (3 : Int32))), .val (.ref u3), .val (.int (42 : Int32)), .val (.int (p1 &&& (3 : Int32))), .val (.int c0), .val (.int c1), .val (.int c2), .unset, .unset, .unset, .unset] []))
        refine Go.st (fun _ k => XS.iload X.here hx rfl (hb hby at_105) rfl k) ?_
        show Go p e below _ (T.setTop (mkF m 107 #[.val (.int p0), .val (.int p1), .val (.long p2), .second, .val (.int (p0 &&& (3 : Int32))), .val (.ref u3), .val (.int (42 : Int32)), .val (.int (p1 &&& (3 : Int32))), .val (.int c0), .val (.int c1), .val (.int c2), .unset, .unset, .unset, .unset] [(.int (p1 &&& (3 : Int32)))]))
        refine Go.st (fun _ k => XS.iload X.here hx rfl (hb hby at_107) rfl k) ?_
        show Go p e below _ (T.setTop (mkF m 109 #[.val (.int p0), .val (.int p1), .val (.long p2), .second, .val (.int (p0 &&& (3 : Int32))), .val (.ref u3), .val (.int (42 : Int32)), .val (.int (p1 &&& (3 : Int32))), .val (.int c0), .val (.int c1), .val (.int c2), .unset, .unset, .unset, .unset] [(.int c0), (.int (p1 &&& (3 : Int32)))]))
        refine Go.st (fun _ k => XS.iload X.here hx rfl (hb hby at_109) rfl k) ?_
        show Go p e below _ (T.setTop (mkF m 111 #[.val (.int p0), .val (.int p1), .val (.long p2), .second, .val (.int (p0 &&& (3 : Int32))), .val (.ref u3), .val (.int (42 : Int32)), .val (.int (p1 &&& (3 : Int32))), .val (.int c0), .val (.int c1), .val (.int c2), .unset, .unset, .unset, .unset] [(.int c1), (.int c0), (.int (p1 &&& (3 : Int32)))]))
        refine Go.st (fun _ k => XS.iload X.here hx rfl (hb hby at_111) rfl k) ?_
        show Go p e below _ (T.setTop (mkF m 113 #[.val (.int p0), .val (.int p1), .val (.long p2), .second, .val (.int (p0 &&& (3 : Int32))), .val (.ref u3), .val (.int (42 : Int32)), .val (.int (p1 &&& (3 : Int32))), .val (.int c0), .val (.int c1), .val (.int c2), .unset, .unset, .unset, .unset] [(.int c2), (.int c1), (.int c0), (.int (p1 &&& (3 : Int32)))]))
        refine Go.callH (argsL := [(.int (p1 &&& (3 : Int32))), (.int c0), (.int c1), (.int c2)]) (rest := []) (W := 0) (ck := 6) (sk := 18) H X hx hZ hown (hml.trans rfl) hT (hw _ (List.mem_of_getElem? (i := 4) rfl)) (hw _ (List.mem_of_getElem? (i := 5) rfl)) (hw _ (List.mem_of_getElem? (i := 6) rfl)) (hw _ (List.mem_of_getElem? (i := 7) rfl)) (by decide) pd_25 rfl rfl (Nat.le_of_ble_eq_true rfl) (hb hby at_113) (backOfSH (W := 0) (met_word l Z a0 hw [] (p1 &&& (3 : Int32)) c0 c1 c2 z n0 _ O Sc l0 l1 l2) hZ (hw _ (List.mem_of_getElem? (i := 7) rfl)) (hw _ (List.mem_of_getElem? (i := 6) rfl)) (by decide) (by decide) hEL H.2.1) (by decide) (by decide) ?_
        intro v T h10 L vm hT hQ hZ hown H Rc X
        obtain ⟨o13, rfl, N0, Ex0, S_o13⟩ := hQ
        have N := Fr.app N N0
        have KB := (Keep.refl h0 []).ext Ex0
        have O := O.keep KB all0
        show Go p e below _ (T.setTop (mkF m 116 #[.val (.int p0), .val (.int p1), .val (.long p2), .second, .val (.int (p0 &&& (3 : Int32))), .val (.ref u3), .val (.int (42 : Int32)), .val (.int (p1 &&& (3 : Int32))), .val (.int c0), .val (.int c1), .val (.int c2), .unset, .unset, .unset, .unset] [(.ref o13)]))
        refine Go.st (fun _ k => XS.astore X.here hx rfl (hb hby at_116) rfl rfl (l' := #[.val (.int p0), .val (.int p1), .val (.long p2), .second, .val (.int (p0 &&& (3 : Int32))), .val (.ref u3), .val (.int (42 : Int32)), .val (.int (p1 &&& (3 : Int32))), .val (.int c0), .val (.int c1), .val (.int c2), .val (.ref o13), .unset, .unset, .unset]) rfl k) ?_
        show Go p e below _ (T.setTop (mkF m 118 #[.val (.int p0), .val (.int p1), .val (.long p2), .second, .val (.int (p0 &&& (3 : Int32))), .val (.ref u3), .val (.int (42 : Int32)), .val (.int (p1 &&& (3 : Int32))), .val (.int c0), .val (.int c1), .val (.int c2), .val (.ref o13), .unset, .unset, .unset] []))
        refine Go.st (fun _ k => XS.iloadN X.here hx rfl (hb hby at_118) rfl k) ?_
        show Go p e below _ (T.setTop (mkF m 119 #[.val (.int p0), .val (.int p1), .val (.long p2), .second, .val (.int (p0 &&& (3 : Int32))), .val (.ref u3), .val (.int (42 : Int32)), .val (.int (p1 &&& (3 : Int32))), .val (.int c0), .val (.int c1), .val (.int c2), .val (.ref o13), .unset, .unset, .unset] [(.int p0)]))
        refine Go.st (fun _ k => XS.iconst X.here hx rfl (hb hby at_119) k) ?_
        show Go p e below _ (T.setTop (mkF m 120 #[.val (.int p0), .val (.int p1), .val (.long p2), .second, .val (.int (p0 &&& (3 : Int32))), .val (.ref u3), .val (.int (42 : Int32)), .val (.int (p1 &&& (3 : Int32))), .val (.int c0), .val (.int c1), .val (.int c2), .val (.ref o13), .unset, .unset, .unset] [(.int (2 : Int32)), (.int p0)]))
        refine Go.st (fun _ k => XS.iushr X.here hx rfl (hb hby at_120) rfl k) ?_
        show Go p e below _ (T.setTop (mkF m 121 #[.val (.int p0), .val (.int p1), .val (.long p2), .second, .val (.int (p0 &&& (3 : Int32))), .val (.ref u3), .val (.int (42 : Int32)), .val (.int (p1 &&& (3 : Int32))), .val (.int c0), .val (.int c1), .val (.int c2), .val (.ref o13), .unset, .unset, .unset] [(.int (((p0).toUInt32 >>> ((2 : Int32) &&& 31).toUInt32).toInt32))]))
        refine Go.st (fun _ k => XS.iconst X.here hx rfl (hb hby at_121) k) ?_
        show Go p e below _ (T.setTop (mkF m 122 #[.val (.int p0), .val (.int p1), .val (.long p2), .second, .val (.int (p0 &&& (3 : Int32))), .val (.ref u3), .val (.int (42 : Int32)), .val (.int (p1 &&& (3 : Int32))), .val (.int c0), .val (.int c1), .val (.int c2), .val (.ref o13), .unset, .unset, .unset] [(.int (1 : Int32)), (.int (((p0).toUInt32 >>> ((2 : Int32) &&& 31).toUInt32).toInt32))]))
        refine Go.st (fun _ k => XS.iand X.here hx rfl (hb hby at_122) rfl k) ?_
        show Go p e below _ (T.setTop (mkF m 123 #[.val (.int p0), .val (.int p1), .val (.long p2), .second, .val (.int (p0 &&& (3 : Int32))), .val (.ref u3), .val (.int (42 : Int32)), .val (.int (p1 &&& (3 : Int32))), .val (.int c0), .val (.int c1), .val (.int c2), .val (.ref o13), .unset, .unset, .unset] [(.int ((((p0).toUInt32 >>> ((2 : Int32) &&& 31).toUInt32).toInt32) &&& (1 : Int32)))]))
        refine own_cutT X hT (fun nn => (mkF m 131 #[.val (.int p0), .val (.int p1), .val (.long p2), .second, .val (.int (p0 &&& (3 : Int32))), .val (.ref u3), .val (.int (42 : Int32)), .val (.int (p1 &&& (3 : Int32))), .val (.int c0), .val (.int c1), .val (.int c2), .val (.ref o13), .unset, .unset, .unset] [(.int nn)])) (if ((((p0).toUInt32 >>> ((2 : Int32) &&& 31).toUInt32).toInt32) &&& (1 : Int32)) = (0 : Int32) then (0 : Int32) else (1 : Int32)) ?_ ?_
        · intro nn T hnn hT X
          show Go p e below _ (T.setTop (mkF m 131 #[.val (.int p0), .val (.int p1), .val (.long p2), .second, .val (.int (p0 &&& (3 : Int32))), .val (.ref u3), .val (.int (42 : Int32)), .val (.int (p1 &&& (3 : Int32))), .val (.int c0), .val (.int c1), .val (.int c2), .val (.ref o13), .unset, .unset, .unset] [(.int nn)]))
          refine Go.st (fun _ k => XS.istore X.here hx rfl (hb hby at_131) rfl (l' := #[.val (.int p0), .val (.int p1), .val (.long p2), .second, .val (.int (p0 &&& (3 : Int32))), .val (.ref u3), .val (.int (42 : Int32)), .val (.int (p1 &&& (3 : Int32))), .val (.int c0), .val (.int c1), .val (.int c2), .val (.ref o13), .val (.int nn), .unset, .unset]) rfl k) ?_
          show Go p e below _ (T.setTop (mkF m 133 #[.val (.int p0), .val (.int p1), .val (.long p2), .second, .val (.int (p0 &&& (3 : Int32))), .val (.ref u3), .val (.int (42 : Int32)), .val (.int (p1 &&& (3 : Int32))), .val (.int c0), .val (.int c1), .val (.int c2), .val (.ref o13), .val (.int nn), .unset, .unset] []))
          refine Go.st (fun _ k => XS.iload X.here hx rfl (hb hby at_133) rfl k) ?_
          show Go p e below _ (T.setTop (mkF m 135 #[.val (.int p0), .val (.int p1), .val (.long p2), .second, .val (.int (p0 &&& (3 : Int32))), .val (.ref u3), .val (.int (42 : Int32)), .val (.int (p1 &&& (3 : Int32))), .val (.int c0), .val (.int c1), .val (.int c2), .val (.ref o13), .val (.int nn), .unset, .unset] [(.int (p0 &&& (3 : Int32)))]))
          refine Go.st (fun _ k => XS.iconst X.here hx rfl (hb hby at_135) k) ?_
          show Go p e below _ (T.setTop (mkF m 136 #[.val (.int p0), .val (.int p1), .val (.long p2), .second, .val (.int (p0 &&& (3 : Int32))), .val (.ref u3), .val (.int (42 : Int32)), .val (.int (p1 &&& (3 : Int32))), .val (.int c0), .val (.int c1), .val (.int c2), .val (.ref o13), .val (.int nn), .unset, .unset] [(.int (3 : Int32)), (.int (p0 &&& (3 : Int32)))]))
          refine Go.st (fun _ k => XS.icmpNo X.here hx rfl (hb hby at_136) rfl (Jvm.Free.XT.ii_ne_f (own_and3 p0 hc1 hc5 hc9 : (p0 &&& (3 : Int32)) = (3 : Int32))) k) ?_
          show Go p e below _ (T.setTop (mkF m 139 #[.val (.int p0), .val (.int p1), .val (.long p2), .second, .val (.int (p0 &&& (3 : Int32))), .val (.ref u3), .val (.int (42 : Int32)), .val (.int (p1 &&& (3 : Int32))), .val (.int c0), .val (.int c1), .val (.int c2), .val (.ref o13), .val (.int nn), .unset, .unset] []))
          refine Go.st (fun _ k => XS.aload X.here hx rfl (hb hby at_139) rfl rfl k) ?_
          show Go p e below _ (T.setTop (mkF m 141 #[.val (.int p0), .val (.int p1), .val (.long p2), .second, .val (.int (p0 &&& (3 : Int32))), .val (.ref u3), .val (.int (42 : Int32)), .val (.int (p1 &&& (3 : Int32))), .val (.int c0), .val (.int c1), .val (.int c2), .val (.ref o13), .val (.int nn), .unset, .unset] [(.ref u3)]))
          refine Go.st (fun _ k => XS.iload X.here hx rfl (hb hby at_141) rfl k) ?_
          show Go p e below _ (T.setTop (mkF m 143 #[.val (.int p0), .val (.int p1), .val (.long p2), .second, .val (.int (p0 &&& (3 : Int32))), .val (.ref u3), .val (.int (42 : Int32)), .val (.int (p1 &&& (3 : Int32))), .val (.int c0), .val (.int c1), .val (.int c2), .val (.ref o13), .val (.int nn), .unset, .unset] [(.int nn), (.ref u3)]))
          by_cases hc14 : nn = (0 : Int32)
          · refine Go.st (fun _ k => XS.ifYes X.here hx rfl (pc0 := 143) (pc' := 150) rfl (hb hby at_143) rfl (Jvm.Free.XT.i0_eq_t hc14) (by decide) (by decide) k) ?_
            show Go p e below _ (T.setTop (mkF m 150 #[.val (.int p0), .val (.int p1), .val (.long p2), .second, .val (.int (p0 &&& (3 : Int32))), .val (.ref u3), .val (.int (42 : Int32)), .val (.int (p1 &&& (3 : Int32))), .val (.int c0), .val (.int c1), .val (.int c2), .val (.ref o13), .val (.int nn), .unset, .unset] [(.ref u3)]))
            refine Go.st (fun _ k => XS.aload X.here hx rfl (hb hby at_150) rfl rfl k) ?_
            show Go p e below _ (T.setTop (mkF m 152 #[.val (.int p0), .val (.int p1), .val (.long p2), .second, .val (.int (p0 &&& (3 : Int32))), .val (.ref u3), .val (.int (42 : Int32)), .val (.int (p1 &&& (3 : Int32))), .val (.int c0), .val (.int c1), .val (.int c2), .val (.ref o13), .val (.int nn), .unset, .unset] [(.ref o13), (.ref u3)]))
            refine Go.callP (argsL := [(.ref u3), (.ref o13)]) (rest := []) (W := 0) (ck := 2) (sk := 5) X hx hZ hown (hml.trans rfl) hT (hw _ (List.mem_of_getElem? (i := 38) rfl)) (hw _ (List.mem_of_getElem? (i := 39) rfl)) (hw _ (List.mem_of_getElem? (i := 40) rfl)) (hw _ (List.mem_of_getElem? (i := 41) rfl)) (by decide) pd_26 rfl rfl (Nat.le_of_ble_eq_true rfl) (hb hby at_152) (backOf (W := 0) (met_keyE l Z a0 hw [] z n0 (.ref o13) _ rfl O Sc KD0) hZ (hw _ (List.mem_of_getElem? (i := 41) rfl)) (hw _ (List.mem_of_getElem? (i := 40) rfl)) (by decide) (by decide)) (by decide) (by decide) ?_
            intro v T h11 L hT hQ X
            obtain ⟨o15, rfl, N0, Ex0, S_o15⟩ := hQ
            have N := Fr.app N N0
            have H := H.ext Ex0
            have KB := (Keep.refl h10 []).ext Ex0
            have O := O.keep KB all0
            have S_o13 := S_o13.ext (keepE KB)
            show Go p e below _ (T.setTop (mkF m 155 #[.val (.int p0), .val (.int p1), .val (.long p2), .second, .val (.int (p0 &&& (3 : Int32))), .val (.ref u3), .val (.int (42 : Int32)), .val (.int (p1 &&& (3 : Int32))), .val (.int c0), .val (.int c1), .val (.int c2), .val (.ref o13), .val (.int nn), .unset, .unset] [(.ref o15)]))
            refine Go.st (fun _ k => XS.astore X.here hx rfl (hb hby at_155) rfl rfl (l' := #[.val (.int p0), .val (.int p1), .val (.long p2), .second, .val (.int (p0 &&& (3 : Int32))), .val (.ref u3), .val (.int (42 : Int32)), .val (.int (p1 &&& (3 : Int32))), .val (.int c0), .val (.int c1), .val (.int c2), .val (.ref o13), .val (.int nn), .val (.ref o15), .unset]) rfl k) ?_
            show Go p e below _ (T.setTop (mkF m 157 #[.val (.int p0), .val (.int p1), .val (.long p2), .second, .val (.int (p0 &&& (3 : Int32))), .val (.ref u3), .val (.int (42 : Int32)), .val (.int (p1 &&& (3 : Int32))), .val (.int c0), .val (.int c1), .val (.int c2), .val (.ref o13), .val (.int nn), .val (.ref o15), .unset] []))
            refine Go.st (fun _ k => XS.iload X.here hx rfl (hb hby at_157) rfl k) ?_
            show Go p e below _ (T.setTop (mkF m 159 #[.val (.int p0), .val (.int p1), .val (.long p2), .second, .val (.int (p0 &&& (3 : Int32))), .val (.ref u3), .val (.int (42 : Int32)), .val (.int (p1 &&& (3 : Int32))), .val (.int c0), .val (.int c1), .val (.int c2), .val (.ref o13), .val (.int nn), .val (.ref o15), .unset] [(.int (42 : Int32))]))
            refine Go.callP (argsL := [(.int (42 : Int32))]) (rest := []) (W := 0) (ck := 2) (sk := 5) X hx hZ hown (hml.trans rfl) hT (hw _ (List.mem_of_getElem? (i := 196) rfl)) (hw _ (List.mem_of_getElem? (i := 187) rfl)) (hw _ (List.mem_of_getElem? (i := 10) rfl)) (hw _ (List.mem_of_getElem? (i := 188) rfl)) (by decide) pd_20 rfl rfl (Nat.le_of_ble_eq_true rfl) (hb hby at_159) (backOf (W := 0) (met_valof l Z a0 hw [] n0 (42 : Int32) z _ O Sc (by decide) (by decide)) hZ (hw _ (List.mem_of_getElem? (i := 188) rfl)) (hw _ (List.mem_of_getElem? (i := 10) rfl)) (by decide) (by decide)) (by decide) (by decide) ?_
            intro v T h12 L hT hQ X
            obtain ⟨o16, rfl, N0, Ex0, S_o16⟩ := hQ
            have N := Fr.app N N0
            have H := H.ext Ex0
            have KB := (Keep.refl h11 []).ext Ex0
            have O := O.keep KB all0
            have S_o13 := S_o13.ext (keepE KB)
            have S_o15 := S_o15.ext (keepE KB)
            show Go p e below _ (T.setTop (mkF m 162 #[.val (.int p0), .val (.int p1), .val (.long p2), .second, .val (.int (p0 &&& (3 : Int32))), .val (.ref u3), .val (.int (42 : Int32)), .val (.int (p1 &&& (3 : Int32))), .val (.int c0), .val (.int c1), .val (.int c2), .val (.ref o13), .val (.int nn), .val (.ref o15), .unset] [(.ref o16)]))
            refine Go.st (fun _ k => XS.astore X.here hx rfl (hb hby at_162) rfl rfl (l' := #[.val (.int p0), .val (.int p1), .val (.long p2), .second, .val (.int (p0 &&& (3 : Int32))), .val (.ref u3), .val (.int (42 : Int32)), .val (.int (p1 &&& (3 : Int32))), .val (.int c0), .val (.int c1), .val (.int c2), .val (.ref o13), .val (.int nn), .val (.ref o15), .val (.ref o16)]) rfl k) ?_
            show Go p e below _ (T.setTop (mkF m 164 #[.val (.int p0), .val (.int p1), .val (.long p2), .second, .val (.int (p0 &&& (3 : Int32))), .val (.ref u3), .val (.int (42 : Int32)), .val (.int (p1 &&& (3 : Int32))), .val (.int c0), .val (.int c1), .val (.int c2), .val (.ref o13), .val (.int nn), .val (.ref o15), .val (.ref o16)] []))
            refine Go.st (fun _ k => XS.goto X.here hx rfl (pc0 := 164) (pc' := 191) rfl (hb hby at_164) (by decide) (by decide) k) ?_
            show Go p e below _ (T.setTop (mkF m 191 #[.val (.int p0), .val (.int p1), .val (.long p2), .second, .val (.int (p0 &&& (3 : Int32))), .val (.ref u3), .val (.int (42 : Int32)), .val (.int (p1 &&& (3 : Int32))), .val (.int c0), .val (.int c1), .val (.int c2), .val (.ref o13), .val (.int nn), .val (.ref o15), .val (.ref o16)] []))
            refine Go.st (fun _ k => XS.aload X.here hx rfl (hb hby at_191) rfl rfl k) ?_
            show Go p e below _ (T.setTop (mkF m 193 #[.val (.int p0), .val (.int p1), .val (.long p2), .second, .val (.int (p0 &&& (3 : Int32))), .val (.ref u3), .val (.int (42 : Int32)), .val (.int (p1 &&& (3 : Int32))), .val (.int c0), .val (.int c1), .val (.int c2), .val (.ref o13), .val (.int nn), .val (.ref o15), .val (.ref o16)] [(.ref o15)]))
            refine Go.st (fun _ k => XS.ifnullNo X.here hx rfl (hb hby at_193) rfl k) ?_
            show Go p e below _ (T.setTop (mkF m 196 #[.val (.int p0), .val (.int p1), .val (.long p2), .second, .val (.int (p0 &&& (3 : Int32))), .val (.ref u3), .val (.int (42 : Int32)), .val (.int (p1 &&& (3 : Int32))), .val (.int c0), .val (.int c1), .val (.int c2), .val (.ref o13), .val (.int nn), .val (.ref o15), .val (.ref o16)] []))
            refine Go.st (fun _ k => XS.aload X.here hx rfl (hb hby at_196) rfl rfl k) ?_
            show Go p e below _ (T.setTop (mkF m 198 #[.val (.int p0), .val (.int p1), .val (.long p2), .second, .val (.int (p0 &&& (3 : Int32))), .val (.ref u3), .val (.int (42 : Int32)), .val (.int (p1 &&& (3 : Int32))), .val (.int c0), .val (.int c1), .val (.int c2), .val (.ref o13), .val (.int nn), .val (.ref o15), .val (.ref o16)] [(.ref o15)]))
            refine Go.st (fun _ k => XS.aload X.here hx rfl (hb hby at_198) rfl rfl k) ?_
            show Go p e below _ (T.setTop (mkF m 200 #[.val (.int p0), .val (.int p1), .val (.long p2), .second, .val (.int (p0 &&& (3 : Int32))), .val (.ref u3), .val (.int (42 : Int32)), .val (.int (p1 &&& (3 : Int32))), .val (.int c0), .val (.int c1), .val (.int c2), .val (.ref o13), .val (.int nn), .val (.ref o15), .val (.ref o16)] [(.ref o16), (.ref o15)]))
            refine Go.virtV (K := "java/lang/String") (z := (⟨"java/lang/String", "equals", "(Ljava/lang/Object;)Z"⟩ : MethodName)) (argsL := [(.ref o16)]) (rest := []) (W := 0) (w := (.int (if [42] = [42] then 1 else 0))) X hx hZ hown (hml.trans rfl) hT S_o15.exa (hw _ (List.mem_of_getElem? (i := 176) rfl)) (hw _ (List.mem_of_getElem? (i := 177) rfl)) (hw _ (List.mem_of_getElem? (i := 179) rfl)) (hw _ (List.mem_of_getElem? (i := 178) rfl)) (by decide) pd_28 rfl rfl (Nat.le_of_ble_eq_true rfl) (hb hby at_200) (notFace_of_selects (args := #[]) (mvT hZ (hw _ (List.mem_of_getElem? (i := 179) rfl)))) (own_eq (W := 0) hw hZ O Sc S_o15 S_o16 (by decide) (by decide)) (by decide) (by decide) ?_
            intro T hT X
            show Go p e below _ (T.setTop (mkF m 203 #[.val (.int p0), .val (.int p1), .val (.long p2), .second, .val (.int (p0 &&& (3 : Int32))), .val (.ref u3), .val (.int (42 : Int32)), .val (.int (p1 &&& (3 : Int32))), .val (.int c0), .val (.int c1), .val (.int c2), .val (.ref o13), .val (.int nn), .val (.ref o15), .val (.ref o16)] [(.int (if [42] = [42] then 1 else 0))]))
            rw [if_pos rfl]
            show Go p e below _ (T.setTop (mkF m 203 #[.val (.int p0), .val (.int p1), .val (.long p2), .second, .val (.int (p0 &&& (3 : Int32))), .val (.ref u3), .val (.int (42 : Int32)), .val (.int (p1 &&& (3 : Int32))), .val (.int c0), .val (.int c1), .val (.int c2), .val (.ref o13), .val (.int nn), .val (.ref o15), .val (.ref o16)] [(.int (1 : Int32))]))
            refine Go.st (fun _ k => XS.ifNo X.here hx rfl (hb hby at_203) rfl (Jvm.Free.XT.i0_eq_f (by decide : ¬ ((1 : Int32) = (0 : Int32)))) k) ?_
            show Go p e below _ (T.setTop (mkF m 206 #[.val (.int p0), .val (.int p1), .val (.long p2), .second, .val (.int (p0 &&& (3 : Int32))), .val (.ref u3), .val (.int (42 : Int32)), .val (.int (p1 &&& (3 : Int32))), .val (.int c0), .val (.int c1), .val (.int c2), .val (.ref o13), .val (.int nn), .val (.ref o15), .val (.ref o16)] []))
            refine Go.st (fun _ k => XS.iconst X.here hx rfl (hb hby at_206) k) ?_
            show Go p e below _ (T.setTop (mkF m 207 #[.val (.int p0), .val (.int p1), .val (.long p2), .second, .val (.int (p0 &&& (3 : Int32))), .val (.ref u3), .val (.int (42 : Int32)), .val (.int (p1 &&& (3 : Int32))), .val (.int c0), .val (.int c1), .val (.int c2), .val (.ref o13), .val (.int nn), .val (.ref o15), .val (.ref o16)] [(.int (1 : Int32))]))
            refine Go.st (fun _ k => XS.goto X.here hx rfl (pc0 := 207) (pc' := 211) rfl (hb hby at_207) (by decide) (by decide) k) ?_
            show Go p e below _ (T.setTop (mkF m 211 #[.val (.int p0), .val (.int p1), .val (.long p2), .second, .val (.int (p0 &&& (3 : Int32))), .val (.ref u3), .val (.int (42 : Int32)), .val (.int (p1 &&& (3 : Int32))), .val (.int c0), .val (.int c1), .val (.int c2), .val (.ref o13), .val (.int nn), .val (.ref o15), .val (.ref o16)] [(.int (1 : Int32))]))
            refine Go.retH hEL H hZ X hx hlk hT hret (by decide) (riI (by simp)) (hb hby at_211) (by decide) (by decide) ?_
            exact ⟨rfl, N⟩
          · refine Go.st (fun _ k => XS.ifNo X.here hx rfl (hb hby at_143) rfl (Jvm.Free.XT.i0_eq_f hc14) k) ?_
            show Go p e below _ (T.setTop (mkF m 146 #[.val (.int p0), .val (.int p1), .val (.long p2), .second, .val (.int (p0 &&& (3 : Int32))), .val (.ref u3), .val (.int (42 : Int32)), .val (.int (p1 &&& (3 : Int32))), .val (.int c0), .val (.int c1), .val (.int c2), .val (.ref o13), .val (.int nn), .unset, .unset] [(.ref u3)]))
            refine Go.st (fun _ k => XS.aconstNull X.here hx rfl (hb hby at_146) k) ?_
            show Go p e below _ (T.setTop (mkF m 147 #[.val (.int p0), .val (.int p1), .val (.long p2), .second, .val (.int (p0 &&& (3 : Int32))), .val (.ref u3), .val (.int (42 : Int32)), .val (.int (p1 &&& (3 : Int32))), .val (.int c0), .val (.int c1), .val (.int c2), .val (.ref o13), .val (.int nn), .unset, .unset] [.null, (.ref u3)]))
            refine Go.st (fun _ k => XS.goto X.here hx rfl (pc0 := 147) (pc' := 152) rfl (hb hby at_147) (by decide) (by decide) k) ?_
            show Go p e below _ (T.setTop (mkF m 152 #[.val (.int p0), .val (.int p1), .val (.long p2), .second, .val (.int (p0 &&& (3 : Int32))), .val (.ref u3), .val (.int (42 : Int32)), .val (.int (p1 &&& (3 : Int32))), .val (.int c0), .val (.int c1), .val (.int c2), .val (.ref o13), .val (.int nn), .unset, .unset] [.null, (.ref u3)]))
            refine Go.callP (argsL := [(.ref u3), .null]) (rest := []) (W := 0) (ck := 2) (sk := 5) X hx hZ hown (hml.trans rfl) hT (hw _ (List.mem_of_getElem? (i := 38) rfl)) (hw _ (List.mem_of_getElem? (i := 39) rfl)) (hw _ (List.mem_of_getElem? (i := 40) rfl)) (hw _ (List.mem_of_getElem? (i := 41) rfl)) (by decide) pd_26 rfl rfl (Nat.le_of_ble_eq_true rfl) (hb hby at_152) (backOf (W := 0) (met_keyE l Z a0 hw [] z n0 .null _ rfl O Sc KD0) hZ (hw _ (List.mem_of_getElem? (i := 41) rfl)) (hw _ (List.mem_of_getElem? (i := 40) rfl)) (by decide) (by decide)) (by decide) (by decide) ?_
            intro v T h13 L hT hQ X
            obtain ⟨o17, rfl, N0, Ex0, S_o17⟩ := hQ
            have N := Fr.app N N0
            have H := H.ext Ex0
            have KB := (Keep.refl h10 []).ext Ex0
            have O := O.keep KB all0
            have S_o13 := S_o13.ext (keepE KB)
            show Go p e below _ (T.setTop (mkF m 155 #[.val (.int p0), .val (.int p1), .val (.long p2), .second, .val (.int (p0 &&& (3 : Int32))), .val (.ref u3), .val (.int (42 : Int32)), .val (.int (p1 &&& (3 : Int32))), .val (.int c0), .val (.int c1), .val (.int c2), .val (.ref o13), .val (.int nn), .unset, .unset] [(.ref o17)]))
            refine Go.st (fun _ k => XS.astore X.here hx rfl (hb hby at_155) rfl rfl (l' := #[.val (.int p0), .val (.int p1), .val (.long p2), .second, .val (.int (p0 &&& (3 : Int32))), .val (.ref u3), .val (.int (42 : Int32)), .val (.int (p1 &&& (3 : Int32))), .val (.int c0), .val (.int c1), .val (.int c2), .val (.ref o13), .val (.int nn), .val (.ref o17), .unset]) rfl k) ?_
            show Go p e below _ (T.setTop (mkF m 157 #[.val (.int p0), .val (.int p1), .val (.long p2), .second, .val (.int (p0 &&& (3 : Int32))), .val (.ref u3), .val (.int (42 : Int32)), .val (.int (p1 &&& (3 : Int32))), .val (.int c0), .val (.int c1), .val (.int c2), .val (.ref o13), .val (.int nn), .val (.ref o17), .unset] []))
            refine Go.st (fun _ k => XS.iload X.here hx rfl (hb hby at_157) rfl k) ?_
            show Go p e below _ (T.setTop (mkF m 159 #[.val (.int p0), .val (.int p1), .val (.long p2), .second, .val (.int (p0 &&& (3 : Int32))), .val (.ref u3), .val (.int (42 : Int32)), .val (.int (p1 &&& (3 : Int32))), .val (.int c0), .val (.int c1), .val (.int c2), .val (.ref o13), .val (.int nn), .val (.ref o17), .unset] [(.int (42 : Int32))]))
            refine Go.callP (argsL := [(.int (42 : Int32))]) (rest := []) (W := 0) (ck := 2) (sk := 5) X hx hZ hown (hml.trans rfl) hT (hw _ (List.mem_of_getElem? (i := 196) rfl)) (hw _ (List.mem_of_getElem? (i := 187) rfl)) (hw _ (List.mem_of_getElem? (i := 10) rfl)) (hw _ (List.mem_of_getElem? (i := 188) rfl)) (by decide) pd_20 rfl rfl (Nat.le_of_ble_eq_true rfl) (hb hby at_159) (backOf (W := 0) (met_valof l Z a0 hw [] n0 (42 : Int32) z _ O Sc (by decide) (by decide)) hZ (hw _ (List.mem_of_getElem? (i := 188) rfl)) (hw _ (List.mem_of_getElem? (i := 10) rfl)) (by decide) (by decide)) (by decide) (by decide) ?_
            intro v T h14 L hT hQ X
            obtain ⟨o18, rfl, N0, Ex0, S_o18⟩ := hQ
            have N := Fr.app N N0
            have H := H.ext Ex0
            have KB := (Keep.refl h13 []).ext Ex0
            have O := O.keep KB all0
            have S_o13 := S_o13.ext (keepE KB)
            have S_o17 := S_o17.ext (keepE KB)
            show Go p e below _ (T.setTop (mkF m 162 #[.val (.int p0), .val (.int p1), .val (.long p2), .second, .val (.int (p0 &&& (3 : Int32))), .val (.ref u3), .val (.int (42 : Int32)), .val (.int (p1 &&& (3 : Int32))), .val (.int c0), .val (.int c1), .val (.int c2), .val (.ref o13), .val (.int nn), .val (.ref o17), .unset] [(.ref o18)]))
            refine Go.st (fun _ k => XS.astore X.here hx rfl (hb hby at_162) rfl rfl (l' := #[.val (.int p0), .val (.int p1), .val (.long p2), .second, .val (.int (p0 &&& (3 : Int32))), .val (.ref u3), .val (.int (42 : Int32)), .val (.int (p1 &&& (3 : Int32))), .val (.int c0), .val (.int c1), .val (.int c2), .val (.ref o13), .val (.int nn), .val (.ref o17), .val (.ref o18)]) rfl k) ?_
            show Go p e below _ (T.setTop (mkF m 164 #[.val (.int p0), .val (.int p1), .val (.long p2), .second, .val (.int (p0 &&& (3 : Int32))), .val (.ref u3), .val (.int (42 : Int32)), .val (.int (p1 &&& (3 : Int32))), .val (.int c0), .val (.int c1), .val (.int c2), .val (.ref o13), .val (.int nn), .val (.ref o17), .val (.ref o18)] []))
            refine Go.st (fun _ k => XS.goto X.here hx rfl (pc0 := 164) (pc' := 191) rfl (hb hby at_164) (by decide) (by decide) k) ?_
            show Go p e below _ (T.setTop (mkF m 191 #[.val (.int p0), .val (.int p1), .val (.long p2), .second, .val (.int (p0 &&& (3 : Int32))), .val (.ref u3), .val (.int (42 : Int32)), .val (.int (p1 &&& (3 : Int32))), .val (.int c0), .val (.int c1), .val (.int c2), .val (.ref o13), .val (.int nn), .val (.ref o17), .val (.ref o18)] []))
            refine Go.st (fun _ k => XS.aload X.here hx rfl (hb hby at_191) rfl rfl k) ?_
            show Go p e below _ (T.setTop (mkF m 193 #[.val (.int p0), .val (.int p1), .val (.long p2), .second, .val (.int (p0 &&& (3 : Int32))), .val (.ref u3), .val (.int (42 : Int32)), .val (.int (p1 &&& (3 : Int32))), .val (.int c0), .val (.int c1), .val (.int c2), .val (.ref o13), .val (.int nn), .val (.ref o17), .val (.ref o18)] [(.ref o17)]))
            refine Go.st (fun _ k => XS.ifnullNo X.here hx rfl (hb hby at_193) rfl k) ?_
            show Go p e below _ (T.setTop (mkF m 196 #[.val (.int p0), .val (.int p1), .val (.long p2), .second, .val (.int (p0 &&& (3 : Int32))), .val (.ref u3), .val (.int (42 : Int32)), .val (.int (p1 &&& (3 : Int32))), .val (.int c0), .val (.int c1), .val (.int c2), .val (.ref o13), .val (.int nn), .val (.ref o17), .val (.ref o18)] []))
            refine Go.st (fun _ k => XS.aload X.here hx rfl (hb hby at_196) rfl rfl k) ?_
            show Go p e below _ (T.setTop (mkF m 198 #[.val (.int p0), .val (.int p1), .val (.long p2), .second, .val (.int (p0 &&& (3 : Int32))), .val (.ref u3), .val (.int (42 : Int32)), .val (.int (p1 &&& (3 : Int32))), .val (.int c0), .val (.int c1), .val (.int c2), .val (.ref o13), .val (.int nn), .val (.ref o17), .val (.ref o18)] [(.ref o17)]))
            refine Go.st (fun _ k => XS.aload X.here hx rfl (hb hby at_198) rfl rfl k) ?_
            show Go p e below _ (T.setTop (mkF m 200 #[.val (.int p0), .val (.int p1), .val (.long p2), .second, .val (.int (p0 &&& (3 : Int32))), .val (.ref u3), .val (.int (42 : Int32)), .val (.int (p1 &&& (3 : Int32))), .val (.int c0), .val (.int c1), .val (.int c2), .val (.ref o13), .val (.int nn), .val (.ref o17), .val (.ref o18)] [(.ref o18), (.ref o17)]))
            refine Go.virtV (K := "java/lang/String") (z := (⟨"java/lang/String", "equals", "(Ljava/lang/Object;)Z"⟩ : MethodName)) (argsL := [(.ref o18)]) (rest := []) (W := 0) (w := (.int (if [42] = [42] then 1 else 0))) X hx hZ hown (hml.trans rfl) hT S_o17.exa (hw _ (List.mem_of_getElem? (i := 176) rfl)) (hw _ (List.mem_of_getElem? (i := 177) rfl)) (hw _ (List.mem_of_getElem? (i := 179) rfl)) (hw _ (List.mem_of_getElem? (i := 178) rfl)) (by decide) pd_28 rfl rfl (Nat.le_of_ble_eq_true rfl) (hb hby at_200) (notFace_of_selects (args := #[]) (mvT hZ (hw _ (List.mem_of_getElem? (i := 179) rfl)))) (own_eq (W := 0) hw hZ O Sc S_o17 S_o18 (by decide) (by decide)) (by decide) (by decide) ?_
            intro T hT X
            show Go p e below _ (T.setTop (mkF m 203 #[.val (.int p0), .val (.int p1), .val (.long p2), .second, .val (.int (p0 &&& (3 : Int32))), .val (.ref u3), .val (.int (42 : Int32)), .val (.int (p1 &&& (3 : Int32))), .val (.int c0), .val (.int c1), .val (.int c2), .val (.ref o13), .val (.int nn), .val (.ref o17), .val (.ref o18)] [(.int (if [42] = [42] then 1 else 0))]))
            rw [if_pos rfl]
            show Go p e below _ (T.setTop (mkF m 203 #[.val (.int p0), .val (.int p1), .val (.long p2), .second, .val (.int (p0 &&& (3 : Int32))), .val (.ref u3), .val (.int (42 : Int32)), .val (.int (p1 &&& (3 : Int32))), .val (.int c0), .val (.int c1), .val (.int c2), .val (.ref o13), .val (.int nn), .val (.ref o17), .val (.ref o18)] [(.int (1 : Int32))]))
            refine Go.st (fun _ k => XS.ifNo X.here hx rfl (hb hby at_203) rfl (Jvm.Free.XT.i0_eq_f (by decide : ¬ ((1 : Int32) = (0 : Int32)))) k) ?_
            show Go p e below _ (T.setTop (mkF m 206 #[.val (.int p0), .val (.int p1), .val (.long p2), .second, .val (.int (p0 &&& (3 : Int32))), .val (.ref u3), .val (.int (42 : Int32)), .val (.int (p1 &&& (3 : Int32))), .val (.int c0), .val (.int c1), .val (.int c2), .val (.ref o13), .val (.int nn), .val (.ref o17), .val (.ref o18)] []))
            refine Go.st (fun _ k => XS.iconst X.here hx rfl (hb hby at_206) k) ?_
            show Go p e below _ (T.setTop (mkF m 207 #[.val (.int p0), .val (.int p1), .val (.long p2), .second, .val (.int (p0 &&& (3 : Int32))), .val (.ref u3), .val (.int (42 : Int32)), .val (.int (p1 &&& (3 : Int32))), .val (.int c0), .val (.int c1), .val (.int c2), .val (.ref o13), .val (.int nn), .val (.ref o17), .val (.ref o18)] [(.int (1 : Int32))]))
            refine Go.st (fun _ k => XS.goto X.here hx rfl (pc0 := 207) (pc' := 211) rfl (hb hby at_207) (by decide) (by decide) k) ?_
            show Go p e below _ (T.setTop (mkF m 211 #[.val (.int p0), .val (.int p1), .val (.long p2), .second, .val (.int (p0 &&& (3 : Int32))), .val (.ref u3), .val (.int (42 : Int32)), .val (.int (p1 &&& (3 : Int32))), .val (.int c0), .val (.int c1), .val (.int c2), .val (.ref o13), .val (.int nn), .val (.ref o17), .val (.ref o18)] [(.int (1 : Int32))]))
            refine Go.retH hEL H hZ X hx hlk hT hret (by decide) (riI (by simp)) (hb hby at_211) (by decide) (by decide) ?_
            exact ⟨rfl, N⟩
        · intro K
          by_cases hc14 : ((((p0).toUInt32 >>> ((2 : Int32) &&& 31).toUInt32).toInt32) &&& (1 : Int32)) = (0 : Int32)
          · refine Go.st (fun _ k => XS.ifYes X.here hx rfl (pc0 := 123) (pc' := 130) rfl (hb hby at_123) rfl (Jvm.Free.XT.i0_eq_t hc14) (by decide) (by decide) k) ?_
            show Go p e below _ (T.setTop (mkF m 130 #[.val (.int p0), .val (.int p1), .val (.long p2), .second, .val (.int (p0 &&& (3 : Int32))), .val (.ref u3), .val (.int (42 : Int32)), .val (.int (p1 &&& (3 : Int32))), .val (.int c0), .val (.int c1), .val (.int c2), .val (.ref o13), .unset, .unset, .unset] []))
            refine Go.st (fun _ k => XS.iconst X.here hx rfl (hb hby at_130) k) ?_
            show Go p e below _ (T.setTop (mkF m 131 #[.val (.int p0), .val (.int p1), .val (.long p2), .second, .val (.int (p0 &&& (3 : Int32))), .val (.ref u3), .val (.int (42 : Int32)), .val (.int (p1 &&& (3 : Int32))), .val (.int c0), .val (.int c1), .val (.int c2), .val (.ref o13), .unset, .unset, .unset] [(.int (0 : Int32))]))
            exact K _ _ (by rw [if_pos hc14]) hT X
          · refine Go.st (fun _ k => XS.ifNo X.here hx rfl (hb hby at_123) rfl (Jvm.Free.XT.i0_eq_f hc14) k) ?_
            show Go p e below _ (T.setTop (mkF m 126 #[.val (.int p0), .val (.int p1), .val (.long p2), .second, .val (.int (p0 &&& (3 : Int32))), .val (.ref u3), .val (.int (42 : Int32)), .val (.int (p1 &&& (3 : Int32))), .val (.int c0), .val (.int c1), .val (.int c2), .val (.ref o13), .unset, .unset, .unset] []))
            refine Go.st (fun _ k => XS.iconst X.here hx rfl (hb hby at_126) k) ?_
            show Go p e below _ (T.setTop (mkF m 127 #[.val (.int p0), .val (.int p1), .val (.long p2), .second, .val (.int (p0 &&& (3 : Int32))), .val (.ref u3), .val (.int (42 : Int32)), .val (.int (p1 &&& (3 : Int32))), .val (.int c0), .val (.int c1), .val (.int c2), .val (.ref o13), .unset, .unset, .unset] [(.int (1 : Int32))]))
            refine Go.st (fun _ k => XS.goto X.here hx rfl (pc0 := 127) (pc' := 131) rfl (hb hby at_127) (by decide) (by decide) k) ?_
            show Go p e below _ (T.setTop (mkF m 131 #[.val (.int p0), .val (.int p1), .val (.long p2), .second, .val (.int (p0 &&& (3 : Int32))), .val (.ref u3), .val (.int (42 : Int32)), .val (.int (p1 &&& (3 : Int32))), .val (.int c0), .val (.int c1), .val (.int c2), .val (.ref o13), .unset, .unset, .unset] [(.int (1 : Int32))]))
            exact K _ _ (by rw [if_neg hc14]) hT X
set_option maxRecDepth 65536 in
set_option maxHeartbeats 40000000 in
theorem comes_1 {Post : Tables → Env → Array Value → State → Outcome → State → Prop} (hpost : ∀ tb e args s v u, (limb_1_1.after args s (.returned v) u = true ∧ limb_1_2.after args s (.returned v) u = true) → ReturnedEndW s (.returned v) u (Jvm.fieldLocs frame_1_writes args s ++ Jvm.arrayLocs frame_1_arrays args s ++ Jvm.staticLocs frame_1_statics s) 32 2240 → Post tb e args s (.returned v) u) :
    ArmFor flags0 classFile x code maxLocals ret World_1 tables_1 room_1 Calls_1 rest_1 Pre_1 Post := by
  intro l hfl _ _ p e ha hc hk s m args below hf hA hF happ hP
  obtain ⟨hcalls, hrest, hpre⟩ := hP
  obtain ⟨-, -, -, hnamed, -, -, -, hat⟩ := (Spec.applies_iff hf).mp happ
  obtain ⟨hg, hn⟩ := and_e (Cond.before_iff.mp (show (Jvm.Cond.and given_1 narrow_1).before args s = true from hpre))
  obtain ⟨hcnt, hg⟩ := and_e hg
  obtain ⟨ha0, hg⟩ := and_e hg
  obtain ⟨ha1, hg⟩ := and_e hg
  have ha2 := hg
  obtain ⟨w0, w1, w2, rfl⟩ : ∃ w0 w1 w2 : Value, args = #[w0, w1, w2] := by
    have hs : args.size = 3 := by simpa [Cond.value, given_1] using hcnt
    obtain ⟨L⟩ := args
    match L, hs with
    | [w0, w1, w2], _ => exact ⟨w0, w1, w2, rfl⟩
  have hw := fun d (hd : d ∈ tables_1) => atoms_spec (ws := Jvm.Cond.code x code maxLocals ret :: tables_1) hat d (List.mem_cons_of_mem _ hd)
  obtain ⟨hsets, hown0⟩ := atoms_of _ (rest_1_c_eq ▸ (show rest_1_c.before _ s = true from hrest))
  obtain ⟨i0, e0⟩ := is_v ha0
  obtain rfl : w0 = (.int i0) := Option.some.inj e0
  obtain ⟨i1, e1⟩ := is_v ha1
  obtain rfl : w1 = (.int i1) := Option.some.inj e1
  obtain ⟨i2, e2⟩ := isL_v ha2
  obtain rfl : w2 = (.long i2) := Option.some.inj e2
  obtain ⟨iz, ez⟩ := is_v (Cond.before_iff.mp (hsets _ (List.mem_of_getElem? (i := 1) rfl)))
  have Sz : Sta s s.heap "java/lang/String" "COMPACT_STRINGS" "Z" (.int iz) := Sta.start ez (Or.inl (hsets _ (List.mem_of_getElem? (i := 0) rfl)))
  have nz : ¬ (iz = (0 : Int32)) := gotF (Cond.eq_ints ez (Term.int_eval (0))) (not_v (Cond.before_iff.mp (hsets _ (List.mem_of_getElem? (i := 2) rfl))))
  have Sc : Stat s iz := ⟨Sz, nz⟩
  obtain ⟨kE0, hn⟩ := and_e hn
  obtain ⟨kE3, hn⟩ := and_e hn
  obtain ⟨kO0, hn⟩ := and_e hn
  obtain ⟨kO3, hn⟩ := and_e hn
  obtain ⟨kL0, hn⟩ := and_e hn
  obtain ⟨kL3, hn⟩ := and_e hn
  obtain ⟨kE2, hn⟩ := and_e hn
  obtain ⟨kO2, hn⟩ := and_e hn
  obtain ⟨kL2, hn⟩ := and_e hn
  obtain ⟨kE1, hn⟩ := and_e hn
  obtain ⟨kO1, hn⟩ := and_e hn
  have kL1 := hn
  obtain ⟨u0, v0⟩ := exa_v kE0
  have T0 : Sta s s.heap "com/example/nandi/nandi/model/Entry$Kind" "USER" "Lcom/example/nandi/nandi/model/Entry$Kind;" (.ref u0) := Sta.start v0 (Or.inr ⟨(hw _ (List.mem_of_getElem? (i := 1) rfl)), (hw _ (List.mem_of_getElem? (i := 2) rfl))⟩)
  have L0 : Fld s s.heap u0 "com/example/nandi/nandi/model/Entry$Kind" "letter" "C" (.int 117) := Fld.start ((fld_at v0).symm.trans (eqv_i (Term.int_eval (117)) kL0))
  obtain ⟨u1, v1⟩ := exa_v kE1
  have T1 : Sta s s.heap "com/example/nandi/nandi/model/Entry$Kind" "GROUP" "Lcom/example/nandi/nandi/model/Entry$Kind;" (.ref u1) := Sta.start v1 (Or.inr ⟨(hw _ (List.mem_of_getElem? (i := 1) rfl)), (hw _ (List.mem_of_getElem? (i := 201) rfl))⟩)
  have L1 : Fld s s.heap u1 "com/example/nandi/nandi/model/Entry$Kind" "letter" "C" (.int 103) := Fld.start ((fld_at v1).symm.trans (eqv_i (Term.int_eval (103)) kL1))
  obtain ⟨u2, v2⟩ := exa_v kE2
  have T2 : Sta s s.heap "com/example/nandi/nandi/model/Entry$Kind" "ROLE" "Lcom/example/nandi/nandi/model/Entry$Kind;" (.ref u2) := Sta.start v2 (Or.inr ⟨(hw _ (List.mem_of_getElem? (i := 1) rfl)), (hw _ (List.mem_of_getElem? (i := 198) rfl))⟩)
  have L2 : Fld s s.heap u2 "com/example/nandi/nandi/model/Entry$Kind" "letter" "C" (.int 114) := Fld.start ((fld_at v2).symm.trans (eqv_i (Term.int_eval (114)) kL2))
  obtain ⟨u3, v3⟩ := exa_v kE3
  have T3 : Sta s s.heap "com/example/nandi/nandi/model/Entry$Kind" "EVERYONE" "Lcom/example/nandi/nandi/model/Entry$Kind;" (.ref u3) := Sta.start v3 (Or.inr ⟨(hw _ (List.mem_of_getElem? (i := 1) rfl)), (hw _ (List.mem_of_getElem? (i := 43) rfl))⟩)
  have L3 : Fld s s.heap u3 "com/example/nandi/nandi/model/Entry$Kind" "letter" "C" (.int 42) := Fld.start ((fld_at v3).symm.trans (eqv_i (Term.int_eval (42)) kL3))
  have KD : Kinds s u0 u1 u2 u3 := ⟨T0, T1, T2, T3, L0, L1, L2, L3⟩
  have hCH : CHv s EL0 s.vm s.heap := CHv.start (own_EW hw) (fun q hq => hcalls.1 q hq) (hsets _ (List.mem_of_getElem? (i := 2) rfl)) (hw _ (List.mem_of_getElem? (i := 27) rfl)) (hw _ (List.mem_of_getElem? (i := 9) rfl))
  obtain ⟨n, o, h1, h2, h3, _, L, rfl, ⟨rfl, N⟩, -, hq⟩ := met_law l s _ hw tables_1 i0 i1 i2 iz s.heap.size s.heap (Old.start s) Sc KD p e ha hc hk s m _ below hf ((Spec.applies_iff_loose hf).mp happ).1 ⟨rfl, State.Warmed39.refl s, rfl, hCH⟩ trivial
  refine ⟨n, _, h1, h2, h3, hpost _ _ _ _ _ _ ⟨Cond.after_iff.mpr rfl, Cond.after_iff.mpr (eq_i res_at (Term.int_eval (1)) rfl)⟩ ⟨hq.1, hq.2.1, hq.2.2.1, (hq.2.2.2.sift fun y hy => Or.inr (N y hy)).mono (by decide) (by decide)⟩⟩
theorem main_1_1 : Claimed_1_1 := comes_1 fun _ _ _ _ _ _ h hF => ⟨h.1, hF⟩
theorem main_1_2 : Claimed_1_2 := comes_1 fun _ _ _ _ _ _ h hF => ⟨h.2, hF⟩
end Jvm.Pilot.@@N@@
namespace Jvm.Pilot.@@N@@
open Jvm Jvm.ClassFile Sem Op Lib Jvm.Free Jvm.Stand Jvm.Pilot.@@N@@.Jvm.D
/-! MADE BY PROGRAM (witnessworld.py) out of the Statement's table words and the real class files: 29 classes; the members and pool entries that the words name. The judged class is class 1, her method 1. -/
namespace start1
open Jvm.ClassFile
def u (s : String) : CpInfo := .utf8 (stringToUtf16 s)
/-- a pool by its gaps: so many unusable entries, then the entry; so many at the end -/
def gap : Nat → List CpInfo → List CpInfo
  | 0, r => r
  | n + 1, r => .unusable :: gap n r
def poolList (es : List (Nat × CpInfo)) (last : Nat) : List CpInfo := es.foldr (fun e r => gap e.1 (e.2 :: r)) (gap last [])
def pool (es : List (Nat × CpInfo)) (last : Nat) : Array CpInfo := ⟨poolList es last⟩
def fileOf (pool : Array CpInfo) (this : Nat) (attrs : Array Attribute := #[]) (ms : Array MethodInfo := #[]) (fl : Nat := 33) (sup : Nat := 0) (ifs : Array Nat := #[]) (fds : Array FieldInfo := #[]) : ClassFile where
  minorVersion := 0
  majorVersion := 65
  constantPool := pool
  accessFlags := fl
  thisClass := this
  superClass := sup
  interfaces := ifs
  fields := fds
  methods := ms
  attributes := attrs
def plain (name : String) (sup : Option ClassId) : Class where
  name := name
  kind := .ordinary
  loader := none
  accessFlags := 33
  super := sup
  interfaces := #[]
  cf := none
  fields := #[]
  methods := #[]
  instanceTypes := #[]
  staticTypes := #[]
  resolved := #[]
  callSites := []
  init := .initialized
  statics := none
  mirror := none

def pool0 : Array CpInfo := pool [(5, u "<init>"), (0, u "()V"), (1, .class_ 10), (1, u "java/lang/Object")] 113

def k0c0 : Code := { maxStack := 0, maxLocals := 1, code := object_method_1_code, exceptionTable := #[], attributes := #[] }
def k0m0 : Method := { name := "<init>", desc := "()V", sig := { parameters := [], returnType := none }, accessFlags := 1, code := some k0c0 }
/-- java/lang/Object -/
def k0 : Class := { plain "java/lang/Object" none with
  accessFlags := 33
  interfaces := #[]
  cf := some (fileOf pool0 8 #[] #[{ accessFlags := 1, nameIndex := 5, descriptorIndex := 6, attributes := #[] }] 33 0 #[] #[])
  fields := #[]
  methods := #[k0m0]
  instanceTypes := #[]
  staticTypes := #[]
  resolved := Array.replicate 124 none
  statics := none }

def pool1 : Array CpInfo := pool [(2, .class_ 4), (1, u "java/lang/Object"), (0, u "<init>"), (0, u "()V"), (0, .fieldref 8 9), (0, .class_ 10), (0, .nameAndType 11 12), (0, u "com/example/nandi/nandi/model/Entry$Kind"), (0, u "USER"), (0, u "Lcom/example/nandi/nandi/model/Entry$Kind;"), (0, .fieldref 8 14), (0, .nameAndType 15 12), (0, u "GROUP"), (0, .fieldref 8 17), (0, .nameAndType 18 12), (0, u "ROLE"), (0, .fieldref 8 20), (0, .nameAndType 21 12), (0, u "EVERYONE"), (0, .long 255), (1, .methodref 25 26), (0, .class_ 27), (0, .nameAndType 28 29), (0, u "com/example/nandi/nandi/model/EntryKeyPinLaw"), (0, u "word"), (0, u "(ICCC)Ljava/lang/String;"), (0, .methodref 31 32), (0, .class_ 33), (0, .nameAndType 34 35), (0, u "com/example/nandi/nandi/model/Entry"), (0, u "key"), (0, u "(Lcom/example/nandi/nandi/model/Entry$Kind;Ljava/lang/String;)Ljava/lang/String;"), (0, .methodref 37 38), (0, .class_ 39), (0, .nameAndType 40 41), (0, u "java/lang/String"), (0, u "valueOf"), (0, u "(C)Ljava/lang/String;"), (0, .methodref 25 43), (0, .nameAndType 44 45), (0, u "keyText"), (0, u "(CICCC)Ljava/lang/String;"), (0, .methodref 37 47), (0, .nameAndType 48 49), (0, u "equals"), (0, u "(Ljava/lang/Object;)Z"), (0, .methodref 37 51), (0, .nameAndType 5 52), (0, u "([C)V"), (2, u "law"), (0, u "(IIJ)Z")] 5

def k1m0 : Method := { name := "<init>", desc := "()V", sig := { parameters := [], returnType := none }, accessFlags := 1, code := none }
def k1c1 : Code := { maxStack := 5, maxLocals := 15, code := code, exceptionTable := #[], attributes := #[] }
def k1m1 : Method := { name := "law", desc := "(IIJ)Z", sig := { parameters := [.int, .int, .long], returnType := some .boolean }, accessFlags := 9, code := some k1c1 }
def k1c2 : Code := { maxStack := 6, maxLocals := 4, code := method_3_code, exceptionTable := #[], attributes := #[] }
def k1m2 : Method := { name := "word", desc := "(ICCC)Ljava/lang/String;", sig := { parameters := [.int, .char, .char, .char], returnType := some (.object "java/lang/String") }, accessFlags := 10, code := some k1c2 }
def k1c3 : Code := { maxStack := 6, maxLocals := 5, code := method_4_code, exceptionTable := #[], attributes := #[] }
def k1m3 : Method := { name := "keyText", desc := "(CICCC)Ljava/lang/String;", sig := { parameters := [.char, .int, .char, .char, .char], returnType := some (.object "java/lang/String") }, accessFlags := 10, code := some k1c3 }
/-- com/example/nandi/nandi/model/EntryKeyPinLaw -/
def k1 : Class := { plain "com/example/nandi/nandi/model/EntryKeyPinLaw" (some 0) with
  accessFlags := 49
  interfaces := #[]
  cf := some (fileOf pool1 25 #[] #[{ accessFlags := 1, nameIndex := 5, descriptorIndex := 6, attributes := #[] }, { accessFlags := 9, nameIndex := 55, descriptorIndex := 56, attributes := #[] }, { accessFlags := 10, nameIndex := 28, descriptorIndex := 29, attributes := #[] }, { accessFlags := 10, nameIndex := 44, descriptorIndex := 45, attributes := #[] }] 49 2 #[] #[])
  fields := #[]
  methods := #[k1m0, k1m1, k1m2, k1m3]
  instanceTypes := #[]
  staticTypes := #[]
  resolved := Array.replicate 62 none
  statics := none }

def pool2 : Array CpInfo := pool [(1, .class_ 2), (0, u "java/lang/constant/Constable"), (0, .class_ 4), (0, u "java/lang/Object")] 6

/-- java/lang/constant/Constable -/
def k2 : Class := { plain "java/lang/constant/Constable" (some 0) with
  accessFlags := 1537
  interfaces := #[]
  cf := some (fileOf pool2 1 #[] #[] 1537 3 #[] #[])
  fields := #[]
  methods := #[]
  instanceTypes := #[]
  staticTypes := #[]
  resolved := Array.replicate 11 none
  statics := none }

def pool3 : Array CpInfo := pool [(1, .class_ 2), (0, u "java/lang/Comparable"), (0, .class_ 4), (0, u "java/lang/Object")] 7

/-- java/lang/Comparable -/
def k3 : Class := { plain "java/lang/Comparable" (some 0) with
  accessFlags := 1537
  interfaces := #[]
  cf := some (fileOf pool3 1 #[] #[] 1537 3 #[] #[])
  fields := #[]
  methods := #[]
  instanceTypes := #[]
  staticTypes := #[]
  resolved := Array.replicate 12 none
  statics := none }

def pool4 : Array CpInfo := pool [(1, .class_ 2), (0, u "java/io/Serializable"), (0, .class_ 4), (0, u "java/lang/Object")] 2

/-- java/io/Serializable -/
def k4 : Class := { plain "java/io/Serializable" (some 0) with
  accessFlags := 1537
  interfaces := #[]
  cf := some (fileOf pool4 1 #[] #[] 1537 3 #[] #[])
  fields := #[]
  methods := #[]
  instanceTypes := #[]
  staticTypes := #[]
  resolved := Array.replicate 7 none
  statics := none }

def pool5 : Array CpInfo := pool [(2, .class_ 4), (1, u "java/lang/Enum"), (0, u "name"), (0, u "Ljava/lang/String;"), (2, u "ordinal"), (0, u "I"), (1, .class_ 14), (1, u "java/lang/Object"), (4, u "hash"), (86, .class_ 108), (1, u "java/lang/Enum$EnumDesc"), (2, .class_ 112), (0, u "java/lang/constant/Constable"), (0, .class_ 114), (0, u "java/lang/Comparable"), (0, .class_ 116), (0, u "java/io/Serializable")] 87

/-- java/lang/Enum -/
def k5 : Class := { plain "java/lang/Enum" (some 0) with
  accessFlags := 1057
  interfaces := #[2, 3, 4]
  cf := some (fileOf pool5 2 #[.nestMembers #[106]] #[] 1057 12 #[111, 113, 115] #[{ accessFlags := 18, nameIndex := 5, descriptorIndex := 6, attributes := #[] }, { accessFlags := 18, nameIndex := 9, descriptorIndex := 10, attributes := #[] }, { accessFlags := 2, nameIndex := 19, descriptorIndex := 10, attributes := #[] }])
  fields := #[{ name := "name", type := (.object "java/lang/String"), accessFlags := 18, slot := 0, constantValue := 0 }, { name := "ordinal", type := .int, accessFlags := 18, slot := 1, constantValue := 0 }, { name := "hash", type := .int, accessFlags := 2, slot := 2, constantValue := 0 }]
  methods := #[]
  instanceTypes := #[(.object "java/lang/String"), .int, .int]
  staticTypes := #[]
  resolved := Array.replicate 204 none
  statics := none }

def pool6 : Array CpInfo := pool [(1, .class_ 2), (0, u "com/example/nandi/nandi/model/Entry$Kind"), (2, u "USER"), (0, u "Lcom/example/nandi/nandi/model/Entry$Kind;"), (2, u "GROUP"), (2, u "ROLE"), (2, u "EVERYONE"), (2, u "$VALUES"), (0, u "[Lcom/example/nandi/nandi/model/Entry$Kind;"), (6, .class_ 28), (1, u "java/lang/Enum"), (8, u "letter"), (0, u "C"), (24, .class_ 64), (0, u "com/example/nandi/nandi/model/Entry")] 2

/-- com/example/nandi/nandi/model/Entry$Kind -/
def k6 : Class := { plain "com/example/nandi/nandi/model/Entry$Kind" (some 5) with
  accessFlags := 16433
  interfaces := #[]
  cf := some (fileOf pool6 1 #[.nestHost 63] #[] 16433 26 #[] #[{ accessFlags := 16409, nameIndex := 5, descriptorIndex := 6, attributes := #[] }, { accessFlags := 16409, nameIndex := 9, descriptorIndex := 6, attributes := #[] }, { accessFlags := 16409, nameIndex := 12, descriptorIndex := 6, attributes := #[] }, { accessFlags := 16409, nameIndex := 15, descriptorIndex := 6, attributes := #[] }, { accessFlags := 18, nameIndex := 37, descriptorIndex := 38, attributes := #[] }, { accessFlags := 4122, nameIndex := 18, descriptorIndex := 19, attributes := #[] }])
  fields := #[{ name := "USER", type := (.object "com/example/nandi/nandi/model/Entry$Kind"), accessFlags := 16409, slot := 0, constantValue := 0 }, { name := "GROUP", type := (.object "com/example/nandi/nandi/model/Entry$Kind"), accessFlags := 16409, slot := 1, constantValue := 0 }, { name := "ROLE", type := (.object "com/example/nandi/nandi/model/Entry$Kind"), accessFlags := 16409, slot := 2, constantValue := 0 }, { name := "EVERYONE", type := (.object "com/example/nandi/nandi/model/Entry$Kind"), accessFlags := 16409, slot := 3, constantValue := 0 }, { name := "letter", type := .char, accessFlags := 18, slot := 3, constantValue := 0 }, { name := "$VALUES", type := (.array (.object "com/example/nandi/nandi/model/Entry$Kind")), accessFlags := 4122, slot := 4, constantValue := 0 }]
  methods := #[]
  instanceTypes := #[(.object "java/lang/String"), .int, .int, .char]
  staticTypes := #[(.object "com/example/nandi/nandi/model/Entry$Kind"), (.object "com/example/nandi/nandi/model/Entry$Kind"), (.object "com/example/nandi/nandi/model/Entry$Kind"), (.object "com/example/nandi/nandi/model/Entry$Kind"), (.array (.object "com/example/nandi/nandi/model/Entry$Kind"))]
  resolved := Array.replicate 67 none
  statics := some 0 }

def pool7 : Array CpInfo := pool [(2, .class_ 4), (1, u "java/lang/CharSequence"), (42, .class_ 48), (0, u "java/lang/CharSequence$1CodePointIterator"), (10, .class_ 60), (0, u "java/lang/CharSequence$1CharIterator"), (5, .class_ 67), (0, u "java/lang/Object")] 63

/-- java/lang/CharSequence -/
def k7 : Class := { plain "java/lang/CharSequence" (some 0) with
  accessFlags := 1537
  interfaces := #[]
  cf := some (fileOf pool7 2 #[.nestMembers #[47, 59]] #[] 1537 66 #[] #[])
  fields := #[]
  methods := #[]
  instanceTypes := #[]
  staticTypes := #[]
  resolved := Array.replicate 131 none
  statics := none }

def pool8 : Array CpInfo := pool [(1, .class_ 2), (0, u "java/lang/constant/ConstantDesc"), (0, .class_ 4), (0, u "java/lang/Object")] 32

/-- java/lang/constant/ConstantDesc -/
def k8 : Class := { plain "java/lang/constant/ConstantDesc" (some 0) with
  accessFlags := 1537
  interfaces := #[]
  cf := some (fileOf pool8 1 #[] #[] 1537 3 #[] #[])
  fields := #[]
  methods := #[]
  instanceTypes := #[]
  staticTypes := #[]
  resolved := Array.replicate 37 none
  statics := none }

def pool9 : Array CpInfo := pool [(1, .methodref 2 3), (0, .class_ 4), (0, .nameAndType 5 6), (0, u "java/lang/Object"), (0, u "<init>"), (0, u "()V"), (0, .string 8), (0, u ""), (0, .fieldref 10 11), (0, .class_ 12), (0, .nameAndType 13 14), (0, u "java/lang/String"), (0, u "value"), (0, u "[B"), (0, .fieldref 10 16), (0, .nameAndType 17 18), (0, u "coder"), (0, u "B"), (2, u "hash"), (0, u "I"), (2, u "hashIsZero"), (0, u "Z"), (0, .methodref 10 28), (0, .nameAndType 5 29), (0, u "([CIILjava/lang/Void;)V"), (8, .fieldref 10 39), (0, .nameAndType 40 26), (0, u "COMPACT_STRINGS"), (1, .class_ 44), (1, u "java/lang/StringUTF16"), (0, u "compress"), (1, .methodref 42 48), (0, .nameAndType 49 50), (0, u "coderFromArrayLen"), (0, u "([BI)B"), (2, u "toBytes"), (0, .methodref 55 56), (0, .class_ 57), (0, .nameAndType 58 59), (0, u "java/util/Arrays"), (0, u "copyOfRange"), (0, u "([BII)[B"), (47, .class_ 109), (1, u "java/lang/StringLatin1"), (32, u "()Z"), (34, .methodref 42 178), (0, .nameAndType 45 179), (0, u "([CII)[B"), (13, .class_ 195), (1, u "java/lang/System"), (13, .methodref 10 210), (0, .nameAndType 5 211), (0, u "([BB)V"), (0, .methodref 193 213), (0, .nameAndType 214 215), (0, u "arraycopy"), (0, u "(Ljava/lang/Object;ILjava/lang/Object;II)V"), (118, u "()I"), (0, .methodref 10 336), (0, .nameAndType 17 337), (0, u "()B"), (2, u "()[B"), (28, u "(C)Z"), (119, .methodref 10 490), (0, .nameAndType 5 491), (0, u "(Ljava/lang/AbstractStringBuilder;Ljava/lang/Void;)V"), (1, .nameAndType 494 142), (0, u "isLatin1"), (11, .nameAndType 507 334), (0, u "length"), (24, u "getBytes"), (8, .methodref 107 542), (0, .nameAndType 543 544), (0, u "equals"), (0, u "([B[B)Z"), (4, .methodref 550 506), (0, .class_ 551), (0, u "java/lang/AbstractStringBuilder"), (0, .methodref 550 553), (0, .nameAndType 554 340), (0, u "getValue"), (18, u "(Ljava/lang/Object;)Z"), (1, .class_ 576), (0, u "java/lang/CharSequence"), (22, u "CASE_INSENSITIVE_ORDER"), (0, u "Ljava/util/Comparator;"), (181, u "valueOf"), (0, u "(C)Ljava/lang/String;"), (37, u "([BIB)V"), (188, u "([C)V"), (4, .methodref 107 1016), (0, .nameAndType 1017 369), (0, u "canEncode"), (0, .methodref 107 1019), (0, .nameAndType 53 1020), (0, u "(C)[B"), (26, .methodref 550 493), (53, u "serialPersistentFields"), (0, u "[Ljava/io/ObjectStreamField;"), (0, .class_ 1104), (0, u "java/lang/String$CaseInsensitiveComparator"), (1, .class_ 1107), (0, u "java/io/Serializable"), (0, .class_ 1109), (0, u "java/lang/Comparable"), (0, .class_ 1111), (0, u "java/lang/constant/Constable"), (0, .class_ 1113), (0, u "java/lang/constant/ConstantDesc"), (2, u "serialVersionUID"), (0, u "J"), (3, u "REPL"), (0, u "C"), (2, u "LATIN1"), (1, u "UTF16"), (105, u "(Ljava/lang/StringBuilder;)V")] 217

def k9m0 : Method := { name := "<init>", desc := "()V", sig := { parameters := [], returnType := none }, accessFlags := 1, code := none }
def k9c1 : Code := { maxStack := 5, maxLocals := 2, code := jdk_42_method_3_code, exceptionTable := #[], attributes := #[] }
def k9m1 : Method := { name := "<init>", desc := "([C)V", sig := { parameters := [(.array .char)], returnType := none }, accessFlags := 1, code := some k9c1 }
def k9c2 : Code := { maxStack := 3, maxLocals := 2, code := jdk_42_method_53_code, exceptionTable := #[], attributes := #[] }
def k9m2 : Method := { name := "<init>", desc := "(Ljava/lang/StringBuilder;)V", sig := { parameters := [(.object "java/lang/StringBuilder")], returnType := none }, accessFlags := 1, code := some k9c2 }
def k9c3 : Code := { maxStack := 2, maxLocals := 1, code := jdk_42_method_54_code, exceptionTable := #[], attributes := #[] }
def k9m3 : Method := { name := "length", desc := "()I", sig := { parameters := [], returnType := some .int }, accessFlags := 1, code := some k9c3 }
def k9c4 : Code := { maxStack := 2, maxLocals := 3, code := jdk_42_method_66_code, exceptionTable := #[], attributes := #[] }
def k9m4 : Method := { name := "equals", desc := "(Ljava/lang/Object;)Z", sig := { parameters := [(.object "java/lang/Object")], returnType := some .boolean }, accessFlags := 1, code := some k9c4 }
def k9c5 : Code := { maxStack := 4, maxLocals := 1, code := jdk_42_method_139_code, exceptionTable := #[], attributes := #[] }
def k9m5 : Method := { name := "valueOf", desc := "(C)Ljava/lang/String;", sig := { parameters := [.char], returnType := some (.object "java/lang/String") }, accessFlags := 9, code := some k9c5 }
def k9c6 : Code := { maxStack := 5, maxLocals := 4, code := jdk_42_method_147_code, exceptionTable := #[], attributes := #[] }
def k9m6 : Method := { name := "getBytes", desc := "([BIB)V", sig := { parameters := [(.array .byte), .int, .byte], returnType := none }, accessFlags := 0, code := some k9c6 }
def k9c7 : Code := { maxStack := 4, maxLocals := 6, code := jdk_42_method_149_code, exceptionTable := #[], attributes := #[] }
def k9m7 : Method := { name := "<init>", desc := "([CIILjava/lang/Void;)V", sig := { parameters := [(.array .char), .int, .int, (.object "java/lang/Void")], returnType := none }, accessFlags := 2, code := some k9c7 }
def k9c8 : Code := { maxStack := 5, maxLocals := 5, code := jdk_42_method_150_code, exceptionTable := #[], attributes := #[] }
def k9m8 : Method := { name := "<init>", desc := "(Ljava/lang/AbstractStringBuilder;Ljava/lang/Void;)V", sig := { parameters := [(.object "java/lang/AbstractStringBuilder"), (.object "java/lang/Void")], returnType := none }, accessFlags := 0, code := some k9c8 }
def k9c9 : Code := { maxStack := 2, maxLocals := 3, code := jdk_42_method_151_code, exceptionTable := #[], attributes := #[] }
def k9m9 : Method := { name := "<init>", desc := "([BB)V", sig := { parameters := [(.array .byte), .byte], returnType := none }, accessFlags := 0, code := some k9c9 }
def k9c10 : Code := { maxStack := 1, maxLocals := 1, code := jdk_42_method_152_code, exceptionTable := #[], attributes := #[] }
def k9m10 : Method := { name := "coder", desc := "()B", sig := { parameters := [], returnType := some .byte }, accessFlags := 0, code := some k9c10 }
/-- java/lang/String -/
def k9 : Class := { plain "java/lang/String" (some 0) with
  accessFlags := 49
  interfaces := #[4, 3, 7, 2, 8]
  cf := some (fileOf pool9 10 #[.nestMembers #[1103]] #[{ accessFlags := 1, nameIndex := 5, descriptorIndex := 6, attributes := #[] }, { accessFlags := 1, nameIndex := 5, descriptorIndex := 1010, attributes := #[] }, { accessFlags := 1, nameIndex := 5, descriptorIndex := 1233, attributes := #[] }, { accessFlags := 1, nameIndex := 507, descriptorIndex := 334, attributes := #[] }, { accessFlags := 1, nameIndex := 543, descriptorIndex := 573, attributes := #[] }, { accessFlags := 9, nameIndex := 782, descriptorIndex := 783, attributes := #[] }, { accessFlags := 0, nameIndex := 532, descriptorIndex := 821, attributes := #[] }, { accessFlags := 2, nameIndex := 5, descriptorIndex := 29, attributes := #[] }, { accessFlags := 0, nameIndex := 5, descriptorIndex := 491, attributes := #[] }, { accessFlags := 0, nameIndex := 5, descriptorIndex := 211, attributes := #[] }, { accessFlags := 0, nameIndex := 17, descriptorIndex := 337, attributes := #[] }] 49 2 #[1106, 1108, 575, 1110, 1112] #[{ accessFlags := 18, nameIndex := 13, descriptorIndex := 14, attributes := #[] }, { accessFlags := 18, nameIndex := 17, descriptorIndex := 18, attributes := #[] }, { accessFlags := 2, nameIndex := 21, descriptorIndex := 22, attributes := #[] }, { accessFlags := 2, nameIndex := 25, descriptorIndex := 26, attributes := #[] }, { accessFlags := 26, nameIndex := 1116, descriptorIndex := 1117, attributes := #[] }, { accessFlags := 24, nameIndex := 40, descriptorIndex := 26, attributes := #[] }, { accessFlags := 26, nameIndex := 1101, descriptorIndex := 1102, attributes := #[] }, { accessFlags := 26, nameIndex := 1121, descriptorIndex := 1122, attributes := #[] }, { accessFlags := 25, nameIndex := 599, descriptorIndex := 600, attributes := #[] }, { accessFlags := 24, nameIndex := 1125, descriptorIndex := 18, attributes := #[] }, { accessFlags := 24, nameIndex := 1127, descriptorIndex := 18, attributes := #[] }])
  fields := #[{ name := "value", type := (.array .byte), accessFlags := 18, slot := 0, constantValue := 0 }, { name := "coder", type := .byte, accessFlags := 18, slot := 1, constantValue := 0 }, { name := "hash", type := .int, accessFlags := 2, slot := 2, constantValue := 0 }, { name := "hashIsZero", type := .boolean, accessFlags := 2, slot := 3, constantValue := 0 }, { name := "serialVersionUID", type := .long, accessFlags := 26, slot := 0, constantValue := 0 }, { name := "COMPACT_STRINGS", type := .boolean, accessFlags := 24, slot := 1, constantValue := 0 }, { name := "serialPersistentFields", type := (.array (.object "java/io/ObjectStreamField")), accessFlags := 26, slot := 2, constantValue := 0 }, { name := "REPL", type := .char, accessFlags := 26, slot := 3, constantValue := 0 }, { name := "CASE_INSENSITIVE_ORDER", type := (.object "java/util/Comparator"), accessFlags := 25, slot := 4, constantValue := 0 }, { name := "LATIN1", type := .byte, accessFlags := 24, slot := 5, constantValue := 0 }, { name := "UTF16", type := .byte, accessFlags := 24, slot := 6, constantValue := 0 }]
  methods := #[k9m0, k9m1, k9m2, k9m3, k9m4, k9m5, k9m6, k9m7, k9m8, k9m9, k9m10]
  instanceTypes := #[(.array .byte), .byte, .int, .boolean]
  staticTypes := #[.long, .boolean, (.array (.object "java/io/ObjectStreamField")), .char, (.object "java/util/Comparator"), .byte, .byte]
  resolved := Array.replicate 1451 none
  statics := some 1 }

def pool10 : Array CpInfo := pool [(6, .class_ 8), (1, u "java/lang/Object"), (0, u "<init>"), (0, u "()V"), (1, .class_ 14), (1, u "java/lang/StringUTF16"), (31, u "$assertionsDisabled"), (0, u "Z"), (13, u "HI_BYTE_SHIFT"), (0, u "I"), (2, u "LO_BYTE_SHIFT"), (49, .methodref 12 116), (0, .nameAndType 117 118), (0, u "compress"), (0, u "([CI[BII)I"), (3, u "([CII)[B"), (138, u "coderFromArrayLen"), (0, u "([BI)B"), (106, .class_ 371), (1, u "java/lang/StringUTF16$LinesSpliterator"), (58, u "MAX_LENGTH"), (196, .class_ 628), (0, u "java/lang/StringUTF16$CodePointsSpliterator"), (0, .class_ 630), (0, u "java/lang/StringUTF16$CharsSpliterator")] 4

def k10m0 : Method := { name := "<init>", desc := "()V", sig := { parameters := [], returnType := none }, accessFlags := 0, code := none }
def k10c1 : Code := { maxStack := 2, maxLocals := 2, code := jdk_52_method_15_code, exceptionTable := #[], attributes := #[] }
def k10m1 : Method := { name := "coderFromArrayLen", desc := "([BI)B", sig := { parameters := [(.array .byte), .int], returnType := some .byte }, accessFlags := 8, code := some k10c1 }
def k10c2 : Code := { maxStack := 5, maxLocals := 6, code := jdk_52_method_16_code, exceptionTable := #[], attributes := #[] }
def k10m2 : Method := { name := "compress", desc := "([CII)[B", sig := { parameters := [(.array .char), .int, .int], returnType := some (.array .byte) }, accessFlags := 9, code := some k10c2 }
def k10c3 : Code := { maxStack := 3, maxLocals := 7, code := jdk_52_method_21_code, exceptionTable := #[], attributes := #[] }
def k10m3 : Method := { name := "compress", desc := "([CI[BII)I", sig := { parameters := [(.array .char), .int, (.array .byte), .int, .int], returnType := some .int }, accessFlags := 9, code := some k10c3 }
/-- java/lang/StringUTF16 -/
def k10 : Class := { plain "java/lang/StringUTF16" (some 0) with
  accessFlags := 48
  interfaces := #[]
  cf := some (fileOf pool10 12 #[.nestMembers #[627, 629, 369]] #[{ accessFlags := 0, nameIndex := 9, descriptorIndex := 10, attributes := #[] }, { accessFlags := 8, nameIndex := 261, descriptorIndex := 262, attributes := #[] }, { accessFlags := 9, nameIndex := 117, descriptorIndex := 122, attributes := #[] }, { accessFlags := 9, nameIndex := 117, descriptorIndex := 118, attributes := #[] }] 48 6 #[] #[{ accessFlags := 26, nameIndex := 61, descriptorIndex := 62, attributes := #[] }, { accessFlags := 26, nameIndex := 65, descriptorIndex := 62, attributes := #[] }, { accessFlags := 24, nameIndex := 430, descriptorIndex := 62, attributes := #[] }, { accessFlags := 4120, nameIndex := 46, descriptorIndex := 47, attributes := #[] }])
  fields := #[{ name := "HI_BYTE_SHIFT", type := .int, accessFlags := 26, slot := 0, constantValue := 0 }, { name := "LO_BYTE_SHIFT", type := .int, accessFlags := 26, slot := 1, constantValue := 0 }, { name := "MAX_LENGTH", type := .int, accessFlags := 24, slot := 2, constantValue := 0 }, { name := "$assertionsDisabled", type := .boolean, accessFlags := 4120, slot := 3, constantValue := 0 }]
  methods := #[k10m0, k10m1, k10m2, k10m3]
  instanceTypes := #[]
  staticTypes := #[.int, .int, .int, .boolean]
  resolved := Array.replicate 635 none
  statics := none }

def pool11 : Array CpInfo := pool [(2, .class_ 4), (1, u "java/lang/Object"), (0, u "<init>"), (0, u "()V"), (0, .class_ 8), (0, u "java/lang/Record")] 13

def k11m0 : Method := { name := "<init>", desc := "()V", sig := { parameters := [], returnType := none }, accessFlags := 4, code := none }
/-- java/lang/Record -/
def k11 : Class := { plain "java/lang/Record" (some 0) with
  accessFlags := 1057
  interfaces := #[]
  cf := some (fileOf pool11 7 #[] #[{ accessFlags := 4, nameIndex := 5, descriptorIndex := 6, attributes := #[] }] 1057 2 #[] #[])
  fields := #[]
  methods := #[k11m0]
  instanceTypes := #[]
  staticTypes := #[]
  resolved := Array.replicate 22 none
  statics := none }

def pool12 : Array CpInfo := pool [(2, .class_ 4), (0, .nameAndType 5 6), (0, u "java/lang/Record"), (0, u "<init>"), (0, u "()V"), (1, .class_ 10), (1, u "com/example/nandi/nandi/model/Entry"), (0, u "allows"), (0, u "Z"), (2, u "kind"), (0, u "Lcom/example/nandi/nandi/model/Entry$Kind;"), (2, u "name"), (0, u "Ljava/lang/String;"), (1, .class_ 24), (1, u "java/lang/String"), (18, .fieldref 44 45), (0, .class_ 46), (0, .nameAndType 47 16), (0, u "com/example/nandi/nandi/model/Entry$Kind"), (0, u "EVERYONE"), (24, u "()Ljava/lang/String;"), (18, u "key"), (0, u "(Lcom/example/nandi/nandi/model/Entry$Kind;Ljava/lang/String;)Ljava/lang/String;"), (0, .fieldref 44 94), (0, .nameAndType 95 96), (0, u "letter"), (0, u "C"), (0, .methodref 22 98), (0, .nameAndType 99 100), (0, u "valueOf"), (0, u "(C)Ljava/lang/String;"), (0, .class_ 102), (0, u "java/lang/StringBuilder"), (0, .methodref 101 3), (0, .methodref 101 105), (0, .nameAndType 106 107), (0, u "append"), (0, u "(C)Ljava/lang/StringBuilder;"), (0, .string 109), (0, u ":"), (0, .methodref 101 111), (0, .nameAndType 106 112), (0, u "(Ljava/lang/String;)Ljava/lang/StringBuilder;"), (0, .methodref 101 114), (0, .nameAndType 115 72), (0, u "toString")] 59

def k12c0 : Code := { maxStack := 2, maxLocals := 2, code := prog_2_method_5_code, exceptionTable := #[], attributes := #[] }
def k12m0 : Method := { name := "key", desc := "(Lcom/example/nandi/nandi/model/Entry$Kind;Ljava/lang/String;)Ljava/lang/String;", sig := { parameters := [(.object "com/example/nandi/nandi/model/Entry$Kind"), (.object "java/lang/String")], returnType := some (.object "java/lang/String") }, accessFlags := 8, code := some k12c0 }
/-- com/example/nandi/nandi/model/Entry -/
def k12 : Class := { plain "com/example/nandi/nandi/model/Entry" (some 11) with
  accessFlags := 49
  interfaces := #[]
  cf := some (fileOf pool12 8 #[.nestMembers #[44]] #[{ accessFlags := 8, nameIndex := 91, descriptorIndex := 92, attributes := #[] }] 49 2 #[] #[{ accessFlags := 18, nameIndex := 11, descriptorIndex := 12, attributes := #[] }, { accessFlags := 18, nameIndex := 15, descriptorIndex := 16, attributes := #[] }, { accessFlags := 18, nameIndex := 19, descriptorIndex := 20, attributes := #[] }])
  fields := #[{ name := "allows", type := .boolean, accessFlags := 18, slot := 0, constantValue := 0 }, { name := "kind", type := (.object "com/example/nandi/nandi/model/Entry$Kind"), accessFlags := 18, slot := 1, constantValue := 0 }, { name := "name", type := (.object "java/lang/String"), accessFlags := 18, slot := 2, constantValue := 0 }]
  methods := #[k12m0]
  instanceTypes := #[.boolean, (.object "com/example/nandi/nandi/model/Entry$Kind"), (.object "java/lang/String")]
  staticTypes := #[]
  resolved := (Array.replicate 175 none).setIfInBounds 93 (some (.field 6 4))
  statics := none }

def pool13 : Array CpInfo := pool [(1, .class_ 2), (0, u "java/lang/Appendable"), (0, .class_ 4), (0, u "java/lang/Object")] 9

/-- java/lang/Appendable -/
def k13 : Class := { plain "java/lang/Appendable" (some 0) with
  accessFlags := 1537
  interfaces := #[]
  cf := some (fileOf pool13 1 #[] #[] 1537 3 #[] #[])
  fields := #[]
  methods := #[]
  instanceTypes := #[]
  staticTypes := #[]
  resolved := Array.replicate 14 none
  statics := none }

def pool14 : Array CpInfo := pool [(1, .class_ 2), (0, u "java/lang/String"), (0, .methodref 4 5), (0, .class_ 6), (0, .nameAndType 7 8), (0, u "java/lang/Object"), (0, u "<init>"), (0, u "()V"), (1, .class_ 12), (1, u "java/lang/AbstractStringBuilder"), (0, u "EMPTYVALUE"), (0, u "[B"), (0, .fieldref 10 16), (0, .nameAndType 17 14), (0, u "value"), (0, .fieldref 1 19), (0, .nameAndType 20 21), (0, u "COMPACT_STRINGS"), (0, u "Z"), (0, .fieldref 10 23), (0, .nameAndType 24 25), (0, u "coder"), (0, u "B"), (6, .methodref 1 33), (0, .nameAndType 34 35), (0, u "length"), (0, u "()I"), (4, .methodref 1 41), (0, .nameAndType 24 42), (0, u "()B"), (2, u "append"), (0, u "(Ljava/lang/String;)Ljava/lang/AbstractStringBuilder;"), (1, .class_ 49), (0, u "java/lang/CharSequence"), (19, u "(Ljava/lang/String;)V"), (5, u "maybeLatin1"), (3, .fieldref 10 80), (0, .nameAndType 81 82), (0, u "count"), (0, u "I"), (0, .methodref 10 84), (0, .nameAndType 85 86), (0, u "isLatin1"), (0, u "()Z"), (1, .class_ 90), (1, u "java/lang/StringLatin1"), (9, .methodref 10 101), (0, .nameAndType 102 103), (0, u "ensureCapacityInternal"), (0, u "(I)V"), (87, .methodref 88 192), (0, .nameAndType 193 194), (0, u "canEncode"), (0, u "(C)Z"), (13, .methodref 10 209), (0, .nameAndType 210 211), (0, u "putStringAt"), (0, u "(ILjava/lang/String;)V"), (5, u "inflateIfNeededFor"), (2, .nameAndType 221 222), (0, u "getBytes"), (0, u "([BIB)V"), (69, u "(C)Ljava/lang/AbstractStringBuilder;"), (104, .methodref 10 398), (0, .nameAndType 217 69), (0, .methodref 1 220), (3, u "()[B"), (40, .class_ 445), (0, u "java/lang/Appendable"), (106, u "getValue")] 56

def k14m0 : Method := { name := "<init>", desc := "()V", sig := { parameters := [], returnType := none }, accessFlags := 0, code := none }
def k14c1 : Code := { maxStack := 2, maxLocals := 2, code := jdk_68_method_2_code, exceptionTable := #[], attributes := #[] }
def k14m1 : Method := { name := "<init>", desc := "(I)V", sig := { parameters := [.int], returnType := none }, accessFlags := 0, code := some k14c1 }
def k14c2 : Code := { maxStack := 1, maxLocals := 1, code := jdk_68_method_6_code, exceptionTable := #[], attributes := #[] }
def k14m2 : Method := { name := "length", desc := "()I", sig := { parameters := [], returnType := some .int }, accessFlags := 1, code := some k14c2 }
def k14c3 : Code := { maxStack := 4, maxLocals := 3, code := jdk_68_method_9_code, exceptionTable := #[], attributes := #[] }
def k14m3 : Method := { name := "ensureCapacityInternal", desc := "(I)V", sig := { parameters := [.int], returnType := none }, accessFlags := 2, code := some k14c3 }
def k14c4 : Code := { maxStack := 3, maxLocals := 3, code := jdk_68_method_22_code, exceptionTable := #[], attributes := #[] }
def k14m4 : Method := { name := "append", desc := "(Ljava/lang/String;)Ljava/lang/AbstractStringBuilder;", sig := { parameters := [(.object "java/lang/String")], returnType := some (.object "java/lang/AbstractStringBuilder") }, accessFlags := 1, code := some k14c4 }
def k14c5 : Code := { maxStack := 5, maxLocals := 2, code := jdk_68_method_31_code, exceptionTable := #[], attributes := #[] }
def k14m5 : Method := { name := "append", desc := "(C)Ljava/lang/AbstractStringBuilder;", sig := { parameters := [.char], returnType := some (.object "java/lang/AbstractStringBuilder") }, accessFlags := 1, code := some k14c5 }
def k14c6 : Code := { maxStack := 1, maxLocals := 1, code := jdk_68_method_64_code, exceptionTable := #[], attributes := #[] }
def k14m6 : Method := { name := "getValue", desc := "()[B", sig := { parameters := [], returnType := some (.array .byte) }, accessFlags := 16, code := some k14c6 }
def k14c7 : Code := { maxStack := 1, maxLocals := 1, code := jdk_68_method_68_code, exceptionTable := #[], attributes := #[] }
def k14m7 : Method := { name := "isLatin1", desc := "()Z", sig := { parameters := [], returnType := some .boolean }, accessFlags := 16, code := some k14c7 }
def k14c8 : Code := { maxStack := 2, maxLocals := 2, code := jdk_68_method_71_code, exceptionTable := #[], attributes := #[] }
def k14m8 : Method := { name := "inflateIfNeededFor", desc := "(Ljava/lang/String;)V", sig := { parameters := [(.object "java/lang/String")], returnType := none }, accessFlags := 2, code := some k14c8 }
def k14c9 : Code := { maxStack := 4, maxLocals := 3, code := jdk_68_method_73_code, exceptionTable := #[], attributes := #[] }
def k14m9 : Method := { name := "putStringAt", desc := "(ILjava/lang/String;)V", sig := { parameters := [.int, (.object "java/lang/String")], returnType := none }, accessFlags := 2, code := some k14c9 }
/-- java/lang/AbstractStringBuilder -/
def k14 : Class := { plain "java/lang/AbstractStringBuilder" (some 0) with
  accessFlags := 1056
  interfaces := #[13, 7]
  cf := some (fileOf pool14 10 #[] #[{ accessFlags := 0, nameIndex := 7, descriptorIndex := 8, attributes := #[] }, { accessFlags := 0, nameIndex := 7, descriptorIndex := 103, attributes := #[] }, { accessFlags := 1, nameIndex := 34, descriptorIndex := 35, attributes := #[] }, { accessFlags := 2, nameIndex := 102, descriptorIndex := 103, attributes := #[] }, { accessFlags := 1, nameIndex := 45, descriptorIndex := 46, attributes := #[] }, { accessFlags := 1, nameIndex := 45, descriptorIndex := 292, attributes := #[] }, { accessFlags := 16, nameIndex := 552, descriptorIndex := 403, attributes := #[] }, { accessFlags := 16, nameIndex := 85, descriptorIndex := 86, attributes := #[] }, { accessFlags := 2, nameIndex := 217, descriptorIndex := 69, attributes := #[] }, { accessFlags := 2, nameIndex := 210, descriptorIndex := 211, attributes := #[] }] 1056 4 #[444, 48] #[{ accessFlags := 0, nameIndex := 17, descriptorIndex := 14, attributes := #[] }, { accessFlags := 0, nameIndex := 24, descriptorIndex := 25, attributes := #[] }, { accessFlags := 0, nameIndex := 75, descriptorIndex := 21, attributes := #[] }, { accessFlags := 0, nameIndex := 81, descriptorIndex := 82, attributes := #[] }, { accessFlags := 26, nameIndex := 13, descriptorIndex := 14, attributes := #[] }])
  fields := #[{ name := "value", type := (.array .byte), accessFlags := 0, slot := 0, constantValue := 0 }, { name := "coder", type := .byte, accessFlags := 0, slot := 1, constantValue := 0 }, { name := "maybeLatin1", type := .boolean, accessFlags := 0, slot := 2, constantValue := 0 }, { name := "count", type := .int, accessFlags := 0, slot := 3, constantValue := 0 }, { name := "EMPTYVALUE", type := (.array .byte), accessFlags := 26, slot := 0, constantValue := 0 }]
  methods := #[k14m0, k14m1, k14m2, k14m3, k14m4, k14m5, k14m6, k14m7, k14m8, k14m9]
  instanceTypes := #[(.array .byte), .byte, .boolean, .int]
  staticTypes := #[(.array .byte)]
  resolved := Array.replicate 609 none
  statics := none }

def pool15 : Array CpInfo := pool [(1, .methodref 2 3), (0, .class_ 4), (0, .nameAndType 5 6), (0, u "java/lang/AbstractStringBuilder"), (0, u "<init>"), (0, u "(I)V"), (11, .class_ 20), (1, u "java/lang/String"), (3, .class_ 26), (1, u "java/lang/StringBuilder"), (0, u "append"), (0, u "(Ljava/lang/String;)Ljava/lang/StringBuilder;"), (0, .methodref 2 30), (0, .nameAndType 27 31), (0, u "(Ljava/lang/String;)Ljava/lang/AbstractStringBuilder;"), (18, .methodref 2 51), (0, .nameAndType 27 52), (0, u "(C)Ljava/lang/AbstractStringBuilder;"), (84, .methodref 18 138), (0, .nameAndType 5 139), (0, u "(Ljava/lang/StringBuilder;)V"), (5, u "()V"), (10, u "()I"), (129, u "(C)Ljava/lang/StringBuilder;"), (56, .methodref 2 344), (0, .nameAndType 345 156), (0, u "length"), (3, .class_ 350), (0, u "java/lang/Appendable"), (0, .class_ 352), (0, u "java/io/Serializable"), (0, .class_ 354), (0, u "java/lang/Comparable"), (0, .class_ 356), (0, u "java/lang/CharSequence"), (0, u "serialVersionUID"), (0, u "J"), (40, u "toString"), (0, u "()Ljava/lang/String;")] 21

def k15c0 : Code := { maxStack := 2, maxLocals := 1, code := jdk_67_method_1_code, exceptionTable := #[], attributes := #[] }
def k15m0 : Method := { name := "<init>", desc := "()V", sig := { parameters := [], returnType := none }, accessFlags := 1, code := some k15c0 }
def k15c1 : Code := { maxStack := 2, maxLocals := 2, code := jdk_67_method_7_code, exceptionTable := #[], attributes := #[] }
def k15m1 : Method := { name := "append", desc := "(Ljava/lang/String;)Ljava/lang/StringBuilder;", sig := { parameters := [(.object "java/lang/String")], returnType := some (.object "java/lang/StringBuilder") }, accessFlags := 1, code := some k15c1 }
def k15c2 : Code := { maxStack := 2, maxLocals := 2, code := jdk_67_method_14_code, exceptionTable := #[], attributes := #[] }
def k15m2 : Method := { name := "append", desc := "(C)Ljava/lang/StringBuilder;", sig := { parameters := [.char], returnType := some (.object "java/lang/StringBuilder") }, accessFlags := 1, code := some k15c2 }
def k15c3 : Code := { maxStack := 3, maxLocals := 1, code := jdk_67_method_42_code, exceptionTable := #[], attributes := #[] }
def k15m3 : Method := { name := "toString", desc := "()Ljava/lang/String;", sig := { parameters := [], returnType := some (.object "java/lang/String") }, accessFlags := 1, code := some k15c3 }
def k15c4 : Code := { maxStack := 1, maxLocals := 1, code := jdk_67_method_93_code, exceptionTable := #[], attributes := #[] }
def k15m4 : Method := { name := "length", desc := "()I", sig := { parameters := [], returnType := some .int }, accessFlags := 4161, code := some k15c4 }
/-- java/lang/StringBuilder -/
def k15 : Class := { plain "java/lang/StringBuilder" (some 14) with
  accessFlags := 49
  interfaces := #[13, 4, 3, 7]
  cf := some (fileOf pool15 24 #[] #[{ accessFlags := 1, nameIndex := 5, descriptorIndex := 145, attributes := #[] }, { accessFlags := 1, nameIndex := 27, descriptorIndex := 28, attributes := #[] }, { accessFlags := 1, nameIndex := 27, descriptorIndex := 286, attributes := #[] }, { accessFlags := 1, nameIndex := 399, descriptorIndex := 400, attributes := #[] }, { accessFlags := 4161, nameIndex := 345, descriptorIndex := 156, attributes := #[] }] 49 2 #[349, 351, 353, 355] #[{ accessFlags := 24, nameIndex := 357, descriptorIndex := 358, attributes := #[] }])
  fields := #[{ name := "serialVersionUID", type := .long, accessFlags := 24, slot := 0, constantValue := 0 }]
  methods := #[k15m0, k15m1, k15m2, k15m3, k15m4]
  instanceTypes := #[(.array .byte), .byte, .boolean, .int]
  staticTypes := #[.long]
  resolved := Array.replicate 422 none
  statics := none }

def pool16 : Array CpInfo := pool [(4, .class_ 6), (1, u "java/lang/Object"), (0, u "<init>"), (0, u "()V"), (5, .class_ 16), (1, u "java/lang/StringLatin1"), (73, u "canEncode"), (14, u "(C)Z"), (15, u "$assertionsDisabled"), (0, u "Z"), (98, .class_ 223), (1, u "java/lang/StringLatin1$LinesSpliterator"), (57, u "equals"), (0, u "([B[B)Z"), (97, u "toBytes"), (1, u "(C)[B"), (7, .class_ 391), (0, u "java/lang/StringLatin1$CharsSpliterator")] 3

def k16m0 : Method := { name := "<init>", desc := "()V", sig := { parameters := [], returnType := none }, accessFlags := 0, code := none }
def k16c1 : Code := { maxStack := 2, maxLocals := 1, code := jdk_43_method_3_code, exceptionTable := #[], attributes := #[] }
def k16m1 : Method := { name := "canEncode", desc := "(C)Z", sig := { parameters := [.char], returnType := some .boolean }, accessFlags := 9, code := some k16c1 }
def k16c2 : Code := { maxStack := 3, maxLocals := 3, code := jdk_43_method_13_code, exceptionTable := #[], attributes := #[] }
def k16m2 : Method := { name := "equals", desc := "([B[B)Z", sig := { parameters := [(.array .byte), (.array .byte)], returnType := some .boolean }, accessFlags := 9, code := some k16c2 }
def k16c3 : Code := { maxStack := 4, maxLocals := 1, code := jdk_43_method_46_code, exceptionTable := #[], attributes := #[] }
def k16m3 : Method := { name := "toBytes", desc := "(C)[B", sig := { parameters := [.char], returnType := some (.array .byte) }, accessFlags := 9, code := some k16c3 }
/-- java/lang/StringLatin1 -/
def k16 : Class := { plain "java/lang/StringLatin1" (some 0) with
  accessFlags := 48
  interfaces := #[]
  cf := some (fileOf pool16 14 #[.nestMembers #[390, 221]] #[{ accessFlags := 0, nameIndex := 7, descriptorIndex := 8, attributes := #[] }, { accessFlags := 9, nameIndex := 90, descriptorIndex := 105, attributes := #[] }, { accessFlags := 9, nameIndex := 281, descriptorIndex := 282, attributes := #[] }, { accessFlags := 9, nameIndex := 380, descriptorIndex := 382, attributes := #[] }] 48 4 #[] #[{ accessFlags := 4120, nameIndex := 121, descriptorIndex := 122, attributes := #[] }])
  fields := #[{ name := "$assertionsDisabled", type := .boolean, accessFlags := 4120, slot := 0, constantValue := 0 }]
  methods := #[k16m0, k16m1, k16m2, k16m3]
  instanceTypes := #[]
  staticTypes := #[.boolean]
  resolved := Array.replicate 395 none
  statics := none }

def pool17 : Array CpInfo := pool [(2, .class_ 4), (1, u "java/lang/Object"), (0, u "<init>"), (0, u "()V"), (1, .class_ 10), (1, u "java/lang/System"), (0, u "allowSecurityManager"), (0, u "I"), (16, u "cons"), (0, u "Ljava/io/Console;"), (77, .class_ 110), (1, u "java/lang/System$CallersHolder"), (43, u "initialErrStream"), (0, u "Ljava/io/PrintStream;"), (19, u "security"), (0, u "Ljava/lang/SecurityManager;"), (31, .class_ 209), (0, u "java/lang/System$1"), (7, u "props"), (0, u "Ljava/util/Properties;"), (2, u "lineSeparator"), (0, u "Ljava/lang/String;"), (96, .class_ 321), (1, u "java/lang/System$LoggerFinder"), (5, .class_ 328), (0, u "java/lang/System$Logger"), (67, u "err"), (2, u "out"), (91, u "notSupportedJnuEncoding"), (15, u "in"), (17, u "initialIn"), (0, u "Ljava/io/InputStream;"), (35, u "bootLayer"), (0, u "Ljava/lang/ModuleLayer;"), (99, .class_ 664), (0, u "java/lang/System$2"), (9, u "NEVER"), (2, u "MAYBE"), (49, u "arraycopy"), (0, u "(Ljava/lang/Object;ILjava/lang/Object;II)V"), (72, .class_ 802), (0, u "java/lang/System$Logger$Level")] 31

def k17m0 : Method := { name := "<init>", desc := "()V", sig := { parameters := [], returnType := none }, accessFlags := 2, code := none }
def k17m1 : Method := { name := "arraycopy", desc := "(Ljava/lang/Object;ILjava/lang/Object;II)V", sig := { parameters := [(.object "java/lang/Object"), .int, (.object "java/lang/Object"), .int, .int], returnType := none }, accessFlags := 265, code := none }
/-- java/lang/System -/
def k17 : Class := { plain "java/lang/System" (some 0) with
  accessFlags := 49
  interfaces := #[]
  cf := some (fileOf pool17 8 #[.nestMembers #[319, 327, 801, 108, 663, 208]] #[{ accessFlags := 2, nameIndex := 5, descriptorIndex := 6, attributes := #[] }, { accessFlags := 265, nameIndex := 727, descriptorIndex := 728, attributes := #[] }] 49 2 #[] #[{ accessFlags := 25, nameIndex := 507, descriptorIndex := 526, attributes := #[] }, { accessFlags := 25, nameIndex := 399, descriptorIndex := 155, attributes := #[] }, { accessFlags := 25, nameIndex := 396, descriptorIndex := 155, attributes := #[] }, { accessFlags := 10, nameIndex := 525, descriptorIndex := 526, attributes := #[] }, { accessFlags := 26, nameIndex := 674, descriptorIndex := 12, attributes := #[] }, { accessFlags := 26, nameIndex := 677, descriptorIndex := 12, attributes := #[] }, { accessFlags := 10, nameIndex := 11, descriptorIndex := 12, attributes := #[] }, { accessFlags := 74, nameIndex := 175, descriptorIndex := 176, attributes := #[] }, { accessFlags := 10, nameIndex := 491, descriptorIndex := 222, attributes := #[] }, { accessFlags := 74, nameIndex := 29, descriptorIndex := 30, attributes := #[] }, { accessFlags := 74, nameIndex := 154, descriptorIndex := 155, attributes := #[] }, { accessFlags := 10, nameIndex := 217, descriptorIndex := 218, attributes := #[] }, { accessFlags := 10, nameIndex := 221, descriptorIndex := 222, attributes := #[] }, { accessFlags := 8, nameIndex := 562, descriptorIndex := 563, attributes := #[] }])
  fields := #[{ name := "in", type := (.object "java/io/InputStream"), accessFlags := 25, slot := 0, constantValue := 0 }, { name := "out", type := (.object "java/io/PrintStream"), accessFlags := 25, slot := 1, constantValue := 0 }, { name := "err", type := (.object "java/io/PrintStream"), accessFlags := 25, slot := 2, constantValue := 0 }, { name := "initialIn", type := (.object "java/io/InputStream"), accessFlags := 10, slot := 3, constantValue := 0 }, { name := "NEVER", type := .int, accessFlags := 26, slot := 4, constantValue := 0 }, { name := "MAYBE", type := .int, accessFlags := 26, slot := 5, constantValue := 0 }, { name := "allowSecurityManager", type := .int, accessFlags := 10, slot := 6, constantValue := 0 }, { name := "security", type := (.object "java/lang/SecurityManager"), accessFlags := 74, slot := 7, constantValue := 0 }, { name := "notSupportedJnuEncoding", type := (.object "java/lang/String"), accessFlags := 10, slot := 8, constantValue := 0 }, { name := "cons", type := (.object "java/io/Console"), accessFlags := 74, slot := 9, constantValue := 0 }, { name := "initialErrStream", type := (.object "java/io/PrintStream"), accessFlags := 74, slot := 10, constantValue := 0 }, { name := "props", type := (.object "java/util/Properties"), accessFlags := 10, slot := 11, constantValue := 0 }, { name := "lineSeparator", type := (.object "java/lang/String"), accessFlags := 10, slot := 12, constantValue := 0 }, { name := "bootLayer", type := (.object "java/lang/ModuleLayer"), accessFlags := 8, slot := 13, constantValue := 0 }]
  methods := #[k17m0, k17m1]
  instanceTypes := #[]
  staticTypes := #[(.object "java/io/InputStream"), (.object "java/io/PrintStream"), (.object "java/io/PrintStream"), (.object "java/io/InputStream"), .int, .int, .int, (.object "java/lang/SecurityManager"), (.object "java/lang/String"), (.object "java/io/Console"), (.object "java/io/PrintStream"), (.object "java/util/Properties"), (.object "java/lang/String"), (.object "java/lang/ModuleLayer")]
  resolved := Array.replicate 834 none
  statics := none }

def pool18 : Array CpInfo := pool [(2, .class_ 4), (1, u "java/lang/Object"), (0, u "<init>"), (0, u "()V"), (7, .class_ 16), (1, u "java/util/Arrays"), (57, .class_ 76), (1, u "java/util/Arrays$NaturalOrder"), (36, .class_ 115), (1, u "java/util/Arrays$LegacyMergeSort"), (1, u "Z"), (21, u "copyOfRange"), (10, .methodref 151 152), (0, .class_ 153), (0, .nameAndType 154 155), (0, u "java/lang/System"), (0, u "arraycopy"), (0, u "(Ljava/lang/Object;ILjava/lang/Object;II)V"), (148, .methodref 305 306), (0, .class_ 307), (0, .nameAndType 308 309), (0, u "java/lang/Math"), (0, u "min"), (0, u "(II)I"), (29, .methodref 14 340), (0, .nameAndType 341 342), (0, u "copyOfRangeByte"), (0, u "([BII)[B"), (0, .methodref 14 344), (0, .nameAndType 345 346), (0, u "checkLength"), (0, u "(II)V"), (28, .class_ 376), (0, u "java/util/Arrays$ArrayList"), (68, u "$assertionsDisabled"), (269, u "MIN_ARRAY_SORT_GRAN"), (0, u "I"), (2, u "INSERTIONSORT_THRESHOLD"), (255, .class_ 976), (0, u "java/util/Arrays$ArrayItr")] 52

def k18m0 : Method := { name := "<init>", desc := "()V", sig := { parameters := [], returnType := none }, accessFlags := 2, code := none }
def k18c1 : Code := { maxStack := 4, maxLocals := 2, code := jdk_65_method_131_code, exceptionTable := #[], attributes := #[] }
def k18m1 : Method := { name := "checkLength", desc := "(II)V", sig := { parameters := [.int, .int], returnType := none }, accessFlags := 10, code := some k18c1 }
def k18c2 : Code := { maxStack := 3, maxLocals := 3, code := jdk_65_method_132_code, exceptionTable := #[], attributes := #[] }
def k18m2 : Method := { name := "copyOfRange", desc := "([BII)[B", sig := { parameters := [(.array .byte), .int, .int], returnType := some (.array .byte) }, accessFlags := 9, code := some k18c2 }
def k18c3 : Code := { maxStack := 6, maxLocals := 5, code := jdk_65_method_133_code, exceptionTable := #[], attributes := #[] }
def k18m3 : Method := { name := "copyOfRangeByte", desc := "([BII)[B", sig := { parameters := [(.array .byte), .int, .int], returnType := some (.array .byte) }, accessFlags := 10, code := some k18c3 }
/-- java/util/Arrays -/
def k18 : Class := { plain "java/util/Arrays" (some 0) with
  accessFlags := 49
  interfaces := #[]
  cf := some (fileOf pool18 14 #[.nestMembers #[975, 375, 113, 74]] #[{ accessFlags := 2, nameIndex := 5, descriptorIndex := 6, attributes := #[] }, { accessFlags := 10, nameIndex := 345, descriptorIndex := 346, attributes := #[] }, { accessFlags := 9, nameIndex := 139, descriptorIndex := 342, attributes := #[] }, { accessFlags := 10, nameIndex := 341, descriptorIndex := 342, attributes := #[] }] 49 2 #[] #[{ accessFlags := 26, nameIndex := 715, descriptorIndex := 716, attributes := #[] }, { accessFlags := 26, nameIndex := 719, descriptorIndex := 716, attributes := #[] }, { accessFlags := 4120, nameIndex := 445, descriptorIndex := 117, attributes := #[] }])
  fields := #[{ name := "MIN_ARRAY_SORT_GRAN", type := .int, accessFlags := 26, slot := 0, constantValue := 0 }, { name := "INSERTIONSORT_THRESHOLD", type := .int, accessFlags := 26, slot := 1, constantValue := 0 }, { name := "$assertionsDisabled", type := .boolean, accessFlags := 4120, slot := 2, constantValue := 0 }]
  methods := #[k18m0, k18m1, k18m2, k18m3]
  instanceTypes := #[]
  staticTypes := #[.int, .int, .boolean]
  resolved := Array.replicate 1029 none
  statics := none }

def pool19 : Array CpInfo := pool [(1, .class_ 2), (0, u "java/lang/Math"), (1, .class_ 6), (1, u "java/lang/Object"), (0, u "<init>"), (0, u "()V"), (89, .class_ 100), (1, u "java/lang/Math$RandomNumberGeneratorHolder"), (71, u "negativeZeroFloatBits"), (0, u "J"), (2, u "negativeZeroDoubleBits"), (24, u "min"), (43, u "$assertionsDisabled"), (0, u "Z"), (88, u "(II)I"), (2, u "twoToTheDoubleScaleDown"), (0, u "D"), (4, u "twoToTheDoubleScaleUp"), (9, u "E"), (3, u "PI"), (2, u "TAU"), (2, u "DEGREES_TO_RADIANS"), (0, u "RADIANS_TO_DEGREES")] 94

def k19m0 : Method := { name := "<init>", desc := "()V", sig := { parameters := [], returnType := none }, accessFlags := 2, code := none }
def k19c1 : Code := { maxStack := 2, maxLocals := 2, code := jdk_29_method_69_code, exceptionTable := #[], attributes := #[] }
def k19m1 : Method := { name := "min", desc := "(II)I", sig := { parameters := [.int, .int], returnType := some .int }, accessFlags := 9, code := some k19c1 }
/-- java/lang/Math -/
def k19 : Class := { plain "java/lang/Math" (some 0) with
  accessFlags := 49
  interfaces := #[]
  cf := some (fileOf pool19 1 #[.nestMembers #[98]] #[{ accessFlags := 2, nameIndex := 7, descriptorIndex := 8, attributes := #[] }, { accessFlags := 9, nameIndex := 201, descriptorIndex := 335, attributes := #[] }] 49 4 #[] #[{ accessFlags := 25, nameIndex := 354, descriptorIndex := 339, attributes := #[] }, { accessFlags := 25, nameIndex := 358, descriptorIndex := 339, attributes := #[] }, { accessFlags := 25, nameIndex := 361, descriptorIndex := 339, attributes := #[] }, { accessFlags := 26, nameIndex := 364, descriptorIndex := 339, attributes := #[] }, { accessFlags := 26, nameIndex := 365, descriptorIndex := 339, attributes := #[] }, { accessFlags := 26, nameIndex := 172, descriptorIndex := 173, attributes := #[] }, { accessFlags := 26, nameIndex := 176, descriptorIndex := 173, attributes := #[] }, { accessFlags := 8, nameIndex := 344, descriptorIndex := 339, attributes := #[] }, { accessFlags := 8, nameIndex := 338, descriptorIndex := 339, attributes := #[] }, { accessFlags := 4120, nameIndex := 245, descriptorIndex := 246, attributes := #[] }])
  fields := #[{ name := "E", type := .double, accessFlags := 25, slot := 0, constantValue := 0 }, { name := "PI", type := .double, accessFlags := 25, slot := 1, constantValue := 0 }, { name := "TAU", type := .double, accessFlags := 25, slot := 2, constantValue := 0 }, { name := "DEGREES_TO_RADIANS", type := .double, accessFlags := 26, slot := 3, constantValue := 0 }, { name := "RADIANS_TO_DEGREES", type := .double, accessFlags := 26, slot := 4, constantValue := 0 }, { name := "negativeZeroFloatBits", type := .long, accessFlags := 26, slot := 5, constantValue := 0 }, { name := "negativeZeroDoubleBits", type := .long, accessFlags := 26, slot := 6, constantValue := 0 }, { name := "twoToTheDoubleScaleUp", type := .double, accessFlags := 8, slot := 7, constantValue := 0 }, { name := "twoToTheDoubleScaleDown", type := .double, accessFlags := 8, slot := 8, constantValue := 0 }, { name := "$assertionsDisabled", type := .boolean, accessFlags := 4120, slot := 9, constantValue := 0 }]
  methods := #[k19m0, k19m1]
  instanceTypes := #[]
  staticTypes := #[.double, .double, .double, .double, .double, .long, .long, .double, .double, .boolean]
  resolved := Array.replicate 460 none
  statics := none }

def pool20 : Array CpInfo := pool [(2, .class_ 4), (1, u "java/lang/Object"), (0, u "<init>"), (0, u "()V"), (17, .class_ 26), (1, u "jdk/internal/util/Preconditions"), (28, .class_ 56), (0, u "jdk/internal/util/Preconditions$4"), (57, .class_ 115), (0, u "jdk/internal/util/Preconditions$1"), (7, u "SIOOBE_FORMATTER"), (0, u "Ljava/util/function/BiFunction;"), (0, .class_ 126), (0, u "jdk/internal/util/Preconditions$2"), (3, u "AIOOBE_FORMATTER"), (0, .class_ 132), (0, u "jdk/internal/util/Preconditions$3"), (3, u "IOOBE_FORMATTER")] 57

def k20m0 : Method := { name := "<init>", desc := "()V", sig := { parameters := [], returnType := none }, accessFlags := 1, code := none }
/-- jdk/internal/util/Preconditions -/
def k20 : Class := { plain "jdk/internal/util/Preconditions" (some 0) with
  accessFlags := 33
  interfaces := #[]
  cf := some (fileOf pool20 24 #[.nestMembers #[55, 131, 125, 114]] #[{ accessFlags := 1, nameIndex := 5, descriptorIndex := 6, attributes := #[] }] 33 2 #[] #[{ accessFlags := 25, nameIndex := 123, descriptorIndex := 124, attributes := #[] }, { accessFlags := 25, nameIndex := 130, descriptorIndex := 124, attributes := #[] }, { accessFlags := 25, nameIndex := 136, descriptorIndex := 124, attributes := #[] }])
  fields := #[{ name := "SIOOBE_FORMATTER", type := (.object "java/util/function/BiFunction"), accessFlags := 25, slot := 0, constantValue := 0 }, { name := "AIOOBE_FORMATTER", type := (.object "java/util/function/BiFunction"), accessFlags := 25, slot := 1, constantValue := 0 }, { name := "IOOBE_FORMATTER", type := (.object "java/util/function/BiFunction"), accessFlags := 25, slot := 2, constantValue := 0 }]
  methods := #[k20m0]
  instanceTypes := #[]
  staticTypes := #[(.object "java/util/function/BiFunction"), (.object "java/util/function/BiFunction"), (.object "java/util/function/BiFunction")]
  resolved := Array.replicate 194 none
  statics := some 2 }

def pool21 : Array CpInfo := pool [(9, u "<init>"), (6, .class_ 18), (1, u "java/lang/Object"), (0, u "()V"), (1, .class_ 23), (1, u "jdk/internal/util/ArraysSupport"), (0, u "LOG2_ARRAY_LONG_INDEX_SCALE"), (0, u "I"), (2, u "U"), (0, u "Ljdk/internal/misc/Unsafe;"), (8, u "BIG_ENDIAN"), (0, u "Z"), (8, u "LOG2_BYTE_BIT_SIZE"), (4, u "LOG2_ARRAY_INT_INDEX_SCALE"), (54, u "JLA"), (0, u "Ljdk/internal/access/JavaLangAccess;"), (11, u "LOG2_ARRAY_BOOLEAN_INDEX_SCALE"), (9, u "LOG2_ARRAY_BYTE_INDEX_SCALE"), (5, u "LOG2_ARRAY_CHAR_INDEX_SCALE"), (5, u "LOG2_ARRAY_SHORT_INDEX_SCALE"), (18, u "LOG2_ARRAY_FLOAT_INDEX_SCALE"), (24, u "LOG2_ARRAY_DOUBLE_INDEX_SCALE"), (89, u "T_BOOLEAN"), (2, u "T_CHAR"), (1, u "T_FLOAT"), (1, u "T_DOUBLE"), (1, u "T_BYTE"), (1, u "T_SHORT"), (1, u "T_INT"), (1, u "T_LONG"), (1, u "SOFT_MAX_ARRAY_LENGTH")] 83

def k21m0 : Method := { name := "<init>", desc := "()V", sig := { parameters := [], returnType := none }, accessFlags := 2, code := none }
/-- jdk/internal/util/ArraysSupport -/
def k21 : Class := { plain "jdk/internal/util/ArraysSupport" (some 0) with
  accessFlags := 33
  interfaces := #[]
  cf := some (fileOf pool21 21 #[] #[{ accessFlags := 2, nameIndex := 9, descriptorIndex := 19, attributes := #[] }] 33 16 #[] #[{ accessFlags := 24, nameIndex := 28, descriptorIndex := 29, attributes := #[] }, { accessFlags := 26, nameIndex := 38, descriptorIndex := 39, attributes := #[] }, { accessFlags := 25, nameIndex := 121, descriptorIndex := 25, attributes := #[] }, { accessFlags := 25, nameIndex := 131, descriptorIndex := 25, attributes := #[] }, { accessFlags := 25, nameIndex := 137, descriptorIndex := 25, attributes := #[] }, { accessFlags := 25, nameIndex := 143, descriptorIndex := 25, attributes := #[] }, { accessFlags := 25, nameIndex := 53, descriptorIndex := 25, attributes := #[] }, { accessFlags := 25, nameIndex := 24, descriptorIndex := 25, attributes := #[] }, { accessFlags := 25, nameIndex := 162, descriptorIndex := 25, attributes := #[] }, { accessFlags := 25, nameIndex := 187, descriptorIndex := 25, attributes := #[] }, { accessFlags := 26, nameIndex := 48, descriptorIndex := 25, attributes := #[] }, { accessFlags := 25, nameIndex := 277, descriptorIndex := 25, attributes := #[] }, { accessFlags := 25, nameIndex := 280, descriptorIndex := 25, attributes := #[] }, { accessFlags := 25, nameIndex := 282, descriptorIndex := 25, attributes := #[] }, { accessFlags := 25, nameIndex := 284, descriptorIndex := 25, attributes := #[] }, { accessFlags := 25, nameIndex := 286, descriptorIndex := 25, attributes := #[] }, { accessFlags := 25, nameIndex := 288, descriptorIndex := 25, attributes := #[] }, { accessFlags := 25, nameIndex := 290, descriptorIndex := 25, attributes := #[] }, { accessFlags := 25, nameIndex := 292, descriptorIndex := 25, attributes := #[] }, { accessFlags := 26, nameIndex := 108, descriptorIndex := 109, attributes := #[] }, { accessFlags := 25, nameIndex := 294, descriptorIndex := 25, attributes := #[] }])
  fields := #[{ name := "U", type := (.object "jdk/internal/misc/Unsafe"), accessFlags := 24, slot := 0, constantValue := 0 }, { name := "BIG_ENDIAN", type := .boolean, accessFlags := 26, slot := 1, constantValue := 0 }, { name := "LOG2_ARRAY_BOOLEAN_INDEX_SCALE", type := .int, accessFlags := 25, slot := 2, constantValue := 0 }, { name := "LOG2_ARRAY_BYTE_INDEX_SCALE", type := .int, accessFlags := 25, slot := 3, constantValue := 0 }, { name := "LOG2_ARRAY_CHAR_INDEX_SCALE", type := .int, accessFlags := 25, slot := 4, constantValue := 0 }, { name := "LOG2_ARRAY_SHORT_INDEX_SCALE", type := .int, accessFlags := 25, slot := 5, constantValue := 0 }, { name := "LOG2_ARRAY_INT_INDEX_SCALE", type := .int, accessFlags := 25, slot := 6, constantValue := 0 }, { name := "LOG2_ARRAY_LONG_INDEX_SCALE", type := .int, accessFlags := 25, slot := 7, constantValue := 0 }, { name := "LOG2_ARRAY_FLOAT_INDEX_SCALE", type := .int, accessFlags := 25, slot := 8, constantValue := 0 }, { name := "LOG2_ARRAY_DOUBLE_INDEX_SCALE", type := .int, accessFlags := 25, slot := 9, constantValue := 0 }, { name := "LOG2_BYTE_BIT_SIZE", type := .int, accessFlags := 26, slot := 10, constantValue := 0 }, { name := "T_BOOLEAN", type := .int, accessFlags := 25, slot := 11, constantValue := 0 }, { name := "T_CHAR", type := .int, accessFlags := 25, slot := 12, constantValue := 0 }, { name := "T_FLOAT", type := .int, accessFlags := 25, slot := 13, constantValue := 0 }, { name := "T_DOUBLE", type := .int, accessFlags := 25, slot := 14, constantValue := 0 }, { name := "T_BYTE", type := .int, accessFlags := 25, slot := 15, constantValue := 0 }, { name := "T_SHORT", type := .int, accessFlags := 25, slot := 16, constantValue := 0 }, { name := "T_INT", type := .int, accessFlags := 25, slot := 17, constantValue := 0 }, { name := "T_LONG", type := .int, accessFlags := 25, slot := 18, constantValue := 0 }, { name := "JLA", type := (.object "jdk/internal/access/JavaLangAccess"), accessFlags := 26, slot := 19, constantValue := 0 }, { name := "SOFT_MAX_ARRAY_LENGTH", type := .int, accessFlags := 25, slot := 20, constantValue := 0 }]
  methods := #[k21m0]
  instanceTypes := #[]
  staticTypes := #[(.object "jdk/internal/misc/Unsafe"), .boolean, .int, .int, .int, .int, .int, .int, .int, .int, .int, .int, .int, .int, .int, .int, .int, .int, .int, (.object "jdk/internal/access/JavaLangAccess"), .int]
  resolved := Array.replicate 378 none
  statics := none }

def pool22 : Array CpInfo := pool [(1, u "java/lang/Cloneable"), (0, .class_ 1), (0, u "java/lang/Object"), (0, .class_ 3)] 3

/-- java/lang/Cloneable -/
def k22 : Class := { plain "java/lang/Cloneable" (some 0) with
  accessFlags := 1537
  interfaces := #[]
  cf := some (fileOf pool22 2 #[] #[] 1537 4 #[] #[])
  fields := #[]
  methods := #[]
  instanceTypes := #[]
  staticTypes := #[]
  resolved := Array.replicate 8 none
  statics := none }

/-- the primitive byte -/
def k23 : Class := { plain "byte" none with kind := .primitive 'B', accessFlags := 0x411 }
/-- [B -/
def k24 : Class := { plain "[B" (some 0) with kind := .array 23 .byte, interfaces := #[22, 4], accessFlags := 1041 }

/-- the primitive char -/
def k25 : Class := { plain "char" none with kind := .primitive 'C', accessFlags := 0x411 }
/-- [C -/
def k26 : Class := { plain "[C" (some 0) with kind := .array 25 .char, interfaces := #[22, 4], accessFlags := 1041 }

/-- the primitive int -/
def k27 : Class := { plain "int" none with kind := .primitive 'I', accessFlags := 0x411 }
/-- [I -/
def k28 : Class := { plain "[I" (some 0) with kind := .array 27 .int, interfaces := #[22, 4], accessFlags := 1041 }

def heap : Heap := #[{ cls := 6, slots := #[.ref 3, .ref 4, .ref 5, .ref 6, .null], vm := .statics 6 },
  { cls := 9, slots := #[.long 0, .int 1, .null, .int 0, .null, .int 0, .int 0], vm := .statics 9 },
  { cls := 20, slots := #[.null, .null, .null], vm := .statics 20 },
  { cls := 6, slots := #[.null, .int 0, .int 0, .int 117], vm := .none },
  { cls := 6, slots := #[.null, .int 1, .int 0, .int 103], vm := .none },
  { cls := 6, slots := #[.null, .int 2, .int 0, .int 114], vm := .none },
  { cls := 6, slots := #[.null, .int 3, .int 0, .int 42], vm := .none }]
def classes : Array Class := #[k0, k1, k2, k3, k4, k5, k6, k7, k8, k9, k10, k11, k12, k13, k14, k15, k16, k17, k18, k19, k20, k21, k22, k23, k24, k25, k26, k27, k28]
def interned : List (Array UInt16 × Addr) := []
def slotsUsed : Nat := 31
def theMethod : MethodId := ⟨1, 1⟩
def args0 : Array Value := #[.int 5, .int 5, .long 5]
def aboutOver (below : List Frame) : State where
  vm := { classes := classes, interned := interned.toArray }
  heap := heap
  slotsUsed := slotsUsed
  threads := #[{ frames := .invoking theMethod args0 :: below }]
def below0 : List Frame := [.native { method := ⟨0, 0⟩, args := #[] }]
def about1 : State := aboutOver below0
def p0 : Program := .bare "" "" ""
def e0 : Env := launch0.env 0 0 0
theorem w_frames : about1.frames = Frame.invoking theMethod args0 :: below0 := rfl
set_option maxRecDepth 65536 in
theorem w_args : argsFit about1.vm theMethod args0 = true := by decide +kernel
set_option maxRecDepth 65536 in
theorem w_heap : heapFits about1 = true := by decide +kernel
set_option maxRecDepth 65536 in
theorem w_runnable : about1.curStatus? = some .runnable := by decide +kernel
set_option maxRecDepth 65536 in
theorem w_alone : about1.alone = true := by decide +kernel
set_option maxRecDepth 65536 in
theorem w_named : about1.methodNamed? x = some theMethod := by decide +kernel
set_option maxRecDepth 65536 in
theorem w_hears : about1.hears theMethod below0 = true := by decide +kernel
set_option maxRecDepth 65536 in
theorem w_ripe : about1.ripe theMethod args0 below0 = true := by decide +kernel
theorem w_running : about1.status = .running := rfl
set_option maxRecDepth 65536 in
theorem w_room : about1.hasRoom e0.platform room_1 = true :=
  launch0.hasRoom_least _ room_1 (by decide +kernel) (by decide +kernel) (by decide +kernel) (by decide +kernel) (by decide +kernel) (by decide +kernel)
theorem allAtoms_all (ts : List Jvm.Cond) (a : Array Jvm.Value) (st : Jvm.State) : (allAtoms ts).before a st = ts.all (fun c => c.before a st) := by
  induction ts with
  | nil => rfl
  | cons c t ih =>
    show (Jvm.Cond.and c (allAtoms t)).before a st = _
    rw [Jvm.Cond.before_and, ih, List.all_cons]
def words1 : List Jvm.Cond := Jvm.Cond.code x code maxLocals ret :: tables_1
/-- a 'code' word, met by the world's own term for the bytes: nothing is compared byte by byte -/
theorem code_word {y : MethodName} {bytes : ByteArray} {mx : Nat} {rt : Option FieldType} {a : Array Value} {s : State} {m : MethodId} {meth : Method} {c : Code} (h1 : s.methodNamed? y = some m) (h2 : s.vm.method? m = some meth) (h3 : meth.code = some c) (h4 : c.code = bytes)
    (h5 : (c.maxLocals == mx && c.exceptionTable.isEmpty && decide (c.maxStack ≤ mostOperands) && decide (meth.sig.returnType = rt) && !meth.locks && decide (parseMethodDescriptor y.desc = some meth.sig)) = true) : (Jvm.Cond.code y bytes mx rt).before a s = true := by
  simp only [Bool.and_eq_true, beq_iff_eq, Bool.not_eq_true', decide_eq_true_eq] at h5
  obtain ⟨⟨⟨⟨⟨g1, g2⟩, g3⟩, g4⟩, g5⟩, g6⟩ := h5
  simp [Cond.before, Cond.holds, Cond.value, h1, h2, h3, h4, g1, g2, g3, g4, g5, g6]
def isCode : Jvm.Cond → Bool
  | .code _ _ _ _ => true
  | _ => false
theorem all_split {L : List Jvm.Cond} {P : Jvm.Cond → Bool} (h1 : L.all (fun c => isCode c || P c) = true) (h2 : ∀ c ∈ L.filter isCode, P c = true) : L.all P = true := by
  refine List.all_eq_true.mpr fun c hc => ?_
  have h := List.all_eq_true.mp h1 c hc
  rcases Bool.eq_false_or_eq_true (isCode c) with hi | hi
  · exact h2 c (List.mem_filter.mpr ⟨hc, hi⟩)
  · simpa [hi] using h
set_option maxRecDepth 65536 in
theorem w_c0 : (Jvm.Cond.code x code maxLocals ret).before args0 about1 = true := code_word (m := ⟨1, 1⟩) (meth := k1m1) (c := k1c1) (by decide +kernel) rfl rfl rfl (by decide +kernel)
set_option maxRecDepth 65536 in
theorem w_c1 : (Jvm.Cond.code ({ cls := "com/example/nandi/nandi/model/EntryKeyPinLaw", name := "word", desc := "(ICCC)Ljava/lang/String;" } : Jvm.MethodName) method_3_code (4 : Nat) (Option.some (Jvm.ClassFile.FieldType.object "java/lang/String"))).before args0 about1 = true := code_word (m := ⟨1, 2⟩) (meth := k1m2) (c := k1c2) (by decide +kernel) rfl rfl rfl (by decide +kernel)
set_option maxRecDepth 65536 in
theorem w_c2 : (Jvm.Cond.code ({ cls := "java/lang/String", name := "<init>", desc := "([C)V" } : Jvm.MethodName) jdk_42_method_3_code (2 : Nat) (Option.none : Option Jvm.ClassFile.FieldType)).before args0 about1 = true := code_word (m := ⟨9, 1⟩) (meth := k9m1) (c := k9c1) (by decide +kernel) rfl rfl rfl (by decide +kernel)
set_option maxRecDepth 65536 in
theorem w_c3 : (Jvm.Cond.code ({ cls := "java/lang/String", name := "<init>", desc := "([CIILjava/lang/Void;)V" } : Jvm.MethodName) jdk_42_method_149_code (6 : Nat) (Option.none : Option Jvm.ClassFile.FieldType)).before args0 about1 = true := code_word (m := ⟨9, 7⟩) (meth := k9m7) (c := k9c7) (by decide +kernel) rfl rfl rfl (by decide +kernel)
set_option maxRecDepth 65536 in
theorem w_c4 : (Jvm.Cond.code ({ cls := "java/lang/Object", name := "<init>", desc := "()V" } : Jvm.MethodName) object_method_1_code (1 : Nat) (Option.none : Option Jvm.ClassFile.FieldType)).before args0 about1 = true := code_word (m := ⟨0, 0⟩) (meth := k0m0) (c := k0c0) (by decide +kernel) rfl rfl rfl (by decide +kernel)
set_option maxRecDepth 65536 in
theorem w_c5 : (Jvm.Cond.code ({ cls := "java/lang/StringUTF16", name := "compress", desc := "([CII)[B" } : Jvm.MethodName) jdk_52_method_16_code (6 : Nat) (Option.some (Jvm.ClassFile.FieldType.array Jvm.ClassFile.FieldType.byte))).before args0 about1 = true := code_word (m := ⟨10, 2⟩) (meth := k10m2) (c := k10c2) (by decide +kernel) rfl rfl rfl (by decide +kernel)
set_option maxRecDepth 65536 in
theorem w_c6 : (Jvm.Cond.code ({ cls := "java/lang/StringUTF16", name := "compress", desc := "([CI[BII)I" } : Jvm.MethodName) jdk_52_method_21_code (7 : Nat) (Option.some Jvm.ClassFile.FieldType.int)).before args0 about1 = true := code_word (m := ⟨10, 3⟩) (meth := k10m3) (c := k10c3) (by decide +kernel) rfl rfl rfl (by decide +kernel)
set_option maxRecDepth 65536 in
theorem w_c7 : (Jvm.Cond.code ({ cls := "java/lang/StringUTF16", name := "coderFromArrayLen", desc := "([BI)B" } : Jvm.MethodName) jdk_52_method_15_code (2 : Nat) (Option.some Jvm.ClassFile.FieldType.byte)).before args0 about1 = true := code_word (m := ⟨10, 1⟩) (meth := k10m1) (c := k10c1) (by decide +kernel) rfl rfl rfl (by decide +kernel)
set_option maxRecDepth 65536 in
theorem w_c8 : (Jvm.Cond.code ({ cls := "com/example/nandi/nandi/model/Entry", name := "key", desc := "(Lcom/example/nandi/nandi/model/Entry$Kind;Ljava/lang/String;)Ljava/lang/String;" } : Jvm.MethodName) prog_2_method_5_code (2 : Nat) (Option.some (Jvm.ClassFile.FieldType.object "java/lang/String"))).before args0 about1 = true := code_word (m := ⟨12, 0⟩) (meth := k12m0) (c := k12c0) (by decide +kernel) rfl rfl rfl (by decide +kernel)
set_option maxRecDepth 65536 in
theorem w_c9 : (Jvm.Cond.code ({ cls := "java/lang/StringBuilder", name := "<init>", desc := "()V" } : Jvm.MethodName) jdk_67_method_1_code (1 : Nat) (Option.none : Option Jvm.ClassFile.FieldType)).before args0 about1 = true := code_word (m := ⟨15, 0⟩) (meth := k15m0) (c := k15c0) (by decide +kernel) rfl rfl rfl (by decide +kernel)
set_option maxRecDepth 65536 in
theorem w_c10 : (Jvm.Cond.code ({ cls := "java/lang/AbstractStringBuilder", name := "<init>", desc := "(I)V" } : Jvm.MethodName) jdk_68_method_2_code (2 : Nat) (Option.none : Option Jvm.ClassFile.FieldType)).before args0 about1 = true := code_word (m := ⟨14, 1⟩) (meth := k14m1) (c := k14c1) (by decide +kernel) rfl rfl rfl (by decide +kernel)
set_option maxRecDepth 65536 in
theorem w_c11 : (Jvm.Cond.code ({ cls := "java/lang/StringBuilder", name := "append", desc := "(C)Ljava/lang/StringBuilder;" } : Jvm.MethodName) jdk_67_method_14_code (2 : Nat) (Option.some (Jvm.ClassFile.FieldType.object "java/lang/StringBuilder"))).before args0 about1 = true := code_word (m := ⟨15, 2⟩) (meth := k15m2) (c := k15c2) (by decide +kernel) rfl rfl rfl (by decide +kernel)
set_option maxRecDepth 65536 in
theorem w_c12 : (Jvm.Cond.code ({ cls := "java/lang/AbstractStringBuilder", name := "append", desc := "(C)Ljava/lang/AbstractStringBuilder;" } : Jvm.MethodName) jdk_68_method_31_code (2 : Nat) (Option.some (Jvm.ClassFile.FieldType.object "java/lang/AbstractStringBuilder"))).before args0 about1 = true := code_word (m := ⟨14, 5⟩) (meth := k14m5) (c := k14c5) (by decide +kernel) rfl rfl rfl (by decide +kernel)
set_option maxRecDepth 65536 in
theorem w_c13 : (Jvm.Cond.code ({ cls := "java/lang/AbstractStringBuilder", name := "ensureCapacityInternal", desc := "(I)V" } : Jvm.MethodName) jdk_68_method_9_code (3 : Nat) (Option.none : Option Jvm.ClassFile.FieldType)).before args0 about1 = true := code_word (m := ⟨14, 3⟩) (meth := k14m3) (c := k14c3) (by decide +kernel) rfl rfl rfl (by decide +kernel)
set_option maxRecDepth 65536 in
theorem w_c14 : (Jvm.Cond.code ({ cls := "java/lang/AbstractStringBuilder", name := "isLatin1", desc := "()Z" } : Jvm.MethodName) jdk_68_method_68_code (1 : Nat) (Option.some Jvm.ClassFile.FieldType.boolean)).before args0 about1 = true := code_word (m := ⟨14, 7⟩) (meth := k14m7) (c := k14c7) (by decide +kernel) rfl rfl rfl (by decide +kernel)
set_option maxRecDepth 65536 in
theorem w_c15 : (Jvm.Cond.code ({ cls := "java/lang/StringLatin1", name := "canEncode", desc := "(C)Z" } : Jvm.MethodName) jdk_43_method_3_code (1 : Nat) (Option.some Jvm.ClassFile.FieldType.boolean)).before args0 about1 = true := code_word (m := ⟨16, 1⟩) (meth := k16m1) (c := k16c1) (by decide +kernel) rfl rfl rfl (by decide +kernel)
set_option maxRecDepth 65536 in
theorem w_c16 : (Jvm.Cond.code ({ cls := "java/lang/StringBuilder", name := "append", desc := "(Ljava/lang/String;)Ljava/lang/StringBuilder;" } : Jvm.MethodName) jdk_67_method_7_code (2 : Nat) (Option.some (Jvm.ClassFile.FieldType.object "java/lang/StringBuilder"))).before args0 about1 = true := code_word (m := ⟨15, 1⟩) (meth := k15m1) (c := k15c1) (by decide +kernel) rfl rfl rfl (by decide +kernel)
set_option maxRecDepth 65536 in
theorem w_c17 : (Jvm.Cond.code ({ cls := "java/lang/AbstractStringBuilder", name := "append", desc := "(Ljava/lang/String;)Ljava/lang/AbstractStringBuilder;" } : Jvm.MethodName) jdk_68_method_22_code (3 : Nat) (Option.some (Jvm.ClassFile.FieldType.object "java/lang/AbstractStringBuilder"))).before args0 about1 = true := code_word (m := ⟨14, 4⟩) (meth := k14m4) (c := k14c4) (by decide +kernel) rfl rfl rfl (by decide +kernel)
set_option maxRecDepth 65536 in
theorem w_c18 : (Jvm.Cond.code ({ cls := "java/lang/String", name := "length", desc := "()I" } : Jvm.MethodName) jdk_42_method_54_code (1 : Nat) (Option.some Jvm.ClassFile.FieldType.int)).before args0 about1 = true := code_word (m := ⟨9, 3⟩) (meth := k9m3) (c := k9c3) (by decide +kernel) rfl rfl rfl (by decide +kernel)
set_option maxRecDepth 65536 in
theorem w_c19 : (Jvm.Cond.code ({ cls := "java/lang/String", name := "coder", desc := "()B" } : Jvm.MethodName) jdk_42_method_152_code (1 : Nat) (Option.some Jvm.ClassFile.FieldType.byte)).before args0 about1 = true := code_word (m := ⟨9, 10⟩) (meth := k9m10) (c := k9c10) (by decide +kernel) rfl rfl rfl (by decide +kernel)
set_option maxRecDepth 65536 in
theorem w_c20 : (Jvm.Cond.code ({ cls := "java/lang/AbstractStringBuilder", name := "putStringAt", desc := "(ILjava/lang/String;)V" } : Jvm.MethodName) jdk_68_method_73_code (3 : Nat) (Option.none : Option Jvm.ClassFile.FieldType)).before args0 about1 = true := code_word (m := ⟨14, 9⟩) (meth := k14m9) (c := k14c9) (by decide +kernel) rfl rfl rfl (by decide +kernel)
set_option maxRecDepth 65536 in
theorem w_c21 : (Jvm.Cond.code ({ cls := "java/lang/AbstractStringBuilder", name := "inflateIfNeededFor", desc := "(Ljava/lang/String;)V" } : Jvm.MethodName) jdk_68_method_71_code (2 : Nat) (Option.none : Option Jvm.ClassFile.FieldType)).before args0 about1 = true := code_word (m := ⟨14, 8⟩) (meth := k14m8) (c := k14c8) (by decide +kernel) rfl rfl rfl (by decide +kernel)
set_option maxRecDepth 65536 in
theorem w_c22 : (Jvm.Cond.code ({ cls := "java/lang/String", name := "getBytes", desc := "([BIB)V" } : Jvm.MethodName) jdk_42_method_147_code (4 : Nat) (Option.none : Option Jvm.ClassFile.FieldType)).before args0 about1 = true := code_word (m := ⟨9, 6⟩) (meth := k9m6) (c := k9c6) (by decide +kernel) rfl rfl rfl (by decide +kernel)
set_option maxRecDepth 65536 in
theorem w_c23 : (Jvm.Cond.code ({ cls := "java/lang/StringBuilder", name := "toString", desc := "()Ljava/lang/String;" } : Jvm.MethodName) jdk_67_method_42_code (1 : Nat) (Option.some (Jvm.ClassFile.FieldType.object "java/lang/String"))).before args0 about1 = true := code_word (m := ⟨15, 3⟩) (meth := k15m3) (c := k15c3) (by decide +kernel) rfl rfl rfl (by decide +kernel)
set_option maxRecDepth 65536 in
theorem w_c24 : (Jvm.Cond.code ({ cls := "java/lang/String", name := "<init>", desc := "(Ljava/lang/StringBuilder;)V" } : Jvm.MethodName) jdk_42_method_53_code (2 : Nat) (Option.none : Option Jvm.ClassFile.FieldType)).before args0 about1 = true := code_word (m := ⟨9, 2⟩) (meth := k9m2) (c := k9c2) (by decide +kernel) rfl rfl rfl (by decide +kernel)
set_option maxRecDepth 65536 in
theorem w_c25 : (Jvm.Cond.code ({ cls := "java/lang/String", name := "<init>", desc := "(Ljava/lang/AbstractStringBuilder;Ljava/lang/Void;)V" } : Jvm.MethodName) jdk_42_method_150_code (5 : Nat) (Option.none : Option Jvm.ClassFile.FieldType)).before args0 about1 = true := code_word (m := ⟨9, 8⟩) (meth := k9m8) (c := k9c8) (by decide +kernel) rfl rfl rfl (by decide +kernel)
set_option maxRecDepth 65536 in
theorem w_c26 : (Jvm.Cond.code ({ cls := "java/lang/AbstractStringBuilder", name := "getValue", desc := "()[B" } : Jvm.MethodName) jdk_68_method_64_code (1 : Nat) (Option.some (Jvm.ClassFile.FieldType.array Jvm.ClassFile.FieldType.byte))).before args0 about1 = true := code_word (m := ⟨14, 6⟩) (meth := k14m6) (c := k14c6) (by decide +kernel) rfl rfl rfl (by decide +kernel)
set_option maxRecDepth 65536 in
theorem w_c27 : (Jvm.Cond.code ({ cls := "java/lang/StringBuilder", name := "length", desc := "()I" } : Jvm.MethodName) jdk_67_method_93_code (1 : Nat) (Option.some Jvm.ClassFile.FieldType.int)).before args0 about1 = true := code_word (m := ⟨15, 4⟩) (meth := k15m4) (c := k15c4) (by decide +kernel) rfl rfl rfl (by decide +kernel)
set_option maxRecDepth 65536 in
theorem w_c28 : (Jvm.Cond.code ({ cls := "java/lang/AbstractStringBuilder", name := "length", desc := "()I" } : Jvm.MethodName) jdk_68_method_6_code (1 : Nat) (Option.some Jvm.ClassFile.FieldType.int)).before args0 about1 = true := code_word (m := ⟨14, 2⟩) (meth := k14m2) (c := k14c2) (by decide +kernel) rfl rfl rfl (by decide +kernel)
set_option maxRecDepth 65536 in
theorem w_c29 : (Jvm.Cond.code ({ cls := "java/util/Arrays", name := "copyOfRange", desc := "([BII)[B" } : Jvm.MethodName) jdk_65_method_132_code (3 : Nat) (Option.some (Jvm.ClassFile.FieldType.array Jvm.ClassFile.FieldType.byte))).before args0 about1 = true := code_word (m := ⟨18, 2⟩) (meth := k18m2) (c := k18c2) (by decide +kernel) rfl rfl rfl (by decide +kernel)
set_option maxRecDepth 65536 in
theorem w_c30 : (Jvm.Cond.code ({ cls := "java/util/Arrays", name := "copyOfRangeByte", desc := "([BII)[B" } : Jvm.MethodName) jdk_65_method_133_code (5 : Nat) (Option.some (Jvm.ClassFile.FieldType.array Jvm.ClassFile.FieldType.byte))).before args0 about1 = true := code_word (m := ⟨18, 3⟩) (meth := k18m3) (c := k18c3) (by decide +kernel) rfl rfl rfl (by decide +kernel)
set_option maxRecDepth 65536 in
theorem w_c31 : (Jvm.Cond.code ({ cls := "java/util/Arrays", name := "checkLength", desc := "(II)V" } : Jvm.MethodName) jdk_65_method_131_code (2 : Nat) (Option.none : Option Jvm.ClassFile.FieldType)).before args0 about1 = true := code_word (m := ⟨18, 1⟩) (meth := k18m1) (c := k18c1) (by decide +kernel) rfl rfl rfl (by decide +kernel)
set_option maxRecDepth 65536 in
theorem w_c32 : (Jvm.Cond.code ({ cls := "java/lang/Math", name := "min", desc := "(II)I" } : Jvm.MethodName) jdk_29_method_69_code (2 : Nat) (Option.some Jvm.ClassFile.FieldType.int)).before args0 about1 = true := code_word (m := ⟨19, 1⟩) (meth := k19m1) (c := k19c1) (by decide +kernel) rfl rfl rfl (by decide +kernel)
set_option maxRecDepth 65536 in
theorem w_c33 : (Jvm.Cond.code ({ cls := "com/example/nandi/nandi/model/EntryKeyPinLaw", name := "keyText", desc := "(CICCC)Ljava/lang/String;" } : Jvm.MethodName) method_4_code (5 : Nat) (Option.some (Jvm.ClassFile.FieldType.object "java/lang/String"))).before args0 about1 = true := code_word (m := ⟨1, 3⟩) (meth := k1m3) (c := k1c3) (by decide +kernel) rfl rfl rfl (by decide +kernel)
set_option maxRecDepth 65536 in
theorem w_c34 : (Jvm.Cond.code ({ cls := "java/lang/String", name := "equals", desc := "(Ljava/lang/Object;)Z" } : Jvm.MethodName) jdk_42_method_66_code (3 : Nat) (Option.some Jvm.ClassFile.FieldType.boolean)).before args0 about1 = true := code_word (m := ⟨9, 4⟩) (meth := k9m4) (c := k9c4) (by decide +kernel) rfl rfl rfl (by decide +kernel)
set_option maxRecDepth 65536 in
theorem w_c35 : (Jvm.Cond.code ({ cls := "java/lang/StringLatin1", name := "equals", desc := "([B[B)Z" } : Jvm.MethodName) jdk_43_method_13_code (3 : Nat) (Option.some Jvm.ClassFile.FieldType.boolean)).before args0 about1 = true := code_word (m := ⟨16, 2⟩) (meth := k16m2) (c := k16c2) (by decide +kernel) rfl rfl rfl (by decide +kernel)
set_option maxRecDepth 65536 in
theorem w_c36 : (Jvm.Cond.code ({ cls := "java/lang/String", name := "valueOf", desc := "(C)Ljava/lang/String;" } : Jvm.MethodName) jdk_42_method_139_code (1 : Nat) (Option.some (Jvm.ClassFile.FieldType.object "java/lang/String"))).before args0 about1 = true := code_word (m := ⟨9, 5⟩) (meth := k9m5) (c := k9c5) (by decide +kernel) rfl rfl rfl (by decide +kernel)
set_option maxRecDepth 65536 in
theorem w_c37 : (Jvm.Cond.code ({ cls := "java/lang/StringLatin1", name := "toBytes", desc := "(C)[B" } : Jvm.MethodName) jdk_43_method_46_code (1 : Nat) (Option.some (Jvm.ClassFile.FieldType.array Jvm.ClassFile.FieldType.byte))).before args0 about1 = true := code_word (m := ⟨16, 3⟩) (meth := k16m3) (c := k16c3) (by decide +kernel) rfl rfl rfl (by decide +kernel)
set_option maxRecDepth 65536 in
theorem w_c38 : (Jvm.Cond.code ({ cls := "java/lang/String", name := "<init>", desc := "([BB)V" } : Jvm.MethodName) jdk_42_method_151_code (3 : Nat) (Option.none : Option Jvm.ClassFile.FieldType)).before args0 about1 = true := code_word (m := ⟨9, 9⟩) (meth := k9m9) (c := k9c9) (by decide +kernel) rfl rfl rfl (by decide +kernel)
def codes1 : List Jvm.Cond := [Jvm.Cond.code x code maxLocals ret, Jvm.Cond.code ({ cls := "com/example/nandi/nandi/model/EntryKeyPinLaw", name := "word", desc := "(ICCC)Ljava/lang/String;" } : Jvm.MethodName) method_3_code (4 : Nat) (Option.some (Jvm.ClassFile.FieldType.object "java/lang/String")), Jvm.Cond.code ({ cls := "java/lang/String", name := "<init>", desc := "([C)V" } : Jvm.MethodName) jdk_42_method_3_code (2 : Nat) (Option.none : Option Jvm.ClassFile.FieldType), Jvm.Cond.code ({ cls := "java/lang/String", name := "<init>", desc := "([CIILjava/lang/Void;)V" } : Jvm.MethodName) jdk_42_method_149_code (6 : Nat) (Option.none : Option Jvm.ClassFile.FieldType), Jvm.Cond.code ({ cls := "java/lang/Object", name := "<init>", desc := "()V" } : Jvm.MethodName) object_method_1_code (1 : Nat) (Option.none : Option Jvm.ClassFile.FieldType), Jvm.Cond.code ({ cls := "java/lang/StringUTF16", name := "compress", desc := "([CII)[B" } : Jvm.MethodName) jdk_52_method_16_code (6 : Nat) (Option.some (Jvm.ClassFile.FieldType.array Jvm.ClassFile.FieldType.byte)), Jvm.Cond.code ({ cls := "java/lang/StringUTF16", name := "compress", desc := "([CI[BII)I" } : Jvm.MethodName) jdk_52_method_21_code (7 : Nat) (Option.some Jvm.ClassFile.FieldType.int), Jvm.Cond.code ({ cls := "java/lang/StringUTF16", name := "coderFromArrayLen", desc := "([BI)B" } : Jvm.MethodName) jdk_52_method_15_code (2 : Nat) (Option.some Jvm.ClassFile.FieldType.byte), Jvm.Cond.code ({ cls := "com/example/nandi/nandi/model/Entry", name := "key", desc := "(Lcom/example/nandi/nandi/model/Entry$Kind;Ljava/lang/String;)Ljava/lang/String;" } : Jvm.MethodName) prog_2_method_5_code (2 : Nat) (Option.some (Jvm.ClassFile.FieldType.object "java/lang/String")), Jvm.Cond.code ({ cls := "java/lang/StringBuilder", name := "<init>", desc := "()V" } : Jvm.MethodName) jdk_67_method_1_code (1 : Nat) (Option.none : Option Jvm.ClassFile.FieldType), Jvm.Cond.code ({ cls := "java/lang/AbstractStringBuilder", name := "<init>", desc := "(I)V" } : Jvm.MethodName) jdk_68_method_2_code (2 : Nat) (Option.none : Option Jvm.ClassFile.FieldType), Jvm.Cond.code ({ cls := "java/lang/StringBuilder", name := "append", desc := "(C)Ljava/lang/StringBuilder;" } : Jvm.MethodName) jdk_67_method_14_code (2 : Nat) (Option.some (Jvm.ClassFile.FieldType.object "java/lang/StringBuilder")), Jvm.Cond.code ({ cls := "java/lang/AbstractStringBuilder", name := "append", desc := "(C)Ljava/lang/AbstractStringBuilder;" } : Jvm.MethodName) jdk_68_method_31_code (2 : Nat) (Option.some (Jvm.ClassFile.FieldType.object "java/lang/AbstractStringBuilder")), Jvm.Cond.code ({ cls := "java/lang/AbstractStringBuilder", name := "ensureCapacityInternal", desc := "(I)V" } : Jvm.MethodName) jdk_68_method_9_code (3 : Nat) (Option.none : Option Jvm.ClassFile.FieldType), Jvm.Cond.code ({ cls := "java/lang/AbstractStringBuilder", name := "isLatin1", desc := "()Z" } : Jvm.MethodName) jdk_68_method_68_code (1 : Nat) (Option.some Jvm.ClassFile.FieldType.boolean), Jvm.Cond.code ({ cls := "java/lang/StringLatin1", name := "canEncode", desc := "(C)Z" } : Jvm.MethodName) jdk_43_method_3_code (1 : Nat) (Option.some Jvm.ClassFile.FieldType.boolean), Jvm.Cond.code ({ cls := "java/lang/StringBuilder", name := "append", desc := "(Ljava/lang/String;)Ljava/lang/StringBuilder;" } : Jvm.MethodName) jdk_67_method_7_code (2 : Nat) (Option.some (Jvm.ClassFile.FieldType.object "java/lang/StringBuilder")), Jvm.Cond.code ({ cls := "java/lang/AbstractStringBuilder", name := "append", desc := "(Ljava/lang/String;)Ljava/lang/AbstractStringBuilder;" } : Jvm.MethodName) jdk_68_method_22_code (3 : Nat) (Option.some (Jvm.ClassFile.FieldType.object "java/lang/AbstractStringBuilder")), Jvm.Cond.code ({ cls := "java/lang/String", name := "length", desc := "()I" } : Jvm.MethodName) jdk_42_method_54_code (1 : Nat) (Option.some Jvm.ClassFile.FieldType.int), Jvm.Cond.code ({ cls := "java/lang/String", name := "coder", desc := "()B" } : Jvm.MethodName) jdk_42_method_152_code (1 : Nat) (Option.some Jvm.ClassFile.FieldType.byte), Jvm.Cond.code ({ cls := "java/lang/AbstractStringBuilder", name := "putStringAt", desc := "(ILjava/lang/String;)V" } : Jvm.MethodName) jdk_68_method_73_code (3 : Nat) (Option.none : Option Jvm.ClassFile.FieldType), Jvm.Cond.code ({ cls := "java/lang/AbstractStringBuilder", name := "inflateIfNeededFor", desc := "(Ljava/lang/String;)V" } : Jvm.MethodName) jdk_68_method_71_code (2 : Nat) (Option.none : Option Jvm.ClassFile.FieldType), Jvm.Cond.code ({ cls := "java/lang/String", name := "getBytes", desc := "([BIB)V" } : Jvm.MethodName) jdk_42_method_147_code (4 : Nat) (Option.none : Option Jvm.ClassFile.FieldType), Jvm.Cond.code ({ cls := "java/lang/StringBuilder", name := "toString", desc := "()Ljava/lang/String;" } : Jvm.MethodName) jdk_67_method_42_code (1 : Nat) (Option.some (Jvm.ClassFile.FieldType.object "java/lang/String")), Jvm.Cond.code ({ cls := "java/lang/String", name := "<init>", desc := "(Ljava/lang/StringBuilder;)V" } : Jvm.MethodName) jdk_42_method_53_code (2 : Nat) (Option.none : Option Jvm.ClassFile.FieldType), Jvm.Cond.code ({ cls := "java/lang/String", name := "<init>", desc := "(Ljava/lang/AbstractStringBuilder;Ljava/lang/Void;)V" } : Jvm.MethodName) jdk_42_method_150_code (5 : Nat) (Option.none : Option Jvm.ClassFile.FieldType), Jvm.Cond.code ({ cls := "java/lang/AbstractStringBuilder", name := "getValue", desc := "()[B" } : Jvm.MethodName) jdk_68_method_64_code (1 : Nat) (Option.some (Jvm.ClassFile.FieldType.array Jvm.ClassFile.FieldType.byte)), Jvm.Cond.code ({ cls := "java/lang/StringBuilder", name := "length", desc := "()I" } : Jvm.MethodName) jdk_67_method_93_code (1 : Nat) (Option.some Jvm.ClassFile.FieldType.int), Jvm.Cond.code ({ cls := "java/lang/AbstractStringBuilder", name := "length", desc := "()I" } : Jvm.MethodName) jdk_68_method_6_code (1 : Nat) (Option.some Jvm.ClassFile.FieldType.int), Jvm.Cond.code ({ cls := "java/util/Arrays", name := "copyOfRange", desc := "([BII)[B" } : Jvm.MethodName) jdk_65_method_132_code (3 : Nat) (Option.some (Jvm.ClassFile.FieldType.array Jvm.ClassFile.FieldType.byte)), Jvm.Cond.code ({ cls := "java/util/Arrays", name := "copyOfRangeByte", desc := "([BII)[B" } : Jvm.MethodName) jdk_65_method_133_code (5 : Nat) (Option.some (Jvm.ClassFile.FieldType.array Jvm.ClassFile.FieldType.byte)), Jvm.Cond.code ({ cls := "java/util/Arrays", name := "checkLength", desc := "(II)V" } : Jvm.MethodName) jdk_65_method_131_code (2 : Nat) (Option.none : Option Jvm.ClassFile.FieldType), Jvm.Cond.code ({ cls := "java/lang/Math", name := "min", desc := "(II)I" } : Jvm.MethodName) jdk_29_method_69_code (2 : Nat) (Option.some Jvm.ClassFile.FieldType.int), Jvm.Cond.code ({ cls := "com/example/nandi/nandi/model/EntryKeyPinLaw", name := "keyText", desc := "(CICCC)Ljava/lang/String;" } : Jvm.MethodName) method_4_code (5 : Nat) (Option.some (Jvm.ClassFile.FieldType.object "java/lang/String")), Jvm.Cond.code ({ cls := "java/lang/String", name := "equals", desc := "(Ljava/lang/Object;)Z" } : Jvm.MethodName) jdk_42_method_66_code (3 : Nat) (Option.some Jvm.ClassFile.FieldType.boolean), Jvm.Cond.code ({ cls := "java/lang/StringLatin1", name := "equals", desc := "([B[B)Z" } : Jvm.MethodName) jdk_43_method_13_code (3 : Nat) (Option.some Jvm.ClassFile.FieldType.boolean), Jvm.Cond.code ({ cls := "java/lang/String", name := "valueOf", desc := "(C)Ljava/lang/String;" } : Jvm.MethodName) jdk_42_method_139_code (1 : Nat) (Option.some (Jvm.ClassFile.FieldType.object "java/lang/String")), Jvm.Cond.code ({ cls := "java/lang/StringLatin1", name := "toBytes", desc := "(C)[B" } : Jvm.MethodName) jdk_43_method_46_code (1 : Nat) (Option.some (Jvm.ClassFile.FieldType.array Jvm.ClassFile.FieldType.byte)), Jvm.Cond.code ({ cls := "java/lang/String", name := "<init>", desc := "([BB)V" } : Jvm.MethodName) jdk_42_method_151_code (3 : Nat) (Option.none : Option Jvm.ClassFile.FieldType)]
set_option maxRecDepth 65536 in
theorem codes_eq : words1.filter isCode = codes1 := rfl
theorem w_codes : ∀ c ∈ words1.filter isCode, c.before args0 about1 = true := by
  rw [codes_eq]
  intro c hc
  simp only [codes1, List.mem_cons, List.not_mem_nil, or_false] at hc
  rcases hc with rfl | rfl | rfl | rfl | rfl | rfl | rfl | rfl | rfl | rfl | rfl | rfl | rfl | rfl | rfl | rfl | rfl | rfl | rfl | rfl | rfl | rfl | rfl | rfl | rfl | rfl | rfl | rfl | rfl | rfl | rfl | rfl | rfl | rfl | rfl | rfl | rfl | rfl | rfl
  · exact w_c0
  · exact w_c1
  · exact w_c2
  · exact w_c3
  · exact w_c4
  · exact w_c5
  · exact w_c6
  · exact w_c7
  · exact w_c8
  · exact w_c9
  · exact w_c10
  · exact w_c11
  · exact w_c12
  · exact w_c13
  · exact w_c14
  · exact w_c15
  · exact w_c16
  · exact w_c17
  · exact w_c18
  · exact w_c19
  · exact w_c20
  · exact w_c21
  · exact w_c22
  · exact w_c23
  · exact w_c24
  · exact w_c25
  · exact w_c26
  · exact w_c27
  · exact w_c28
  · exact w_c29
  · exact w_c30
  · exact w_c31
  · exact w_c32
  · exact w_c33
  · exact w_c34
  · exact w_c35
  · exact w_c36
  · exact w_c37
  · exact w_c38
set_option maxRecDepth 65536 in
theorem w_t1 : (words1.take 24).all (fun c => isCode c || c.before args0 about1) = true := by decide +kernel
set_option maxRecDepth 65536 in
theorem w_t2 : ((words1.drop 24).take 24).all (fun c => isCode c || c.before args0 about1) = true := by decide +kernel
set_option maxRecDepth 65536 in
theorem w_t3 : (((words1.drop 24).drop 24).take 24).all (fun c => isCode c || c.before args0 about1) = true := by decide +kernel
set_option maxRecDepth 65536 in
theorem w_t4 : ((((words1.drop 24).drop 24).drop 24).take 24).all (fun c => isCode c || c.before args0 about1) = true := by decide +kernel
set_option maxRecDepth 65536 in
theorem w_t5 : (((((words1.drop 24).drop 24).drop 24).drop 24).take 24).all (fun c => isCode c || c.before args0 about1) = true := by decide +kernel
set_option maxRecDepth 65536 in
theorem w_t6 : ((((((words1.drop 24).drop 24).drop 24).drop 24).drop 24).take 24).all (fun c => isCode c || c.before args0 about1) = true := by decide +kernel
set_option maxRecDepth 65536 in
theorem w_t7 : (((((((words1.drop 24).drop 24).drop 24).drop 24).drop 24).drop 24).take 24).all (fun c => isCode c || c.before args0 about1) = true := by decide +kernel
set_option maxRecDepth 65536 in
theorem w_t8 : ((((((((words1.drop 24).drop 24).drop 24).drop 24).drop 24).drop 24).drop 24).take 24).all (fun c => isCode c || c.before args0 about1) = true := by decide +kernel
set_option maxRecDepth 65536 in
theorem w_t9 : ((((((((words1.drop 24).drop 24).drop 24).drop 24).drop 24).drop 24).drop 24).drop 24).all (fun c => isCode c || c.before args0 about1) = true := by decide +kernel
theorem w_tables : (allAtoms (Jvm.Cond.code x code maxLocals ret :: tables_1)).before args0 about1 = true := by
  rw [allAtoms_all]
  show words1.all (fun c => c.before args0 about1) = true
  refine all_split ?_ w_codes
  rw [← List.take_append_drop 24 words1, List.all_append, w_t1, ← List.take_append_drop 24 (words1.drop 24), List.all_append, w_t2, ← List.take_append_drop 24 ((words1.drop 24).drop 24), List.all_append, w_t3, ← List.take_append_drop 24 (((words1.drop 24).drop 24).drop 24), List.all_append, w_t4, ← List.take_append_drop 24 ((((words1.drop 24).drop 24).drop 24).drop 24), List.all_append, w_t5, ← List.take_append_drop 24 (((((words1.drop 24).drop 24).drop 24).drop 24).drop 24), List.all_append, w_t6, ← List.take_append_drop 24 ((((((words1.drop 24).drop 24).drop 24).drop 24).drop 24).drop 24), List.all_append, w_t7, ← List.take_append_drop 24 (((((((words1.drop 24).drop 24).drop 24).drop 24).drop 24).drop 24).drop 24), List.all_append, w_t8, w_t9]
  rfl
set_option maxRecDepth 65536 in
theorem w_rest : rest_1_c.before args0 about1 = true := by decide +kernel
set_option maxRecDepth 65536 in
theorem w_case : (Jvm.Cond.and given_1 narrow_1).before args0 about1 = true := by decide +kernel
set_option maxRecDepth 65536 in
theorem w_consts : constsHeld consts_1 about1 := Jvm.Lit.constsHeldB_iff.mp (by decide +kernel)
theorem w_applies : (headSpec (Jvm.Cond.code x code maxLocals ret :: tables_1) room_1).applies x e0.platform about1 = true :=
  (Spec.applies_iff w_frames).mpr ⟨w_running, w_runnable, w_alone, w_named, w_hears, w_ripe, w_room, w_tables⟩
theorem atStart : AtStart classFile x code maxLocals ret World_1 tables_1 room_1 Calls_1 rest_1 Pre_1 launch0 p0 e0 about1 theMethod args0 below0 :=
  ⟨lists_1, trivial, launch0.admits_env _ _ _, launch0.least_env, fairChoices_fair.cas, fairChoices_fair.clock, w_frames, w_args, w_heap, w_applies, ⟨w_consts, trivial⟩, w_rest, w_case⟩
end start1
theorem witness_1 : WitnessClaimed_1 := ⟨start1.p0, start1.e0, start1.about1, start1.theMethod, start1.args0, start1.below0, start1.atStart⟩
end Jvm.Pilot.@@N@@
