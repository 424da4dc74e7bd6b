import JvmDerived
import JvmDerived.Pilot.@@N@@Statement
import JvmDerived.Pilot.@@N@@Code
set_option linter.unusedVariables false
set_option linter.unusedSimpArgs false
namespace Jvm.Own
open Sem ClassFile Op Lib Bundle Jvm.Stand Jvm.Free Jvm.LawKit Jvm.RoadKit
/-- the run from V comes to an end of which Φ holds -/
def Go (p : Program) (e : Env) (below : List Frame) (Φ : Outcome → State → Prop) (V : State) : Prop :=
  ∃ s₂ o, Steps p.tables e below V s₂ ∧ s₂.status = .running ∧ Ended s₂ below o ∧ Φ o s₂
/-- the end of a walk that interns nothing -/
def EndP (s : State) (Q : Option Value → Heap → List Loc → Prop) (C S : Nat) (o : Outcome) (U : State) : Prop :=
  ∃ v L, o = .returned v ∧ Q v U.heap L ∧ FrameEnd s o U L C S
/-- the end of a walk that may intern constants of EL -/
def EndH (Z : State) (EL : List (String × Nat)) (s : State) (Q : Option Value → Heap → List Loc → Prop) (C S : Nat) (o : Outcome) (U : State) : Prop :=
  ∃ v L, o = .returned v ∧ Q v U.heap L ∧ CHr Z EL s.vm s.heap U.vm U.heap ∧ ReturnedEndW s o U L C S
/-- what such a walk bears along -/
def HW (Z : State) (EL : List (String × Nat)) (s : State) (vm : Vm) (h : Heap) : Prop :=
  (∃ k0, s.Since vm k0 ∧ k0 ≤ h.size) ∧ CHr Z EL s.vm s.heap vm h
section G
variable {p : Program} {l : Launch} {e : Env} {R : Room} {s : State} {m : MethodId} {args : Array Value} {below : List Frame} {meth : Method} {c : Code} {T : State} {locs : List Loc} {cells slots : Nat}
  {Φ : Outcome → State → Prop} {V V' : State} {Z : State} {a0 : Array Value} {h h' : Heap} {EL : List (String × Nat)} {vm : Vm} {Q : Option Value → Heap → List Loc → Prop} {C S : Nat}
theorem Go.st (k : ∀ target, Steps p.tables e below V' target → Steps p.tables e below V target) (g : Go p e below Φ V') : Go p e below Φ V := by
  obtain ⟨s₂, o, h1, h2⟩ := g
  exact ⟨s₂, o, k _ h1, h2⟩
theorem Go.tr (k : Steps p.tables e below V V') (g : Go p e below Φ V') : Go p e below Φ V := by
  obtain ⟨s₂, o, h1, h2⟩ := g
  exact ⟨s₂, o, k.trans h1, h2⟩
theorem HW.ext (H : HW Z EL s vm h) (E : Ext h h') : HW Z EL s vm h' := by
  obtain ⟨⟨k0, h1, h2⟩, h3⟩ := H
  exact ⟨⟨k0, h1, Nat.le_trans h2 E.1⟩, h3.trans (CHr.ext E h3.1)⟩
theorem HW.wr (H : HW Z EL s vm h) {a : Addr} {sl : Nat} {v : Value} (W : Wr h h' a sl v) (S : Safe Z EL vm h a) : HW Z EL s vm h' := by
  obtain ⟨⟨k0, h1, h2⟩, h3⟩ := H
  exact ⟨⟨k0, h1, by rw [W.size]; exact h2⟩, h3.trans (CHr.wr W S h3.1)⟩
theorem HW.keep (H : HW Z EL s vm h) {ws : List Addr} (K : Keep h h' ws) (S : ∀ x ∈ ws, Safe Z EL vm h x) : HW Z EL s vm h' := by
  obtain ⟨⟨k0, h1, h2⟩, h3⟩ := H
  exact ⟨⟨k0, h1, Nat.le_trans h2 K.1⟩, h3.trans (CHr.keep K S h3.1)⟩
theorem keepE (K : Keep h h' []) : Ext h h' := ⟨K.1, fun a c q => K.2.1 a c q (fun z => nomatch z)⟩
theorem extK (E : Ext h h') : Keep h h' [] := (Keep.refl h []).ext E
/-- a String under construction, its value still null, is no booked one -/
theorem Safe.blank {x : Addr} (hal : Z.vm.Alike vm) (E : Exa Z h x "java/lang/String") (F : Fld Z h x "java/lang/String" "value" "[B" .null) : Safe Z EL vm h x := by
  rintro ⟨p, hp, u, a, hb, q, hq, F0, hy⟩
  obtain ⟨cS, ⟨⟨s1, s2, s3, ⟨cv, kv, iv, s4, s4'⟩, ⟨cc, kc, ic, s5, s5'⟩, s6, s7, s8, s9, s10, s11, s12, s13, s14, s15, s16⟩, hfS, hcS⟩, ⟨kS, k1, k2, k3⟩, hB, hbyt⟩ := F0
  rcases hy with rfl | rfl
  · obtain ⟨kv', z4⟩ := ff_back (U := Wst Z vm h) hal s4
    obtain ⟨cell, cf, k, i, f, f1, f2, f3, f4, f5, f6, f7⟩ := F
    cases f2.symm.trans z4
    have s1 : h[q.sa]? = some q.sC := s1
    cases f1.symm.trans s1
    have := f7.symm.trans s8
    simp at this
  · obtain ⟨cell, k, e1, e2, e3, e4, e5⟩ := E
    have s10 : h[q.sd]? = some q.SA := s10
    cases e1.symm.trans s10
    have hB : vm.findClass "[B" = some q.SA.cls := hB
    have hBZ : Z.vm.findClass "[B" = some q.SA.cls := by rw [← hal.findClass]; exact hB
    exact absurd (ids_ne e2 hBZ (by decide) rfl) (fun z => z)
/-- the contract of a body that interns nothing, from its walk -/
theorem openP {y : MethodName} {bytes : ByteArray} {maxL : Nat} {ret : Option FieldType} {ws : List Cond} {rm : Room} {as' : Array Value} (hp : plainFor y = true)
    (body : ∀ (p : Program) (e : Env) (s : State) (m : MethodId) (below : List Frame) (meth : Method) (c : Code) (T : State), p.tables.exec = Jvm.exec → c.code = bytes → c.maxLocals = maxL → meth.sig.returnType = ret → meth.locks = false → meth.name = y.name →
      Z.Warmed39 s.vm → s.vm.findClass y.cls = some m.cls → Stand p l e rm s m as' below meth c T [] 0 0 → T.heap = h → Go p e below (EndP s Q rm.cells rm.slots) (T.setTop (entryFrame m as' maxL))) :
    MetFree l y (head1 (Cond.code y bytes maxL ret :: ws) rm) (fun a U => a = as' ∧ Z.Warmed39 U.vm ∧ U.heap = h) (fun _ _ _ _ _ => True) (fun _ U o U' => ∃ v L, o = .returned v ∧ Q v U'.heap L ∧ FrameEnd U o U' L rm.cells rm.slots) := by
  refine MetFree.of_bodySF hp hisR ?_
  intro p e s m args below meth c s₁ Bd hml0 hP hK
  obtain ⟨rfl, hZ, hh⟩ := hP
  exact body p e s m below meth c s₁ Bd.exec Bd.bytes hml0 Bd.returns (BodyLoose.notSynchronized Bd) (name_of_methodNamed Bd.named Bd.method).1 hZ (findClass_of_methodNamed Bd.named) (Stand.of_body Bd) (by rw [← hh, Bd.state]; rfl)
/-- the contract of a body that may intern -/
theorem openH {y : MethodName} {bytes : ByteArray} {maxL : Nat} {ret : Option FieldType} {ws : List Cond} {rm : Room} {as' : Array Value} (hp : plainFor y = true)
    (body : ∀ (p : Program) (e : Env) (s : State) (m : MethodId) (below : List Frame) (meth : Method) (c : Code) (T : State) (vm : Vm), p.tables.exec = Jvm.exec → c.code = bytes → c.maxLocals = maxL → meth.sig.returnType = ret → meth.locks = false → meth.name = y.name →
      Z.Warmed39 vm → vm.findClass y.cls = some m.cls → Stand p l e rm (s.setVm vm) m as' below meth c T [] 0 0 → T.heap = h → HW Z EL s vm h → Go p e below (EndH Z EL s Q rm.cells rm.slots) (T.setTop (entryFrame m as' maxL))) :
    MetFree l y (head1 (Cond.code y bytes maxL ret :: ws) rm) (fun a U => a = as' ∧ Z.Warmed39 U.vm ∧ U.heap = h ∧ CHv Z EL U.vm h) (fun _ _ _ _ _ => True)
      (fun _ U o U' => ∃ v L, o = .returned v ∧ Q v U'.heap L ∧ CHr Z EL U.vm U.heap U'.vm U'.heap ∧ ReturnedEndW U o U' L rm.cells rm.slots) := by
  refine MetFree.of_bodySF hp hisR ?_
  intro p e s m args below meth c s₁ Bd hml0 hP hK
  obtain ⟨rfl, hZ, hh, hC⟩ := hP
  have hH : HW Z EL s s.vm h := ⟨⟨0, (State.WarmedH.refl s).since 0, Nat.zero_le _⟩, by rw [hh]; exact CHr.refl hC⟩
  exact body p e s m below meth c s₁ s.vm Bd.exec Bd.bytes hml0 Bd.returns (BodyLoose.notSynchronized Bd) (name_of_methodNamed Bd.named Bd.method).1 hZ (findClass_of_methodNamed Bd.named) (Stand.of_body Bd) (by rw [← hh, Bd.state]; rfl) hH
/-- a value is returned -/
theorem Go.ret (X : Stand p l e R s m args below meth c T locs cells slots) (hx : p.tables.exec = Jvm.exec) (hlk : meth.locks = false) (hT : T.heap = h) {pc : Nat} {Ls : Array Slot} {w : Value} {t : FieldType} {i : Instr} {rest : List Value} (hret : meth.sig.returnType = some t) (hn : narrow t w = w)
    (hi : (i = .ireturn ∧ (t = .int ∨ t = .boolean ∨ t = .byte ∨ t = .char ∨ t = .short) ∧ ∃ z, w = .int z) ∨ (i = .lreturn ∧ t = .long ∧ ∃ z, w = .long z) ∨ (i = .dreturn ∧ t = .double ∧ ∃ z, w = .double z) ∨ (i = .freturn ∧ t = .float ∧ ∃ z, w = .float z) ∨ (i = .areturn ∧ t.isReference = true ∧ w.isRef = true))
    (hd : decode c.code pc = .ok (i, 1)) (hc : cells ≤ C) (hs : slots ≤ S) (hQ : Q (some w) h locs) : Go p e below (EndP s Q C S) (T.setTop (mkF m pc Ls (w :: rest))) := by
  obtain ⟨fs, hr, hrun, hended, hW, hsame⟩ := X.leave (v := some w) (fun h => by rw [hret] at h; cases h) hlk
  refine ⟨_, _, retOut X hx hret hn hi hd hr, hrun, hended, _, _, rfl, ?_, ⟨_, rfl⟩, hW, hsame.mono hc hs⟩
  show Q (some w) T.heap locs
  rw [hT]; exact hQ
theorem Go.retV (X : Stand p l e R s m args below meth c T locs cells slots) (hx : p.tables.exec = Jvm.exec) (hlk : meth.locks = false) (hT : T.heap = h) {pc : Nat} {Ls : Array Slot} (hret : meth.sig.returnType = none)
    (hd : decode c.code pc = .ok (.return_, 1)) (hc : cells ≤ C) (hs : slots ≤ S) (hQ : Q none h locs) : Go p e below (EndP s Q C S) (T.setTop (mkF m pc Ls [])) := by
  obtain ⟨fs, hr, hrun, hended, hW, hsame⟩ := X.leave (v := none) (fun _ => rfl) hlk
  refine ⟨_, _, X.returnOut hx hret hd hr, hrun, hended, _, _, rfl, ?_, ⟨_, rfl⟩, hW, hsame.mono hc hs⟩
  show Q none T.heap locs
  rw [hT]; exact hQ
theorem endW_mono {o : Outcome} {U : State} {L : List Loc} {k n : Nat} (q : ReturnedEndW s o U L k n) (hc : k ≤ C) (hs : n ≤ S) : ReturnedEndW s o U L C S := ⟨q.1, q.2.1, q.2.2.1, q.2.2.2.mono hc hs⟩
theorem Go.retH (hEL : EW Z a0 EL) (H : HW Z EL s vm h) (hZ : Z.Warmed39 vm) (X : Stand p l e R (s.setVm vm) m args below meth c T locs cells slots) (hx : p.tables.exec = Jvm.exec) (hlk : meth.locks = false) (hT : T.heap = h) {pc : Nat} {Ls : Array Slot} {w : Value} {t : FieldType} {i : Instr} {rest : List Value} (hret : meth.sig.returnType = some t) (hn : narrow t w = w)
    (hi : (i = .ireturn ∧ (t = .int ∨ t = .boolean ∨ t = .byte ∨ t = .char ∨ t = .short) ∧ ∃ z, w = .int z) ∨ (i = .lreturn ∧ t = .long ∧ ∃ z, w = .long z) ∨ (i = .dreturn ∧ t = .double ∧ ∃ z, w = .double z) ∨ (i = .freturn ∧ t = .float ∧ ∃ z, w = .float z) ∨ (i = .areturn ∧ t.isReference = true ∧ w.isRef = true))
    (hd : decode c.code pc = .ok (i, 1)) (hc : cells ≤ C) (hs : slots ≤ S) (hQ : Q (some w) h locs) : Go p e below (EndH Z EL s Q C S) (T.setTop (mkF m pc Ls (w :: rest))) := by
  obtain ⟨⟨k0, h1, h2⟩, h3⟩ := H
  obtain ⟨fs, hr, hrun, hended, hE⟩ := X.leaveW h1 (by rw [hT]; exact h2) (v := some w) (fun h => by rw [hret] at h; cases h) hlk
  refine ⟨_, _, retOut X hx hret hn hi hd hr, hrun, hended, _, _, rfl, ?_, ?_, endW_mono hE hc hs⟩
  · show Q (some w) T.heap locs
    rw [hT]; exact hQ
  · show CHr Z EL s.vm s.heap T.vm T.heap
    rw [hT]; exact h3.trans (CHv.at X hZ hEL h3.1)
theorem Go.retVH (hEL : EW Z a0 EL) (H : HW Z EL s vm h) (hZ : Z.Warmed39 vm) (X : Stand p l e R (s.setVm vm) m args below meth c T locs cells slots) (hx : p.tables.exec = Jvm.exec) (hlk : meth.locks = false) (hT : T.heap = h) {pc : Nat} {Ls : Array Slot} (hret : meth.sig.returnType = none)
    (hd : decode c.code pc = .ok (.return_, 1)) (hc : cells ≤ C) (hs : slots ≤ S) (hQ : Q none h locs) : Go p e below (EndH Z EL s Q C S) (T.setTop (mkF m pc Ls [])) := by
  obtain ⟨⟨k0, h1, h2⟩, h3⟩ := H
  obtain ⟨fs, hr, hrun, hended, hE⟩ := X.leaveW h1 (by rw [hT]; exact h2) (v := none) (fun _ => rfl) hlk
  refine ⟨_, _, X.returnOut hx hret hd hr, hrun, hended, _, _, rfl, ?_, ?_, endW_mono hE hc hs⟩
  · show Q none T.heap locs
    rw [hT]; exact hQ
  · show CHr Z EL s.vm s.heap T.vm T.heap
    rw [hT]; exact h3.trans (CHv.at X hZ hEL h3.1)
theorem riI {z : Int32} {t : FieldType} (ht : t = .int ∨ t = .boolean ∨ t = .byte ∨ t = .char ∨ t = .short) : ((Instr.ireturn = .ireturn ∧ (t = .int ∨ t = .boolean ∨ t = .byte ∨ t = .char ∨ t = .short) ∧ ∃ z', Value.int z = .int z') ∨ (Instr.ireturn = .lreturn ∧ t = .long ∧ ∃ z', Value.int z = .long z') ∨ (Instr.ireturn = .dreturn ∧ t = .double ∧ ∃ z', Value.int z = .double z') ∨ (Instr.ireturn = .freturn ∧ t = .float ∧ ∃ z', Value.int z = .float z') ∨ (Instr.ireturn = .areturn ∧ t.isReference = true ∧ (Value.int z).isRef = true)) := Or.inl ⟨rfl, ht, z, rfl⟩
theorem riA {w : Value} {t : FieldType} (ht : t.isReference = true) (hw : w.isRef = true) : ((Instr.areturn = .ireturn ∧ (t = .int ∨ t = .boolean ∨ t = .byte ∨ t = .char ∨ t = .short) ∧ ∃ z', w = .int z') ∨ (Instr.areturn = .lreturn ∧ t = .long ∧ ∃ z', w = .long z') ∨ (Instr.areturn = .dreturn ∧ t = .double ∧ ∃ z', w = .double z') ∨ (Instr.areturn = .freturn ∧ t = .float ∧ ∃ z', w = .float z') ∨ (Instr.areturn = .areturn ∧ t.isReference = true ∧ w.isRef = true)) := Or.inr (Or.inr (Or.inr (Or.inr ⟨rfl, ht, hw⟩)))
/-- the shape that every payer here has -/
abbrev PB (l : Launch) (R : Room) (p : Program) (e : Env) (below : List Frame) (s : State) (args : Array Value) (y : MethodName) (W : Nat) (as' : Array Value) (h : Heap) (ck sk : Nat) (Q : Option Value → Heap → List Loc → Prop) : Prop :=
  Back l R p e below s args y 3 W (fun A a => a = as' ∧ A.U.heap = h ∧ A.cells + ck ≤ R.cells ∧ A.slots + sk ≤ R.slots) (fun A _ v B => ∃ L, Q v B.U.heap L ∧ B.locs = A.locs ++ L ∧ B.cells = A.cells + ck ∧ B.slots = A.slots + sk)
variable {own : String} {index W ck sk pc : Nat} {y : MethodName} {bytes : ByteArray} {maxL : Nat} {ret : Option FieldType} {Ls : Array Slot} {argsL rest st : List Value} {ps : List FieldType} {rr : Option FieldType} {a : Addr}
/-- invokestatic of a callee that interns nothing -/
theorem Go.callP (X : Stand p l e R s m args below meth c T locs cells slots) (hx : p.tables.exec = Jvm.exec) (hZ : Z.Warmed39 s.vm) (hown : s.vm.findClass own = some m.cls) (hml : c.maxLocals = Ls.size) (hT : T.heap = h)
    (w1 : (Cond.methodLink own index y).before a0 Z = true) (w2 : (Cond.static y).before a0 Z = true) (w3 : (Cond.initialized y.cls).before a0 Z = true) (w4 : (Cond.code y bytes maxL ret).before a0 Z = true) (hy : y.cls ≠ "java/lang/invoke/MethodHandle" ∧ y.cls ≠ "java/lang/invoke/VarHandle")
    (hpd : parseMethodDescriptor y.desc = some ⟨ps, rr⟩) (hlen : argsL.length = ps.length) (hst : st = argsL.reverse ++ rest) (hW : (rest.map fun v => v.category).sum ≤ W) (hd : decode c.code pc = .ok (.invokestatic index, 3))
    (hB : PB l R p e below s args y W argsL.toArray h ck sk Q) (hc : cells + ck ≤ R.cells) (hs : slots + sk ≤ R.slots)
    (k : ∀ (v : Option Value) (T' : State) (h' : Heap) (L : List Loc), T'.heap = h' → Q v h' L → Stand p l e R s m args below meth c T' (locs ++ L) (cells + ck) (slots + sk) → Go p e below Φ (T'.setTop (mkF m (pc + 3) Ls (v.toList ++ rest)))) :
    Go p e below Φ (T.setTop (mkF m pc Ls st)) := by
  subst hst
  obtain ⟨v, vm₁, ⟨T', L', k', n'⟩, -, X', ⟨L, hQ, l', y', z'⟩, st⟩ := Jvm.LawKit.callS X hx (y := y) hown (mvT hZ w1) (mvT hZ w2) (mvT hZ w3) (mvT hZ w4) hy hB (g := mkF m pc Ls (argsL.reverse ++ rest)) rfl hml.symm (argsL := argsL) (rest := rest) (lenOf hpd hlen) rfl (by show 2 * 0 + _ ≤ _; omega) hd (fun _ _ => ⟨rfl, hT, hc, hs⟩)
  dsimp only [Pt.U, Pt.locs, Pt.cells, Pt.slots] at X' l' y' z' st hQ
  subst l' y' z'
  exact Go.st st (k v T' _ L rfl hQ X')
/-- invokespecial of a constructor that interns nothing -/
theorem Go.specP (X : Stand p l e R s m args below meth c T locs cells slots) (hx : p.tables.exec = Jvm.exec) (hZ : Z.Warmed39 s.vm) (hown : s.vm.findClass own = some m.cls) (hml : c.maxLocals = Ls.size) (hT : T.heap = h) (hy1 : y.name = "<init>")
    (w1 : (Cond.methodLink own index y).before a0 Z = true) (w2 : (Cond.instanceMethod y).before a0 Z = true) (w4 : (Cond.code y bytes maxL none).before a0 Z = true) (hy : y.cls ≠ "java/lang/invoke/MethodHandle" ∧ y.cls ≠ "java/lang/invoke/VarHandle")
    (hpd : parseMethodDescriptor y.desc = some ⟨ps, rr⟩) (hlen : argsL.length = ps.length) (hst : st = argsL.reverse ++ .ref a :: rest) (hW : (rest.map fun v => v.category).sum ≤ W) (hd : decode c.code pc = .ok (.invokespecial index, 3))
    (hB : PB l R p e below s args y W (.ref a :: argsL).toArray h ck sk Q) (hc : cells + ck ≤ R.cells) (hs : slots + sk ≤ R.slots)
    (k : ∀ (v : Option Value) (T' : State) (h' : Heap) (L : List Loc), T'.heap = h' → Q v h' L → Stand p l e R s m args below meth c T' (locs ++ L) (cells + ck) (slots + sk) → Go p e below Φ (T'.setTop (mkF m (pc + 3) Ls (v.toList ++ rest)))) :
    Go p e below Φ (T.setTop (mkF m pc Ls st)) := by
  subst hst
  obtain ⟨v, vm₁, ⟨T', L', k', n'⟩, -, X', ⟨L, hQ, l', y', z'⟩, st⟩ := X.specialBack hx (y := y) hy1 hown (mvT hZ w1) (mvT hZ w2) (mvT hZ w4) hy hB (g := mkF m pc Ls (argsL.reverse ++ .ref a :: rest)) rfl hml.symm (Steps.refl _) (a := a) (argsL := argsL) (rest := rest) (lenOf hpd hlen) rfl (by show 2 * 0 + _ ≤ _; omega) hd (fun _ _ => ⟨rfl, hT, hc, hs⟩)
  dsimp only [Pt.U, Pt.locs, Pt.cells, Pt.slots] at X' l' y' z' st hQ
  subst l' y' z'
  exact Go.tr st (k v T' _ L rfl hQ X')
/-- invokevirtual of a callee that interns nothing, on an object exactly of class K -/
theorem Go.virtP {K : String} {z : MethodName} (X : Stand p l e R s m args below meth c T locs cells slots) (hx : p.tables.exec = Jvm.exec) (hZ : Z.Warmed39 s.vm) (hown : s.vm.findClass own = some m.cls) (hml : c.maxLocals = Ls.size) (hT : T.heap = h) (E : Exa Z h a K)
    (w1 : (Cond.methodLink own index y).before a0 Z = true) (w2 : (Cond.declares y).before a0 Z = true) (w3 : (Cond.selects K y z).before a0 Z = true) (w4 : (Cond.instanceMethod z).before a0 Z = true) (hy : y.cls ≠ "java/lang/invoke/MethodHandle" ∧ y.cls ≠ "java/lang/invoke/VarHandle")
    (hpd : parseMethodDescriptor y.desc = some ⟨ps, rr⟩) (hlen : argsL.length = ps.length) (hst : st = argsL.reverse ++ .ref a :: rest) (hW : (rest.map fun v => v.category).sum ≤ W) (hd : decode c.code pc = .ok (.invokevirtual index, 3))
    (hnf : NotFace s y)
    (hB : PB l R p e below s args z W (.ref a :: argsL).toArray h ck sk Q) (hc : cells + ck ≤ R.cells) (hs : slots + sk ≤ R.slots)
    (k : ∀ (v : Option Value) (T' : State) (h' : Heap) (L : List Loc), T'.heap = h' → Q v h' L → Stand p l e R s m args below meth c T' (locs ++ L) (cells + ck) (slots + sk) → Go p e below Φ (T'.setTop (mkF m (pc + 3) Ls (v.toList ++ rest)))) :
    Go p e below Φ (T.setTop (mkF m pc Ls st)) := by
  subst hst
  obtain ⟨cq, kq, qa, qb, qc⟩ := isOf (s := s) (T := T) hZ hT E
  obtain ⟨v, vm₁, ⟨T', L', k', n'⟩, -, X', ⟨L, hQ, l', y', z'⟩, st⟩ := X.virtualBack hx (y := y) (z := z) hown (mvT hZ w1) (mvT hZ w2) hnf (mvT hZ w3) (mvT hZ w4) hy hB qa qc (g := mkF m pc Ls (argsL.reverse ++ .ref a :: rest)) rfl hml.symm (Steps.refl _) (argsL := argsL) (rest := rest) (lenOf hpd hlen) rfl (by show 2 * 0 + _ ≤ _; omega) hd (fun _ _ => ⟨rfl, hT, hc, hs⟩)
  dsimp only [Pt.U, Pt.locs, Pt.cells, Pt.slots] at X' l' y' z' st hQ
  subst l' y' z'
  exact Go.tr st (k v T' _ L rfl hQ X')
/-- the shape of a payer that may intern -/
abbrev PBH (Z : State) (EL : List (String × Nat)) (l : Launch) (R : Room) (p : Program) (e : Env) (below : List Frame) (s : State) (vm : Vm) (args : Array Value) (y : MethodName) (W : Nat) (as' : Array Value) (h : Heap) (ck sk : Nat) (Q : Option Value → Heap → List Loc → Prop) : Prop :=
  BackS l R p e below (s.setVm vm) args y 3 W (fun A a => a = as' ∧ A.U.heap = h ∧ A.cells + ck ≤ R.cells ∧ A.slots + sk ≤ R.slots) (fun A _ v B => ∃ L, Q v B.U.heap L ∧ B.locs = A.locs ++ L ∧ B.cells = A.cells + ck ∧ B.slots = A.slots + sk ∧ CHr Z EL vm h B.U.vm B.U.heap)
theorem HW.call (H : HW Z EL s vm h) (hT : T.heap = h) {U : State} (h1 : (s.setVm vm).Since U.vm U.heap.size) (h2 : T.heap.size ≤ U.heap.size) (h3 : CHr Z EL vm h U.vm U.heap) : HW Z EL s U.vm U.heap := by
  obtain ⟨⟨k0, g1, g2⟩, g3⟩ := H
  exact ⟨⟨_, g1.trans h1 (Nat.le_trans g2 (by rw [← hT]; exact h2)), Nat.le_refl _⟩, g3.trans h3⟩
/-- invokestatic of a callee that may intern -/
theorem Go.callH (H : HW Z EL s vm h) (X : Stand p l e R (s.setVm vm) m args below meth c T locs cells slots) (hx : p.tables.exec = Jvm.exec) (hZ : Z.Warmed39 vm) (hown : vm.findClass own = some m.cls) (hml : c.maxLocals = Ls.size) (hT : T.heap = h)
    (w1 : (Cond.methodLink own index y).before a0 Z = true) (w2 : (Cond.static y).before a0 Z = true) (w3 : (Cond.initialized y.cls).before a0 Z = true) (w4 : (Cond.code y bytes maxL ret).before a0 Z = true) (hy : y.cls ≠ "java/lang/invoke/MethodHandle" ∧ y.cls ≠ "java/lang/invoke/VarHandle")
    (hpd : parseMethodDescriptor y.desc = some ⟨ps, rr⟩) (hlen : argsL.length = ps.length) (hst : st = argsL.reverse ++ rest) (hW : (rest.map fun v => v.category).sum ≤ W) (hd : decode c.code pc = .ok (.invokestatic index, 3))
    (hB : PBH Z EL l R p e below s vm args y W argsL.toArray h ck sk Q) (hc : cells + ck ≤ R.cells) (hs : slots + sk ≤ R.slots)
    (k : ∀ (v : Option Value) (T' : State) (h' : Heap) (L : List Loc) (vm' : Vm), T'.heap = h' → Q v h' L → Z.Warmed39 vm' → vm'.findClass own = some m.cls → HW Z EL s vm' h' → CHr Z EL vm h vm' h' → Stand p l e R (s.setVm vm') m args below meth c T' (locs ++ L) (cells + ck) (slots + sk) → Go p e below Φ (T'.setTop (mkF m (pc + 3) Ls (v.toList ++ rest)))) :
    Go p e below Φ (T.setTop (mkF m pc Ls st)) := by
  subst hst
  obtain ⟨v, vm₁, ⟨T', L', k', n'⟩, -, X', hS', hG', ⟨L, hQ, l', y', z', hR⟩, st⟩ := callSS X hx (y := y) hown (mvT (s := s.setVm vm) hZ w1) (mvT (s := s.setVm vm) hZ w2) (mvT (s := s.setVm vm) hZ w3) (mvT (s := s.setVm vm) hZ w4) hy hB (g := mkF m pc Ls (argsL.reverse ++ rest)) rfl hml.symm (argsL := argsL) (rest := rest) (lenOf hpd hlen) rfl (by show 2 * 0 + _ ≤ _; omega) hd (fun _ _ => ⟨rfl, hT, hc, hs⟩)
  dsimp only [Pt.U, Pt.locs, Pt.cells, Pt.slots] at X' l' y' z' st hQ hS' hG' hR
  subst l' y' z'
  have hW' : Z.Warmed39 T'.vm := State.Warmed39.trans (t := s.setVm vm) hZ hS'.1
  exact Go.tr st (k v T' _ L T'.vm rfl hQ hW' ((hS'.1.alike.findClass _ _).trans hown) (H.call hT hS' hG' hR) hR X')
/-- invokespecial of a constructor that may intern -/
theorem Go.specH (H : HW Z EL s vm h) (X : Stand p l e R (s.setVm vm) m args below meth c T locs cells slots) (hx : p.tables.exec = Jvm.exec) (hZ : Z.Warmed39 vm) (hown : vm.findClass own = some m.cls) (hml : c.maxLocals = Ls.size) (hT : T.heap = h) (hy1 : y.name = "<init>")
    (w1 : (Cond.methodLink own index y).before a0 Z = true) (w2 : (Cond.instanceMethod y).before a0 Z = true) (w4 : (Cond.code y bytes maxL none).before a0 Z = true) (hy : y.cls ≠ "java/lang/invoke/MethodHandle" ∧ y.cls ≠ "java/lang/invoke/VarHandle")
    (hpd : parseMethodDescriptor y.desc = some ⟨ps, rr⟩) (hlen : argsL.length = ps.length) (hst : st = argsL.reverse ++ .ref a :: rest) (hW : (rest.map fun v => v.category).sum ≤ W) (hd : decode c.code pc = .ok (.invokespecial index, 3))
    (hB : PBH Z EL l R p e below s vm args y W (.ref a :: argsL).toArray h ck sk Q) (hc : cells + ck ≤ R.cells) (hs : slots + sk ≤ R.slots)
    (k : ∀ (v : Option Value) (T' : State) (h' : Heap) (L : List Loc) (vm' : Vm), T'.heap = h' → Q v h' L → Z.Warmed39 vm' → vm'.findClass own = some m.cls → HW Z EL s vm' h' → CHr Z EL vm h vm' h' → Stand p l e R (s.setVm vm') m args below meth c T' (locs ++ L) (cells + ck) (slots + sk) → Go p e below Φ (T'.setTop (mkF m (pc + 3) Ls (v.toList ++ rest)))) :
    Go p e below Φ (T.setTop (mkF m pc Ls st)) := by
  subst hst
  obtain ⟨v, vm₁, ⟨T', L', k', n'⟩, -, X', hS', hG', ⟨L, hQ, l', y', z', hR⟩, st⟩ := X.specialBackS hx (y := y) hy1 hown (mvT (s := s.setVm vm) hZ w1) (mvT (s := s.setVm vm) hZ w2) (mvT (s := s.setVm vm) hZ w4) hy hB (g := mkF m pc Ls (argsL.reverse ++ .ref a :: rest)) rfl hml.symm (Steps.refl _) (a := a) (argsL := argsL) (rest := rest) (lenOf hpd hlen) rfl (by show 2 * 0 + _ ≤ _; omega) hd (fun _ _ => ⟨rfl, hT, hc, hs⟩)
  dsimp only [Pt.U, Pt.locs, Pt.cells, Pt.slots] at X' l' y' z' st hQ hS' hG' hR
  subst l' y' z'
  have hW' : Z.Warmed39 T'.vm := State.Warmed39.trans (t := s.setVm vm) hZ hS'.1
  exact Go.tr st (k v T' _ L T'.vm rfl hQ hW' ((hS'.1.alike.findClass _ _).trans hown) (H.call hT hS' hG' hR) hR X')
/-- what a body leaves that answers w and touches nothing -/
abbrev QV (w : Value) (h0 : Heap) (v : Option Value) (h : Heap) (L : List Loc) : Prop := v = some w ∧ L = [] ∧ h = h0
/-- invokestatic of such a body -/
theorem Go.callV {w : Value} (X : Stand p l e R s m args below meth c T locs cells slots) (hx : p.tables.exec = Jvm.exec) (hZ : Z.Warmed39 s.vm) (hown : s.vm.findClass own = some m.cls) (hml : c.maxLocals = Ls.size) (hT : T.heap = h)
    (w1 : (Cond.methodLink own index y).before a0 Z = true) (w2 : (Cond.static y).before a0 Z = true) (w3 : (Cond.initialized y.cls).before a0 Z = true) (w4 : (Cond.code y bytes maxL ret).before a0 Z = true) (hy : y.cls ≠ "java/lang/invoke/MethodHandle" ∧ y.cls ≠ "java/lang/invoke/VarHandle")
    (hpd : parseMethodDescriptor y.desc = some ⟨ps, rr⟩) (hlen : argsL.length = ps.length) (hst : st = argsL.reverse ++ rest) (hW : (rest.map fun v => v.category).sum ≤ W) (hd : decode c.code pc = .ok (.invokestatic index, 3))
    (hB : PB l R p e below s args y W argsL.toArray h 0 0 (QV w h)) (hc : cells ≤ R.cells) (hs : slots ≤ R.slots)
    (k : ∀ (T' : State), T'.heap = h → Stand p l e R s m args below meth c T' locs cells slots → Go p e below Φ (T'.setTop (mkF m (pc + 3) Ls (w :: rest)))) :
    Go p e below Φ (T.setTop (mkF m pc Ls st)) := by
  refine Go.callP X hx hZ hown hml hT w1 w2 w3 w4 hy hpd hlen hst hW hd hB hc hs ?_
  rintro v T' h' L hT' ⟨rfl, rfl, rfl⟩ X'
  rw [List.append_nil] at X'
  exact k T' hT' X'
/-- invokevirtual of such a body -/
theorem Go.virtV {K : String} {z : MethodName} {w : Value} (X : Stand p l e R s m args below meth c T locs cells slots) (hx : p.tables.exec = Jvm.exec) (hZ : Z.Warmed39 s.vm) (hown : s.vm.findClass own = some m.cls) (hml : c.maxLocals = Ls.size) (hT : T.heap = h) (E : Exa Z h a K)
    (w1 : (Cond.methodLink own index y).before a0 Z = true) (w2 : (Cond.declares y).before a0 Z = true) (w3 : (Cond.selects K y z).before a0 Z = true) (w4 : (Cond.instanceMethod z).before a0 Z = true) (hy : y.cls ≠ "java/lang/invoke/MethodHandle" ∧ y.cls ≠ "java/lang/invoke/VarHandle")
    (hpd : parseMethodDescriptor y.desc = some ⟨ps, rr⟩) (hlen : argsL.length = ps.length) (hst : st = argsL.reverse ++ .ref a :: rest) (hW : (rest.map fun v => v.category).sum ≤ W) (hd : decode c.code pc = .ok (.invokevirtual index, 3))
    (hnf : NotFace s y)
    (hB : PB l R p e below s args z W (.ref a :: argsL).toArray h 0 0 (QV w h)) (hc : cells ≤ R.cells) (hs : slots ≤ R.slots)
    (k : ∀ (T' : State), T'.heap = h → Stand p l e R s m args below meth c T' locs cells slots → Go p e below Φ (T'.setTop (mkF m (pc + 3) Ls (w :: rest)))) :
    Go p e below Φ (T.setTop (mkF m pc Ls st)) := by
  refine Go.virtP X hx hZ hown hml hT E w1 w2 w3 w4 hy hpd hlen hst hW hd hnf hB hc hs ?_
  rintro v T' h' L hT' ⟨rfl, rfl, rfl⟩ X'
  rw [List.append_nil] at X'
  exact k T' hT' X'
/-- ldc of a String constant of EL, its text read -/
theorem Go.ldcS (H : HW Z EL s vm h) (X : Stand p l e R (s.setVm vm) m args below meth c T locs cells slots) (hx : p.tables.exec = Jvm.exec) (hZ : Z.Warmed39 vm) (hown : vm.findClass own = some m.cls) (hT : T.heap = h) {text : String}
    (w : (Cond.stringLink own index text).before a0 Z = true) (wS : ∀ a ∈ Bundle.stringAtoms, a.before a0 Z = true) (hEL : EW Z a0 EL) (hmem : (own, index) ∈ EL) {vs : List Value} {z : Int32}
    (ht : (∀ c ∈ text.toList, c.toNat < 256) ∧ text.toList.map (fun c => Value.int (Jvm.Lit.byteI c.toNat.toUInt16)) = vs) (hz : ¬ z < 0) (hl : z.toNatClampNeg = vs.length) (hd : decode c.code pc = .ok (.ldc index, 2)) {n : Nat} (hn : 4 * text.toList.length ≤ n) (hbig : n ≤ 536870912) (hc : cells + 2 ≤ R.cells) (hl' : slots + (n + 4) ≤ R.slots)
    (k : ∀ (a : Addr) (T' : State) (h' : Heap) (vm' : Vm) (b : Addr) (kb : ClassId), T'.heap = h' → Ext h h' → Z.Warmed39 vm' → vm'.findClass own = some m.cls → HW Z EL s vm' h' → CHr Z EL vm h vm' h' →
      Exa Z h' a "java/lang/String" → Fld Z h' a "java/lang/String" "coder" "B" (.int 0) → Fld Z h' a "java/lang/String" "value" "[B" (.ref b) → Arv Z h' b kb .byte z vs (.int 0) → Stand p l e R (s.setVm vm') m args below meth c T' locs (cells + 2) (slots + (n + 4)) → Go p e below Φ (T'.setTop (mkF m (pc + 2) Ls (.ref a :: st)))) :
    Go p e below Φ (T.setTop (mkF m pc Ls st)) := by
  obtain ⟨⟨k0, g1, g2⟩, g3⟩ := H
  obtain ⟨a, T', h', k1, b, kb, X', hT', E', hS', hk', hZ', hown', LE, LC, LV, LA, -, -, hR, -, -, st'⟩ := ldcCH X hx hZ hown w wS hT g1 g2 hEL hmem g3.1 ht hz hl (g := mkF m pc Ls st) rfl hd hn hbig hc hl'
  exact Go.st st' (k a T' h' T'.vm b kb hT' E' hZ' hown' ⟨⟨k1, hS', hk'⟩, g3.trans hR⟩ hR LE LC LV LA X')
/-- roads that meet: what differs becomes a variable -/
theorem own_cutT {h : Heap} (X : Stand p l e R s m args below meth c T locs cells slots) (hT : T.heap = h) (F : Int32 → JFrame) (a : Int32)
    (K : ∀ (v : Int32) (T' : State), v = a → T'.heap = h → Stand p l e R s m args below meth c T' locs cells slots → Go p e below Φ (T'.setTop (F v)))
    (g : (∀ (v : Int32) (T' : State), v = a → T'.heap = h → Stand p l e R s m args below meth c T' locs cells slots → Go p e below Φ (T'.setTop (F v))) → Go p e below Φ V) : Go p e below Φ V := g K
/-! arrays, by natural indices -/
theorem own_int {n : Nat} (h : n < 2147483648) : (Int32.ofNat n).toInt = n := Int32.toInt_ofNat_small h
theorem own_clamp {n : Nat} (h : n < 2147483648) : (Int32.ofNat n).toNatClampNeg = n := by
  rw [Int32.toNatClampNeg, own_int h]; rfl
theorem own_nn {n : Nat} (h : n < 2147483648) : ¬ Int32.ofNat n < 0 := by
  rw [Int32.lt_iff_toInt_lt, own_int h]; show ¬ (n : Int) < 0; omega
theorem own_lt {a b : Nat} (ha : a < 2147483648) (hb : b < 2147483648) : Int32.ofNat a < Int32.ofNat b ↔ a < b := by
  rw [Int32.lt_iff_toInt_lt, own_int ha, own_int hb]; omega
theorem own_eqN {a b : Nat} (ha : a < 2147483648) (hb : b < 2147483648) : Int32.ofNat a = Int32.ofNat b ↔ a = b := by
  rw [← Int32.toInt_inj, own_int ha, own_int hb]; omega
theorem own_succ (n : Nat) : Int32.ofNat n + (1 : Int32) = Int32.ofNat (n + 1) := by
  show _ + Int32.ofNat 1 = _
  rw [← Int32.ofNat_add]
theorem own_dbl {n : Nat} (h : 2 * n < 2147483648) : Int32.ofNat n <<< ((1 : Int32) &&& 31) = Int32.ofNat (2 * n) := by
  rw [shlm (x := Int32.ofNat n) (k := 1) (m := 2) (by decide)]
  show _ * Int32.ofNat 2 = _
  rw [← Int32.ofNat_mul, Nat.mul_comm]
variable {k : ClassId} {N : Int32} {vs : List Value} {dv : Value} {ty : FieldType} {i : Nat} {w : Value}
theorem Go.caloadN (X : Stand p l e R s m args below meth c T locs cells slots) (hx : p.tables.exec = Jvm.exec) (hZ : Z.Warmed39 s.vm) (hT : T.heap = h) (F : Arv Z h a k .char N vs dv) (hi : i < N.toNatClampNeg) (hi2 : i < 2147483648) (hv : vs.getD i dv = w) (hd : decode c.code pc = .ok (.caload, 1))
    (g : Go p e below Φ (T.setTop (mkF m (pc + 1) Ls (w :: rest)))) : Go p e below Φ (T.setTop (mkF m pc Ls (.int (Int32.ofNat i) :: .ref a :: rest))) := by
  obtain ⟨cl, A, -, S0, M0, H0, U0⟩ := F
  have hin : ¬ (Int32.ofNat i < 0 ∨ cl.slots.size ≤ (Int32.ofNat i).toNatClampNeg) := by
    rw [own_clamp hi2, S0]; rintro (q | q)
    · exact own_nn hi2 q
    · omega
  have hat : cl.slots[(Int32.ofNat i).toNatClampNeg]? = some w := H0.at hin (by rw [own_clamp hi2]; exact hv)
  exact Go.st (fun t kk => X.caload hx (j := Int32.ofNat i) (v := w) (by rw [hT]; exact A.1) (State.isArrayOf_alike hZ.alike A.2.1) A.2.2 hin hat (g := mkF m pc Ls (.int (Int32.ofNat i) :: .ref a :: rest)) rfl rfl hd t kk) g
theorem Go.baloadN (X : Stand p l e R s m args below meth c T locs cells slots) (hx : p.tables.exec = Jvm.exec) (hZ : Z.Warmed39 s.vm) (hT : T.heap = h) (F : Arv Z h a k .byte N vs dv) (hi : i < N.toNatClampNeg) (hi2 : i < 2147483648) (hv : vs.getD i dv = w) (hd : decode c.code pc = .ok (.baload, 1))
    (g : Go p e below Φ (T.setTop (mkF m (pc + 1) Ls (w :: rest)))) : Go p e below Φ (T.setTop (mkF m pc Ls (.int (Int32.ofNat i) :: .ref a :: rest))) := by
  obtain ⟨cl, A, -, S0, M0, H0, U0⟩ := F
  have hin : ¬ (Int32.ofNat i < 0 ∨ cl.slots.size ≤ (Int32.ofNat i).toNatClampNeg) := by
    rw [own_clamp hi2, S0]; rintro (q | q)
    · exact own_nn hi2 q
    · omega
  have hat : cl.slots[(Int32.ofNat i).toNatClampNeg]? = some w := H0.at hin (by rw [own_clamp hi2]; exact hv)
  exact Go.st (fun t kk => X.baloadBytes hx (j := Int32.ofNat i) (v := w) (by rw [hT]; exact A.1) (State.isArrayOf_alike hZ.alike A.2.1) A.2.2 hin hat (g := mkF m pc Ls (.int (Int32.ofNat i) :: .ref a :: rest)) rfl rfl hd t kk) g
theorem Go.alen (X : Stand p l e R s m args below meth c T locs cells slots) (hx : p.tables.exec = Jvm.exec) (hZ : Z.Warmed39 s.vm) (hT : T.heap = h) (F : Arv Z h a k ty N vs dv) (hd : decode c.code pc = .ok (.arraylength, 1))
    (g : Go p e below Φ (T.setTop (mkF m (pc + 1) Ls (.int N :: rest)))) : Go p e below Φ (T.setTop (mkF m pc Ls (.ref a :: rest))) := by
  obtain ⟨cl, A, -, S0, M0, H0, U0⟩ := F
  refine Go.st (fun t kk => X.arraylength hx (by rw [hT]; exact A.1) (State.isArrayOf_alike hZ.alike A.2.1) (g := mkF m pc Ls (.ref a :: rest)) rfl rfl hd t kk) ?_
  rw [len_of S0 M0]; exact g
theorem own_getD_set (vs : List Value) (i : Nat) (x dv : Value) (h : i < vs.length) : ∀ j, (vs.set i x).getD j dv = if j = i then x else vs.getD j dv := fun j => by
  simp only [List.getD_eq_getElem?_getD, List.getElem?_set]
  by_cases q : i = j
  · subst q; simp [h]
  · rw [if_neg q, if_neg (fun z => q z.symm)]
/-- bastore at a natural index -/
theorem Go.stBN {x : Int32} (X : Stand p l e R s m args below meth c T locs cells slots) (hx : p.tables.exec = Jvm.exec) (hZ : Z.Warmed39 s.vm) (hT : T.heap = h) (F : Arv Z h a k .byte N vs dv) (hi : i < N.toNatClampNeg) (hi2 : i < 2147483648) (hl : i < vs.length) (hd : decode c.code pc = .ok (.bastore, 1))
    (g : ∀ (T' : State) (h' : Heap), T'.heap = h' → Wr h h' a i (.int x.toInt8.toInt32) → Arv Z h' a k .byte N (vs.set i (.int x.toInt8.toInt32)) dv → Stand p l e R s m args below meth c T' (locs ++ [⟨a, i⟩]) cells slots → Go p e below Φ (T'.setTop (mkF m (pc + 1) Ls rest))) :
    Go p e below Φ (T.setTop (mkF m pc Ls (.int x :: .int (Int32.ofNat i) :: .ref a :: rest))) := by
  obtain ⟨cl, A, q0, S0, M0, H0, U0⟩ := F
  have hin : ¬ (Int32.ofNat i < 0 ∨ cl.slots.size ≤ (Int32.ofNat i).toNatClampNeg) := by
    rw [own_clamp hi2, S0]; rintro (q | q)
    · exact own_nn hi2 q
    · omega
  obtain ⟨T', h', X', hT', W', st⟩ := stB X hx hZ hT A (j := Int32.ofNat i) hin (g := mkF m pc Ls (.int x :: .int (Int32.ofNat i) :: .ref a :: rest)) rfl rfl hd
  have V' := Arv.set A q0 S0 M0 H0 U0 (fits_nar_byte x) W' i (own_clamp hi2) hl
  rw [own_clamp hi2] at W' X'
  exact Go.st st (g T' h' hT' W' V' X')
/-- castore at a natural index -/
theorem Go.stCN {x : Int32} (X : Stand p l e R s m args below meth c T locs cells slots) (hx : p.tables.exec = Jvm.exec) (hZ : Z.Warmed39 s.vm) (hT : T.heap = h) (F : Arv Z h a k .char N vs dv) (hi : i < N.toNatClampNeg) (hi2 : i < 2147483648) (hl : i < vs.length) (hd : decode c.code pc = .ok (.castore, 1))
    (g : ∀ (T' : State) (h' : Heap), T'.heap = h' → Wr h h' a i (.int (nar .char x)) → Arv Z h' a k .char N (vs.set i (.int (nar .char x))) dv → Stand p l e R s m args below meth c T' (locs ++ [⟨a, i⟩]) cells slots → Go p e below Φ (T'.setTop (mkF m (pc + 1) Ls rest))) :
    Go p e below Φ (T.setTop (mkF m pc Ls (.int x :: .int (Int32.ofNat i) :: .ref a :: rest))) := by
  obtain ⟨cl, A, q0, S0, M0, H0, U0⟩ := F
  have hin : ¬ (Int32.ofNat i < 0 ∨ cl.slots.size ≤ (Int32.ofNat i).toNatClampNeg) := by
    rw [own_clamp hi2, S0]; rintro (q | q)
    · exact own_nn hi2 q
    · omega
  obtain ⟨T', h', X', hT', W', st⟩ := stC X hx hZ hT A (j := Int32.ofNat i) hin (g := mkF m pc Ls (.int x :: .int (Int32.ofNat i) :: .ref a :: rest)) rfl rfl hd
  have V' := Arv.set A q0 S0 M0 H0 U0 (fits_nar_char x) W' i (own_clamp hi2) hl
  rw [own_clamp hi2] at W' X'
  exact Go.st st (g T' h' hT' W' V' X')
/-- newarray of n components -/
theorem Go.newA {aty : ArrayType} {n cap : Nat} (X : Stand p l e R s m args below meth c T locs cells slots) (hx : p.tables.exec = Jvm.exec) (hZ : Z.Warmed39 s.vm) (hT : T.heap = h) (w : (Cond.arrayClass (newarray.typeOf aty)).before a0 Z = true) (hd : decode c.code pc = .ok (.newarray aty, 2))
    (hn : n < 2147483648) (hcap : n ≤ cap) (hb : cap * 8 ≤ 536870912) (hc : cells + 1 ≤ R.cells) (hl : slots + cap ≤ R.slots)
    (g : ∀ (b : Addr) (T' : State) (h' : Heap) (kb : ClassId), b = h.size → T'.heap = h' → Ext h h' → Arv Z h' b kb (newarray.typeOf aty) (Int32.ofNat n) [] (defaultValue (newarray.typeOf aty)) → Stand p l e R s m args below meth c T' locs (cells + 1) (slots + cap) → Go p e below Φ (T'.setTop (mkF m (pc + 2) Ls (.ref b :: rest)))) :
    Go p e below Φ (T.setTop (mkF m pc Ls (.int (Int32.ofNat n) :: rest))) := by
  obtain ⟨T', h', kb, X', hT', E', A', st⟩ := newP X hx hZ w hT (g := mkF m pc Ls (.int (Int32.ofNat n) :: rest)) rfl hd rfl (own_nn hn) (cap := cap) (by rw [own_clamp hn]; exact hcap) hb hc hl
  exact Go.st st (g _ T' h' kb rfl hT' E' (Arv.new A' (own_nn hn)) X')
end G
end Jvm.Own
/- laws to paste: Road.lenW, Road.codOf, Road.wide_lo, Road.wide_hi, pair_says, shr0 (cut by pick.py; bodies as the Statement names them) -/
namespace Jvm.Pilot.@@N@@
namespace StrChars
open Jvm Sem ClassFile Op Lib Jvm.Stand Jvm.Free.XT Jvm.Free.ALB Jvm.Free.JM Jvm.Free
open Jvm.Lib.Cold (StaticIs)
/-- a char array whose places are chars -/
def Ch (a : Addr) (A : Cell) (U : State) : Prop := Arr .char a A U ∧ Typed .char A
theorem Ch.mv {a : Addr} {A : Cell} {U U' : State} (h : Ch a A U) (hal : U.vm.Alike U'.vm) (hh : U'.heap = U.heap) : Ch a A U' := ⟨h.1.mv hal hh, h.2⟩
theorem Ch.keep {a : Addr} {A : Cell} {U U' : State} (h : Ch a A U) (hal : U.vm.Alike U'.vm) (hk : U'.heap[a]? = some A) : Ch a A U' := ⟨h.1.keep hal hk, h.2⟩
/-- what place i of a char[]'s cell holds -/
def cv (A : Cell) (i : Nat) : Int32 := match A.slots[i]? with | some (.int x) => x | _ => 0
theorem Ch.get {a : Addr} {A : Cell} {U : State} (h : Ch a A U) {i : Nat} (hi : i < A.slots.size) : A.slots[i]? = some (.int (cv A i)) := by
  have e := Array.getElem?_eq_getElem hi
  have f := h.2 i _ e
  unfold cv; rw [e]
  generalize A.slots[i] = v at f
  cases v <;> simp [fits] at f ⊢
/-- the byte that i2b leaves of a char -/
def lo8 (x : Int32) : Int32 := x.toInt8.toInt32
theorem fits_lo8 (y : Int32) : fits .byte (.int (lo8 y)) = true := by
  have h1 := y.toInt8.le_toInt
  have h2 := y.toInt8.toInt_lt
  simp only [lo8, fits, Bool.and_eq_true, decide_eq_true_eq, Int32.le_iff_toInt_le, Int8.toInt_toInt32, show (-128 : Int32).toInt = -128 from by decide, show (127 : Int32).toInt = 127 from by decide]
  omega
/-- A' is A but that each place j of lo .. hi - 1 holds f j -/
def Laid (A A' : Cell) (lo hi : Nat) (f : Nat → Value) : Prop := A'.cls = A.cls ∧ A'.vm = A.vm ∧ A'.slots.size = A.slots.size ∧ ∀ i, A'.slots[i]? = if lo ≤ i ∧ i < hi then some (f i) else A.slots[i]?
theorem Laid.zero (A : Cell) (lo : Nat) (f : Nat → Value) : Laid A A lo (lo + 0) f := ⟨rfl, rfl, rfl, fun i => by rw [if_neg (by omega)]⟩
theorem Laid.step {A Ak : Cell} {lo k : Nat} {f : Nat → Value} {v : Value} (h : Laid A Ak lo k f) (hlo : lo ≤ k) (hk : k < Ak.slots.size) (hv : v = f k) : Laid A (Ak.setSlot k v) lo (k + 1) f := by
  refine ⟨h.1, h.2.1, by simpa [Cell.setSlot] using h.2.2.1, fun i => ?_⟩
  by_cases e : k = i
  · subst e; rw [Cell.slots_setSlot_self v hk, if_pos (by omega), hv]
  · rw [Cell.slots_setSlot_ne v e, h.2.2.2 i]
    by_cases q : lo ≤ i ∧ i < k
    · rw [if_pos q, if_pos (by omega)]
    · rw [if_neg q, if_neg (by omega)]
def U16 : String := "java/lang/StringUTF16"
namespace Cmp5
def yN : MethodName := ⟨"java/lang/StringUTF16", "compress", "([CI[BII)I"⟩
abbrev yB : ByteArray := jdk_52_method_21_code
theorem d0 : decode yB 0 = .ok (.iconst 0, 1) := by decide +kernel
theorem d1 : decode yB 1 = .ok (.istore 5, 2) := by decide +kernel
theorem d3 : decode yB 3 = .ok (.iload 5, 2) := by decide +kernel
theorem d5 : decode yB 5 = .ok (.iload 4, 2) := by decide +kernel
theorem d7 : decode yB 7 = .ok (.if_icmp (.ge) 37, 3) := by decide +kernel
theorem d10 : decode yB 10 = .ok (.aload_n 0, 1) := by decide +kernel
theorem d11 : decode yB 11 = .ok (.iload_n 1, 1) := by decide +kernel
theorem d12 : decode yB 12 = .ok (.caload, 1) := by decide +kernel
theorem d13 : decode yB 13 = .ok (.istore 6, 2) := by decide +kernel
theorem d15 : decode yB 15 = .ok (.iload 6, 2) := by decide +kernel
theorem d17 : decode yB 17 = .ok (.sipush 255, 3) := by decide +kernel
theorem d20 : decode yB 20 = .ok (.if_icmp (.le) 6, 3) := by decide +kernel
theorem d26 : decode yB 26 = .ok (.aload_n 2, 1) := by decide +kernel
theorem d27 : decode yB 27 = .ok (.iload_n 3, 1) := by decide +kernel
theorem d28 : decode yB 28 = .ok (.iload 6, 2) := by decide +kernel
theorem d30 : decode yB 30 = .ok (.i2b, 1) := by decide +kernel
theorem d31 : decode yB 31 = .ok (.bastore, 1) := by decide +kernel
theorem d32 : decode yB 32 = .ok (.iinc 1 1, 3) := by decide +kernel
theorem d35 : decode yB 35 = .ok (.iinc 3 1, 3) := by decide +kernel
theorem d38 : decode yB 38 = .ok (.iinc 5 1, 3) := by decide +kernel
theorem d41 : decode yB 41 = .ok (.goto (-38), 3) := by decide +kernel
theorem d44 : decode yB 44 = .ok (.iload 4, 2) := by decide +kernel
theorem d46 : decode yB 46 = .ok (.ireturn, 1) := by decide +kernel
def site : List Cond := []
def tab : Cond := tabOf yN yB 7 (some .int) site
def P (b : Addr) (A : Cell) (d : Addr) (B : Cell) (o q len : Nat) (args : Array Value) (s : State) : Prop := args = #[.ref b, .int (Int32.ofNat o), .ref d, .int (Int32.ofNat q), .int (Int32.ofNat len)] ∧ Ch b A s ∧ Arr .byte d B s ∧ b ≠ d ∧ o + len ≤ A.slots.size ∧ q + len ≤ B.slots.size ∧ ∀ i, i < len → ¬ 255 < cv A (o + i)
def E (b : Addr) (A : Cell) (d : Addr) (B : Cell) (o q len : Nat) (r : Option Value) (s u : State) : Prop := r = some (.int (Int32.ofNat len)) ∧ ∃ B', Put d B' s u ∧ Laid B B' q (q + len) (fun j => Value.int (lo8 (cv A (o + (j - q)))))
/-- no char of the range above 255: len; the places written hold each char's low byte -/
theorem law (l : Launch) (b : Addr) (A : Cell) (d : Addr) (B : Cell) (o q len : Nat) : Law l yN 5 5 0 0 yB 7 (some .int) site (P b A d B o q len) (E b A d B o q len) (copyLocs d q len) 0 0 := by
  refine Law.of_walk (plainFor_of_name (by decide +kernel)) (by decide +kernel) (by decide +kernel) (by decide) (fun _ _ h => by rw [h.1]; rfl) (fun _ U U' hal hh h => ⟨h.1, h.2.1.mv hal hh, h.2.2.1.mv hal hh, h.2.2.2⟩) (fun r U U' V V' h1 hal h2 h => ⟨h.1, h.2.elim fun B' q => ⟨B', q.1.mv h1 h2, q.2⟩⟩) ?_
  intro p e s m args below meth c s₁ X0 hexec hbytes hml hret hlk hnm hown hh0 W hP
  obtain ⟨rfl, hA, hB, hne, l1, l2, hp⟩ := hP
  have c1 : Steps p.tables e below (s₁.setTop (entryFrame m #[.ref b, .int (Int32.ofNat o), .ref d, .int (Int32.ofNat q), .int (Int32.ofNat len)] 7)) (s₁.setTop (mkF m 0 #[.val (.ref b), .val (.int (Int32.ofNat o)), .val (.ref d), .val (.int (Int32.ofNat q)), .val (.int (Int32.ofNat len)), .unset, .unset] [])) := entry rfl
  have hA0 := hA.1.mv X0.warmed.alike hh0
  have hB0 := hB.mv X0.warmed.alike hh0
  have a31 := hA.1.2.2.2
  have c2 : Steps p.tables e below (s₁.setTop (entryFrame m #[.ref b, .int (Int32.ofNat o), .ref d, .int (Int32.ofNat q), .int (Int32.ofNat len)] 7)) (s₁.setTop (mkF m 3 #[.val (.ref b), .val (.int (Int32.ofNat o)), .val (.ref d), .val (.int (Int32.ofNat q)), .val (.int (Int32.ofNat len)), .val (.int 0), .unset] [])) := c1.trans (by
    refine iconstV X0.here hexec rfl 0 (hb hbytes d0) (by decide) ?_
    refine XS.istore X0.here hexec rfl (hb hbytes d1) rfl rfl ?_
    exact Steps.refl _)
  have loop : ∀ (r i : Nat), i + r = len → ∀ (z : Slot), (z = .unset ∨ ∃ w, z = .val w ∧ w.category = 1) → ∀ (Tl : State) (Bk : Cell), Stand p l e { frames := 0, locals := 0, cells := 0, slots := 0 } s m #[.ref b, .int (Int32.ofNat o), .ref d, .int (Int32.ofNat q), .int (Int32.ofNat len)] below meth c Tl ([] ++ copyLocs d q i) 0 0 → Put d Bk s₁ Tl → Laid B Bk q (q + i) (fun j => Value.int (lo8 (cv A (o + (j - q))))) →
      Steps p.tables e below (s₁.setTop (entryFrame m #[.ref b, .int (Int32.ofNat o), .ref d, .int (Int32.ofNat q), .int (Int32.ofNat len)] 7)) (Tl.setTop (mkF m 3 #[.val (.ref b), .val (.int (Int32.ofNat (o + i))), .val (.ref d), .val (.int (Int32.ofNat (q + i))), .val (.int (Int32.ofNat len)), .val (.int (Int32.ofNat i)), z] [])) → ∃ (T' : State) (B' : Cell) (z' : Slot), Stand p l e { frames := 0, locals := 0, cells := 0, slots := 0 } s m #[.ref b, .int (Int32.ofNat o), .ref d, .int (Int32.ofNat q), .int (Int32.ofNat len)] below meth c T' ([] ++ copyLocs d q len) 0 0 ∧ Put d B' s₁ T' ∧ Laid B B' q (q + len) (fun j => Value.int (lo8 (cv A (o + (j - q))))) ∧
      Steps p.tables e below (s₁.setTop (entryFrame m #[.ref b, .int (Int32.ofNat o), .ref d, .int (Int32.ofNat q), .int (Int32.ofNat len)] 7)) (T'.setTop (mkF m 3 #[.val (.ref b), .val (.int (Int32.ofNat (o + len))), .val (.ref d), .val (.int (Int32.ofNat (q + len))), .val (.int (Int32.ofNat len)), .val (.int (Int32.ofNat len)), z'] [])) := by
    intro r
    induction r with
    | zero =>
      intro i hi z hz Tl Bk Xl pl fl cl
      have hil : i = len := by omega
      rw [hil] at Xl fl cl
      exact ⟨Tl, Bk, z, Xl, pl, fl, cl⟩
    | succ r ih =>
      intro i hi z hz Tl Bk Xl pl fl cl
      have all := X0.warmed.alike.symm.trans Xl.warmed.alike
      have hAl := hA0.keep all (pl.other hne hA0.1)
      have hBk := hB0.like all pl.1 fl.1 fl.2.1 fl.2.2.1
      have hlt : q + i < Bk.slots.size := by rw [fl.2.2.1]; omega
      have c3 : Steps p.tables e below (s₁.setTop (entryFrame m #[.ref b, .int (Int32.ofNat o), .ref d, .int (Int32.ofNat q), .int (Int32.ofNat len)] 7)) (Tl.setTop (mkF m 12 #[.val (.ref b), .val (.int (Int32.ofNat (o + i))), .val (.ref d), .val (.int (Int32.ofNat (q + i))), .val (.int (Int32.ofNat len)), .val (.int (Int32.ofNat i)), z] [.int (Int32.ofNat (o + i)), .ref b])) := cl.trans (by
        refine XS.iload Xl.here hexec rfl (hb hbytes d3) rfl ?_
        refine XS.iload Xl.here hexec rfl (hb hbytes d5) rfl ?_
        refine XS.icmpNo Xl.here hexec rfl (hb hbytes d7) rfl (ii_ge_f (lt32 (by omega) (by omega))) ?_
        refine XS.aloadN Xl.here hexec rfl (hb hbytes d10) rfl rfl ?_
        refine XS.iloadN Xl.here hexec rfl (hb hbytes d11) rfl ?_
        exact Steps.refl _)
      have c4 : Steps p.tables e below (s₁.setTop (entryFrame m #[.ref b, .int (Int32.ofNat o), .ref d, .int (Int32.ofNat q), .int (Int32.ofNat len)] 7)) (Tl.setTop (mkF m 13 #[.val (.ref b), .val (.int (Int32.ofNat (o + i))), .val (.ref d), .val (.int (Int32.ofNat (q + i))), .val (.int (Int32.ofNat len)), .val (.int (Int32.ofNat i)), z] [.int (cv A (o + i))])) := c3.trans (by
        refine Xl.aget hexec hAl rfl (hA.get (i := o + i) (by omega)) rfl rfl (hb hbytes d12) ?_
        exact Steps.refl _)
      have c5 : Steps p.tables e below (s₁.setTop (entryFrame m #[.ref b, .int (Int32.ofNat o), .ref d, .int (Int32.ofNat q), .int (Int32.ofNat len)] 7)) (Tl.setTop (mkF m 15 #[.val (.ref b), .val (.int (Int32.ofNat (o + i))), .val (.ref d), .val (.int (Int32.ofNat (q + i))), .val (.int (Int32.ofNat len)), .val (.int (Int32.ofNat i)), .val (.int (cv A (o + i)))] [])) := c4.trans (by
        refine XS.istoreS Xl.here hexec rfl (hb hbytes d13) rfl rfl hz ?_
        exact Steps.refl _)
      have c6 : Steps p.tables e below (s₁.setTop (entryFrame m #[.ref b, .int (Int32.ofNat o), .ref d, .int (Int32.ofNat q), .int (Int32.ofNat len)] 7)) (Tl.setTop (mkF m 31 #[.val (.ref b), .val (.int (Int32.ofNat (o + i))), .val (.ref d), .val (.int (Int32.ofNat (q + i))), .val (.int (Int32.ofNat len)), .val (.int (Int32.ofNat i)), .val (.int (cv A (o + i)))] [.int (lo8 (cv A (o + i))), .int (Int32.ofNat (q + i)), .ref d])) := c5.trans (by
        refine XS.iload Xl.here hexec rfl (hb hbytes d15) rfl ?_
        refine sipushV Xl.here hexec rfl 255 (hb hbytes d17) (by decide) ?_
        refine XS.icmpYes Xl.here hexec rfl (pc0 := 20) rfl (hb hbytes d20) rfl (ii_le_t (hp i (by omega))) (by decide) rfl ?_
        refine XS.aloadN Xl.here hexec rfl (hb hbytes d26) rfl rfl ?_
        refine XS.iloadN Xl.here hexec rfl (hb hbytes d27) rfl ?_
        refine XS.iload Xl.here hexec rfl (hb hbytes d28) rfl ?_
        refine i2b Xl.here hexec rfl (hb hbytes d30) rfl ?_
        exact Steps.refl _)
      obtain ⟨T7, X7, p7, st7⟩ := Xl.aput hexec hBk rfl hlt rfl (fits_lo8 (cv A (o + i))) (g := (mkF m 31 #[.val (.ref b), .val (.int (Int32.ofNat (o + i))), .val (.ref d), .val (.int (Int32.ofNat (q + i))), .val (.int (Int32.ofNat len)), .val (.int (Int32.ofNat i)), .val (.int (cv A (o + i)))] [.int (lo8 (cv A (o + i))), .int (Int32.ofNat (q + i)), .ref d])) rfl (rest := []) rfl (hb hbytes d31)
      have c8 : Steps p.tables e below (s₁.setTop (entryFrame m #[.ref b, .int (Int32.ofNat o), .ref d, .int (Int32.ofNat q), .int (Int32.ofNat len)] 7)) (T7.setTop (mkF m 32 #[.val (.ref b), .val (.int (Int32.ofNat (o + i))), .val (.ref d), .val (.int (Int32.ofNat (q + i))), .val (.int (Int32.ofNat len)), .val (.int (Int32.ofNat i)), .val (.int (cv A (o + i)))] [])) := c6.trans (st7 _ (Steps.refl _))
      have c9 : Steps p.tables e below (s₁.setTop (entryFrame m #[.ref b, .int (Int32.ofNat o), .ref d, .int (Int32.ofNat q), .int (Int32.ofNat len)] 7)) (T7.setTop (mkF m 3 #[.val (.ref b), .val (.int (Int32.ofNat (o + i) + 1)), .val (.ref d), .val (.int (Int32.ofNat (q + i) + 1)), .val (.int (Int32.ofNat len)), .val (.int (Int32.ofNat i + 1)), .val (.int (cv A (o + i)))] [])) := c8.trans (by
        refine iincV X7.here hexec rfl 1 (hb hbytes d32) (by decide) rfl rfl ?_
        refine iincV X7.here hexec rfl 1 (hb hbytes d35) (by decide) rfl rfl ?_
        refine iincV X7.here hexec rfl 1 (hb hbytes d38) (by decide) rfl rfl ?_
        refine XS.goto X7.here hexec rfl (pc0 := 41) rfl (hb hbytes d41) (by decide) rfl ?_
        exact Steps.refl _)
      have c10 : Steps p.tables e below (s₁.setTop (entryFrame m #[.ref b, .int (Int32.ofNat o), .ref d, .int (Int32.ofNat q), .int (Int32.ofNat len)] 7)) (T7.setTop (mkF m 3 #[.val (.ref b), .val (.int (Int32.ofNat (o + (i + 1)))), .val (.ref d), .val (.int (Int32.ofNat (q + (i + 1)))), .val (.int (Int32.ofNat len)), .val (.int (Int32.ofNat (i + 1))), .val (.int (cv A (o + i)))] [])) := by
        have := c9
        rw [succ32, succ32, succ32] at this
        exact this
      exact ih (i + 1) (by omega) _ (Or.inr ⟨_, rfl, rfl⟩) T7 _ (by rw [copyLocs_step, ← List.append_assoc]; exact X7) (pl.trans p7) (fl.step (by omega) hlt (by simp)) c10
  obtain ⟨T9, B9, z9, X9, p9, f9, g9⟩ := loop len 0 (by omega) .unset (Or.inl rfl) s₁ B (by simpa [copyLocs] using X0) ⟨hB0.1, fun _ _ => rfl, rfl⟩ (Laid.zero _ _ _) c2
  have c11 : Steps p.tables e below (s₁.setTop (entryFrame m #[.ref b, .int (Int32.ofNat o), .ref d, .int (Int32.ofNat q), .int (Int32.ofNat len)] 7)) (T9.setTop (mkF m 46 #[.val (.ref b), .val (.int (Int32.ofNat (o + len))), .val (.ref d), .val (.int (Int32.ofNat (q + len))), .val (.int (Int32.ofNat len)), .val (.int (Int32.ofNat len)), z9] [.int (Int32.ofNat len)])) := g9.trans (by
    refine XS.iload X9.here hexec rfl (hb hbytes d3) rfl ?_
    refine XS.iload X9.here hexec rfl (hb hbytes d5) rfl ?_
    refine XS.icmpYes X9.here hexec rfl (pc0 := 7) rfl (hb hbytes d7) rfl (ii_ge_t (nlt32 (by omega) (Nat.le_refl _))) (by decide) rfl ?_
    refine XS.iload X9.here hexec rfl (hb hbytes d44) rfl ?_
    exact Steps.refl _)
  exact ⟨T9, some (.int (Int32.ofNat len)), _, _, _, X9, by simp, rfl, rfl, (fun h => by cases h), ⟨rfl, B9, p9.from hh0, f9⟩, fun fs hl => c11.trans (X9.ireturnOut hexec hret rfl (Or.inl rfl) (hb hbytes d46) hl)⟩
end Cmp5
namespace Cmp3
def yN : MethodName := ⟨"java/lang/StringUTF16", "compress", "([CII)[B"⟩
abbrev yB : ByteArray := jdk_52_method_16_code
theorem d0 : decode yB 0 = .ok (.iload_n 2, 1) := by decide +kernel
theorem d1 : decode yB 1 = .ok (.newarray .byte, 2) := by decide +kernel
theorem d3 : decode yB 3 = .ok (.astore_n 3, 1) := by decide +kernel
theorem d4 : decode yB 4 = .ok (.aload_n 0, 1) := by decide +kernel
theorem d5 : decode yB 5 = .ok (.iload_n 1, 1) := by decide +kernel
theorem d6 : decode yB 6 = .ok (.aload_n 3, 1) := by decide +kernel
theorem d7 : decode yB 7 = .ok (.iconst 0, 1) := by decide +kernel
theorem d8 : decode yB 8 = .ok (.iload_n 2, 1) := by decide +kernel
theorem d9 : decode yB 9 = .ok (.invokestatic 115, 3) := by decide +kernel
theorem d12 : decode yB 12 = .ok (.istore 4, 2) := by decide +kernel
theorem d14 : decode yB 14 = .ok (.iload 4, 2) := by decide +kernel
theorem d16 : decode yB 16 = .ok (.iload_n 2, 1) := by decide +kernel
theorem d17 : decode yB 17 = .ok (.if_icmp (.eq) 40, 3) := by decide +kernel
theorem d57 : decode yB 57 = .ok (.aload_n 3, 1) := by decide +kernel
theorem d58 : decode yB 58 = .ok (.areturn, 1) := by decide +kernel
def site : List Cond := [.arrayClass .byte, Cmp5.tab] ++ staticW U16 115 Cmp5.yN
def tab : Cond := tabOf yN yB 6 (some (.array .byte)) site
def P (b : Addr) (A : Cell) (o len : Nat) (args : Array Value) (s : State) : Prop := args = #[.ref b, .int (Int32.ofNat o), .int (Int32.ofNat len)] ∧ Ch b A s ∧ o + len ≤ A.slots.size ∧ len ≤ 536870912 ∧ ∀ i, i < len → ¬ 255 < cv A (o + i)
def E (b : Addr) (A : Cell) (o len : Nat) (r : Option Value) (s u : State) : Prop := NewArr .byte "[B" len (fun j => .int (lo8 (cv A (o + j)))) r s u ∧ u.heap.size = s.heap.size + 1
/-- no char of the range above 255: a new byte[] of their low bytes -/
theorem law (l : Launch) (b : Addr) (A : Cell) (o len : Nat) : Law l yN 3 3 1 18 yB 6 (some (.array .byte)) site (P b A o len) (E b A o len) [] 1 len := by
  refine Law.of_walk (plainFor_of_name (by decide +kernel)) (by decide +kernel) (by decide +kernel) (by decide) (fun _ _ h => by rw [h.1]; rfl) (fun _ U U' hal hh h => ⟨h.1, h.2.1.mv hal hh, h.2.2⟩) (fun r U U' V V' h1 hal h2 h => ⟨NewArr.mv r U U' V V' h1 hal h2 h.1, by rw [h1, h2]; exact h.2⟩) ?_
  intro p e s m args below meth c s₁ X0 hexec hbytes hml hret hlk hnm hown hh0 W hP
  obtain ⟨rfl, hA, l1, l2, hp⟩ := hP
  have a31 := hA.1.2.2.2
  have c1 : Steps p.tables e below (s₁.setTop (entryFrame m #[.ref b, .int (Int32.ofNat o), .int (Int32.ofNat len)] 6)) (s₁.setTop (mkF m 0 #[.val (.ref b), .val (.int (Int32.ofNat o)), .val (.int (Int32.ofNat len)), .unset, .unset, .unset] [])) := entry rfl
  have c2 : Steps p.tables e below (s₁.setTop (entryFrame m #[.ref b, .int (Int32.ofNat o), .int (Int32.ofNat len)] 6)) (s₁.setTop (mkF m 1 #[.val (.ref b), .val (.int (Int32.ofNat o)), .val (.int (Int32.ofNat len)), .unset, .unset, .unset] [.int (Int32.ofNat len)])) := c1.trans (by
    refine XS.iloadN X0.here hexec rfl (hb hbytes d0) rfl ?_
    exact Steps.refl _)
  obtain ⟨T3, B3, X3, ba3, bs3, bv3, bh3, bf3, st3⟩ := X0.anew hexec (atype := .byte) (wk W (.arrayClass .byte)) rfl (by show len * 1 ≤ _; omega) (by omega) (g := (mkF m 1 #[.val (.ref b), .val (.int (Int32.ofNat o)), .val (.int (Int32.ofNat len)), .unset, .unset, .unset] [.int (Int32.ofNat len)])) rfl (hb hbytes d1) (rest := []) rfl (Nat.le_refl _) (by show 0 + len ≤ len; omega)
  rw [hh0] at ba3 st3
  have kp3 : XT.Kept s T3 := (XT.Kept.of_eq hh0).push bh3
  have hA3 := hA.keep X3.warmed.alike (kp3 _ _ hA.1.1)
  have hne : b ≠ s.heap.size := hA.1.ne
  have c4 : Steps p.tables e below (s₁.setTop (entryFrame m #[.ref b, .int (Int32.ofNat o), .int (Int32.ofNat len)] 6)) (T3.setTop (mkF m 3 #[.val (.ref b), .val (.int (Int32.ofNat o)), .val (.int (Int32.ofNat len)), .unset, .unset, .unset] [.ref s.heap.size])) := c2.trans (st3 _ (Steps.refl _))
  have c5 : Steps p.tables e below (s₁.setTop (entryFrame m #[.ref b, .int (Int32.ofNat o), .int (Int32.ofNat len)] 6)) (T3.setTop (mkF m 9 #[.val (.ref b), .val (.int (Int32.ofNat o)), .val (.int (Int32.ofNat len)), .val (.ref s.heap.size), .unset, .unset] [.int (Int32.ofNat len), .int 0, .ref s.heap.size, .int (Int32.ofNat o), .ref b])) := c4.trans (by
    refine XS.astoreN X3.here hexec rfl (hb hbytes d3) rfl rfl rfl ?_
    refine XS.aloadN X3.here hexec rfl (hb hbytes d4) rfl rfl ?_
    refine XS.iloadN X3.here hexec rfl (hb hbytes d5) rfl ?_
    refine XS.aloadN X3.here hexec rfl (hb hbytes d6) rfl rfl ?_
    refine iconstV X3.here hexec rfl 0 (hb hbytes d7) (by decide) ?_
    refine XS.iloadN X3.here hexec rfl (hb hbytes d8) rfl ?_
    exact Steps.refl _)
  obtain ⟨v6, T6, X6, E6, g6⟩ := X3.callS hexec (Cmp5.law l b A s.heap.size B3 o 0 len) hown (wks W (staticW U16 115 Cmp5.yN)) (wk W Cmp5.tab) (W := 0) (Nat.le_of_ble_eq_true rfl) (Nat.le_of_ble_eq_true rfl) (Nat.le_refl _) (by show 0 + len + 0 ≤ len; omega) (g := (mkF m 9 #[.val (.ref b), .val (.int (Int32.ofNat o)), .val (.int (Int32.ofNat len)), .val (.ref s.heap.size), .unset, .unset] [.int (Int32.ofNat len), .int (Int32.ofNat 0), .ref s.heap.size, .int (Int32.ofNat o), .ref b])) rfl (by rw [hml]; rfl) c5 (argsL := [.ref b, .int (Int32.ofNat o), .ref s.heap.size, .int (Int32.ofNat 0), .int (Int32.ofNat len)]) (rest := []) rfl rfl (by show 2 * 0 + 0 ≤ _; decide) (hb hbytes d9) (⟨rfl, hA3, ba3, hne, l1, by rw [bs3]; simp, hp⟩)
  obtain ⟨rfl, B6, p6, f6⟩ := E6
  have c7 : Steps p.tables e below (s₁.setTop (entryFrame m #[.ref b, .int (Int32.ofNat o), .int (Int32.ofNat len)] 6)) (T6.setTop (mkF m 12 #[.val (.ref b), .val (.int (Int32.ofNat o)), .val (.int (Int32.ofNat len)), .val (.ref s.heap.size), .unset, .unset] [.int (Int32.ofNat len)])) := g6
  have c8 : Steps p.tables e below (s₁.setTop (entryFrame m #[.ref b, .int (Int32.ofNat o), .int (Int32.ofNat len)] 6)) (T6.setTop (mkF m 58 #[.val (.ref b), .val (.int (Int32.ofNat o)), .val (.int (Int32.ofNat len)), .val (.ref s.heap.size), .val (.int (Int32.ofNat len)), .unset] [.ref s.heap.size])) := c7.trans (by
    refine XS.istore X6.here hexec rfl (hb hbytes d12) rfl rfl ?_
    refine XS.iload X6.here hexec rfl (hb hbytes d14) rfl ?_
    refine XS.iloadN X6.here hexec rfl (hb hbytes d16) rfl ?_
    refine XS.icmpYes X6.here hexec rfl (pc0 := 17) rfl (hb hbytes d17) rfl (ii_eq_t rfl) (by decide) rfl ?_
    refine XS.aloadN X6.here hexec rfl (hb hbytes d57) rfl rfl ?_
    exact Steps.refl _)
  have X8 := X6.wide (L' := []) (cells' := 1) (slots' := len) (fun x hx hlt => by
    simp only [List.nil_append, copyLocs, List.mem_map, List.mem_range] at hx
    obtain ⟨i, -, rfl⟩ := hx
    exact absurd hlt (Nat.lt_irrefl _)) (Nat.le_refl _) (by omega)
  exact ⟨T6, some (.ref s.heap.size), _, _, _, X8, rfl, rfl, rfl, (fun h => by cases h), ⟨⟨rfl, B6, ba3.like (X3.warmed.alike.symm.trans X6.warmed.alike) p6.1 f6.1 f6.2.1 f6.2.2.1, f6.2.1.trans bv3, by rw [X6.warmed.alike.findClass, f6.1]; exact bf3, by rw [f6.2.2.1, bs3]; simp, fun j hj => by rw [f6.2.2.2 j, if_pos (by omega)]; rfl, kp3.put p6 (Nat.le_refl _)⟩, by rw [p6.2.2, bh3, hh0]; simp⟩, fun fs hl => c8.trans (X8.areturnOut hexec rfl hret rfl (hb hbytes d58) hl)⟩
end Cmp3
namespace CodL
def yN : MethodName := ⟨"java/lang/StringUTF16", "coderFromArrayLen", "([BI)B"⟩
abbrev yB : ByteArray := jdk_52_method_15_code
theorem d0 : decode yB 0 = .ok (.iload_n 1, 1) := by decide +kernel
theorem d1 : decode yB 1 = .ok (.aload_n 0, 1) := by decide +kernel
theorem d2 : decode yB 2 = .ok (.arraylength, 1) := by decide +kernel
theorem d3 : decode yB 3 = .ok (.isub, 1) := by decide +kernel
theorem d4 : decode yB 4 = .ok (.bipush 31, 2) := by decide +kernel
theorem d6 : decode yB 6 = .ok (.iushr, 1) := by decide +kernel
theorem d7 : decode yB 7 = .ok (.i2b, 1) := by decide +kernel
theorem d8 : decode yB 8 = .ok (.ireturn, 1) := by decide +kernel
def site : List Cond := []
def tab : Cond := tabOf yN yB 2 (some .byte) site
def P (d : Addr) (B : Cell) (args : Array Value) (s : State) : Prop := args = #[.ref d, .int (Int32.ofNat B.slots.size)] ∧ Arr .byte d B s
def E (r : Option Value) (s u : State) : Prop := XT.PureE (some (.int 0)) r s u
/-- an array as long as the number of chars: LATIN1 -/
theorem law (l : Launch) (d : Addr) (B : Cell) : Law l yN 2 2 0 0 yB 2 (some .byte) site (P d B) E [] 0 0 := by
  refine Law.of_walk (plainFor_of_name (by decide +kernel)) (by decide +kernel) (by decide +kernel) (by decide) (fun _ _ h => by rw [h.1]; rfl) (fun _ U U' hal hh h => ⟨h.1, h.2.mv hal hh⟩) (fun r U U' V V' h1 hal h2 h => XT.PureE.mv r U U' V V' h1 hal h2 h) ?_
  intro p e s m args below meth c s₁ X0 hexec hbytes hml hret hlk hnm hown hh0 W hP
  obtain ⟨rfl, hB⟩ := hP
  have hB0 := hB.mv X0.warmed.alike hh0
  have c1 : Steps p.tables e below (s₁.setTop (entryFrame m #[.ref d, .int (Int32.ofNat B.slots.size)] 2)) (s₁.setTop (mkF m 0 #[.val (.ref d), .val (.int (Int32.ofNat B.slots.size))] [])) := entry rfl
  have c2 : Steps p.tables e below (s₁.setTop (entryFrame m #[.ref d, .int (Int32.ofNat B.slots.size)] 2)) (s₁.setTop (mkF m 2 #[.val (.ref d), .val (.int (Int32.ofNat B.slots.size))] [.ref d, .int (Int32.ofNat B.slots.size)])) := c1.trans (by
    refine XS.iloadN X0.here hexec rfl (hb hbytes d0) rfl ?_
    refine XS.aloadN X0.here hexec rfl (hb hbytes d1) rfl rfl ?_
    exact Steps.refl _)
  have c3 : Steps p.tables e below (s₁.setTop (entryFrame m #[.ref d, .int (Int32.ofNat B.slots.size)] 2)) (s₁.setTop (mkF m 8 #[.val (.ref d), .val (.int (Int32.ofNat B.slots.size))] [.int (lo8 (ushr (Int32.ofNat B.slots.size - Int32.ofNat B.slots.size) 31))])) := c2.trans (by
    refine X0.alen hexec hB0 rfl rfl (hb hbytes d2) ?_
    refine XS.isub X0.here hexec rfl (hb hbytes d3) rfl ?_
    refine bipushV X0.here hexec rfl 31 (hb hbytes d4) (by decide) ?_
    refine iushr X0.here hexec rfl (hb hbytes d6) rfl ?_
    refine i2b X0.here hexec rfl (hb hbytes d7) rfl ?_
    exact Steps.refl _)
  have e0 : lo8 (ushr (Int32.ofNat B.slots.size - Int32.ofNat B.slots.size) 31) = 0 := by rw [Int32.sub_self]; decide
  rw [e0] at c3
  exact ⟨s₁, some (.int 0), _, _, _, X0, rfl, rfl, rfl, (fun h => by cases h), ⟨rfl, hh0⟩, fun fs hl => c3.trans (X0.ireturnOut hexec hret rfl (Or.inr (Or.inr (Or.inl rfl))) (hb hbytes d8) hl)⟩
end CodL
/-- the String at a is Latin-1 over a new byte[] (the heap's one new cell): the low bytes of the len chars of A from o on; every cell but a is kept -/
def Got (a : Addr) (D : Cell) (fV fC : Field) (A : Cell) (o len : Nat) (r : Option Value) (s u : State) : Prop := r = none ∧ ∃ D' V : Cell, Blank "java/lang/String" a D' u ∧ Same D D' [fV.slot, fC.slot] ∧ D'.slots[fV.slot]? = some (.ref s.heap.size) ∧ D'.slots[fC.slot]? = some (.int 0) ∧ Arr .byte s.heap.size V u ∧ V.vm = .none ∧ u.vm.findClass "[B" = some V.cls ∧ V.slots.size = len ∧ (∀ j, j < len → V.slots[j]? = some (.int (lo8 (cv A (o + j))))) ∧ (∀ (y : Addr) (c : Cell), y ≠ a → s.heap[y]? = some c → u.heap[y]? = some c) ∧ u.heap.size = s.heap.size + 1
theorem Got.mv {a : Addr} {D A : Cell} {fV fC : Field} {o len : Nat} : ∀ r (U U' V V' : State), U'.heap = U.heap → V.vm.Alike V'.vm → V'.heap = V.heap → Got a D fV fC A o len r U V → Got a D fV fC A o len r U' V' :=
  fun r U U' V V' h1 hal h2 ⟨e0, D', X, a1, a2, a3, a4, a5, a6, a7, a8, a9, a10, a11⟩ => ⟨e0, D', X, a1.mv hal h2, a2, by rw [h1]; exact a3, a4, by rw [h1]; exact a5.mv hal h2, a6, by rw [hal.findClass]; exact a7, a8, a9, by rw [h1, h2]; exact a10, by rw [h1, h2]; exact a11⟩
namespace New4
def yN : MethodName := ⟨"java/lang/String", "<init>", "([CIILjava/lang/Void;)V"⟩
abbrev yB : ByteArray := jdk_42_method_149_code
theorem d0 : decode yB 0 = .ok (.aload_n 0, 1) := by decide +kernel
theorem d1 : decode yB 1 = .ok (.invokespecial 1, 3) := by decide +kernel
theorem d4 : decode yB 4 = .ok (.iload_n 3, 1) := by decide +kernel
theorem d5 : decode yB 5 = .ok (.ifCond (.ne) 22, 3) := by decide +kernel
theorem d27 : decode yB 27 = .ok (.getstatic 38, 3) := by decide +kernel
theorem d30 : decode yB 30 = .ok (.ifCond (.eq) 28, 3) := by decide +kernel
theorem d33 : decode yB 33 = .ok (.aload_n 1, 1) := by decide +kernel
theorem d34 : decode yB 34 = .ok (.iload_n 2, 1) := by decide +kernel
theorem d35 : decode yB 35 = .ok (.iload_n 3, 1) := by decide +kernel
theorem d36 : decode yB 36 = .ok (.invokestatic 177, 3) := by decide +kernel
theorem d39 : decode yB 39 = .ok (.astore 5, 2) := by decide +kernel
theorem d41 : decode yB 41 = .ok (.aload_n 0, 1) := by decide +kernel
theorem d42 : decode yB 42 = .ok (.aload 5, 2) := by decide +kernel
theorem d44 : decode yB 44 = .ok (.iload_n 3, 1) := by decide +kernel
theorem d45 : decode yB 45 = .ok (.invokestatic 47, 3) := by decide +kernel
theorem d48 : decode yB 48 = .ok (.putfield 15, 3) := by decide +kernel
theorem d51 : decode yB 51 = .ok (.aload_n 0, 1) := by decide +kernel
theorem d52 : decode yB 52 = .ok (.aload 5, 2) := by decide +kernel
theorem d54 : decode yB 54 = .ok (.putfield 9, 3) := by decide +kernel
theorem d57 : decode yB 57 = .ok (.return_, 1) := by decide +kernel
def site : List Cond := [.fieldLink "java/lang/String" 38 "java/lang/String" "COMPACT_STRINGS" "Z", Cmp3.tab, CodL.tab, .laysFinal "java/lang/String" "java/lang/String" "value" "[B", .fieldLink "java/lang/String" 9 "java/lang/String" "value" "[B", .laysFinal "java/lang/String" "java/lang/String" "coder" "B", .fieldLink "java/lang/String" 15 "java/lang/String" "coder" "B"] ++ objW "java/lang/String" 1 ++ staticW "java/lang/String" 177 Cmp3.yN ++ staticW "java/lang/String" 47 CodL.yN
def tab : Cond := tabOf yN yB 6 none site
def P (a : Addr) (D : Cell) (fV fC : Field) (b : Addr) (A : Cell) (z : Int32) (o len : Nat) (args : Array Value) (s : State) : Prop := args = #[.ref a, .ref b, .int (Int32.ofNat o), .int (Int32.ofNat len), .null] ∧ Blank "java/lang/String" a D s ∧ Found "java/lang/String" "value" "[B" fV s ∧ Found "java/lang/String" "coder" "B" fC s ∧ Ch b A s ∧ StaticIs s "java/lang/String" "COMPACT_STRINGS" "Z" (.int z) ∧ ¬ z = 0 ∧ 0 < len ∧ o + len ≤ A.slots.size ∧ len ≤ 536870912 ∧ ∀ i, i < len → ¬ 255 < cv A (o + i)
def E (a : Addr) (D : Cell) (fV fC : Field) (A : Cell) (o len : Nat) (r : Option Value) (s u : State) : Prop := Got a D fV fC A o len r s u
/-- len > 0, no char of the range above 255: a Latin-1 String of their low bytes -/
theorem law (l : Launch) (a : Addr) (D : Cell) (fV fC : Field) (b : Addr) (A : Cell) (z : Int32) (o len : Nat) : Law l yN 5 4 2 35 yB 6 none site (P a D fV fC b A z o len) (E a D fV fC A o len) [⟨a, fC.slot⟩, ⟨a, fV.slot⟩] 1 len := by
  refine Law.of_walk (plainFor_of_name (by decide +kernel)) (by decide +kernel) (by decide +kernel) (by decide) (fun _ _ h => by rw [h.1]; rfl) (fun _ U U' hal hh h => ⟨h.1, h.2.1.mv hal hh, h.2.2.1.al hal, h.2.2.2.1.al hal, h.2.2.2.2.1.mv hal hh, h.2.2.2.2.2.1.there hal hh, h.2.2.2.2.2.2⟩) (fun r U U' V V' h1 hal h2 h => Got.mv r U U' V V' h1 hal h2 h) ?_
  intro p e s m args below meth c s₁ X0 hexec hbytes hml hret hlk hnm hown hh0 W hP
  obtain ⟨rfl, hB, f1, f2, hA, s1, hz, l0, l1, l2, hp⟩ := hP
  have a31 := hA.1.2.2.2
  have c1 : Steps p.tables e below (s₁.setTop (entryFrame m #[.ref a, .ref b, .int (Int32.ofNat o), .int (Int32.ofNat len), .null] 6)) (s₁.setTop (mkF m 0 #[.val (.ref a), .val (.ref b), .val (.int (Int32.ofNat o)), .val (.int (Int32.ofNat len)), .val .null, .unset] [])) := entry rfl
  have c2 : Steps p.tables e below (s₁.setTop (entryFrame m #[.ref a, .ref b, .int (Int32.ofNat o), .int (Int32.ofNat len), .null] 6)) (s₁.setTop (mkF m 1 #[.val (.ref a), .val (.ref b), .val (.int (Int32.ofNat o)), .val (.int (Int32.ofNat len)), .val .null, .unset] [.ref a])) := c1.trans (by
    refine XS.aloadN X0.here hexec rfl (hb hbytes d0) rfl rfl ?_
    exact Steps.refl _)
  obtain ⟨T3, X3, q3, st3⟩ := X0.oinit hexec hown (wks W (objW "java/lang/String" 1)) (g := (mkF m 1 #[.val (.ref a), .val (.ref b), .val (.int (Int32.ofNat o)), .val (.int (Int32.ofNat len)), .val .null, .unset] [.ref a])) rfl (by rw [hml]; rfl) (rest := []) rfl (hb hbytes d1) (W := 0) (by show 2 * 0 + 0 ≤ _; decide) (Nat.le_of_ble_eq_true rfl) (Nat.le_of_ble_eq_true rfl)
  have hh3 := q3.trans hh0
  have c4 : Steps p.tables e below (s₁.setTop (entryFrame m #[.ref a, .ref b, .int (Int32.ofNat o), .int (Int32.ofNat len), .null] 6)) (T3.setTop (mkF m 27 #[.val (.ref a), .val (.ref b), .val (.int (Int32.ofNat o)), .val (.int (Int32.ofNat len)), .val .null, .unset] [])) := (c2.trans (st3 _ (Steps.refl _))).trans (by
    refine XS.iloadN X3.here hexec rfl (hb hbytes d4) rfl ?_
    refine XS.ifYes X3.here hexec rfl (pc0 := 5) rfl (hb hbytes d5) rfl (i0_ne_t (nz32 (by omega) l0)) (by decide) rfl ?_
    exact Steps.refl _)
  obtain ⟨T5, X5, q5, st5⟩ := X3.sget hexec hown (wk W (.fieldLink "java/lang/String" 38 "java/lang/String" "COMPACT_STRINGS" "Z")) s1 (fun _ _ h => by rw [hh3]; exact h) (g := (mkF m 27 #[.val (.ref a), .val (.ref b), .val (.int (Int32.ofNat o)), .val (.int (Int32.ofNat len)), .val .null, .unset] [])) rfl (hb hbytes d27)
  have hh5 := q5.trans hh3
  have c6 : Steps p.tables e below (s₁.setTop (entryFrame m #[.ref a, .ref b, .int (Int32.ofNat o), .int (Int32.ofNat len), .null] 6)) (T5.setTop (mkF m 30 #[.val (.ref a), .val (.ref b), .val (.int (Int32.ofNat o)), .val (.int (Int32.ofNat len)), .val .null, .unset] [.int z])) := c4.trans (st5 _ (Steps.refl _))
  have c7 : Steps p.tables e below (s₁.setTop (entryFrame m #[.ref a, .ref b, .int (Int32.ofNat o), .int (Int32.ofNat len), .null] 6)) (T5.setTop (mkF m 36 #[.val (.ref a), .val (.ref b), .val (.int (Int32.ofNat o)), .val (.int (Int32.ofNat len)), .val .null, .unset] [.int (Int32.ofNat len), .int (Int32.ofNat o), .ref b])) := c6.trans (by
    refine XS.ifNo X5.here hexec rfl (hb hbytes d30) rfl (i0_eq_f hz) ?_
    refine XS.aloadN X5.here hexec rfl (hb hbytes d33) rfl rfl ?_
    refine XS.iloadN X5.here hexec rfl (hb hbytes d34) rfl ?_
    refine XS.iloadN X5.here hexec rfl (hb hbytes d35) rfl ?_
    exact Steps.refl _)
  obtain ⟨v8, T8, X8, E8, g8⟩ := X5.callS hexec (Cmp3.law l b A o len) hown (wks W (staticW "java/lang/String" 177 Cmp3.yN)) (wk W Cmp3.tab) (W := 0) (Nat.le_of_ble_eq_true rfl) (Nat.le_of_ble_eq_true rfl) (Nat.le_refl _) (by show 0 + len ≤ len; omega) (g := (mkF m 36 #[.val (.ref a), .val (.ref b), .val (.int (Int32.ofNat o)), .val (.int (Int32.ofNat len)), .val .null, .unset] [.int (Int32.ofNat len), .int (Int32.ofNat o), .ref b])) rfl (by rw [hml]; rfl) c7 (argsL := [.ref b, .int (Int32.ofNat o), .int (Int32.ofNat len)]) (rest := []) rfl rfl (by show 2 * 0 + 0 ≤ _; decide) (hb hbytes d36) (⟨rfl, hA.mv X5.warmed.alike hh5, l1, l2, hp⟩)
  obtain ⟨e8, z8⟩ := E8
  obtain ⟨rfl, N, n1, n2, n3, n4, n5, n6⟩ := NewArr.mv _ T5 s _ _ hh5.symm (Vm.Alike.refl _) rfl e8
  rw [hh5] at z8
  have hB1 := hB.keep X8.warmed.alike (n6 _ _ hB.1)
  have hne : s.heap.size ≠ a := (Nat.ne_of_lt (Array.getElem?_eq_some_iff.mp hB.1).1).symm
  have c9 : Steps p.tables e below (s₁.setTop (entryFrame m #[.ref a, .ref b, .int (Int32.ofNat o), .int (Int32.ofNat len), .null] 6)) (T8.setTop (mkF m 39 #[.val (.ref a), .val (.ref b), .val (.int (Int32.ofNat o)), .val (.int (Int32.ofNat len)), .val .null, .unset] [.ref s.heap.size])) := g8
  have c10 : Steps p.tables e below (s₁.setTop (entryFrame m #[.ref a, .ref b, .int (Int32.ofNat o), .int (Int32.ofNat len), .null] 6)) (T8.setTop (mkF m 45 #[.val (.ref a), .val (.ref b), .val (.int (Int32.ofNat o)), .val (.int (Int32.ofNat len)), .val .null, .val (.ref s.heap.size)] [.int (Int32.ofNat N.slots.size), .ref s.heap.size, .ref a])) := by
    have hc : Steps p.tables e below (s₁.setTop (entryFrame m #[.ref a, .ref b, .int (Int32.ofNat o), .int (Int32.ofNat len), .null] 6)) (T8.setTop (mkF m 45 #[.val (.ref a), .val (.ref b), .val (.int (Int32.ofNat o)), .val (.int (Int32.ofNat len)), .val .null, .val (.ref s.heap.size)] [.int (Int32.ofNat len), .ref s.heap.size, .ref a])) := c9.trans (by
      refine XS.astore X8.here hexec rfl (hb hbytes d39) rfl rfl rfl ?_
      refine XS.aloadN X8.here hexec rfl (hb hbytes d41) rfl rfl ?_
      refine XS.aload X8.here hexec rfl (hb hbytes d42) rfl rfl ?_
      refine XS.iloadN X8.here hexec rfl (hb hbytes d44) rfl ?_
      exact Steps.refl _)
    rw [n4]; exact hc
  obtain ⟨v11, T11, X11, E11, g11⟩ := X8.callS hexec (CodL.law l s.heap.size N) hown (wks W (staticW "java/lang/String" 47 CodL.yN)) (wk W CodL.tab) (W := 1) (Nat.le_of_ble_eq_true rfl) (Nat.le_of_ble_eq_true rfl) (Nat.le_refl _) (by show 0 + len + 0 ≤ len; omega) (g := (mkF m 45 #[.val (.ref a), .val (.ref b), .val (.int (Int32.ofNat o)), .val (.int (Int32.ofNat len)), .val .null, .val (.ref s.heap.size)] [.int (Int32.ofNat N.slots.size), .ref s.heap.size, .ref a])) rfl (by rw [hml]; rfl) c10 (argsL := [.ref s.heap.size, .int (Int32.ofNat N.slots.size)]) (rest := [.ref a]) rfl rfl (by show 2 * 0 + (1 + 0) ≤ _; decide) (hb hbytes d45) (⟨rfl, n1⟩)
  obtain ⟨rfl, q11⟩ := E11
  have hB11 := hB1.mv (X8.warmed.alike.symm.trans X11.warmed.alike) q11
  have c12 : Steps p.tables e below (s₁.setTop (entryFrame m #[.ref a, .ref b, .int (Int32.ofNat o), .int (Int32.ofNat len), .null] 6)) (T11.setTop (mkF m 48 #[.val (.ref a), .val (.ref b), .val (.int (Int32.ofNat o)), .val (.int (Int32.ofNat len)), .val .null, .val (.ref s.heap.size)] [.int 0, .ref a])) := g11
  obtain ⟨T13, X13, p13, bl13, sl13, st13⟩ := X11.finit hexec hown (wk W (.fieldLink "java/lang/String" 15 "java/lang/String" "coder" "B")) (Or.inr ⟨_, (wk W (.laysFinal "java/lang/String" "java/lang/String" "coder" "B"))⟩) (Or.inl ⟨rfl, hnm⟩) f2 (Or.inl rfl) hB11 (t := .byte) (by decide +kernel) rfl (g := (mkF m 48 #[.val (.ref a), .val (.ref b), .val (.int (Int32.ofNat o)), .val (.int (Int32.ofNat len)), .val .null, .val (.ref s.heap.size)] [.int 0, .ref a])) rfl (rest := []) rfl (hb hbytes d48)
  have c14 : Steps p.tables e below (s₁.setTop (entryFrame m #[.ref a, .ref b, .int (Int32.ofNat o), .int (Int32.ofNat len), .null] 6)) (T13.setTop (mkF m 54 #[.val (.ref a), .val (.ref b), .val (.int (Int32.ofNat o)), .val (.int (Int32.ofNat len)), .val .null, .val (.ref s.heap.size)] [.ref s.heap.size, .ref a])) := (c12.trans (st13 _ (Steps.refl _))).trans (by
    refine XS.aloadN X13.here hexec rfl (hb hbytes d51) rfl rfl ?_
    refine XS.aload X13.here hexec rfl (hb hbytes d52) rfl rfl ?_
    exact Steps.refl _)
  obtain ⟨T15, X15, p15, bl15, sl15, st15⟩ := X13.finit hexec hown (wk W (.fieldLink "java/lang/String" 9 "java/lang/String" "value" "[B")) (Or.inr ⟨_, (wk W (.laysFinal "java/lang/String" "java/lang/String" "value" "[B"))⟩) (Or.inl ⟨rfl, hnm⟩) f1 (Or.inl rfl) bl13 (t := (.array .byte)) (by decide +kernel) rfl (g := (mkF m 54 #[.val (.ref a), .val (.ref b), .val (.int (Int32.ofNat o)), .val (.int (Int32.ofNat len)), .val .null, .val (.ref s.heap.size)] [.ref s.heap.size, .ref a])) rfl (rest := []) rfl (hb hbytes d54)
  have c16 : Steps p.tables e below (s₁.setTop (entryFrame m #[.ref a, .ref b, .int (Int32.ofNat o), .int (Int32.ofNat len), .null] 6)) (T15.setTop (mkF m 57 #[.val (.ref a), .val (.ref b), .val (.int (Int32.ofNat o)), .val (.int (Int32.ofNat len)), .val .null, .val (.ref s.heap.size)] [])) := c14.trans (st15 _ (Steps.refl _))
  have ap := apart (Or.inr ⟨_, (wk W (.laysFinal "java/lang/String" "java/lang/String" "value" "[B"))⟩) (Or.inr ⟨_, (wk W (.laysFinal "java/lang/String" "java/lang/String" "coder" "B"))⟩) f1 f2 (t₁ := .array .byte) (t₂ := .byte) (by decide +kernel) (by decide +kernel) (by decide)
  have al := X8.warmed.alike.symm.trans X15.warmed.alike
  have n7 : T11.heap[s.heap.size]? = some N := by rw [q11]; exact n1.1
  exact ⟨T15, none, _, _, _, X15, by simp, rfl, by omega, (fun _ => rfl), ⟨rfl, _, N, bl15, ((Same.refl D _).set _ (by simp)).set _ (by simp), sl15, (Cell.slots_setSlot_ne _ ap).trans sl13, n1.keep al (p15.other hne (p13.other hne n7)), n2, by rw [al.findClass]; exact n3, n4, n5, fun y c h1 h2 => p15.other h1 (p13.other h1 (by rw [q11]; exact n6 y c h2)), by rw [p15.2.2, p13.2.2, q11]; exact z8⟩, fun fs hl => c16.trans (X15.returnOut hexec hret (hb hbytes d57) hl)⟩
end New4
namespace New1
def yN : MethodName := ⟨"java/lang/String", "<init>", "([C)V"⟩
abbrev yB : ByteArray := jdk_42_method_3_code
theorem d0 : decode yB 0 = .ok (.aload_n 0, 1) := by decide +kernel
theorem d1 : decode yB 1 = .ok (.aload_n 1, 1) := by decide +kernel
theorem d2 : decode yB 2 = .ok (.iconst 0, 1) := by decide +kernel
theorem d3 : decode yB 3 = .ok (.aload_n 1, 1) := by decide +kernel
theorem d4 : decode yB 4 = .ok (.arraylength, 1) := by decide +kernel
theorem d5 : decode yB 5 = .ok (.aconst_null, 1) := by decide +kernel
theorem d6 : decode yB 6 = .ok (.invokespecial 27, 3) := by decide +kernel
theorem d9 : decode yB 9 = .ok (.return_, 1) := by decide +kernel
def site : List Cond := [New4.tab] ++ initW "java/lang/String" 27 New4.yN
def tab : Cond := tabOf yN yB 2 none site
def P (a : Addr) (D : Cell) (fV fC : Field) (b : Addr) (A : Cell) (z : Int32) (args : Array Value) (s : State) : Prop := args = #[.ref a, .ref b] ∧ Blank "java/lang/String" a D s ∧ Found "java/lang/String" "value" "[B" fV s ∧ Found "java/lang/String" "coder" "B" fC s ∧ Ch b A s ∧ StaticIs s "java/lang/String" "COMPACT_STRINGS" "Z" (.int z) ∧ ¬ z = 0 ∧ 0 < A.slots.size ∧ A.slots.size ≤ 536870912 ∧ ∀ i, i < A.slots.size → ¬ 255 < cv A i
def E (a : Addr) (D : Cell) (fV fC : Field) (A : Cell) (r : Option Value) (s u : State) : Prop := Got a D fV fC A 0 A.slots.size r s u
/-- new String(chars), not empty, no char above 255: a Latin-1 String of their low bytes -/
theorem law (l : Launch) (a : Addr) (D : Cell) (fV fC : Field) (b : Addr) (A : Cell) (z : Int32) : Law l yN 2 1 3 52 yB 2 none site (P a D fV fC b A z) (E a D fV fC A) [⟨a, fC.slot⟩, ⟨a, fV.slot⟩] 1 A.slots.size := by
  refine Law.of_walk (plainFor_of_name (by decide +kernel)) (by decide +kernel) (by decide +kernel) (by decide) (fun _ _ h => by rw [h.1]; rfl) (fun _ U U' hal hh h => ⟨h.1, h.2.1.mv hal hh, h.2.2.1.al hal, h.2.2.2.1.al hal, h.2.2.2.2.1.mv hal hh, h.2.2.2.2.2.1.there hal hh, h.2.2.2.2.2.2⟩) (fun r U U' V V' h1 hal h2 h => Got.mv r U U' V V' h1 hal h2 h) ?_
  intro p e s m args below meth c s₁ X0 hexec hbytes hml hret hlk hnm hown hh0 W hP
  obtain ⟨rfl, hB, f1, f2, hA, s1, hz, l0, l2, hp⟩ := hP
  have c1 : Steps p.tables e below (s₁.setTop (entryFrame m #[.ref a, .ref b] 2)) (s₁.setTop (mkF m 0 #[.val (.ref a), .val (.ref b)] [])) := entry rfl
  have c2 : Steps p.tables e below (s₁.setTop (entryFrame m #[.ref a, .ref b] 2)) (s₁.setTop (mkF m 6 #[.val (.ref a), .val (.ref b)] [.null, .int (Int32.ofNat A.slots.size), .int 0, .ref b, .ref a])) := c1.trans (by
    refine XS.aloadN X0.here hexec rfl (hb hbytes d0) rfl rfl ?_
    refine XS.aloadN X0.here hexec rfl (hb hbytes d1) rfl rfl ?_
    refine iconstV X0.here hexec rfl 0 (hb hbytes d2) (by decide) ?_
    refine XS.aloadN X0.here hexec rfl (hb hbytes d3) rfl rfl ?_
    refine X0.alen hexec (hA.1.mv X0.warmed.alike hh0) rfl rfl (hb hbytes d4) ?_
    refine XS.aconstNull X0.here hexec rfl (hb hbytes d5) ?_
    exact Steps.refl _)
  obtain ⟨v3, T3, X3, E3, g3⟩ := X0.callN hexec (New4.law l a D fV fC b A z 0 A.slots.size) rfl hown (wks W (initW "java/lang/String" 27 New4.yN)) (W New4.tab (by simp only [site, List.mem_cons, List.mem_append, true_or, or_true])) (W := 0) (Nat.le_of_ble_eq_true rfl) (Nat.le_of_ble_eq_true rfl) (Nat.le_refl _) (by show 0 + A.slots.size ≤ A.slots.size; omega) (g := (mkF m 6 #[.val (.ref a), .val (.ref b)] [.null, .int (Int32.ofNat A.slots.size), .int (Int32.ofNat 0), .ref b, .ref a])) rfl (by rw [hml]; rfl) c2 (argsL := [.ref b, .int (Int32.ofNat 0), .int (Int32.ofNat A.slots.size), .null]) (rest := []) rfl rfl (by show 2 * 0 + 0 ≤ _; decide) (hb hbytes d6) (⟨rfl, hB.mv X0.warmed.alike hh0, f1.al X0.warmed.alike, f2.al X0.warmed.alike, hA.mv X0.warmed.alike hh0, s1.there X0.warmed.alike hh0, hz, l0, by omega, l2, fun i hi => by rw [Nat.zero_add]; exact hp i hi⟩)
  have e0 := Got.mv _ s₁ s _ _ hh0.symm (Vm.Alike.refl _) rfl E3
  obtain rfl := e0.1
  have c4 : Steps p.tables e below (s₁.setTop (entryFrame m #[.ref a, .ref b] 2)) (T3.setTop (mkF m 9 #[.val (.ref a), .val (.ref b)] [])) := g3
  exact ⟨T3, none, _, _, _, X3, by simp, rfl, by omega, (fun _ => rfl), e0, fun fs hl => c4.trans (X3.returnOut hexec hret (hb hbytes d9) hl)⟩
theorem pays {l : Launch} {R : Room} {p : Program} {e : Env} {below : List Frame} {s : State} {sargs : Array Value} {len W : Nat} (a : Addr) (D : Cell) (fV fC : Field) (b : Addr) (A : Cell) (z : Int32) (htab : tab.before sargs s = true) (hfr : 4 ≤ R.frames) (hlo : W + 65 ≤ R.locals) :
    Back l R p e below s sargs yN len W (fun A₁ a₁ => A₁.cells + 1 ≤ R.cells ∧ A₁.slots + A.slots.size ≤ R.slots ∧ P a D fV fC b A z a₁ A₁.U) (fun A₁ _ v₁ B₁ => E a D fV fC A v₁ A₁.U B₁.U ∧ B₁.locs = A₁.locs ++ [⟨a, fC.slot⟩, ⟨a, fV.slot⟩] ∧ B₁.cells = A₁.cells + 1 ∧ B₁.slots = A₁.slots + A.slots.size) :=
  (law l a D fV fC b A z).pays htab hfr (by omega)
end New1
end StrChars
namespace StrChars.Road
open Jvm Sem ClassFile Op Lib Jvm.Stand Jvm.Free Jvm.Free.XT
open Jvm.Lib.Cold (StaticIs)
abbrev ST : String := "java/lang/String"
/-- every table word that New1's law asks, flat -/
abbrev words : List Jvm.Cond := [.code New1.yN New1.yB 2 none, .initialized ST, .methodLink ST 27 New4.yN, .instanceMethod New4.yN,
  .code New4.yN New4.yB 6 none, .fieldLink ST 38 ST "COMPACT_STRINGS" "Z", .laysFinal ST ST "value" "[B", .fieldLink ST 9 ST "value" "[B", .laysFinal ST ST "coder" "B", .fieldLink ST 15 ST "coder" "B",
  .methodLink ST 1 Lib.objectInit, .instanceMethod Lib.objectInit, .code Lib.objectInit ⟨#[0xb1]⟩ 1 none, .methodLink ST 177 Cmp3.yN, .static Cmp3.yN, .methodLink ST 47 CodL.yN, .static CodL.yN,
  .code Cmp3.yN Cmp3.yB 6 (some (.array .byte)), .initialized U16, .arrayClass .byte, .methodLink U16 115 Cmp5.yN, .static Cmp5.yN, .code Cmp5.yN Cmp5.yB 7 (some .int), .code CodL.yN CodL.yB 2 (some .byte)]
theorem tab_of {a : Array Value} {s : State} (h : ∀ w ∈ words, w.before a s = true) : New1.tab.before a s = true := by
  have h5 : Cmp5.tab.before a s = true := unparts (wk h (.code Cmp5.yN Cmp5.yB 7 (some .int))) (wks h (.initialized Cmp5.yN.cls :: Cmp5.site))
  have hc : CodL.tab.before a s = true := unparts (wk h (.code CodL.yN CodL.yB 2 (some .byte))) (wks h (.initialized CodL.yN.cls :: CodL.site))
  have q5 : ∀ w ∈ Cmp5.tab :: words, w.before a s = true := fun w hw => (List.mem_cons.mp hw).elim (fun e => e ▸ h5) (h w)
  have h3 : Cmp3.tab.before a s = true := unparts (wk q5 (.code Cmp3.yN Cmp3.yB 6 (some (.array .byte)))) (wks q5 (.initialized Cmp3.yN.cls :: Cmp3.site))
  have q3 : ∀ w ∈ Cmp3.tab :: CodL.tab :: words, w.before a s = true := fun w hw => (List.mem_cons.mp hw).elim (fun e => e ▸ h3) fun hw => (List.mem_cons.mp hw).elim (fun e => e ▸ hc) (h w)
  have h4 : New4.tab.before a s = true := unparts (wk q3 (.code New4.yN New4.yB 6 none)) (wks q3 (.initialized New4.yN.cls :: New4.site))
  have q4 : ∀ w ∈ New4.tab :: words, w.before a s = true := fun w hw => (List.mem_cons.mp hw).elim (fun e => e ▸ h4) (h w)
  exact unparts (wk q4 (.code New1.yN New1.yB 2 none)) (wks q4 (.initialized New1.yN.cls :: New1.site))
/-- the words ride from the start Z to the walk's own state -/
theorem moved {Z s : State} {a0 args : Array Value} (hZ : Z.Warmed39 s.vm) (hw : ∀ d ∈ words, d.before a0 Z = true) : ∀ d ∈ words, d.before args s = true := fun d hd => by
  have q := hw d hd
  have t : ∀ d ∈ words, d = .arrayClass .byte ∨ (d.onTables && d.keepsFace) = true := by decide +kernel
  rcases t d hd with rfl | t
  · exact RoadKit.mvA hZ q
  · exact RoadKit.mv hZ q t
/-- WHAT COMES BACK, over the tables of the start Z: h the heap at the call, h' behind it -/
def Q (Z : State) (x : Addr) (A : Cell) (h : Heap) (v : Option Value) (h' : Heap) (L : List Loc) : Prop := v = none ∧ (∀ y ∈ L, y.base = x) ∧ RoadKit.Keep h h' [x] ∧ h'.size = h.size + 1 ∧ RoadKit.Exa Z h' x ST ∧ RoadKit.Fld Z h' x ST "value" "[B" (.ref h.size) ∧ RoadKit.Fld Z h' x ST "coder" "B" (.int 0) ∧
  (∃ V : Cell, RoadKit.Arr Z h' h.size V .byte ∧ V.vm = .none ∧ Z.vm.findClass "[B" = some V.cls ∧ V.slots.size = A.slots.size ∧ ∀ j, j < A.slots.size → V.slots[j]? = some (.int (lo8 (cv A j)))) ∧
  ∀ (O n d : String) (w : Value), RoadKit.Fld Z h x O n d w → RoadKit.slotOf Z O n d ≠ RoadKit.slotOf Z ST "value" "[B" → RoadKit.slotOf Z O n d ≠ RoadKit.slotOf Z ST "coder" "B" → RoadKit.Fld Z h' x O n d w
/-- **new String(chars) AT A CALL, IN THE ROAD'S FORM**: for specialBack behind newO: x the fresh String, b the char[] with the cell A -/
theorem back {p : Program} {l : Launch} {e : Env} {R : Room} {s : State} {args : Array Value} {below : List Frame} {len W : Nat} {Z : State} {a0 : Array Value} {h : Heap} (hZ : Z.Warmed39 s.vm) (hw : ∀ d ∈ words, d.before a0 Z = true) {kI : Nat} (wi : (Jvm.Cond.instantiable ST kI).before a0 Z = true)
    {x b : Addr} {A : Cell} {z : Int32} {v0 c0 : Value} (E : RoadKit.Exa Z h x ST) (V : RoadKit.Fld Z h x ST "value" "[B" v0) (C : RoadKit.Fld Z h x ST "coder" "B" c0) (K : RoadKit.Arr Z h b A .char) (hty : Typed .char A) (S : RoadKit.Sta Z h ST "COMPACT_STRINGS" "Z" (.int z)) (hz : ¬ z = 0)
    (l0 : 0 < A.slots.size) (l2 : A.slots.size ≤ 536870912) (hp : ∀ i, i < A.slots.size → ¬ 255 < cv A i) (hfr : 4 ≤ R.frames) (hlo : W + 65 ≤ R.locals) :
    Back l R p e below s args New1.yN len W (fun P a => a = #[.ref x, .ref b] ∧ P.U.heap = h ∧ P.cells + 1 ≤ R.cells ∧ P.slots + A.slots.size ≤ R.slots)
      (fun P _ v B => ∃ L, Q Z x A h v B.U.heap L ∧ B.locs = P.locs ++ L ∧ B.cells = P.cells + 1 ∧ B.slots = P.slots + A.slots.size) := by
  intro m meth c P g ig mk a X hg hsize hdg hW hn hp'
  obtain ⟨rfl, rfl, r1, r2⟩ := hp'
  have al : Z.vm.Alike P.U.vm := hZ.alike.trans X.warmed.alike
  obtain ⟨D, cfV, kV, iV, fV, hD, gV, stV, knV, obV, asV, slV⟩ := id V
  obtain ⟨D', cfC, kC, iC, fC, hD', gC, stC, -, -, asC, slC⟩ := id C
  cases hD.symm.trans hD'
  obtain ⟨D2, kD, e1, e2, e3, e4, e5⟩ := id E
  cases hD.symm.trans e1
  obtain ⟨c2, k2, i1, i2, i3, -⟩ := Cond.instantiable_spec wi
  cases e2.symm.trans i1
  cases e3.symm.trans i2
  obtain ⟨kU, u1, u2⟩ := al.2.2 _ _ e3
  have hB : Blank ST x D P.U := ⟨hD, ⟨knV, fun q hq => by rw [hq] at obV; cases obV⟩, by rw [al.findClass]; exact e2, kU, u1, by rw [u2]; exact i3, by rw [u2]; exact e5 i3⟩
  have F1 : Found ST "value" "[B" fV P.U := ⟨SBG.found_only al ⟨cfV, kV, iV, gV⟩, stV⟩
  have F2 : Found ST "coder" "B" fC P.U := ⟨SBG.found_only al ⟨cfC, kC, iC, gC⟩, stC⟩
  have hA : Ch b A P.U := ⟨⟨K.1, State.isArrayOf_alike al K.2.1, K.2.2, by omega⟩, hty⟩
  have hS : StaticIs P.U ST "COMPACT_STRINGS" "Z" (.int z) := by
    obtain ⟨cfS, iS, kS, fS, st, cS, t1, t2, t3, t4, t5, t6, t7⟩ := S
    exact StaticIs.there (s := { Z with heap := P.U.heap }) ⟨cfS, iS, kS, fS, st, cS, t1, t2, t3, t4, t5, (fun q => by rw [q] at t6; cases t6), t7⟩ al rfl
  obtain ⟨v, B, X', ⟨⟨hv, E', V', q1, q2, q3, q4, q5, q6, q7, q8, q9, q10, q11⟩, hl, hc, hs⟩, st⟩ := New1.pays x D fV fC b A z (tab_of (moved hZ hw)) hfr hlo m meth c P g ig mk _ X hg hsize hdg hW hn ⟨r1, r2, rfl, hB, F1, F2, hA, hS, hz, l0, l2, hp⟩
  have al' : Z.vm.Alike B.U.vm := hZ.alike.trans X'.warmed.alike
  have hsz : E'.slots.size = D.slots.size := by
    obtain ⟨-, -, -, kB, w1, w2, w3⟩ := q1
    obtain ⟨kB', y1, y2⟩ := al'.2.2 _ _ e3
    rw [q2.2.1] at w1
    cases w1.symm.trans y1
    rw [w3, e5 i3, y2]
  refine ⟨v, B, X', ⟨_, ⟨hv, ?_, ⟨by omega, fun y cy hy hn' => q10 y cy (by simpa using hn') hy, fun y cy hy => ?_⟩, q11, ⟨E', _, q1.1, by rw [q2.2.1]; exact e2, by rw [q2.2.1]; exact e3, by rw [q2.1]; exact obV, fun _ => by rw [hsz]; exact e5 i3⟩,
    ⟨E', cfV, kV, iV, fV, q1.1, gV, stV, by rw [q2.1]; exact knV, by rw [q2.1]; exact obV, by rw [q2.2.1]; exact asV, q3⟩, ⟨E', cfC, kC, iC, fC, q1.1, gC, stC, by rw [q2.1]; exact knV, by rw [q2.1]; exact obV, by rw [q2.2.1]; exact asC, q4⟩,
    ⟨V', ⟨q5.1, State.isArrayOf_alike al'.symm q5.2.1, q5.2.2.1⟩, q6, by rw [← al'.findClass]; exact q7, q8, fun j hj => by have := q9 j hj; rwa [Nat.zero_add] at this⟩, fun O n d w F n1 n2 => ?_⟩, hl, hc, hs⟩, st⟩
  · intro y hy
    simp only [List.mem_cons, List.not_mem_nil, or_false] at hy
    rcases hy with rfl | rfl <;> rfl
  · by_cases q : y = x
    · subst q
      cases hD.symm.trans hy
      exact ⟨E', q1.1, q2.2.1, q2.1, hsz⟩
    · exact ⟨cy, q10 y cy q hy, rfl, rfl, rfl⟩
  · obtain ⟨D3, cf, k, i, f, g1, g2, g3, g4, g5, g6, g7⟩ := F
    cases hD.symm.trans g1
    simp only [RoadKit.slotOf, g2, gV, gC, Option.map_some, Option.getD_some] at n1 n2
    exact ⟨E', cf, k, i, f, q1.1, g2, g3, by rw [q2.1]; exact g4, by rw [q2.1]; exact g5, by rw [q2.2.1]; exact g6, by rw [q2.2.2 f.slot (by simp [n1, n2])]; exact g7⟩
end StrChars.Road
namespace StrChars.Road
open Jvm Sem ClassFile Op Lib Jvm.Stand Jvm.Free Jvm.Free.XT
/-- WHAT COMES BACK, the byte[] as a list of values -/
def QA (Z : State) (x : Addr) (zn : Int32) (cs : List Int32) (h : Heap) (v : Option Value) (h' : Heap) (L : List Loc) : Prop := v = none ∧ (∀ y ∈ L, y.base = x) ∧ RoadKit.Keep h h' [x] ∧ h'.size = h.size + 1 ∧ RoadKit.Exa Z h' x ST ∧ RoadKit.Fld Z h' x ST "value" "[B" (.ref h.size) ∧ RoadKit.Fld Z h' x ST "coder" "B" (.int 0) ∧
  (∃ kb, Z.vm.findClass "[B" = some kb ∧ RoadKit.Arv Z h' h.size kb .byte zn (cs.map fun c => .int (lo8 c)) (.int 0)) ∧
  ∀ (O n d : String) (w : Value), RoadKit.Fld Z h x O n d w → RoadKit.slotOf Z O n d ≠ RoadKit.slotOf Z ST "value" "[B" → RoadKit.slotOf Z O n d ≠ RoadKit.slotOf Z ST "coder" "B" → RoadKit.Fld Z h' x O n d w
/-- **new String(chars) AT A CALL, THE ARRAYS AS LISTS**: the char[] at b holds cs, not empty, no char above 255 -/
theorem backArv {p : Program} {l : Launch} {e : Env} {R : Room} {s : State} {args : Array Value} {below : List Frame} {len W : Nat} {Z : State} {a0 : Array Value} {h : Heap} (hZ : Z.Warmed39 s.vm) (hw : ∀ d ∈ words, d.before a0 Z = true) {kI : Nat} (wi : (Jvm.Cond.instantiable ST kI).before a0 Z = true)
    {x b : Addr} {k : ClassId} {zn z : Int32} {cs : List Int32} {dv v0 c0 : Value} (E : RoadKit.Exa Z h x ST) (V : RoadKit.Fld Z h x ST "value" "[B" v0) (C : RoadKit.Fld Z h x ST "coder" "B" c0) (K : RoadKit.Arv Z h b k .char zn (cs.map Value.int) dv) (S : RoadKit.Sta Z h ST "COMPACT_STRINGS" "Z" (.int z)) (hz : ¬ z = 0)
    (hlen : zn.toNatClampNeg = cs.length) (h0 : 0 < cs.length) (hbig : cs.length ≤ 536870912) (hall : ∀ c ∈ cs, ¬ 255 < c) (hfr : 4 ≤ R.frames) (hlo : W + 65 ≤ R.locals) :
    Back l R p e below s args New1.yN len W (fun P a => a = #[.ref x, .ref b] ∧ P.U.heap = h ∧ P.cells + 1 ≤ R.cells ∧ P.slots + cs.length ≤ R.slots)
      (fun P _ v B => ∃ L, QA Z x zn cs h v B.U.heap L ∧ B.locs = P.locs ++ L ∧ B.cells = P.cells + 1 ∧ B.slots = P.slots + cs.length) := by
  obtain ⟨A, K1, K2, K3, K4, K5, K6⟩ := K
  have e : A.slots.size = cs.length := K3.trans hlen
  have hat : ∀ (i : Nat) (hi : i < cs.length), A.slots[i]? = some (.int cs[i]) := fun i hi => by rw [K5 i (by omega)]; simp [List.getD_eq_getElem?_getD, hi]
  have hcv : ∀ (i : Nat) (hi : i < cs.length), cv A i = cs[i] := fun i hi => by unfold cv; rw [hat i hi]
  have hty : Typed .char A := fun i v hv => by
    have hi : i < A.slots.size := (Array.getElem?_eq_some_iff.mp hv).1
    have q := K5 i hi
    rw [hv] at q
    rw [Option.some.inj q]
    exact K6 i hi
  refine Back.mono (back hZ hw wi E V C K1 hty S hz (by omega) (by omega) (fun i hi => by rw [hcv i (by omega)]; exact hall _ (List.getElem_mem _)) hfr hlo) (fun P a hp => ⟨hp.1, hp.2.1, hp.2.2.1, by rw [e]; exact hp.2.2.2⟩) (fun P a v B hp hq => ?_)
  obtain ⟨L, ⟨q1, q2, q3, q4, q5, q6, q7, ⟨V', v1, v2, v3, v4, v5⟩, q9⟩, hl, hc, hs⟩ := hq
  refine ⟨L, ⟨q1, q2, q3, q4, q5, q6, q7, ⟨V'.cls, v3, V', v1, rfl, by rw [v4, e, hlen], K4, fun i hi => ?_, fun i hi => ?_⟩, q9⟩, hl, hc, by rw [hs, e]⟩
  · have hi' : i < cs.length := by omega
    rw [v5 i (by omega), hcv i hi']; simp [List.getD_eq_getElem?_getD, hi']
  · have hi' : i < cs.length := by omega
    simp only [List.getD_eq_getElem?_getD, List.getElem?_map, List.getElem?_eq_getElem hi', Option.map_some, Option.getD_some]
    exact fits_lo8 _
end StrChars.Road
namespace StrChars.Road
open Jvm Sem ClassFile Op Lib Jvm.Stand Jvm.Free Jvm.Free.XT
/-- WHAT COMES BACK, in the writer's own shape -/
def QV (Z : State) (x : Addr) (N : Int32) (bs : List Int32) (h : Heap) (n0 : Nat) (v : Option Value) (h' : Heap) (L : List Loc) : Prop := v = none ∧ RoadKit.Fr n0 L ∧ RoadKit.Keep h h' [x] ∧ RoadKit.Exa Z h' x ST ∧ RoadKit.Fld Z h' x ST "coder" "B" (.int 0) ∧
  ∃ (t : Addr) (kb : ClassId), n0 ≤ t ∧ h.size ≤ t ∧ ¬ t = x ∧ RoadKit.Fld Z h' x ST "value" "[B" (.ref t) ∧ RoadKit.Arv Z h' t kb .byte N (bs.map Value.int) (.int 0)
/-- **new String(chars) AT A CALL, FOR THE WRITER**: a char[] of n known ints, each 0 to 255 -/
theorem backV {p : Program} {l : Launch} {e : Env} {R : Room} {s : State} {args : Array Value} {below : List Frame} {len W : Nat} {Z : State} {a0 : Array Value} {h : Heap} (hZ : Z.Warmed39 s.vm) (hw : ∀ d ∈ words, d.before a0 Z = true) {kI : Nat} (wi : (Jvm.Cond.instantiable ST kI).before a0 Z = true)
    {x b : Addr} {kC : ClassId} {cs bs : List Int32} {d v0 c0 : Value} {z N : Int32} {n n0 : Nat} (hx0 : n0 ≤ x) (hh0 : n0 ≤ h.size) (E : RoadKit.Exa Z h x ST) (V : RoadKit.Fld Z h x ST "value" "[B" v0) (C : RoadKit.Fld Z h x ST "coder" "B" c0) (K : RoadKit.Arv Z h b kC .char N (cs.map Value.int) d) (S : RoadKit.Sta Z h ST "COMPACT_STRINGS" "Z" (.int z)) (hz : ¬ z = 0)
    (hn : cs.length = n) (hN : N = Int32.ofNat n) (l0 : 0 < n) (l2 : n ≤ 4000) (hp : ∀ c ∈ cs, ¬ c < 0 ∧ ¬ (255 : Int32) < c) (hb : bs = cs.map (fun c => c.toInt8.toInt32)) (hfr : 4 ≤ R.frames) (hlo : W + 65 ≤ R.locals) :
    Back l R p e below s args (⟨"java/lang/String", "<init>", "([C)V"⟩ : MethodName) len W (fun P a => a = #[.ref x, .ref b] ∧ P.U.heap = h ∧ P.cells + 1 ≤ R.cells ∧ P.slots + n ≤ R.slots)
      (fun P _ v B => ∃ L, QV Z x N bs h n0 v B.U.heap L ∧ B.locs = P.locs ++ L ∧ B.cells = P.cells + 1 ∧ B.slots = P.slots + n) := by
  subst hn hN hb
  refine Back.mono (backArv hZ hw wi E V C K S hz (n32 (by omega)) l0 (by omega) (fun c hc => (hp c hc).2) hfr hlo) (fun P a hp => hp) (fun P a v B hp hq => ?_)
  obtain ⟨L, ⟨q1, q2, q3, q4, q5, q6, q7, ⟨kb, v1, v2⟩, q9⟩, hl, hc, hs⟩ := hq
  exact ⟨L, ⟨q1, fun y hy => by rw [q2 y hy]; exact hx0, q3, q5, q7, h.size, kb, hh0, Nat.le_refl _, Nat.ne_of_gt E.lt, q6, by rw [List.map_map]; exact v2⟩, hl, hc, hs⟩
end StrChars.Road
namespace StrChars
open Jvm Sem ClassFile Op Lib Jvm.Stand Jvm.Free.XT Jvm.Free.ALB Jvm.Free.JM Jvm.Free
open Jvm.Lib.Cold (StaticIs)
def hi8 (x : Int32) : Int32 := lo8 (x >>> ((8 : Int32) &&& 31))
/-- what StringUTF16.getChar makes of two bytes -/
def pairCh (u v : Int32) : Int32 := (((u &&& 255) <<< ((0 : Int32) &&& 31)) ||| ((v &&& 255) <<< ((8 : Int32) &&& 31))).toUInt32.toUInt16.toUInt32.toInt32
theorem shr0 (c : Int32) : c >>> ((0 : Int32) &&& 31) = c := by
  have e : ((0 : Int32) &&& 31) = 0 := by decide
  rw [e]
  apply Int32.toBitVec_inj.mp
  rw [Int32.toBitVec_shiftRight]
  have e1 : ((0 : Int32).toBitVec.smod 32) = 0#32 := by decide
  rw [e1, BitVec.sshiftRight_eq']
  exact BitVec.sshiftRight_zero
theorem lo8_and (x : Int32) : (lo8 x &&& 255).toBitVec.toNat = x.toBitVec.toNat % 256 := by
  have h : (lo8 x).toBitVec = (x.toBitVec.signExtend 8).signExtend 32 := by rw [lo8, Int8.toBitVec_toInt32, Int32.toBitVec_toInt8]
  rw [Int32.toBitVec_and, BitVec.toNat_and, h]
  have e : ((x.toBitVec.signExtend 8).signExtend 32).toNat % 256 = x.toBitVec.toNat % 256 := by
    rw [BitVec.toNat_signExtend]
    have hlt := x.toBitVec.isLt
    simp only [BitVec.toNat_setWidth, BitVec.toNat_signExtend]
    split <;> split <;> omega
  rw [← e]
  exact Nat.and_two_pow_sub_one_eq_mod _ 8
theorem pair_says {c : Int32} (h0 : ¬ c < 0) (h1 : ¬ 65535 < c) : pairCh (lo8 c) (hi8 c) = c := by
  rw [Int32.lt_iff_toInt_lt] at h0 h1
  have e0 : (0 : Int32).toInt = 0 := rfl
  have e1 : (65535 : Int32).toInt = 65535 := rfl
  have hc : c.toInt = c.toBitVec.toNat := by
    have := c.toBitVec.isLt
    have e : c.toInt = c.toBitVec.toInt := rfl
    rw [e] at h0 h1
    rw [e]
    rw [BitVec.toInt_eq_toNat_cond] at h0 h1 ⊢
    split at h0 <;> split <;> omega
  have hn : c.toBitVec.toNat < 65536 := by omega
  have a1 := lo8_and c
  have a2 : (hi8 c &&& 255).toBitVec.toNat = c.toBitVec.toNat / 256 := by
    rw [hi8, lo8_and]
    have e : ((8 : Int32) &&& 31) = 8 := by decide
    rw [e, Int32.toBitVec_shiftRight]
    have e2 : ((8 : Int32).toBitVec.smod 32) = 8#32 := by decide
    rw [e2, BitVec.sshiftRight_eq', BitVec.toNat_sshiftRight_of_msb_false (by rw [BitVec.msb_eq_false_iff_two_mul_lt]; omega)]
    show c.toBitVec.toNat >>> 8 % 256 = _
    rw [Nat.shiftRight_eq_div_pow]
    omega
  unfold pairCh
  apply Int32.toBitVec_inj.mp
  apply BitVec.eq_of_toNat_eq
  have f0 : ((0 : Int32) &&& 31) = 0 := by decide
  have f8 : ((8 : Int32) &&& 31) = 8 := by decide
  rw [f0, f8]
  have g : (((lo8 c &&& 255) <<< (0 : Int32)) ||| ((hi8 c &&& 255) <<< (8 : Int32))).toBitVec.toNat = c.toBitVec.toNat := by
    rw [Int32.toBitVec_or, Int32.toBitVec_shiftLeft, Int32.toBitVec_shiftLeft]
    have s0 : ((0 : Int32).toBitVec.smod 32) = 0#32 := by decide
    have s8 : ((8 : Int32).toBitVec.smod 32) = 8#32 := by decide
    rw [s0, s8, BitVec.toNat_or]
    simp only [BitVec.shiftLeft_eq', BitVec.toNat_shiftLeft, a1, a2]
    show (c.toBitVec.toNat % 256) <<< 0 % 2 ^ 32 ||| (c.toBitVec.toNat / 256) <<< 8 % 2 ^ 32 = _
    rw [Nat.shiftLeft_zero, Nat.mod_eq_of_lt (show c.toBitVec.toNat % 256 < 2 ^ 32 by omega), Nat.mod_eq_of_lt (show (c.toBitVec.toNat / 256) <<< 8 < 2 ^ 32 by rw [Nat.shiftLeft_eq]; omega), Nat.or_comm, ← Nat.shiftLeft_add_eq_or_of_lt (by omega), Nat.shiftLeft_eq]
    omega
  show BitVec.toNat (((((lo8 c &&& 255) <<< (0 : Int32)) ||| ((hi8 c &&& 255) <<< (8 : Int32))).toBitVec.setWidth 16).setWidth 32) = _
  rw [BitVec.toNat_setWidth, BitVec.toNat_setWidth, g]
  omega
end StrChars
namespace StrChars
open Jvm Sem ClassFile Op Lib Jvm.Stand Jvm.Free.XT Jvm.Free.ALB Jvm.Free.JM Jvm.Free
open Jvm.Lib.Cold (StaticIs)
theorem shr1 {n : Nat} (h : 2 * n < 2 ^ 31) : Int32.ofNat (2 * n) >>> ((1 : Int32) &&& 31) = Int32.ofNat n := by
  have e : ((1 : Int32) &&& 31) = 1 := by decide
  rw [e]
  apply Int32.toBitVec_inj.mp
  rw [Int32.toBitVec_shiftRight]
  have e1 : ((1 : Int32).toBitVec.smod 32) = 1#32 := by decide
  have hm : (BitVec.ofNat 32 (2 * n)).toNat = 2 * n := by rw [BitVec.toNat_ofNat, Nat.mod_eq_of_lt (by omega)]
  rw [e1, BitVec.sshiftRight_eq']
  apply BitVec.eq_of_toNat_eq
  show ((BitVec.ofNat 32 (2 * n)).sshiftRight 1).toNat = (BitVec.ofNat 32 n).toNat
  rw [BitVec.toNat_sshiftRight_of_msb_false (by rw [BitVec.msb_eq_false_iff_two_mul_lt, hm]; omega), hm, BitVec.toNat_ofNat, Nat.shiftRight_eq_div_pow]
  omega
/-- the array's cell V codes the n chars f 0 .. f (n - 1) by the coder cd, as the JDK does: coder 1 just where some char is above 255 -/
def Cod (cd : Int32) (n : Nat) (f : Nat → Int32) (V : Cell) : Prop := (cd = 0 ∧ V.slots.size = n ∧ ∀ j, j < n → V.slots[j]? = some (.int (lo8 (f j))) ∧ ¬ 255 < f j) ∨ (cd = 1 ∧ V.slots.size = 2 * n ∧ (∀ j, j < n → V.slots[2 * j]? = some (.int (lo8 (f j))) ∧ V.slots[2 * j + 1]? = some (.int (hi8 (f j)))) ∧ ∃ j, j < n ∧ 255 < f j)
theorem Cod.cd {cd : Int32} {n : Nat} {f : Nat → Int32} {V : Cell} (h : Cod cd n f V) : cd = 0 ∨ cd = 1 := h.imp (fun q => q.1) fun q => q.1
theorem Cod.len {cd : Int32} {n : Nat} {f : Nat → Int32} {V : Cell} (h : Cod cd n f V) (hs : V.slots.size < 2 ^ 31) : Int32.ofNat V.slots.size >>> (cd &&& 31) = Int32.ofNat n := by
  rcases h with ⟨rfl, h, -⟩ | ⟨rfl, h, -⟩
  · rw [shr0, h]
  · rw [h, shr1 (by omega)]
/-- **x is a String of the n chars f 0 .. f (n - 1)**, Latin-1 or UTF-16; its array at t has the cell V -/
def Txt (x t : Addr) (V : Cell) (cd : Int32) (n : Nat) (f : Nat → Int32) (U : State) : Prop := Exact "java/lang/String" x U ∧ Has x "java/lang/String" "value" "[B" (.ref t) U ∧ Has x "java/lang/String" "coder" "B" (.int cd) U ∧ XT.Arr .byte t V U ∧ Cod cd n f V ∧ ∀ j, j < n → ¬ f j < 0 ∧ ¬ 65535 < f j
theorem Txt.mv {x t : Addr} {V : Cell} {cd : Int32} {n : Nat} {f : Nat → Int32} {U U' : State} (h : Txt x t V cd n f U) (hal : U.vm.Alike U'.vm) (hh : U'.heap = U.heap) : Txt x t V cd n f U' := ⟨h.1.mv hal hh, h.2.1.mv hal hh, h.2.2.1.mv hal hh, h.2.2.2.1.mv hal hh, h.2.2.2.2⟩
namespace Cdr
def yN : MethodName := ⟨"java/lang/String", "coder", "()B"⟩
abbrev yB : ByteArray := jdk_42_method_152_code
theorem d0 : decode yB 0 = .ok (.getstatic 38, 3) := by decide +kernel
theorem d3 : decode yB 3 = .ok (.ifCond (.eq) 10, 3) := by decide +kernel
theorem d6 : decode yB 6 = .ok (.aload_n 0, 1) := by decide +kernel
theorem d7 : decode yB 7 = .ok (.getfield 15, 3) := by decide +kernel
theorem d10 : decode yB 10 = .ok (.goto 4, 3) := by decide +kernel
theorem d14 : decode yB 14 = .ok (.ireturn, 1) := by decide +kernel
def site : List Cond := [.fieldLink "java/lang/String" 38 "java/lang/String" "COMPACT_STRINGS" "Z", .fieldLink "java/lang/String" 15 "java/lang/String" "coder" "B"]
def tab : Cond := tabOf yN yB 1 (some .byte) site
def P (x : Addr) (cd z : Int32) (args : Array Value) (s : State) : Prop := args = #[.ref x] ∧ Has x "java/lang/String" "coder" "B" (.int cd) s ∧ (cd = 0 ∨ cd = 1) ∧ StaticIs s "java/lang/String" "COMPACT_STRINGS" "Z" (.int z) ∧ ¬ z = 0
def E (cd : Int32) (r : Option Value) (s u : State) : Prop := XT.PureE (some (.int cd)) r s u
theorem law (l : Launch) (x : Addr) (cd z : Int32) : Law l yN 1 0 0 0 yB 1 (some .byte) site (P x cd z) (E cd) [] 0 0 := by
  refine Law.of_walk (plainFor_of_name (by decide +kernel)) (by decide +kernel) (by decide +kernel) (by decide) (fun _ _ h => by rw [h.1]; rfl) (fun _ U U' hal hh h => ⟨h.1, h.2.1.mv hal hh, h.2.2.1, h.2.2.2.1.there hal hh, h.2.2.2.2⟩) (fun r U U' V V' h1 hal h2 h => XT.PureE.mv r U U' V V' h1 hal h2 h) ?_
  intro p e s m args below meth c s₁ X0 hexec hbytes hml hret hlk hnm hown hh0 W hP
  obtain ⟨rfl, hx, hc, s1, hz⟩ := hP
  have c1 : Steps p.tables e below (s₁.setTop (entryFrame m #[.ref x] 1)) (s₁.setTop (mkF m 0 #[.val (.ref x)] [])) := entry rfl
  obtain ⟨T2, X2, q2, st2⟩ := X0.sget hexec hown (wk W (.fieldLink "java/lang/String" 38 "java/lang/String" "COMPACT_STRINGS" "Z")) s1 (fun _ _ h => by rw [hh0]; exact h) (g := (mkF m 0 #[.val (.ref x)] [])) rfl (hb hbytes d0)
  have hh2 := q2.trans hh0
  have c3 : Steps p.tables e below (s₁.setTop (entryFrame m #[.ref x] 1)) (T2.setTop (mkF m 7 #[.val (.ref x)] [.ref x])) := (c1.trans (st2 _ (Steps.refl _))).trans (by
    refine XS.ifNo X2.here hexec rfl (hb hbytes d3) rfl (i0_eq_f hz) ?_
    refine XS.aloadN X2.here hexec rfl (hb hbytes d6) rfl rfl ?_
    exact Steps.refl _)
  obtain ⟨T4, X4, q4, st4⟩ := X2.hget hexec hown (wk W (.fieldLink "java/lang/String" 15 "java/lang/String" "coder" "B")) (hx.mv X2.warmed.alike hh2) (g := (mkF m 7 #[.val (.ref x)] [.ref x])) rfl (rest := []) rfl (hb hbytes d7)
  have c5 : Steps p.tables e below (s₁.setTop (entryFrame m #[.ref x] 1)) (T4.setTop (mkF m 14 #[.val (.ref x)] [.int cd])) := (c3.trans (st4 _ (Steps.refl _))).trans (by
    refine XS.goto X4.here hexec rfl (pc0 := 10) rfl (hb hbytes d10) (by decide) rfl ?_
    exact Steps.refl _)
  exact ⟨T4, some (.int cd), _, _, _, X4, rfl, rfl, rfl, (fun h => by cases h), ⟨rfl, q4.trans hh2⟩, fun fs hl => c5.trans (X4.ireturnOut hexec hret (by rcases hc with rfl | rfl <;> rfl) (Or.inr (Or.inr (Or.inl rfl))) (hb hbytes d14) hl)⟩
end Cdr
namespace Len
def yN : MethodName := ⟨"java/lang/String", "length", "()I"⟩
abbrev yB : ByteArray := jdk_42_method_54_code
theorem d0 : decode yB 0 = .ok (.aload_n 0, 1) := by decide +kernel
theorem d1 : decode yB 1 = .ok (.getfield 9, 3) := by decide +kernel
theorem d4 : decode yB 4 = .ok (.arraylength, 1) := by decide +kernel
theorem d5 : decode yB 5 = .ok (.aload_n 0, 1) := by decide +kernel
theorem d6 : decode yB 6 = .ok (.invokevirtual 335, 3) := by decide +kernel
theorem d9 : decode yB 9 = .ok (.ishr, 1) := by decide +kernel
theorem d10 : decode yB 10 = .ok (.ireturn, 1) := by decide +kernel
def site : List Cond := [.fieldLink "java/lang/String" 9 "java/lang/String" "value" "[B", Cdr.tab] ++ virtW "java/lang/String" 335 "java/lang/String" Cdr.yN Cdr.yN
def tab : Cond := tabOf yN yB 1 (some .int) site
def P (x t : Addr) (V : Cell) (cd : Int32) (n : Nat) (f : Nat → Int32) (z : Int32) (args : Array Value) (s : State) : Prop := args = #[.ref x] ∧ Txt x t V cd n f s ∧ StaticIs s "java/lang/String" "COMPACT_STRINGS" "Z" (.int z) ∧ ¬ z = 0
def E (n : Nat) (r : Option Value) (s u : State) : Prop := XT.PureE (some (.int (Int32.ofNat n))) r s u
/-- length() of a String of n chars, in either coding -/
theorem law (l : Launch) (x t : Addr) (V : Cell) (cd : Int32) (n : Nat) (f : Nat → Int32) (z : Int32) : Law l yN 1 0 1 13 yB 1 (some .int) site (P x t V cd n f z) (E n) [] 0 0 := by
  refine Law.of_walk (plainFor_of_name (by decide +kernel)) (by decide +kernel) (by decide +kernel) (by decide) (fun _ _ h => by rw [h.1]; rfl) (fun _ U U' hal hh h => ⟨h.1, h.2.1.mv hal hh, h.2.2.1.there hal hh, h.2.2.2⟩) (fun r U U' V V' h1 hal h2 h => XT.PureE.mv r U U' V V' h1 hal h2 h) ?_
  intro p e s m args below meth c s₁ X0 hexec hbytes hml hret hlk hnm hown hh0 W hP
  obtain ⟨rfl, hx, s1, hz⟩ := hP
  have v31 := hx.2.2.2.1.2.2.2
  have c1 : Steps p.tables e below (s₁.setTop (entryFrame m #[.ref x] 1)) (s₁.setTop (mkF m 1 #[.val (.ref x)] [.ref x])) := Steps.trans (entry rfl) (by
    show Steps p.tables e below (s₁.setTop (mkF m 0 #[.val (.ref x)] [])) _
    refine XS.aloadN X0.here hexec rfl (hb hbytes d0) rfl rfl ?_
    exact Steps.refl _)
  obtain ⟨T2, X2, q2, st2⟩ := X0.hget hexec hown (wk W (.fieldLink "java/lang/String" 9 "java/lang/String" "value" "[B")) (hx.mv X0.warmed.alike hh0).2.1 (g := (mkF m 1 #[.val (.ref x)] [.ref x])) rfl (rest := []) rfl (hb hbytes d1)
  have hh2 := q2.trans hh0
  have hx2 := hx.mv X2.warmed.alike hh2
  have c3 : Steps p.tables e below (s₁.setTop (entryFrame m #[.ref x] 1)) (T2.setTop (mkF m 6 #[.val (.ref x)] [.ref x, .int (Int32.ofNat V.slots.size)])) := (c1.trans (st2 _ (Steps.refl _))).trans (by
    refine X2.alen hexec hx2.2.2.2.1 rfl rfl (hb hbytes d4) ?_
    refine XS.aloadN X2.here hexec rfl (hb hbytes d5) rfl rfl ?_
    exact Steps.refl _)
  obtain ⟨v4, T4, X4, E4, g4⟩ := X2.callV hexec (Cdr.law l x cd z) hown (wks W (virtW "java/lang/String" 335 "java/lang/String" Cdr.yN Cdr.yN)) rfl (by decide) (wk W Cdr.tab) (W := 1) (Nat.le_of_ble_eq_true rfl) (Nat.le_of_ble_eq_true rfl) (Nat.le_refl _) (Nat.le_refl _) (hx2.1.fc X2.warmed.alike) hx2.1.is (g := (mkF m 6 #[.val (.ref x)] [.ref x, .int (Int32.ofNat V.slots.size)])) rfl (by rw [hml]; rfl) c3 (argsL := []) (rest := [.int (Int32.ofNat V.slots.size)]) rfl rfl (by show 2 * 0 + (1 + 0) ≤ _; decide) (hb hbytes d6) (⟨rfl, hx2.2.2.1, hx.2.2.2.2.1.cd, s1.there X2.warmed.alike hh2, hz⟩)
  obtain ⟨rfl, q4⟩ := E4
  have c5 : Steps p.tables e below (s₁.setTop (entryFrame m #[.ref x] 1)) (T4.setTop (mkF m 10 #[.val (.ref x)] [.int (Int32.ofNat V.slots.size >>> (cd &&& 31))])) := Steps.trans g4 (by
    refine ishr X4.here hexec rfl (hb hbytes d9) rfl ?_
    exact Steps.refl _)
  rw [hx.2.2.2.2.1.len v31] at c5
  exact ⟨T4, some (.int (Int32.ofNat n)), _, _, _, X4, rfl, rfl, rfl, (fun h => by cases h), ⟨rfl, q4.trans hh2⟩, fun fs hl => c5.trans (X4.ireturnOut hexec hret rfl (Or.inl rfl) (hb hbytes d10) hl)⟩
theorem pays {l : Launch} {R : Room} {p : Program} {e : Env} {below : List Frame} {s : State} {sargs : Array Value} {len W : Nat} (x t : Addr) (V : Cell) (cd : Int32) (n : Nat) (f : Nat → Int32) (z : Int32) (htab : tab.before sargs s = true) (hfr : 2 ≤ R.frames) (hlo : W + 25 ≤ R.locals) :
    Back l R p e below s sargs yN len W (fun A₁ a₁ => A₁.cells + 0 ≤ R.cells ∧ A₁.slots + 0 ≤ R.slots ∧ P x t V cd n f z a₁ A₁.U) (fun A₁ _ v₁ B₁ => E n v₁ A₁.U B₁.U ∧ B₁.locs = A₁.locs ++ [] ∧ B₁.cells = A₁.cells + 0 ∧ B₁.slots = A₁.slots + 0) :=
  (law l x t V cd n f z).pays htab hfr (by omega)
end Len
end StrChars
namespace StrChars.Road
open Jvm Sem ClassFile Op Lib Jvm.Stand Jvm.Free Jvm.Free.XT
open Jvm.Lib.Cold (StaticIs)
theorem consq {a : Array Value} {s : State} {c : Jvm.Cond} {L : List Jvm.Cond} (h0 : c.before a s = true) (h : ∀ w ∈ L, w.before a s = true) : ∀ w ∈ c :: L, w.before a s = true := fun w hw => (List.mem_cons.mp hw).elim (fun e => e ▸ h0) (h w)
/-- the words of String.length(), either coding -/
abbrev wordsLen : List Jvm.Cond := [.code Len.yN Len.yB 1 (some .int), .initialized ST, .fieldLink ST 9 ST "value" "[B", .fieldLink ST 38 ST "COMPACT_STRINGS" "Z", .fieldLink ST 15 ST "coder" "B", .code Cdr.yN Cdr.yB 1 (some .byte), .methodLink ST 335 Cdr.yN, .declares Cdr.yN, .selects ST Cdr.yN Cdr.yN, .instanceMethod Cdr.yN]
theorem tabLen_of {a : Array Value} {s : State} (h : ∀ w ∈ wordsLen, w.before a s = true) : Len.tab.before a s = true := by
  have hc : Cdr.tab.before a s = true := unparts (wk h (.code Cdr.yN Cdr.yB 1 (some .byte))) (wks h (.initialized Cdr.yN.cls :: Cdr.site))
  have q := consq hc h
  exact unparts (wk q (.code Len.yN Len.yB 1 (some .int))) (wks q (.initialized Len.yN.cls :: Len.site))
theorem movedLen {Z s : State} {a0 args : Array Value} (hZ : Z.Warmed39 s.vm) (hw : ∀ d ∈ wordsLen, d.before a0 Z = true) : ∀ d ∈ wordsLen, d.before args s = true := fun d hd => by
  have q := hw d hd
  have t : ∀ d ∈ wordsLen, d = .arrayClass .byte ∨ (d.onTables && d.keepsFace) = true := by decide +kernel
  rcases t d hd with rfl | t
  · exact RoadKit.mvA hZ q
  · exact RoadKit.mv hZ q t
/-- the bytes of the chars cs, low before high -/
def wideBytes : List Int32 → List Value
  | [] => []
  | c :: cs => .int (lo8 c) :: .int (hi8 c) :: wideBytes cs
theorem wide_lo (d : Value) : ∀ (cs : List Int32) (j : Nat), j < cs.length → (wideBytes cs).getD (2 * j) d = .int (lo8 (cs.getD j 0))
  | [], j, h => absurd h (Nat.not_lt_zero j)
  | c :: cs, 0, _ => rfl
  | c :: cs, j + 1, h => by
    have q := wide_lo d cs j (by simpa using h)
    rw [show 2 * (j + 1) = 2 * j + 1 + 1 from by omega]
    simpa [wideBytes] using q
theorem wide_hi (d : Value) : ∀ (cs : List Int32) (j : Nat), j < cs.length → (wideBytes cs).getD (2 * j + 1) d = .int (hi8 (cs.getD j 0))
  | [], j, h => absurd h (Nat.not_lt_zero j)
  | c :: cs, 0, _ => rfl
  | c :: cs, j + 1, h => by
    have q := wide_hi d cs j (by simpa using h)
    rw [show 2 * (j + 1) + 1 = 2 * j + 1 + 1 + 1 from by omega]
    simpa [wideBytes] using q
theorem low_at (d : Value) (cs : List Int32) (j : Nat) (h : j < cs.length) : (cs.map fun c => Value.int (lo8 c)).getD j d = .int (lo8 (cs.getD j 0)) := by
  simp [List.getD_eq_getElem?_getD, h]
/-- an array of N2 bytes vs codes the chars cs by the coder cd -/
def CodA (cs : List Int32) (cd N2 : Int32) (vs : List Value) : Prop := (cd = 0 ∧ N2 = Int32.ofNat cs.length ∧ vs = (cs.map fun c => Value.int (lo8 c)) ∧ ∀ c ∈ cs, ¬ 255 < c) ∨ (cd = 1 ∧ N2 = Int32.ofNat (2 * cs.length) ∧ vs = wideBytes cs ∧ ∃ c ∈ cs, 255 < c)
theorem CodA.cod {cs : List Int32} {cd N2 : Int32} {vs : List Value} {V : Cell} (h : CodA cs cd N2 vs) (hn : 2 * cs.length < 2 ^ 31) (hs : V.slots.size = N2.toNatClampNeg) (hv : RoadKit.Has V vs (.int 0)) : Cod cd cs.length (fun j => cs.getD j 0) V := by
  rcases h with ⟨rfl, rfl, rfl, h⟩ | ⟨rfl, rfl, rfl, c, hc, hw⟩
  · rw [n32 (by omega)] at hs
    exact Or.inl ⟨rfl, hs, fun j hj => ⟨by rw [hv j (by omega), low_at _ _ _ hj], by
      have e : cs.getD j 0 = cs[j] := by simp [List.getD_eq_getElem?_getD, hj]
      show ¬ 255 < cs.getD j 0
      rw [e]; exact h _ (List.getElem_mem _)⟩⟩
  · rw [n32 (by omega)] at hs
    obtain ⟨j, hj, rfl⟩ := List.getElem_of_mem hc
    exact Or.inr ⟨rfl, hs, fun j hj => ⟨by rw [hv _ (by omega), wide_lo _ _ _ hj], by rw [hv _ (by omega), wide_hi _ _ _ hj]⟩, j, hj, by
      have e : cs.getD j 0 = cs[j] := by simp [List.getD_eq_getElem?_getD, hj]
      show 255 < cs.getD j 0
      rw [e]; exact hw⟩
/-- an object of exactly java/lang/String, its two fields found: as the laws ask it -/
theorem strObj {Z U : State} {a0 : Array Value} {kI : Nat} (wi : (Jvm.Cond.instantiable ST kI).before a0 Z = true) (al : Z.vm.Alike U.vm) {x : Addr} {v0 c0 : Value} (E : RoadKit.Exa Z U.heap x ST) (V : RoadKit.Fld Z U.heap x ST "value" "[B" v0) (C : RoadKit.Fld Z U.heap x ST "coder" "B" c0) :
    ∃ (D : Cell) (fV fC : Field), Blank ST x D U ∧ Found ST "value" "[B" fV U ∧ Found ST "coder" "B" fC U ∧ D.slots[fV.slot]? = some v0 ∧ D.slots[fC.slot]? = some c0 ∧ RoadKit.slotOf Z ST "value" "[B" = fV.slot ∧ RoadKit.slotOf Z ST "coder" "B" = fC.slot := by
  obtain ⟨D, cfV, kV, iV, fV, hD, gV, stV, knV, obV, asV, slV⟩ := V
  obtain ⟨D', cfC, kC, iC, fC, hD', gC, stC, -, -, asC, slC⟩ := C
  cases hD.symm.trans hD'
  obtain ⟨D2, kD, e1, e2, e3, e4, e5⟩ := E
  cases hD.symm.trans e1
  obtain ⟨c2, k2, i1, i2, i3, -⟩ := Cond.instantiable_spec wi
  cases e2.symm.trans i1
  cases e3.symm.trans i2
  obtain ⟨kU, u1, u2⟩ := al.2.2 _ _ e3
  exact ⟨D, fV, fC, ⟨hD, ⟨knV, fun q hq => by rw [hq] at obV; cases obV⟩, by rw [al.findClass]; exact e2, kU, u1, by rw [u2]; exact i3, by rw [u2]; exact e5 i3⟩, ⟨SBG.found_only al ⟨cfV, kV, iV, gV⟩, stV⟩, ⟨SBG.found_only al ⟨cfC, kC, iC, gC⟩, stC⟩, slV, slC, by simp [RoadKit.slotOf, gV], by simp [RoadKit.slotOf, gC]⟩
theorem sta_is {Z U : State} (al : Z.vm.Alike U.vm) {C n d : String} {v : Value} (S : RoadKit.Sta Z U.heap C n d v) : StaticIs U C n d v := by
  obtain ⟨cfS, iS, kS, fS, st, cS, t1, t2, t3, t4, t5, t6, t7⟩ := S
  exact StaticIs.there (s := { Z with heap := U.heap }) ⟨cfS, iS, kS, fS, st, cS, t1, t2, t3, t4, t5, (fun q => by rw [q] at t6; cases t6), t7⟩ al rfl
/-- **length() OF SUCH A STRING** -/
theorem lenW {p : Program} {l : Launch} {e : Env} {R : Room} {s : State} {args : Array Value} {below : List Frame} {len W : Nat} {Z : State} {a0 : Array Value} {h : Heap} (hZ : Z.Warmed39 s.vm) (hw : ∀ d ∈ wordsLen, d.before a0 Z = true) {kI : Nat} (wi : (Jvm.Cond.instantiable ST kI).before a0 Z = true)
    {x t : Addr} {kb : ClassId} {cs : List Int32} {cd N2 z : Int32} {vs : List Value} (E : RoadKit.Exa Z h x ST) (V : RoadKit.Fld Z h x ST "value" "[B" (.ref t)) (C : RoadKit.Fld Z h x ST "coder" "B" (.int cd)) (K : RoadKit.Arv Z h t kb .byte N2 vs (.int 0)) (hc : CodA cs cd N2 vs) (hb : ∀ c ∈ cs, ¬ c < 0 ∧ ¬ (65535 : Int32) < c)
    (S : RoadKit.Sta Z h ST "COMPACT_STRINGS" "Z" (.int z)) (hz : ¬ z = 0) (l2 : cs.length ≤ 4000) (hfr : 2 ≤ R.frames) (hlo : W + 25 ≤ R.locals) :
    Back l R p e below s args (⟨"java/lang/String", "length", "()I"⟩ : MethodName) len W (fun P a => a = #[.ref x] ∧ P.U.heap = h ∧ P.cells + 0 ≤ R.cells ∧ P.slots + 0 ≤ R.slots)
      (fun P _ v B => ∃ L, (v = some (.int (Int32.ofNat cs.length)) ∧ L = [] ∧ B.U.heap = h) ∧ B.locs = P.locs ++ L ∧ B.cells = P.cells + 0 ∧ B.slots = P.slots + 0) := by
  obtain ⟨A, K1, K2, K3, K4, K5, K6⟩ := K
  have hcod := hc.cod (by omega) K3 K5
  intro m meth c P g ig mk a X hg hsize hdg hW hn hp'
  obtain ⟨rfl, rfl, r1, r2⟩ := hp'
  have al : Z.vm.Alike P.U.vm := hZ.alike.trans X.warmed.alike
  obtain ⟨D, fV, fC, hB, F1, F2, g1, g2, -, -⟩ := strObj wi al E V C
  have hx : Txt x t A cd cs.length (fun j => cs.getD j 0) P.U := ⟨⟨_, hB.2.2.1, D, hB.1, rfl, by cases q : D.vm <;> first | rfl | exact absurd q (hB.2.1.2 _)⟩, Has.of hB F1 g1, Has.of hB F2 g2, ⟨K1.1, State.isArrayOf_alike al K1.2.1, K1.2.2, by rcases hcod with ⟨-, q, -⟩ | ⟨-, q, -⟩ <;> omega⟩, hcod, fun j hj => by
    have e : cs.getD j 0 = cs[j] := by simp [List.getD_eq_getElem?_getD, hj]
    show ¬ cs.getD j 0 < 0 ∧ ¬ 65535 < cs.getD j 0
    rw [e]; exact hb _ (List.getElem_mem _)⟩
  obtain ⟨v, B, X', ⟨⟨hv, hh⟩, hl, hk, hs⟩, st⟩ := Len.pays x t A cd cs.length (fun j => cs.getD j 0) z (tabLen_of (movedLen hZ hw)) hfr hlo m meth c P g ig mk _ X hg hsize hdg hW hn ⟨r1, r2, rfl, hx, sta_is al S, hz⟩
  exact ⟨v, B, X', ⟨[], ⟨hv, rfl, hh⟩, hl, hk, hs⟩, st⟩
end StrChars.Road
namespace StrChars.Road
open Jvm Sem ClassFile Op Lib Jvm.Stand Jvm.Free Jvm.Free.XT
open Jvm.Lib.Cold (StaticIs)
/-- what backV says of its String, as the contracts of this text ask it: cs's low bytes, coder 0 -/
theorem codOf {cs : List Int32} {n : Nat} (hn : cs.length = n) (hb : ∀ c ∈ cs, ¬ 255 < c) : CodA cs 0 (Int32.ofNat n) ((cs.map lo8).map Value.int) := Or.inl ⟨rfl, by rw [hn], by simp [List.map_map, Function.comp_def], hb⟩
end StrChars.Road
end Jvm.Pilot.@@N@@
namespace Jvm.Pilot.@@N@@
open Jvm Jvm.ClassFile Sem Op Lib Jvm.Free Jvm.Stand Jvm.LawKit Jvm.RoadKit Bundle Jvm.Own Jvm.Pilot.@@N@@.Jvm.D
abbrev ST : String := "java/lang/String"
abbrev EL0 : List (String × Nat) := consts_1
/-- x is a String of the chars cs -/
def Str (Z : State) (h : Heap) (x : Addr) (cs : List Int32) : Prop := ∃ (t : Addr) (kb : ClassId) (cd N2 : Int32) (vs : List Value), Exa Z h x ST ∧ Fld Z h x ST "value" "[B" (.ref t) ∧ Fld Z h x ST "coder" "B" (.int cd) ∧ Arv Z h t kb .byte N2 vs (.int 0) ∧
  StrChars.Road.CodA cs cd N2 vs ∧ (∀ c ∈ cs, ¬ c < 0 ∧ ¬ (65535 : Int32) < c) ∧ cs.length ≤ 4000
section S
variable {Z : State} {h h' : Heap} {x a : Addr} {cs ds : List Int32} {C : String} {n : Nat} {a0 : Array Value} {p : Program} {l : Launch} {e : Env} {R : Room} {s : State} {args : Array Value} {below : List Frame} {W : Nat} {z : Int32}
theorem Str.ext (S : Str Z h x cs) (E : Ext h h') : Str Z h' x cs := by
  obtain ⟨t, kb, cd, N2, vs, h1, h2, h3, h4, h5⟩ := S
  exact ⟨t, kb, cd, N2, vs, h1.ext E, h2.ext E, h3.ext E, h4.ext E, h5⟩
theorem Str.exa (S : Str Z h x cs) : Exa Z h x ST := by
  obtain ⟨t, kb, cd, N2, vs, h1, h2, h3, h4, h5⟩ := S
  exact h1
/-- nothing but an object of another class is written -/
theorem Str.keepE (S : Str Z h x cs) (K : Keep h h' [a]) (E : Exa Z h a C) (hC : C ≠ ST) (wi : (Cond.instantiable C n).before a0 Z = true) : Str Z h' x cs := by
  obtain ⟨t, kb, cd, N2, vs, h1, h2, h3, h4, h5⟩ := S
  have q1 : x ≠ a := (ne_exa E h1 hC).symm
  have q2 : t ≠ a := (Exa.neArv E h4 wi).symm
  exact ⟨t, kb, cd, N2, vs, h1.keep K, h2.keep K (ninS q1 nin0), h3.keep K (ninS q1 nin0), h4.keep K (ninS q2 nin0), h5⟩
/-- the statics of String, as the sheet says them -/
def Stat (Z : State) (z : Int32) : Prop := Sta Z Z.heap ST "COMPACT_STRINGS" "Z" (.int z) ∧ ¬ z = 0
end S
end Jvm.Pilot.@@N@@
namespace Jvm.Pilot.@@N@@
open Jvm Jvm.ClassFile Sem Op Lib Jvm.Free Jvm.Stand Jvm.LawKit Jvm.RoadKit Bundle Jvm.Own Jvm.Pilot.@@N@@.Jvm.D
theorem own_le {Z : State} {n0 : Nat} {h : Heap} (O : Old Z n0 h) : n0 ≤ h.size := O.1 ▸ O.2.1
theorem own_nc (x : Int32) : narrow .char (.int x.toUInt32.toUInt16.toUInt32.toInt32) = .int x.toUInt32.toUInt16.toUInt32.toInt32 := Jvm.Free.XT.narrow_c x
theorem own_nar (x : Int32) : nar .char x.toUInt32.toUInt16.toUInt32.toInt32 = x.toUInt32.toUInt16.toUInt32.toInt32 := by simp only [nar, UInt32.toUInt32_toInt32, UInt16.toUInt16_toUInt32]
theorem own_EW {Z : State} {a0 : Array Value} (hw : ∀ d ∈ tables_1, d.before a0 Z = true) : EW Z a0 EL0 := EW.cons (text := "") (hw _ (List.mem_of_getElem? (i := 13) rfl)) (by simp) EW.nil
theorem own_atoms : ∀ d ∈ Bundle.stringAtoms, d ∈ tables_1 := by decide +kernel
theorem own_wS {Z : State} {a0 : Array Value} (hw : ∀ d ∈ tables_1, d.before a0 Z = true) : ∀ d ∈ Bundle.stringAtoms, d.before a0 Z = true := fun d hd => hw d (own_atoms d hd)
def QS (Z : State) (x : Addr) (cs : List Int32) (n0 : Nat) (h0 : Heap) (v : Option Value) (h : Heap) (L : List Loc) : Prop := v = none ∧ Fr n0 L ∧ Keep h0 h [x] ∧ Str Z h x cs
open StrChars in
abbrev lows (cs : List Int32) : List Value := cs.map fun c => Value.int (lo8 c)
open StrChars StrChars.Road in
theorem own_wlen : ∀ cs : List Int32, (wideBytes cs).length = 2 * cs.length
  | [] => rfl
  | c :: cs => by simp [wideBytes, own_wlen cs]; omega
open StrChars StrChars.Road in
theorem own_wapp : ∀ (cs : List Int32) (c : Int32), wideBytes (cs ++ [c]) = wideBytes cs ++ [.int (lo8 c), .int (hi8 c)]
  | [], c => rfl
  | d :: cs, c => by simp [wideBytes, own_wapp cs c]
theorem own_set1 (L : List Value) (z v : Value) : (L ++ [z]).set L.length v = L ++ [v] := by simp [List.set_append]
theorem own_set2 (L : List Value) (z y v u : Value) : ((L ++ [z, y]).set L.length v).set (L.length + 1) u = L ++ [v, u] := by simp [List.set_append]
theorem own_take (cs : List Int32) (i : Nat) (h : i < cs.length) : cs.take (i + 1) = cs.take i ++ [cs.getD i 0] := by
  rw [List.take_add_one, List.getD_eq_getElem?_getD, List.getElem?_eq_getElem h]; rfl
theorem own_ats (cs : List Int32) (i : Nat) (h : i < cs.length) : (cs.map Value.int).getD i (.int 0) = .int (cs.getD i 0) := by
  simp [List.getD_eq_getElem?_getD, h]
/-- what holds of StringUTF16's statics -/
def St16 (Z : State) : Prop := Sta Z Z.heap "java/lang/StringUTF16" "$assertionsDisabled" "Z" (.int 1) ∧ Sta Z Z.heap "java/lang/StringUTF16" "HI_BYTE_SHIFT" "I" (.int 0) ∧ Sta Z Z.heap "java/lang/StringUTF16" "LO_BYTE_SHIFT" "I" (.int 8)
theorem own_st6 {z0 z1 z2 z3 z4 z5 : Value} {s6 : Slot} {v : Int32} (h : One s6) : storeLocals #[.val z0, .val z1, .val z2, .val z3, .val z4, .val z5, s6] 6 (.int v) = some #[.val z0, .val z1, .val z2, .val z3, .val z4, .val z5, .val (.int v)] := by
  rcases h with rfl | ⟨w, rfl, hw⟩
  · rfl
  · cases w <;> first | rfl | (simp [Value.category] at hw)
/-- how many chars from the left are below 256 -/
def fstW : List Int32 → Nat
  | [] => 0
  | c :: cs => if (255 : Int32) < c then 0 else fstW cs + 1
theorem fstW_le : ∀ cs : List Int32, fstW cs ≤ cs.length
  | [] => Nat.le_refl _
  | c :: cs => by rw [fstW]; split <;> simp [fstW_le cs]
theorem fstW_stop : ∀ (cs : List Int32) (i : Nat), i < cs.length → (∀ c ∈ cs.take i, ¬ (255 : Int32) < c) → (255 : Int32) < cs.getD i 0 → fstW cs = i
  | [], i, h, _, _ => absurd h (Nat.not_lt_zero _)
  | c :: cs, 0, _, _, q => by rw [fstW, if_pos (by simpa using q)]
  | c :: cs, i + 1, h, a, q => by
    rw [fstW, if_neg (a c (by simp)), fstW_stop cs i (by simpa using h) (fun d hd => a d (by simp [hd])) (by simpa using q)]
theorem fstW_all : ∀ (cs : List Int32), (∀ c ∈ cs, ¬ (255 : Int32) < c) → fstW cs = cs.length
  | [], _ => rfl
  | c :: cs, a => by rw [fstW, if_neg (a c (by simp)), fstW_all cs (fun d hd => a d (by simp [hd]))]; rfl
theorem fstW_eq : ∀ (cs : List Int32), fstW cs = cs.length → ∀ c ∈ cs, ¬ (255 : Int32) < c
  | [], _ => fun _ q => nomatch q
  | c :: cs, h => by
    rw [fstW] at h
    split at h
    · simp at h
    · rename_i q
      intro d hd
      rcases List.mem_cons.mp hd with rfl | hd
      · exact q
      · exact fstW_eq cs (by simpa using h) d hd
theorem fstW_lt : ∀ (cs : List Int32), fstW cs ≠ cs.length → fstW cs < cs.length ∧ (255 : Int32) < cs.getD (fstW cs) 0
  | [], h => absurd rfl h
  | c :: cs, h => by
    rw [fstW] at h ⊢
    split
    · rename_i q; exact ⟨by simp, by simpa using q⟩
    · rename_i q
      rw [if_neg q] at h
      have := fstW_lt cs (fun z => h (by simp [z]))
      exact ⟨by simpa using this.1, by simpa using this.2⟩
def f_nbl (n : Int32) : Int32 := (n <<< ((1 : Int32) &&& 31))
theorem d19_0 : decode jdk_52_method_3_code 0 = .ok (.iload_n 0, 1) := by decide +kernel
theorem d19_1 : decode jdk_52_method_3_code 1 = .ok (.ifCond .ge 11, 3) := by decide +kernel
theorem d19_12 : decode jdk_52_method_3_code 12 = .ok (.iload_n 0, 1) := by decide +kernel
theorem d19_13 : decode jdk_52_method_3_code 13 = .ok (.ldc 20, 2) := by decide +kernel
theorem d19_15 : decode jdk_52_method_3_code 15 = .ok (.if_icmp .lt 40, 3) := by decide +kernel
theorem d19_55 : decode jdk_52_method_3_code 55 = .ok (.iload_n 0, 1) := by decide +kernel
theorem d19_56 : decode jdk_52_method_3_code 56 = .ok (.iconst 1, 1) := by decide +kernel
theorem d19_57 : decode jdk_52_method_3_code 57 = .ok (.ishl, 1) := by decide +kernel
theorem d19_58 : decode jdk_52_method_3_code 58 = .ok (.ireturn, 1) := by decide +kernel
theorem pn_0 : plainFor (⟨"java/lang/StringUTF16", "newBytesLength", "(I)I"⟩ : MethodName) = true := by first | exact plainFor_of_name (by first | (simp [plainName, overriddenIn]; done) | decide +kernel) | decide +kernel
theorem ef_I_1 (m : MethodId) (y0 : Int32) : entryFrame m #[(.int y0)] 1 = mkF m 0 #[.val (.int y0)] [] := by first | (simp [entryFrame, mkF, argsToLocals, Value.category]; done) | rfl
set_option maxRecDepth 65536 in
set_option maxHeartbeats 40000000 in
theorem met_nbl (l : Launch) (Z : State) (a0 : Array Value) (hw : ∀ d ∈ tables_1, d.before a0 Z = true) (ws : List Jvm.Cond) (n : Int32) (h0 : Heap) (hn0 : ¬ (n < (0 : Int32))) (hn1 : n < (1073741823 : Int32)) :
    MetFree l (⟨"java/lang/StringUTF16", "newBytesLength", "(I)I"⟩ : MethodName) (head1 (Jvm.Cond.code (⟨"java/lang/StringUTF16", "newBytesLength", "(I)I"⟩ : MethodName) jdk_52_method_3_code 1 (some .int) :: ws) ({ frames := 0, cells := 0, slots := 0, locals := 0 } : Room)) (fun aa U => aa = #[(.int n)] ∧ Z.Warmed39 U.vm ∧ U.heap = h0) (fun _ _ _ _ _ => True) (fun _ U o U' => ∃ v L, o = .returned v ∧ QV (.int (f_nbl n)) h0 v U'.heap L ∧ FrameEnd U o U' L ({ frames := 0, cells := 0, slots := 0, locals := 0 } : Room).cells ({ frames := 0, cells := 0, slots := 0, locals := 0 } : Room).slots) := by
  refine openP (y := (⟨"java/lang/StringUTF16", "newBytesLength", "(I)I"⟩ : MethodName)) pn_0 ?_
  intro p e s m below meth c T hx hby hml hret hlk hnm hZ hown X hT
  refine Go.st (fun _ k => castTop (ef_I_1 m n) k) ?_
  show Go p e below _ (T.setTop (mkF m 0 #[.val (.int n)] []))
  refine Go.st (fun _ k => XS.iloadN X.here hx rfl (hb hby d19_0) rfl k) ?_
  show Go p e below _ (T.setTop (mkF m 1 #[.val (.int n)] [(.int n)]))
  refine Go.st (fun _ k => XS.ifYes X.here hx rfl (pc0 := 1) (pc' := 12) rfl (hb hby d19_1) rfl (Jvm.Free.XT.i0_ge_t (hn0 : ¬ (n < (0 : Int32)))) (by decide) (by decide) k) ?_
  show Go p e below _ (T.setTop (mkF m 12 #[.val (.int n)] []))
  refine Go.st (fun _ k => XS.iloadN X.here hx rfl (hb hby d19_12) rfl k) ?_
  show Go p e below _ (T.setTop (mkF m 13 #[.val (.int n)] [(.int n)]))
  refine Go.st (fun _ k => X.ldcI hx hown (mvT hZ (hw _ (List.mem_of_getElem? (i := 88) rfl))) rfl (hb hby d19_13) k) ?_
  show Go p e below _ (T.setTop (mkF m 15 #[.val (.int n)] [(.int (1073741823 : Int32)), (.int n)]))
  refine Go.st (fun _ k => XS.icmpYes X.here hx rfl (pc0 := 15) (pc' := 55) rfl (hb hby d19_15) rfl (Jvm.Free.XT.ii_lt_t (hn1 : n < (1073741823 : Int32))) (by decide) (by decide) k) ?_
  show Go p e below _ (T.setTop (mkF m 55 #[.val (.int n)] []))
  refine Go.st (fun _ k => XS.iloadN X.here hx rfl (hb hby d19_55) rfl k) ?_
  show Go p e below _ (T.setTop (mkF m 56 #[.val (.int n)] [(.int n)]))
  refine Go.st (fun _ k => XS.iconst X.here hx rfl (hb hby d19_56) k) ?_
  show Go p e below _ (T.setTop (mkF m 57 #[.val (.int n)] [(.int (1 : Int32)), (.int n)]))
  refine Go.st (fun _ k => XS.ishl X.here hx rfl (hb hby d19_57) rfl k) ?_
  show Go p e below _ (T.setTop (mkF m 58 #[.val (.int n)] [(.int (n <<< ((1 : Int32) &&& 31)))]))
  refine Go.ret X hx hlk hT hret rfl (riI (by simp)) (hb hby d19_58) (by decide) (by decide) ?_
  exact ⟨congrArg (fun z => some (Value.int z)) (by rw [f_nbl]), rfl, rfl⟩
theorem pd_0 : parseMethodDescriptor "(I)I" = some ⟨[.int], (some .int)⟩ := by decide +kernel
def QNf (Z : State) (n : Nat) (h0 : Heap) (v : Option Value) (h : Heap) (L : List Loc) : Prop := ∃ (r : Addr) (kr : ClassId), v = some (.ref r) ∧ L = [] ∧ r = h0.size ∧ Ext h0 h ∧ Arv Z h r kr .byte (Int32.ofNat (2 * n)) [] (.int 0)
theorem d18_0 : decode jdk_52_method_2_code 0 = .ok (.iload_n 0, 1) := by decide +kernel
theorem d18_1 : decode jdk_52_method_2_code 1 = .ok (.invokestatic 11, 3) := by decide +kernel
theorem d18_4 : decode jdk_52_method_2_code 4 = .ok (.newarray .byte, 2) := by decide +kernel
theorem d18_6 : decode jdk_52_method_2_code 6 = .ok (.areturn, 1) := by decide +kernel
theorem pn_1 : plainFor (⟨"java/lang/StringUTF16", "newBytesFor", "(I)[B"⟩ : MethodName) = true := by first | exact plainFor_of_name (by first | (simp [plainName, overriddenIn]; done) | decide +kernel) | decide +kernel
set_option maxRecDepth 65536 in
set_option maxHeartbeats 40000000 in
theorem met_nbf (l : Launch) (Z : State) (a0 : Array Value) (hw : ∀ d ∈ tables_1, d.before a0 Z = true) (ws : List Jvm.Cond) (n : Nat) (h0 : Heap) (hn : n ≤ 40) :
    MetFree l (⟨"java/lang/StringUTF16", "newBytesFor", "(I)[B"⟩ : MethodName) (head1 (Jvm.Cond.code (⟨"java/lang/StringUTF16", "newBytesFor", "(I)[B"⟩ : MethodName) jdk_52_method_2_code 1 (some (.array .byte)) :: ws) ({ frames := 1, cells := 1, slots := 80, locals := 12 } : Room)) (fun aa U => aa = #[(.int (Int32.ofNat n))] ∧ Z.Warmed39 U.vm ∧ U.heap = h0) (fun _ _ _ _ _ => True) (fun _ U o U' => ∃ v L, o = .returned v ∧ QNf Z n h0 v U'.heap L ∧ FrameEnd U o U' L ({ frames := 1, cells := 1, slots := 80, locals := 12 } : Room).cells ({ frames := 1, cells := 1, slots := 80, locals := 12 } : Room).slots) := by
  refine openP (y := (⟨"java/lang/StringUTF16", "newBytesFor", "(I)[B"⟩ : MethodName)) pn_1 ?_
  intro p e s m below meth c T hx hby hml hret hlk hnm hZ hown X hT
  refine Go.st (fun _ k => castTop (ef_I_1 m (Int32.ofNat n)) k) ?_
  show Go p e below _ (T.setTop (mkF m 0 #[.val (.int (Int32.ofNat n))] []))
  have hn1 : Int32.ofNat n < (1073741823 : Int32) := (own_lt (by omega) (by decide)).mpr (by omega : n < 1073741823)
  refine Go.st (fun _ k => XS.iloadN X.here hx rfl (hb hby d18_0) rfl k) ?_
  show Go p e below _ (T.setTop (mkF m 1 #[.val (.int (Int32.ofNat n))] [(.int (Int32.ofNat n))]))
  refine Go.callV (argsL := [(.int (Int32.ofNat n))]) (rest := []) (W := 0) X hx hZ hown (hml.trans rfl) hT (hw _ (List.mem_of_getElem? (i := 85) rfl)) (hw _ (List.mem_of_getElem? (i := 86) rfl)) (hw _ (List.mem_of_getElem? (i := 74) rfl)) (hw _ (List.mem_of_getElem? (i := 87) rfl)) (by decide) pd_0 rfl rfl (Nat.le_of_ble_eq_true rfl) (hb hby d18_1) (backOf (W := 0) (met_nbl l Z a0 hw [] (Int32.ofNat n) _ (own_nn (by omega)) hn1) hZ (hw _ (List.mem_of_getElem? (i := 87) rfl)) (hw _ (List.mem_of_getElem? (i := 74) rfl)) (by decide) (by decide)) (by decide) (by decide) ?_
  intro T hT X
  show Go p e below _ (T.setTop (mkF m 4 #[.val (.int (Int32.ofNat n))] [(.int (f_nbl (Int32.ofNat n)))]))
  rw [f_nbl, own_dbl (by omega)]
  show Go p e below _ (T.setTop (mkF m 4 #[.val (.int (Int32.ofNat n))] [(.int (Int32.ofNat (2 * n)))]))
  refine Go.newA (n := 2 * n) (cap := 80) X hx hZ hT (hw _ (List.mem_of_getElem? (i := 16) rfl)) (hb hby d18_4) (by omega) (by omega) (by decide) (by decide) (by decide) ?_
  intro r T h1 kr g_r hT Ex0 V_r X
  show Go p e below _ (T.setTop (mkF m 6 #[.val (.int (Int32.ofNat n))] [(.ref r)]))
  refine Go.ret X hx hlk hT hret rfl (riA rfl rfl) (hb hby d18_6) (by decide) (by decide) ?_
  exact ⟨r, kr, rfl, rfl, g_r, Ex0, V_r⟩
theorem own_b2 (y : Int32) : y.toInt8.toInt32.toInt8.toInt32 = y.toInt8.toInt32 := by simp
theorem own_fr1 {n0 : Nat} {a : Addr} {i : Nat} (q : n0 ≤ a) : Fr n0 [⟨a, i⟩] := fun y hy => by cases List.mem_singleton.mp hy; exact q
open StrChars in
def QPc (Z : State) (n0 : Nat) (d : Addr) (kd : ClassId) (N : Int32) (vs : List Value) (j : Nat) (ch : Int32) (h0 : Heap) (v : Option Value) (h : Heap) (L : List Loc) : Prop := v = none ∧ Fr n0 L ∧ Keep h0 h [d] ∧ Arv Z h d kd .byte N ((vs.set (2 * j) (.int (lo8 ch))).set (2 * j + 1) (.int (hi8 ch))) (.int 0)
theorem d20_0 : decode jdk_52_method_4_code 0 = .ok (.getstatic 44, 3) := by decide +kernel
theorem d20_3 : decode jdk_52_method_4_code 3 = .ok (.ifCond .ne 25, 3) := by decide +kernel
theorem d20_28 : decode jdk_52_method_4_code 28 = .ok (.iload_n 1, 1) := by decide +kernel
theorem d20_29 : decode jdk_52_method_4_code 29 = .ok (.iconst 1, 1) := by decide +kernel
theorem d20_30 : decode jdk_52_method_4_code 30 = .ok (.ishl, 1) := by decide +kernel
theorem d20_31 : decode jdk_52_method_4_code 31 = .ok (.istore_n 1, 1) := by decide +kernel
theorem d20_32 : decode jdk_52_method_4_code 32 = .ok (.aload_n 0, 1) := by decide +kernel
theorem d20_33 : decode jdk_52_method_4_code 33 = .ok (.iload_n 1, 1) := by decide +kernel
theorem d20_34 : decode jdk_52_method_4_code 34 = .ok (.iinc 1 1, 3) := by decide +kernel
theorem d20_37 : decode jdk_52_method_4_code 37 = .ok (.iload_n 2, 1) := by decide +kernel
theorem d20_38 : decode jdk_52_method_4_code 38 = .ok (.getstatic 59, 3) := by decide +kernel
theorem d20_41 : decode jdk_52_method_4_code 41 = .ok (.ishr, 1) := by decide +kernel
theorem d20_42 : decode jdk_52_method_4_code 42 = .ok (.i2b, 1) := by decide +kernel
theorem d20_43 : decode jdk_52_method_4_code 43 = .ok (.bastore, 1) := by decide +kernel
theorem d20_44 : decode jdk_52_method_4_code 44 = .ok (.aload_n 0, 1) := by decide +kernel
theorem d20_45 : decode jdk_52_method_4_code 45 = .ok (.iload_n 1, 1) := by decide +kernel
theorem d20_46 : decode jdk_52_method_4_code 46 = .ok (.iload_n 2, 1) := by decide +kernel
theorem d20_47 : decode jdk_52_method_4_code 47 = .ok (.getstatic 63, 3) := by decide +kernel
theorem d20_50 : decode jdk_52_method_4_code 50 = .ok (.ishr, 1) := by decide +kernel
theorem d20_51 : decode jdk_52_method_4_code 51 = .ok (.i2b, 1) := by decide +kernel
theorem d20_52 : decode jdk_52_method_4_code 52 = .ok (.bastore, 1) := by decide +kernel
theorem d20_53 : decode jdk_52_method_4_code 53 = .ok (.return_, 1) := by decide +kernel
theorem pn_2 : plainFor (⟨"java/lang/StringUTF16", "putChar", "([BII)V"⟩ : MethodName) = true := by first | exact plainFor_of_name (by first | (simp [plainName, overriddenIn]; done) | decide +kernel) | decide +kernel
theorem ef_AII_3 (m : MethodId) (y0 : Addr) (y1 : Int32) (y2 : Int32) : entryFrame m #[(.ref y0), (.int y1), (.int y2)] 3 = mkF m 0 #[.val (.ref y0), .val (.int y1), .val (.int y2)] [] := by first | (simp [entryFrame, mkF, argsToLocals, Value.category]; done) | rfl
set_option maxRecDepth 65536 in
set_option maxHeartbeats 40000000 in
theorem met_putc (l : Launch) (Z : State) (a0 : Array Value) (hw : ∀ d ∈ tables_1, d.before a0 Z = true) (ws : List Jvm.Cond) (n0 : Nat) (d : Addr) (kd : ClassId) (n2 : Nat) (vs : List Value) (j : Nat) (ch : Int32) (h0 : Heap) (O : Old Z n0 h0) (S16 : St16 Z) (ge_d : n0 ≤ d) (V_d : Arv Z h0 d kd .byte (Int32.ofNat n2) vs (.int 0)) (hn2 : n2 ≤ 80) (hj : 2 * j + 1 < n2) (hl : 2 * j + 1 < vs.length) :
    MetFree l (⟨"java/lang/StringUTF16", "putChar", "([BII)V"⟩ : MethodName) (head1 (Jvm.Cond.code (⟨"java/lang/StringUTF16", "putChar", "([BII)V"⟩ : MethodName) jdk_52_method_4_code 3 none :: ws) ({ frames := 0, cells := 0, slots := 0, locals := 0 } : Room)) (fun aa U => aa = #[(.ref d), (.int (Int32.ofNat j)), (.int ch)] ∧ Z.Warmed39 U.vm ∧ U.heap = h0) (fun _ _ _ _ _ => True) (fun _ U o U' => ∃ v L, o = .returned v ∧ QPc Z n0 d kd (Int32.ofNat n2) vs j ch h0 v U'.heap L ∧ FrameEnd U o U' L ({ frames := 0, cells := 0, slots := 0, locals := 0 } : Room).cells ({ frames := 0, cells := 0, slots := 0, locals := 0 } : Room).slots) := by
  refine openP (y := (⟨"java/lang/StringUTF16", "putChar", "([BII)V"⟩ : MethodName)) pn_2 ?_
  intro p e s m below meth c T hx hby hml hret hlk hnm hZ hown X hT
  refine Go.st (fun _ k => castTop (ef_AII_3 m d (Int32.ofNat j) ch) k) ?_
  show Go p e below _ (T.setTop (mkF m 0 #[.val (.ref d), .val (.int (Int32.ofNat j)), .val (.int ch)] []))
  have S0s := O.2
  obtain ⟨T, X, hT, st⟩ := getS2 X hx hZ hown (host := "") (Or.inl (hw _ (List.mem_of_getElem? (i := 92) rfl))) Via.refl hT (S16.1.ext (O.2)) (g := (mkF m 0 #[.val (.ref d), .val (.int (Int32.ofNat j)), .val (.int ch)] [])) rfl (hb hby d20_0)
  refine Go.st st ?_
  show Go p e below _ (T.setTop (mkF m 3 #[.val (.ref d), .val (.int (Int32.ofNat j)), .val (.int ch)] [(.int (1 : Int32))]))
  refine Go.st (fun _ k => XS.ifYes X.here hx rfl (pc0 := 3) (pc' := 28) rfl (hb hby d20_3) rfl (Jvm.Free.XT.i0_ne_t (by decide : ¬ ((1 : Int32) = (0 : Int32)))) (by decide) (by decide) k) ?_
  show Go p e below _ (T.setTop (mkF m 28 #[.val (.ref d), .val (.int (Int32.ofNat j)), .val (.int ch)] []))
  refine Go.st (fun _ k => XS.iloadN X.here hx rfl (hb hby d20_28) rfl k) ?_
  show Go p e below _ (T.setTop (mkF m 29 #[.val (.ref d), .val (.int (Int32.ofNat j)), .val (.int ch)] [(.int (Int32.ofNat j))]))
  refine Go.st (fun _ k => XS.iconst X.here hx rfl (hb hby d20_29) k) ?_
  show Go p e below _ (T.setTop (mkF m 30 #[.val (.ref d), .val (.int (Int32.ofNat j)), .val (.int ch)] [(.int (1 : Int32)), (.int (Int32.ofNat j))]))
  refine Go.st (fun _ k => XS.ishl X.here hx rfl (hb hby d20_30) rfl k) ?_
  show Go p e below _ (T.setTop (mkF m 31 #[.val (.ref d), .val (.int (Int32.ofNat j)), .val (.int ch)] [(.int ((Int32.ofNat j) <<< ((1 : Int32) &&& 31)))]))
  rw [own_dbl (by omega)]
  show Go p e below _ (T.setTop (mkF m 31 #[.val (.ref d), .val (.int (Int32.ofNat j)), .val (.int ch)] [(.int (Int32.ofNat (2 * j)))]))
  refine Go.st (fun _ k => XS.istoreN X.here hx rfl (hb hby d20_31) rfl (l' := #[.val (.ref d), .val (.int (Int32.ofNat (2 * j))), .val (.int ch)]) rfl k) ?_
  show Go p e below _ (T.setTop (mkF m 32 #[.val (.ref d), .val (.int (Int32.ofNat (2 * j))), .val (.int ch)] []))
  refine Go.st (fun _ k => XS.aloadN X.here hx rfl (hb hby d20_32) rfl rfl k) ?_
  show Go p e below _ (T.setTop (mkF m 33 #[.val (.ref d), .val (.int (Int32.ofNat (2 * j))), .val (.int ch)] [(.ref d)]))
  refine Go.st (fun _ k => XS.iloadN X.here hx rfl (hb hby d20_33) rfl k) ?_
  show Go p e below _ (T.setTop (mkF m 34 #[.val (.ref d), .val (.int (Int32.ofNat (2 * j))), .val (.int ch)] [(.int (Int32.ofNat (2 * j))), (.ref d)]))
  refine Go.st (fun _ k => XS.iinc X.here hx rfl (hb hby d20_34) rfl (l' := #[.val (.ref d), .val (.int ((Int32.ofNat (2 * j)) + (1 : Int32))), .val (.int ch)]) rfl k) ?_
  show Go p e below _ (T.setTop (mkF m 37 #[.val (.ref d), .val (.int ((Int32.ofNat (2 * j)) + (1 : Int32))), .val (.int ch)] [(.int (Int32.ofNat (2 * j))), (.ref d)]))
  rw [own_succ]
  show Go p e below _ (T.setTop (mkF m 37 #[.val (.ref d), .val (.int (Int32.ofNat (2 * j + 1))), .val (.int ch)] [(.int (Int32.ofNat (2 * j))), (.ref d)]))
  refine Go.st (fun _ k => XS.iloadN X.here hx rfl (hb hby d20_37) rfl k) ?_
  show Go p e below _ (T.setTop (mkF m 38 #[.val (.ref d), .val (.int (Int32.ofNat (2 * j + 1))), .val (.int ch)] [(.int ch), (.int (Int32.ofNat (2 * j))), (.ref d)]))
  have S0s := O.2
  obtain ⟨T, X, hT, st⟩ := getS2 X hx hZ hown (host := "") (Or.inl (hw _ (List.mem_of_getElem? (i := 93) rfl))) Via.refl hT (S16.2.1.ext (O.2)) (g := (mkF m 38 #[.val (.ref d), .val (.int (Int32.ofNat (2 * j + 1))), .val (.int ch)] [(.int ch), (.int (Int32.ofNat (2 * j))), (.ref d)])) rfl (hb hby d20_38)
  refine Go.st st ?_
  show Go p e below _ (T.setTop (mkF m 41 #[.val (.ref d), .val (.int (Int32.ofNat (2 * j + 1))), .val (.int ch)] [(.int (0 : Int32)), (.int ch), (.int (Int32.ofNat (2 * j))), (.ref d)]))
  refine Go.st (fun _ k => XS.ishr X.here hx rfl (hb hby d20_41) rfl k) ?_
  show Go p e below _ (T.setTop (mkF m 42 #[.val (.ref d), .val (.int (Int32.ofNat (2 * j + 1))), .val (.int ch)] [(.int (ch >>> ((0 : Int32) &&& 31))), (.int (Int32.ofNat (2 * j))), (.ref d)]))
  rw [StrChars.shr0]
  show Go p e below _ (T.setTop (mkF m 42 #[.val (.ref d), .val (.int (Int32.ofNat (2 * j + 1))), .val (.int ch)] [(.int ch), (.int (Int32.ofNat (2 * j))), (.ref d)]))
  refine Go.st (fun _ k => XS.i2b X.here hx rfl (hb hby d20_42) rfl k) ?_
  show Go p e below _ (T.setTop (mkF m 43 #[.val (.ref d), .val (.int (Int32.ofNat (2 * j + 1))), .val (.int ch)] [(.int (ch.toInt8.toInt32)), (.int (Int32.ofNat (2 * j))), (.ref d)]))
  refine Go.stBN (i := 2 * j) X hx hZ hT V_d (by rw [own_clamp (by omega)]; omega) (by omega) (by omega) (hb hby d20_43) ?_
  intro T h1 hT Wr1 V_d X
  show Go p e below _ (T.setTop (mkF m 44 #[.val (.ref d), .val (.int (Int32.ofNat (2 * j + 1))), .val (.int ch)] []))
  refine Go.st (fun _ k => XS.aloadN X.here hx rfl (hb hby d20_44) rfl rfl k) ?_
  show Go p e below _ (T.setTop (mkF m 45 #[.val (.ref d), .val (.int (Int32.ofNat (2 * j + 1))), .val (.int ch)] [(.ref d)]))
  refine Go.st (fun _ k => XS.iloadN X.here hx rfl (hb hby d20_45) rfl k) ?_
  show Go p e below _ (T.setTop (mkF m 46 #[.val (.ref d), .val (.int (Int32.ofNat (2 * j + 1))), .val (.int ch)] [(.int (Int32.ofNat (2 * j + 1))), (.ref d)]))
  refine Go.st (fun _ k => XS.iloadN X.here hx rfl (hb hby d20_46) rfl k) ?_
  show Go p e below _ (T.setTop (mkF m 47 #[.val (.ref d), .val (.int (Int32.ofNat (2 * j + 1))), .val (.int ch)] [(.int ch), (.int (Int32.ofNat (2 * j + 1))), (.ref d)]))
  have S0s := O.2
  obtain ⟨T, X, hT, st⟩ := getS2 X hx hZ hown (host := "") (Or.inl (hw _ (List.mem_of_getElem? (i := 94) rfl))) Via.refl hT (S16.2.2.ext ((O.wr Wr1 ge_d).2)) (g := (mkF m 47 #[.val (.ref d), .val (.int (Int32.ofNat (2 * j + 1))), .val (.int ch)] [(.int ch), (.int (Int32.ofNat (2 * j + 1))), (.ref d)])) rfl (hb hby d20_47)
  refine Go.st st ?_
  show Go p e below _ (T.setTop (mkF m 50 #[.val (.ref d), .val (.int (Int32.ofNat (2 * j + 1))), .val (.int ch)] [(.int (8 : Int32)), (.int ch), (.int (Int32.ofNat (2 * j + 1))), (.ref d)]))
  refine Go.st (fun _ k => XS.ishr X.here hx rfl (hb hby d20_50) rfl k) ?_
  show Go p e below _ (T.setTop (mkF m 51 #[.val (.ref d), .val (.int (Int32.ofNat (2 * j + 1))), .val (.int ch)] [(.int (ch >>> ((8 : Int32) &&& 31))), (.int (Int32.ofNat (2 * j + 1))), (.ref d)]))
  refine Go.st (fun _ k => XS.i2b X.here hx rfl (hb hby d20_51) rfl k) ?_
  show Go p e below _ (T.setTop (mkF m 52 #[.val (.ref d), .val (.int (Int32.ofNat (2 * j + 1))), .val (.int ch)] [(.int ((ch >>> ((8 : Int32) &&& 31)).toInt8.toInt32)), (.int (Int32.ofNat (2 * j + 1))), (.ref d)]))
  refine Go.stBN (i := 2 * j + 1) X hx hZ hT V_d (by rw [own_clamp (by omega)]; omega) (by omega) (by simp only [List.length_set]; omega) (hb hby d20_52) ?_
  intro T h2 hT Wr2 V_d X
  show Go p e below _ (T.setTop (mkF m 53 #[.val (.ref d), .val (.int (Int32.ofNat (2 * j + 1))), .val (.int ch)] []))
  refine Go.retV X hx hlk hT hret (hb hby d20_53) (by decide) (by decide) ?_
  exact ⟨rfl, Fr.app (Fr.app (Fr.nil n0) (own_fr1 ge_d)) (own_fr1 ge_d), ((Keep.refl h0 [d]).wr Wr1 (Or.inl (List.mem_of_getElem? (i := 0) rfl))).wr Wr2 (Or.inl (List.mem_of_getElem? (i := 0) rfl)), by have q := V_d; rw [own_b2, own_b2] at q; exact q⟩
theorem d21_0 : decode jdk_52_method_5_code 0 = .ok (.getstatic 44, 3) := by decide +kernel
theorem d21_3 : decode jdk_52_method_5_code 3 = .ok (.ifCond .ne 25, 3) := by decide +kernel
theorem d21_28 : decode jdk_52_method_5_code 28 = .ok (.iload_n 1, 1) := by decide +kernel
theorem d21_29 : decode jdk_52_method_5_code 29 = .ok (.iconst 1, 1) := by decide +kernel
theorem d21_30 : decode jdk_52_method_5_code 30 = .ok (.ishl, 1) := by decide +kernel
theorem d21_31 : decode jdk_52_method_5_code 31 = .ok (.istore_n 1, 1) := by decide +kernel
theorem d21_32 : decode jdk_52_method_5_code 32 = .ok (.aload_n 0, 1) := by decide +kernel
theorem d21_33 : decode jdk_52_method_5_code 33 = .ok (.iload_n 1, 1) := by decide +kernel
theorem d21_34 : decode jdk_52_method_5_code 34 = .ok (.iinc 1 1, 3) := by decide +kernel
theorem d21_37 : decode jdk_52_method_5_code 37 = .ok (.baload, 1) := by decide +kernel
theorem d21_38 : decode jdk_52_method_5_code 38 = .ok (.sipush 255, 3) := by decide +kernel
theorem d21_41 : decode jdk_52_method_5_code 41 = .ok (.iand, 1) := by decide +kernel
theorem d21_42 : decode jdk_52_method_5_code 42 = .ok (.getstatic 59, 3) := by decide +kernel
theorem d21_45 : decode jdk_52_method_5_code 45 = .ok (.ishl, 1) := by decide +kernel
theorem d21_46 : decode jdk_52_method_5_code 46 = .ok (.aload_n 0, 1) := by decide +kernel
theorem d21_47 : decode jdk_52_method_5_code 47 = .ok (.iload_n 1, 1) := by decide +kernel
theorem d21_48 : decode jdk_52_method_5_code 48 = .ok (.baload, 1) := by decide +kernel
theorem d21_49 : decode jdk_52_method_5_code 49 = .ok (.sipush 255, 3) := by decide +kernel
theorem d21_52 : decode jdk_52_method_5_code 52 = .ok (.iand, 1) := by decide +kernel
theorem d21_53 : decode jdk_52_method_5_code 53 = .ok (.getstatic 63, 3) := by decide +kernel
theorem d21_56 : decode jdk_52_method_5_code 56 = .ok (.ishl, 1) := by decide +kernel
theorem d21_57 : decode jdk_52_method_5_code 57 = .ok (.ior, 1) := by decide +kernel
theorem d21_58 : decode jdk_52_method_5_code 58 = .ok (.i2c, 1) := by decide +kernel
theorem d21_59 : decode jdk_52_method_5_code 59 = .ok (.ireturn, 1) := by decide +kernel
theorem pn_3 : plainFor (⟨"java/lang/StringUTF16", "getChar", "([BI)C"⟩ : MethodName) = true := by first | exact plainFor_of_name (by first | (simp [plainName, overriddenIn]; done) | decide +kernel) | decide +kernel
theorem ef_AI_2 (m : MethodId) (y0 : Addr) (y1 : Int32) : entryFrame m #[(.ref y0), (.int y1)] 2 = mkF m 0 #[.val (.ref y0), .val (.int y1)] [] := by first | (simp [entryFrame, mkF, argsToLocals, Value.category]; done) | rfl
set_option maxRecDepth 65536 in
set_option maxHeartbeats 40000000 in
theorem met_getc (l : Launch) (Z : State) (a0 : Array Value) (hw : ∀ d ∈ tables_1, d.before a0 Z = true) (ws : List Jvm.Cond) (n0 : Nat) (d : Addr) (kd : ClassId) (cs : List Int32) (j : Nat) (h0 : Heap) (O : Old Z n0 h0) (S16 : St16 Z) (V_d : Arv Z h0 d kd .byte (Int32.ofNat (2 * cs.length)) (StrChars.Road.wideBytes cs) (.int 0)) (hn : cs.length ≤ 40) (hj : j < cs.length) (hr : ¬ cs.getD j 0 < 0 ∧ ¬ (65535 : Int32) < cs.getD j 0) :
    MetFree l (⟨"java/lang/StringUTF16", "getChar", "([BI)C"⟩ : MethodName) (head1 (Jvm.Cond.code (⟨"java/lang/StringUTF16", "getChar", "([BI)C"⟩ : MethodName) jdk_52_method_5_code 2 (some .char) :: ws) ({ frames := 0, cells := 0, slots := 0, locals := 0 } : Room)) (fun aa U => aa = #[(.ref d), (.int (Int32.ofNat j))] ∧ Z.Warmed39 U.vm ∧ U.heap = h0) (fun _ _ _ _ _ => True) (fun _ U o U' => ∃ v L, o = .returned v ∧ QV (.int (cs.getD j 0)) h0 v U'.heap L ∧ FrameEnd U o U' L ({ frames := 0, cells := 0, slots := 0, locals := 0 } : Room).cells ({ frames := 0, cells := 0, slots := 0, locals := 0 } : Room).slots) := by
  refine openP (y := (⟨"java/lang/StringUTF16", "getChar", "([BI)C"⟩ : MethodName)) pn_3 ?_
  intro p e s m below meth c T hx hby hml hret hlk hnm hZ hown X hT
  refine Go.st (fun _ k => castTop (ef_AI_2 m d (Int32.ofNat j)) k) ?_
  show Go p e below _ (T.setTop (mkF m 0 #[.val (.ref d), .val (.int (Int32.ofNat j))] []))
  have S0s := O.2
  obtain ⟨T, X, hT, st⟩ := getS2 X hx hZ hown (host := "") (Or.inl (hw _ (List.mem_of_getElem? (i := 92) rfl))) Via.refl hT (S16.1.ext (O.2)) (g := (mkF m 0 #[.val (.ref d), .val (.int (Int32.ofNat j))] [])) rfl (hb hby d21_0)
  refine Go.st st ?_
  show Go p e below _ (T.setTop (mkF m 3 #[.val (.ref d), .val (.int (Int32.ofNat j))] [(.int (1 : Int32))]))
  refine Go.st (fun _ k => XS.ifYes X.here hx rfl (pc0 := 3) (pc' := 28) rfl (hb hby d21_3) rfl (Jvm.Free.XT.i0_ne_t (by decide : ¬ ((1 : Int32) = (0 : Int32)))) (by decide) (by decide) k) ?_
  show Go p e below _ (T.setTop (mkF m 28 #[.val (.ref d), .val (.int (Int32.ofNat j))] []))
  refine Go.st (fun _ k => XS.iloadN X.here hx rfl (hb hby d21_28) rfl k) ?_
  show Go p e below _ (T.setTop (mkF m 29 #[.val (.ref d), .val (.int (Int32.ofNat j))] [(.int (Int32.ofNat j))]))
  refine Go.st (fun _ k => XS.iconst X.here hx rfl (hb hby d21_29) k) ?_
  show Go p e below _ (T.setTop (mkF m 30 #[.val (.ref d), .val (.int (Int32.ofNat j))] [(.int (1 : Int32)), (.int (Int32.ofNat j))]))
  refine Go.st (fun _ k => XS.ishl X.here hx rfl (hb hby d21_30) rfl k) ?_
  show Go p e below _ (T.setTop (mkF m 31 #[.val (.ref d), .val (.int (Int32.ofNat j))] [(.int ((Int32.ofNat j) <<< ((1 : Int32) &&& 31)))]))
  rw [own_dbl (by omega)]
  show Go p e below _ (T.setTop (mkF m 31 #[.val (.ref d), .val (.int (Int32.ofNat j))] [(.int (Int32.ofNat (2 * j)))]))
  refine Go.st (fun _ k => XS.istoreN X.here hx rfl (hb hby d21_31) rfl (l' := #[.val (.ref d), .val (.int (Int32.ofNat (2 * j)))]) rfl k) ?_
  show Go p e below _ (T.setTop (mkF m 32 #[.val (.ref d), .val (.int (Int32.ofNat (2 * j)))] []))
  refine Go.st (fun _ k => XS.aloadN X.here hx rfl (hb hby d21_32) rfl rfl k) ?_
  show Go p e below _ (T.setTop (mkF m 33 #[.val (.ref d), .val (.int (Int32.ofNat (2 * j)))] [(.ref d)]))
  refine Go.st (fun _ k => XS.iloadN X.here hx rfl (hb hby d21_33) rfl k) ?_
  show Go p e below _ (T.setTop (mkF m 34 #[.val (.ref d), .val (.int (Int32.ofNat (2 * j)))] [(.int (Int32.ofNat (2 * j))), (.ref d)]))
  refine Go.st (fun _ k => XS.iinc X.here hx rfl (hb hby d21_34) rfl (l' := #[.val (.ref d), .val (.int ((Int32.ofNat (2 * j)) + (1 : Int32)))]) rfl k) ?_
  show Go p e below _ (T.setTop (mkF m 37 #[.val (.ref d), .val (.int ((Int32.ofNat (2 * j)) + (1 : Int32)))] [(.int (Int32.ofNat (2 * j))), (.ref d)]))
  rw [own_succ]
  show Go p e below _ (T.setTop (mkF m 37 #[.val (.ref d), .val (.int (Int32.ofNat (2 * j + 1)))] [(.int (Int32.ofNat (2 * j))), (.ref d)]))
  refine Go.baloadN (i := 2 * j) X hx hZ hT V_d (by rw [own_clamp (by omega)]; omega) (by omega) (StrChars.Road.wide_lo _ cs j hj) (hb hby d21_37) ?_
  show Go p e below _ (T.setTop (mkF m 38 #[.val (.ref d), .val (.int (Int32.ofNat (2 * j + 1)))] [(.int (StrChars.lo8 (cs.getD j 0)))]))
  refine Go.st (fun _ k => XS.sipush X.here hx rfl (hb hby d21_38) k) ?_
  show Go p e below _ (T.setTop (mkF m 41 #[.val (.ref d), .val (.int (Int32.ofNat (2 * j + 1)))] [(.int (255 : Int32)), (.int (StrChars.lo8 (cs.getD j 0)))]))
  refine Go.st (fun _ k => XS.iand X.here hx rfl (hb hby d21_41) rfl k) ?_
  show Go p e below _ (T.setTop (mkF m 42 #[.val (.ref d), .val (.int (Int32.ofNat (2 * j + 1)))] [(.int ((StrChars.lo8 (cs.getD j 0)) &&& (255 : Int32)))]))
  have S0s := O.2
  obtain ⟨T, X, hT, st⟩ := getS2 X hx hZ hown (host := "") (Or.inl (hw _ (List.mem_of_getElem? (i := 93) rfl))) Via.refl hT (S16.2.1.ext (O.2)) (g := (mkF m 42 #[.val (.ref d), .val (.int (Int32.ofNat (2 * j + 1)))] [(.int ((StrChars.lo8 (cs.getD j 0)) &&& (255 : Int32)))])) rfl (hb hby d21_42)
  refine Go.st st ?_
  show Go p e below _ (T.setTop (mkF m 45 #[.val (.ref d), .val (.int (Int32.ofNat (2 * j + 1)))] [(.int (0 : Int32)), (.int ((StrChars.lo8 (cs.getD j 0)) &&& (255 : Int32)))]))
  refine Go.st (fun _ k => XS.ishl X.here hx rfl (hb hby d21_45) rfl k) ?_
  show Go p e below _ (T.setTop (mkF m 46 #[.val (.ref d), .val (.int (Int32.ofNat (2 * j + 1)))] [(.int (((StrChars.lo8 (cs.getD j 0)) &&& (255 : Int32)) <<< ((0 : Int32) &&& 31)))]))
  refine Go.st (fun _ k => XS.aloadN X.here hx rfl (hb hby d21_46) rfl rfl k) ?_
  show Go p e below _ (T.setTop (mkF m 47 #[.val (.ref d), .val (.int (Int32.ofNat (2 * j + 1)))] [(.ref d), (.int (((StrChars.lo8 (cs.getD j 0)) &&& (255 : Int32)) <<< ((0 : Int32) &&& 31)))]))
  refine Go.st (fun _ k => XS.iloadN X.here hx rfl (hb hby d21_47) rfl k) ?_
  show Go p e below _ (T.setTop (mkF m 48 #[.val (.ref d), .val (.int (Int32.ofNat (2 * j + 1)))] [(.int (Int32.ofNat (2 * j + 1))), (.ref d), (.int (((StrChars.lo8 (cs.getD j 0)) &&& (255 : Int32)) <<< ((0 : Int32) &&& 31)))]))
  refine Go.baloadN (i := 2 * j + 1) X hx hZ hT V_d (by rw [own_clamp (by omega)]; omega) (by omega) (StrChars.Road.wide_hi _ cs j hj) (hb hby d21_48) ?_
  show Go p e below _ (T.setTop (mkF m 49 #[.val (.ref d), .val (.int (Int32.ofNat (2 * j + 1)))] [(.int (StrChars.hi8 (cs.getD j 0))), (.int (((StrChars.lo8 (cs.getD j 0)) &&& (255 : Int32)) <<< ((0 : Int32) &&& 31)))]))
  refine Go.st (fun _ k => XS.sipush X.here hx rfl (hb hby d21_49) k) ?_
  show Go p e below _ (T.setTop (mkF m 52 #[.val (.ref d), .val (.int (Int32.ofNat (2 * j + 1)))] [(.int (255 : Int32)), (.int (StrChars.hi8 (cs.getD j 0))), (.int (((StrChars.lo8 (cs.getD j 0)) &&& (255 : Int32)) <<< ((0 : Int32) &&& 31)))]))
  refine Go.st (fun _ k => XS.iand X.here hx rfl (hb hby d21_52) rfl k) ?_
  show Go p e below _ (T.setTop (mkF m 53 #[.val (.ref d), .val (.int (Int32.ofNat (2 * j + 1)))] [(.int ((StrChars.hi8 (cs.getD j 0)) &&& (255 : Int32))), (.int (((StrChars.lo8 (cs.getD j 0)) &&& (255 : Int32)) <<< ((0 : Int32) &&& 31)))]))
  have S0s := O.2
  obtain ⟨T, X, hT, st⟩ := getS2 X hx hZ hown (host := "") (Or.inl (hw _ (List.mem_of_getElem? (i := 94) rfl))) Via.refl hT (S16.2.2.ext (O.2)) (g := (mkF m 53 #[.val (.ref d), .val (.int (Int32.ofNat (2 * j + 1)))] [(.int ((StrChars.hi8 (cs.getD j 0)) &&& (255 : Int32))), (.int (((StrChars.lo8 (cs.getD j 0)) &&& (255 : Int32)) <<< ((0 : Int32) &&& 31)))])) rfl (hb hby d21_53)
  refine Go.st st ?_
  show Go p e below _ (T.setTop (mkF m 56 #[.val (.ref d), .val (.int (Int32.ofNat (2 * j + 1)))] [(.int (8 : Int32)), (.int ((StrChars.hi8 (cs.getD j 0)) &&& (255 : Int32))), (.int (((StrChars.lo8 (cs.getD j 0)) &&& (255 : Int32)) <<< ((0 : Int32) &&& 31)))]))
  refine Go.st (fun _ k => XS.ishl X.here hx rfl (hb hby d21_56) rfl k) ?_
  show Go p e below _ (T.setTop (mkF m 57 #[.val (.ref d), .val (.int (Int32.ofNat (2 * j + 1)))] [(.int (((StrChars.hi8 (cs.getD j 0)) &&& (255 : Int32)) <<< ((8 : Int32) &&& 31))), (.int (((StrChars.lo8 (cs.getD j 0)) &&& (255 : Int32)) <<< ((0 : Int32) &&& 31)))]))
  refine Go.st (fun _ k => XS.ior X.here hx rfl (hb hby d21_57) rfl k) ?_
  show Go p e below _ (T.setTop (mkF m 58 #[.val (.ref d), .val (.int (Int32.ofNat (2 * j + 1)))] [(.int ((((StrChars.lo8 (cs.getD j 0)) &&& (255 : Int32)) <<< ((0 : Int32) &&& 31)) ||| (((StrChars.hi8 (cs.getD j 0)) &&& (255 : Int32)) <<< ((8 : Int32) &&& 31))))]))
  refine Go.st (fun _ k => XS.i2c X.here hx rfl (hb hby d21_58) rfl k) ?_
  show Go p e below _ (T.setTop (mkF m 59 #[.val (.ref d), .val (.int (Int32.ofNat (2 * j + 1)))] [(.int (((((StrChars.lo8 (cs.getD j 0)) &&& (255 : Int32)) <<< ((0 : Int32) &&& 31)) ||| (((StrChars.hi8 (cs.getD j 0)) &&& (255 : Int32)) <<< ((8 : Int32) &&& 31))).toUInt32.toUInt16.toUInt32.toInt32))]))
  refine Go.ret X hx hlk hT hret (own_nc _) (riI (by simp)) (hb hby d21_59) (by decide) (by decide) ?_
  exact ⟨congrArg (fun z => some (Value.int z)) (StrChars.pair_says hr.1 hr.2), rfl, rfl⟩
def QC5 (Z : State) (n0 : Nat) (d : Addr) (kd : ClassId) (cs : List Int32) (h0 : Heap) (v : Option Value) (h : Heap) (L : List Loc) : Prop := v = some (.int (Int32.ofNat (fstW cs))) ∧ Fr n0 L ∧ Keep h0 h [d] ∧ (fstW cs = cs.length → Arv Z h d kd .byte (Int32.ofNat cs.length) (lows cs) (.int 0))
theorem d16_0 : decode jdk_52_method_21_code 0 = .ok (.iconst 0, 1) := by decide +kernel
theorem d16_1 : decode jdk_52_method_21_code 1 = .ok (.istore 5, 2) := by decide +kernel
theorem d16_3 : decode jdk_52_method_21_code 3 = .ok (.iload 5, 2) := by decide +kernel
theorem d16_5 : decode jdk_52_method_21_code 5 = .ok (.iload 4, 2) := by decide +kernel
theorem d16_7 : decode jdk_52_method_21_code 7 = .ok (.if_icmp .ge 37, 3) := by decide +kernel
theorem d16_10 : decode jdk_52_method_21_code 10 = .ok (.aload_n 0, 1) := by decide +kernel
theorem d16_11 : decode jdk_52_method_21_code 11 = .ok (.iload_n 1, 1) := by decide +kernel
theorem d16_12 : decode jdk_52_method_21_code 12 = .ok (.caload, 1) := by decide +kernel
theorem d16_13 : decode jdk_52_method_21_code 13 = .ok (.istore 6, 2) := by decide +kernel
theorem d16_15 : decode jdk_52_method_21_code 15 = .ok (.iload 6, 2) := by decide +kernel
theorem d16_17 : decode jdk_52_method_21_code 17 = .ok (.sipush 255, 3) := by decide +kernel
theorem d16_20 : decode jdk_52_method_21_code 20 = .ok (.if_icmp .le 6, 3) := by decide +kernel
theorem d16_23 : decode jdk_52_method_21_code 23 = .ok (.iload 5, 2) := by decide +kernel
theorem d16_25 : decode jdk_52_method_21_code 25 = .ok (.ireturn, 1) := by decide +kernel
theorem d16_26 : decode jdk_52_method_21_code 26 = .ok (.aload_n 2, 1) := by decide +kernel
theorem d16_27 : decode jdk_52_method_21_code 27 = .ok (.iload_n 3, 1) := by decide +kernel
theorem d16_28 : decode jdk_52_method_21_code 28 = .ok (.iload 6, 2) := by decide +kernel
theorem d16_30 : decode jdk_52_method_21_code 30 = .ok (.i2b, 1) := by decide +kernel
theorem d16_31 : decode jdk_52_method_21_code 31 = .ok (.bastore, 1) := by decide +kernel
theorem d16_32 : decode jdk_52_method_21_code 32 = .ok (.iinc 1 1, 3) := by decide +kernel
theorem d16_35 : decode jdk_52_method_21_code 35 = .ok (.iinc 3 1, 3) := by decide +kernel
theorem d16_38 : decode jdk_52_method_21_code 38 = .ok (.iinc 5 1, 3) := by decide +kernel
theorem d16_41 : decode jdk_52_method_21_code 41 = .ok (.goto (-38), 3) := by decide +kernel
theorem d16_44 : decode jdk_52_method_21_code 44 = .ok (.iload 4, 2) := by decide +kernel
theorem d16_46 : decode jdk_52_method_21_code 46 = .ok (.ireturn, 1) := by decide +kernel
theorem pn_4 : plainFor (⟨"java/lang/StringUTF16", "compress", "([CI[BII)I"⟩ : MethodName) = true := by first | exact plainFor_of_name (by first | (simp [plainName, overriddenIn]; done) | decide +kernel) | decide +kernel
theorem ef_AIAII_7 (m : MethodId) (y0 : Addr) (y1 : Int32) (y2 : Addr) (y3 : Int32) (y4 : Int32) : entryFrame m #[(.ref y0), (.int y1), (.ref y2), (.int y3), (.int y4)] 7 = mkF m 0 #[.val (.ref y0), .val (.int y1), .val (.ref y2), .val (.int y3), .val (.int y4), .unset, .unset] [] := by first | (simp [entryFrame, mkF, argsToLocals, Value.category]; done) | rfl
set_option maxRecDepth 65536 in
set_option maxHeartbeats 40000000 in
theorem met_cmp5 (l : Launch) (Z : State) (a0 : Array Value) (hw : ∀ d ∈ tables_1, d.before a0 Z = true) (ws : List Jvm.Cond) (n0 : Nat) (b d : Addr) (kC kd : ClassId) (cs : List Int32) (h0 : Heap) (ge_d : n0 ≤ d) (ne_bd : b ≠ d) (V_b : Arv Z h0 b kC .char (Int32.ofNat cs.length) (cs.map Value.int) (.int 0)) (V_d : Arv Z h0 d kd .byte (Int32.ofNat cs.length) [] (.int 0)) (hn : cs.length ≤ 40) :
    MetFree l (⟨"java/lang/StringUTF16", "compress", "([CI[BII)I"⟩ : MethodName) (head1 (Jvm.Cond.code (⟨"java/lang/StringUTF16", "compress", "([CI[BII)I"⟩ : MethodName) jdk_52_method_21_code 7 (some .int) :: ws) ({ frames := 0, cells := 0, slots := 0, locals := 0 } : Room)) (fun aa U => aa = #[(.ref b), (.int (0 : Int32)), (.ref d), (.int (0 : Int32)), (.int (Int32.ofNat cs.length))] ∧ Z.Warmed39 U.vm ∧ U.heap = h0) (fun _ _ _ _ _ => True) (fun _ U o U' => ∃ v L, o = .returned v ∧ QC5 Z n0 d kd cs h0 v U'.heap L ∧ FrameEnd U o U' L ({ frames := 0, cells := 0, slots := 0, locals := 0 } : Room).cells ({ frames := 0, cells := 0, slots := 0, locals := 0 } : Room).slots) := by
  refine openP (y := (⟨"java/lang/StringUTF16", "compress", "([CI[BII)I"⟩ : MethodName)) pn_4 ?_
  intro p e s m below meth c T hx hby hml hret hlk hnm hZ hown X hT
  refine Go.st (fun _ k => castTop (ef_AIAII_7 m b (0 : Int32) d (0 : Int32) (Int32.ofNat cs.length)) k) ?_
  show Go p e below _ (T.setTop (mkF m 0 #[.val (.ref b), .val (.int (0 : Int32)), .val (.ref d), .val (.int (0 : Int32)), .val (.int (Int32.ofNat cs.length)), .unset, .unset] []))
  refine Go.st (fun _ k => XS.iconst X.here hx rfl (hb hby d16_0) k) ?_
  show Go p e below _ (T.setTop (mkF m 1 #[.val (.ref b), .val (.int (0 : Int32)), .val (.ref d), .val (.int (0 : Int32)), .val (.int (Int32.ofNat cs.length)), .unset, .unset] [(.int (0 : Int32))]))
  refine Go.st (fun _ k => XS.istore X.here hx rfl (hb hby d16_1) rfl (l' := #[.val (.ref b), .val (.int (0 : Int32)), .val (.ref d), .val (.int (0 : Int32)), .val (.int (Int32.ofNat cs.length)), .val (.int (0 : Int32)), .unset]) rfl k) ?_
  show Go p e below _ (T.setTop (mkF m 3 #[.val (.ref b), .val (.int (0 : Int32)), .val (.ref d), .val (.int (0 : Int32)), .val (.int (Int32.ofNat cs.length)), .val (.int (0 : Int32)), .unset] []))
  have loop : ∀ (k i : Nat) (T : State) (hi : Heap) (L : List Loc) (s6 : Slot), i + k = cs.length → One s6 → (∀ c ∈ cs.take i, ¬ (255 : Int32) < c) → T.heap = hi → Keep h0 hi [d] → Arv Z hi d kd .byte (Int32.ofNat cs.length) (lows (cs.take i)) (.int 0) → Arv Z hi b kC .char (Int32.ofNat cs.length) (cs.map Value.int) (.int 0) → Fr n0 L → Stand p l e ({ frames := 0, cells := 0, slots := 0, locals := 0 } : Room) s m #[(.ref b), (.int (0 : Int32)), (.ref d), (.int (0 : Int32)), (.int (Int32.ofNat cs.length))] below meth c T L 0 0 → Go p e below (EndP s (QC5 Z n0 d kd cs h0) ({ frames := 0, cells := 0, slots := 0, locals := 0 } : Room).cells ({ frames := 0, cells := 0, slots := 0, locals := 0 } : Room).slots) (T.setTop (mkF m 3 #[.val (.ref b), .val (.int (Int32.ofNat i)), .val (.ref d), .val (.int (Int32.ofNat i)), .val (.int (Int32.ofNat cs.length)), .val (.int (Int32.ofNat i)), s6] [])) := by
    intro k
    induction k with
    | zero =>
      intro i T hi L s6 hik o6 hall hT KB V_d V_b N X
      refine Go.st (fun _ k => XS.iload X.here hx rfl (hb hby d16_3) rfl k) ?_
      show Go p e below _ (T.setTop (mkF m 5 #[.val (.ref b), .val (.int (Int32.ofNat i)), .val (.ref d), .val (.int (Int32.ofNat i)), .val (.int (Int32.ofNat cs.length)), .val (.int (Int32.ofNat i)), s6] [(.int (Int32.ofNat i))]))
      refine Go.st (fun _ k => XS.iload X.here hx rfl (hb hby d16_5) rfl k) ?_
      show Go p e below _ (T.setTop (mkF m 7 #[.val (.ref b), .val (.int (Int32.ofNat i)), .val (.ref d), .val (.int (Int32.ofNat i)), .val (.int (Int32.ofNat cs.length)), .val (.int (Int32.ofNat i)), s6] [(.int (Int32.ofNat cs.length)), (.int (Int32.ofNat i))]))
      refine Go.st (fun _ k => XS.icmpYes X.here hx rfl (pc0 := 7) (pc' := 44) rfl (hb hby d16_7) rfl (Jvm.Free.XT.ii_ge_t (fun q => absurd ((own_lt (by omega) (by omega)).mp q) (by omega) : ¬ ((Int32.ofNat i) < (Int32.ofNat cs.length)))) (by decide) (by decide) k) ?_
      show Go p e below _ (T.setTop (mkF m 44 #[.val (.ref b), .val (.int (Int32.ofNat i)), .val (.ref d), .val (.int (Int32.ofNat i)), .val (.int (Int32.ofNat cs.length)), .val (.int (Int32.ofNat i)), s6] []))
      refine Go.st (fun _ k => XS.iload X.here hx rfl (hb hby d16_44) rfl k) ?_
      show Go p e below _ (T.setTop (mkF m 46 #[.val (.ref b), .val (.int (Int32.ofNat i)), .val (.ref d), .val (.int (Int32.ofNat i)), .val (.int (Int32.ofNat cs.length)), .val (.int (Int32.ofNat i)), s6] [(.int (Int32.ofNat cs.length))]))
      refine Go.ret X hx hlk hT hret rfl (riI (by simp)) (hb hby d16_46) (by decide) (by decide) ?_
      have e1 : cs.take i = cs := List.take_of_length_le (by omega)
      rw [e1] at hall V_d
      exact ⟨by rw [fstW_all cs hall], N, KB, fun _ => V_d⟩
    | succ k ih =>
      intro i T hi L s6 hik o6 hall hT KB V_d V_b N X
      refine Go.st (fun _ k => XS.iload X.here hx rfl (hb hby d16_3) rfl k) ?_
      show Go p e below _ (T.setTop (mkF m 5 #[.val (.ref b), .val (.int (Int32.ofNat i)), .val (.ref d), .val (.int (Int32.ofNat i)), .val (.int (Int32.ofNat cs.length)), .val (.int (Int32.ofNat i)), s6] [(.int (Int32.ofNat i))]))
      refine Go.st (fun _ k => XS.iload X.here hx rfl (hb hby d16_5) rfl k) ?_
      show Go p e below _ (T.setTop (mkF m 7 #[.val (.ref b), .val (.int (Int32.ofNat i)), .val (.ref d), .val (.int (Int32.ofNat i)), .val (.int (Int32.ofNat cs.length)), .val (.int (Int32.ofNat i)), s6] [(.int (Int32.ofNat cs.length)), (.int (Int32.ofNat i))]))
      refine Go.st (fun _ k => XS.icmpNo X.here hx rfl (hb hby d16_7) rfl (Jvm.Free.XT.ii_ge_f ((own_lt (by omega) (by omega)).mpr (by omega) : (Int32.ofNat i) < (Int32.ofNat cs.length))) k) ?_
      show Go p e below _ (T.setTop (mkF m 10 #[.val (.ref b), .val (.int (Int32.ofNat i)), .val (.ref d), .val (.int (Int32.ofNat i)), .val (.int (Int32.ofNat cs.length)), .val (.int (Int32.ofNat i)), s6] []))
      refine Go.st (fun _ k => XS.aloadN X.here hx rfl (hb hby d16_10) rfl rfl k) ?_
      show Go p e below _ (T.setTop (mkF m 11 #[.val (.ref b), .val (.int (Int32.ofNat i)), .val (.ref d), .val (.int (Int32.ofNat i)), .val (.int (Int32.ofNat cs.length)), .val (.int (Int32.ofNat i)), s6] [(.ref b)]))
      refine Go.st (fun _ k => XS.iloadN X.here hx rfl (hb hby d16_11) rfl k) ?_
      show Go p e below _ (T.setTop (mkF m 12 #[.val (.ref b), .val (.int (Int32.ofNat i)), .val (.ref d), .val (.int (Int32.ofNat i)), .val (.int (Int32.ofNat cs.length)), .val (.int (Int32.ofNat i)), s6] [(.int (Int32.ofNat i)), (.ref b)]))
      refine Go.caloadN (i := i) X hx hZ hT V_b (by rw [own_clamp (by omega)]; omega) (by omega) (own_ats cs i (by omega)) (hb hby d16_12) ?_
      show Go p e below _ (T.setTop (mkF m 13 #[.val (.ref b), .val (.int (Int32.ofNat i)), .val (.ref d), .val (.int (Int32.ofNat i)), .val (.int (Int32.ofNat cs.length)), .val (.int (Int32.ofNat i)), s6] [(.int (cs.getD i 0))]))
      refine Go.st (fun _ k => XS.istore X.here hx rfl (hb hby d16_13) rfl (l' := #[.val (.ref b), .val (.int (Int32.ofNat i)), .val (.ref d), .val (.int (Int32.ofNat i)), .val (.int (Int32.ofNat cs.length)), .val (.int (Int32.ofNat i)), .val (.int (cs.getD i 0))]) (own_st6 o6) k) ?_
      show Go p e below _ (T.setTop (mkF m 15 #[.val (.ref b), .val (.int (Int32.ofNat i)), .val (.ref d), .val (.int (Int32.ofNat i)), .val (.int (Int32.ofNat cs.length)), .val (.int (Int32.ofNat i)), .val (.int (cs.getD i 0))] []))
      refine Go.st (fun _ k => XS.iload X.here hx rfl (hb hby d16_15) rfl k) ?_
      show Go p e below _ (T.setTop (mkF m 17 #[.val (.ref b), .val (.int (Int32.ofNat i)), .val (.ref d), .val (.int (Int32.ofNat i)), .val (.int (Int32.ofNat cs.length)), .val (.int (Int32.ofNat i)), .val (.int (cs.getD i 0))] [(.int (cs.getD i 0))]))
      refine Go.st (fun _ k => XS.sipush X.here hx rfl (hb hby d16_17) k) ?_
      show Go p e below _ (T.setTop (mkF m 20 #[.val (.ref b), .val (.int (Int32.ofNat i)), .val (.ref d), .val (.int (Int32.ofNat i)), .val (.int (Int32.ofNat cs.length)), .val (.int (Int32.ofNat i)), .val (.int (cs.getD i 0))] [(.int (255 : Int32)), (.int (cs.getD i 0))]))
      by_cases hwide : (255 : Int32) < (cs.getD i 0)
      · refine Go.st (fun _ k => XS.icmpNo X.here hx rfl (hb hby d16_20) rfl (Jvm.Free.XT.ii_le_f hwide) k) ?_
        show Go p e below _ (T.setTop (mkF m 23 #[.val (.ref b), .val (.int (Int32.ofNat i)), .val (.ref d), .val (.int (Int32.ofNat i)), .val (.int (Int32.ofNat cs.length)), .val (.int (Int32.ofNat i)), .val (.int (cs.getD i 0))] []))
        refine Go.st (fun _ k => XS.iload X.here hx rfl (hb hby d16_23) rfl k) ?_
        show Go p e below _ (T.setTop (mkF m 25 #[.val (.ref b), .val (.int (Int32.ofNat i)), .val (.ref d), .val (.int (Int32.ofNat i)), .val (.int (Int32.ofNat cs.length)), .val (.int (Int32.ofNat i)), .val (.int (cs.getD i 0))] [(.int (Int32.ofNat i))]))
        refine Go.ret X hx hlk hT hret rfl (riI (by simp)) (hb hby d16_25) (by decide) (by decide) ?_
        have e1 := fstW_stop cs i (by omega) hall hwide
        exact ⟨by rw [e1], N, KB, fun q => absurd q (by omega)⟩
      · refine Go.st (fun _ k => XS.icmpYes X.here hx rfl (pc0 := 20) (pc' := 26) rfl (hb hby d16_20) rfl (Jvm.Free.XT.ii_le_t hwide) (by decide) (by decide) k) ?_
        show Go p e below _ (T.setTop (mkF m 26 #[.val (.ref b), .val (.int (Int32.ofNat i)), .val (.ref d), .val (.int (Int32.ofNat i)), .val (.int (Int32.ofNat cs.length)), .val (.int (Int32.ofNat i)), .val (.int (cs.getD i 0))] []))
        refine Go.st (fun _ k => XS.aloadN X.here hx rfl (hb hby d16_26) rfl rfl k) ?_
        show Go p e below _ (T.setTop (mkF m 27 #[.val (.ref b), .val (.int (Int32.ofNat i)), .val (.ref d), .val (.int (Int32.ofNat i)), .val (.int (Int32.ofNat cs.length)), .val (.int (Int32.ofNat i)), .val (.int (cs.getD i 0))] [(.ref d)]))
        refine Go.st (fun _ k => XS.iloadN X.here hx rfl (hb hby d16_27) rfl k) ?_
        show Go p e below _ (T.setTop (mkF m 28 #[.val (.ref b), .val (.int (Int32.ofNat i)), .val (.ref d), .val (.int (Int32.ofNat i)), .val (.int (Int32.ofNat cs.length)), .val (.int (Int32.ofNat i)), .val (.int (cs.getD i 0))] [(.int (Int32.ofNat i)), (.ref d)]))
        refine Go.st (fun _ k => XS.iload X.here hx rfl (hb hby d16_28) rfl k) ?_
        show Go p e below _ (T.setTop (mkF m 30 #[.val (.ref b), .val (.int (Int32.ofNat i)), .val (.ref d), .val (.int (Int32.ofNat i)), .val (.int (Int32.ofNat cs.length)), .val (.int (Int32.ofNat i)), .val (.int (cs.getD i 0))] [(.int (cs.getD i 0)), (.int (Int32.ofNat i)), (.ref d)]))
        refine Go.st (fun _ k => XS.i2b X.here hx rfl (hb hby d16_30) rfl k) ?_
        show Go p e below _ (T.setTop (mkF m 31 #[.val (.ref b), .val (.int (Int32.ofNat i)), .val (.ref d), .val (.int (Int32.ofNat i)), .val (.int (Int32.ofNat cs.length)), .val (.int (Int32.ofNat i)), .val (.int (cs.getD i 0))] [(.int ((cs.getD i 0).toInt8.toInt32)), (.int (Int32.ofNat i)), (.ref d)]))
        have V_d := V_d.pad (pad_rep _ (.int (0 : Int32)) 1)
        refine Go.stBN (i := i) X hx hZ hT V_d (by rw [own_clamp (by omega)]; omega) (by omega) (by simp [List.length_take]; omega) (hb hby d16_31) ?_
        intro T h2 hT Wr0 V_d X
        have N := Fr.app N (own_fr1 (i := i) ge_d)
        have KB := KB.wr Wr0 (Or.inl (List.mem_of_getElem? (i := 0) rfl))
        have V_b := V_b.other Wr0 ne_bd
        have V_d : Arv Z h2 d kd .byte (Int32.ofNat cs.length) (lows (cs.take (i + 1))) (.int 0) := by
          have e1 : (lows (cs.take i)).length = i := by simp [List.length_take]; omega
          have e2 := own_set1 (lows (cs.take i)) (.int (0 : Int32)) (.int (StrChars.lo8 (cs.getD i 0)))
          rw [e1] at e2
          rw [own_take cs i (by omega), lows, List.map_append]
          have e3 : ((cs.getD i 0).toInt8.toInt32).toInt8.toInt32 = StrChars.lo8 (cs.getD i 0) := by simp [StrChars.lo8]
          rw [e3] at V_d
          exact e2 ▸ V_d
        show Go p e below _ (T.setTop (mkF m 32 #[.val (.ref b), .val (.int (Int32.ofNat i)), .val (.ref d), .val (.int (Int32.ofNat i)), .val (.int (Int32.ofNat cs.length)), .val (.int (Int32.ofNat i)), .val (.int (cs.getD i 0))] []))
        refine Go.st (fun _ k => XS.iinc X.here hx rfl (hb hby d16_32) rfl (l' := #[.val (.ref b), .val (.int ((Int32.ofNat i) + (1 : Int32))), .val (.ref d), .val (.int (Int32.ofNat i)), .val (.int (Int32.ofNat cs.length)), .val (.int (Int32.ofNat i)), .val (.int (cs.getD i 0))]) rfl k) ?_
        show Go p e below _ (T.setTop (mkF m 35 #[.val (.ref b), .val (.int ((Int32.ofNat i) + (1 : Int32))), .val (.ref d), .val (.int (Int32.ofNat i)), .val (.int (Int32.ofNat cs.length)), .val (.int (Int32.ofNat i)), .val (.int (cs.getD i 0))] []))
        refine Go.st (fun _ k => XS.iinc X.here hx rfl (hb hby d16_35) rfl (l' := #[.val (.ref b), .val (.int ((Int32.ofNat i) + (1 : Int32))), .val (.ref d), .val (.int ((Int32.ofNat i) + (1 : Int32))), .val (.int (Int32.ofNat cs.length)), .val (.int (Int32.ofNat i)), .val (.int (cs.getD i 0))]) rfl k) ?_
        show Go p e below _ (T.setTop (mkF m 38 #[.val (.ref b), .val (.int ((Int32.ofNat i) + (1 : Int32))), .val (.ref d), .val (.int ((Int32.ofNat i) + (1 : Int32))), .val (.int (Int32.ofNat cs.length)), .val (.int (Int32.ofNat i)), .val (.int (cs.getD i 0))] []))
        refine Go.st (fun _ k => XS.iinc X.here hx rfl (hb hby d16_38) rfl (l' := #[.val (.ref b), .val (.int ((Int32.ofNat i) + (1 : Int32))), .val (.ref d), .val (.int ((Int32.ofNat i) + (1 : Int32))), .val (.int (Int32.ofNat cs.length)), .val (.int ((Int32.ofNat i) + (1 : Int32))), .val (.int (cs.getD i 0))]) rfl k) ?_
        show Go p e below _ (T.setTop (mkF m 41 #[.val (.ref b), .val (.int ((Int32.ofNat i) + (1 : Int32))), .val (.ref d), .val (.int ((Int32.ofNat i) + (1 : Int32))), .val (.int (Int32.ofNat cs.length)), .val (.int ((Int32.ofNat i) + (1 : Int32))), .val (.int (cs.getD i 0))] []))
        refine Go.st (fun _ k => XS.goto X.here hx rfl (pc0 := 41) (pc' := 3) rfl (hb hby d16_41) (by decide) (by decide) k) ?_
        show Go p e below _ (T.setTop (mkF m 3 #[.val (.ref b), .val (.int ((Int32.ofNat i) + (1 : Int32))), .val (.ref d), .val (.int ((Int32.ofNat i) + (1 : Int32))), .val (.int (Int32.ofNat cs.length)), .val (.int ((Int32.ofNat i) + (1 : Int32))), .val (.int (cs.getD i 0))] []))
        rw [own_succ]
        exact ih (i + 1) T _ _ _ (by omega) (One.val rfl) (fun c hc => by rw [own_take cs i (by omega)] at hc; rcases List.mem_append.mp hc with q | q; exact hall c q; cases List.mem_singleton.mp q; exact hwide) hT KB V_d V_b N X
  exact loop cs.length 0 T _ _ _ (by omega) One.u (by simp) hT (Keep.refl _ _) V_d V_b (Fr.nil n0) X
def QTb (Z : State) (n0 : Nat) (cs : List Int32) (h0 : Heap) (v : Option Value) (h : Heap) (L : List Loc) : Prop := ∃ (r : Addr) (kr : ClassId), v = some (.ref r) ∧ Fr n0 L ∧ h0.size ≤ r ∧ Ext h0 h ∧ Arv Z h r kr .byte (Int32.ofNat (2 * cs.length)) (StrChars.Road.wideBytes cs) (.int 0)
theorem pd_1 : parseMethodDescriptor "(I)[B" = some ⟨[.int], (some (.array .byte))⟩ := by decide +kernel
theorem pd_2 : parseMethodDescriptor "([BII)V" = some ⟨[(.array .byte), .int, .int], none⟩ := by decide +kernel
theorem d17_0 : decode jdk_52_method_14_code 0 = .ok (.iload_n 2, 1) := by decide +kernel
theorem d17_1 : decode jdk_52_method_14_code 1 = .ok (.invokestatic 107, 3) := by decide +kernel
theorem d17_4 : decode jdk_52_method_14_code 4 = .ok (.astore_n 3, 1) := by decide +kernel
theorem d17_5 : decode jdk_52_method_14_code 5 = .ok (.iconst 0, 1) := by decide +kernel
theorem d17_6 : decode jdk_52_method_14_code 6 = .ok (.istore 4, 2) := by decide +kernel
theorem d17_8 : decode jdk_52_method_14_code 8 = .ok (.iload 4, 2) := by decide +kernel
theorem d17_10 : decode jdk_52_method_14_code 10 = .ok (.iload_n 2, 1) := by decide +kernel
theorem d17_11 : decode jdk_52_method_14_code 11 = .ok (.if_icmp .ge 21, 3) := by decide +kernel
theorem d17_14 : decode jdk_52_method_14_code 14 = .ok (.aload_n 3, 1) := by decide +kernel
theorem d17_15 : decode jdk_52_method_14_code 15 = .ok (.iload 4, 2) := by decide +kernel
theorem d17_17 : decode jdk_52_method_14_code 17 = .ok (.aload_n 0, 1) := by decide +kernel
theorem d17_18 : decode jdk_52_method_14_code 18 = .ok (.iload_n 1, 1) := by decide +kernel
theorem d17_19 : decode jdk_52_method_14_code 19 = .ok (.caload, 1) := by decide +kernel
theorem d17_20 : decode jdk_52_method_14_code 20 = .ok (.invokestatic 111, 3) := by decide +kernel
theorem d17_23 : decode jdk_52_method_14_code 23 = .ok (.iinc 1 1, 3) := by decide +kernel
theorem d17_26 : decode jdk_52_method_14_code 26 = .ok (.iinc 4 1, 3) := by decide +kernel
theorem d17_29 : decode jdk_52_method_14_code 29 = .ok (.goto (-21), 3) := by decide +kernel
theorem d17_32 : decode jdk_52_method_14_code 32 = .ok (.aload_n 3, 1) := by decide +kernel
theorem d17_33 : decode jdk_52_method_14_code 33 = .ok (.areturn, 1) := by decide +kernel
theorem pn_5 : plainFor (⟨"java/lang/StringUTF16", "toBytes", "([CII)[B"⟩ : MethodName) = true := by first | exact plainFor_of_name (by first | (simp [plainName, overriddenIn]; done) | decide +kernel) | decide +kernel
theorem ef_AII_5 (m : MethodId) (y0 : Addr) (y1 : Int32) (y2 : Int32) : entryFrame m #[(.ref y0), (.int y1), (.int y2)] 5 = mkF m 0 #[.val (.ref y0), .val (.int y1), .val (.int y2), .unset, .unset] [] := by first | (simp [entryFrame, mkF, argsToLocals, Value.category]; done) | rfl
set_option maxRecDepth 65536 in
set_option maxHeartbeats 40000000 in
theorem met_tob (l : Launch) (Z : State) (a0 : Array Value) (hw : ∀ d ∈ tables_1, d.before a0 Z = true) (ws : List Jvm.Cond) (n0 : Nat) (b : Addr) (kC : ClassId) (cs : List Int32) (h0 : Heap) (O : Old Z n0 h0) (S16 : St16 Z) (V_b : Arv Z h0 b kC .char (Int32.ofNat cs.length) (cs.map Value.int) (.int 0)) (hn : cs.length ≤ 40) :
    MetFree l (⟨"java/lang/StringUTF16", "toBytes", "([CII)[B"⟩ : MethodName) (head1 (Jvm.Cond.code (⟨"java/lang/StringUTF16", "toBytes", "([CII)[B"⟩ : MethodName) jdk_52_method_14_code 5 (some (.array .byte)) :: ws) ({ frames := 2, cells := 1, slots := 80, locals := 24 } : Room)) (fun aa U => aa = #[(.ref b), (.int (0 : Int32)), (.int (Int32.ofNat cs.length))] ∧ Z.Warmed39 U.vm ∧ U.heap = h0) (fun _ _ _ _ _ => True) (fun _ U o U' => ∃ v L, o = .returned v ∧ QTb Z n0 cs h0 v U'.heap L ∧ FrameEnd U o U' L ({ frames := 2, cells := 1, slots := 80, locals := 24 } : Room).cells ({ frames := 2, cells := 1, slots := 80, locals := 24 } : Room).slots) := by
  refine openP (y := (⟨"java/lang/StringUTF16", "toBytes", "([CII)[B"⟩ : MethodName)) pn_5 ?_
  intro p e s m below meth c T hx hby hml hret hlk hnm hZ hown X hT
  refine Go.st (fun _ k => castTop (ef_AII_5 m b (0 : Int32) (Int32.ofNat cs.length)) k) ?_
  show Go p e below _ (T.setTop (mkF m 0 #[.val (.ref b), .val (.int (0 : Int32)), .val (.int (Int32.ofNat cs.length)), .unset, .unset] []))
  refine Go.st (fun _ k => XS.iloadN X.here hx rfl (hb hby d17_0) rfl k) ?_
  show Go p e below _ (T.setTop (mkF m 1 #[.val (.ref b), .val (.int (0 : Int32)), .val (.int (Int32.ofNat cs.length)), .unset, .unset] [(.int (Int32.ofNat cs.length))]))
  have lt_b := V_b.lt
  refine Go.callP (argsL := [(.int (Int32.ofNat cs.length))]) (rest := []) (W := 0) (ck := 1) (sk := 80) X hx hZ hown (hml.trans rfl) hT (hw _ (List.mem_of_getElem? (i := 82) rfl)) (hw _ (List.mem_of_getElem? (i := 83) rfl)) (hw _ (List.mem_of_getElem? (i := 74) rfl)) (hw _ (List.mem_of_getElem? (i := 84) rfl)) (by decide) pd_1 rfl rfl (Nat.le_of_ble_eq_true rfl) (hb hby d17_1) (backOf (W := 0) (met_nbf l Z a0 hw [] cs.length _ hn) hZ (hw _ (List.mem_of_getElem? (i := 84) rfl)) (hw _ (List.mem_of_getElem? (i := 74) rfl)) (by decide) (by decide)) (by decide) (by decide) ?_
  intro v T h1 L hT hQ X
  obtain ⟨r, kr, rfl, rfl, g_r, Ex0, V_r⟩ := hQ
  have V_b := V_b.ext Ex0
  have ne_br : b ≠ r := Nat.ne_of_lt (by rw [g_r]; exact lt_b)
  have ge_r : n0 ≤ r := Nat.le_trans (own_le O) (Nat.le_of_eq g_r.symm)
  have gk_r : h0.size ≤ r := Nat.le_of_eq g_r.symm
  have O := O.ext Ex0
  have KB := extK Ex0
  show Go p e below _ (T.setTop (mkF m 4 #[.val (.ref b), .val (.int (0 : Int32)), .val (.int (Int32.ofNat cs.length)), .unset, .unset] [(.ref r)]))
  refine Go.st (fun _ k => XS.astoreN X.here hx rfl (hb hby d17_4) rfl rfl (l' := #[.val (.ref b), .val (.int (0 : Int32)), .val (.int (Int32.ofNat cs.length)), .val (.ref r), .unset]) rfl k) ?_
  show Go p e below _ (T.setTop (mkF m 5 #[.val (.ref b), .val (.int (0 : Int32)), .val (.int (Int32.ofNat cs.length)), .val (.ref r), .unset] []))
  refine Go.st (fun _ k => XS.iconst X.here hx rfl (hb hby d17_5) k) ?_
  show Go p e below _ (T.setTop (mkF m 6 #[.val (.ref b), .val (.int (0 : Int32)), .val (.int (Int32.ofNat cs.length)), .val (.ref r), .unset] [(.int (0 : Int32))]))
  refine Go.st (fun _ k => XS.istore X.here hx rfl (hb hby d17_6) rfl (l' := #[.val (.ref b), .val (.int (0 : Int32)), .val (.int (Int32.ofNat cs.length)), .val (.ref r), .val (.int (0 : Int32))]) rfl k) ?_
  show Go p e below _ (T.setTop (mkF m 8 #[.val (.ref b), .val (.int (0 : Int32)), .val (.int (Int32.ofNat cs.length)), .val (.ref r), .val (.int (0 : Int32))] []))
  have loop : ∀ (k i : Nat) (T : State) (hi : Heap) (L : List Loc), i + k = cs.length → T.heap = hi → Keep h0 hi [] → Old Z n0 hi → Arv Z hi r kr .byte (Int32.ofNat (2 * cs.length)) (StrChars.Road.wideBytes (cs.take i)) (.int 0) → Arv Z hi b kC .char (Int32.ofNat cs.length) (cs.map Value.int) (.int 0) → Fr n0 L → Stand p l e ({ frames := 2, cells := 1, slots := 80, locals := 24 } : Room) s m #[(.ref b), (.int (0 : Int32)), (.int (Int32.ofNat cs.length))] below meth c T L 1 80 → Go p e below (EndP s (QTb Z n0 cs h0) ({ frames := 2, cells := 1, slots := 80, locals := 24 } : Room).cells ({ frames := 2, cells := 1, slots := 80, locals := 24 } : Room).slots) (T.setTop (mkF m 8 #[.val (.ref b), .val (.int (Int32.ofNat i)), .val (.int (Int32.ofNat cs.length)), .val (.ref r), .val (.int (Int32.ofNat i))] [])) := by
    intro k
    induction k with
    | zero =>
      intro i T hi L hik hT KB O V_r V_b N X
      refine Go.st (fun _ k => XS.iload X.here hx rfl (hb hby d17_8) rfl k) ?_
      show Go p e below _ (T.setTop (mkF m 10 #[.val (.ref b), .val (.int (Int32.ofNat i)), .val (.int (Int32.ofNat cs.length)), .val (.ref r), .val (.int (Int32.ofNat i))] [(.int (Int32.ofNat i))]))
      refine Go.st (fun _ k => XS.iloadN X.here hx rfl (hb hby d17_10) rfl k) ?_
      show Go p e below _ (T.setTop (mkF m 11 #[.val (.ref b), .val (.int (Int32.ofNat i)), .val (.int (Int32.ofNat cs.length)), .val (.ref r), .val (.int (Int32.ofNat i))] [(.int (Int32.ofNat cs.length)), (.int (Int32.ofNat i))]))
      refine Go.st (fun _ k => XS.icmpYes X.here hx rfl (pc0 := 11) (pc' := 32) rfl (hb hby d17_11) rfl (Jvm.Free.XT.ii_ge_t (fun q => absurd ((own_lt (by omega) (by omega)).mp q) (by omega) : ¬ ((Int32.ofNat i) < (Int32.ofNat cs.length)))) (by decide) (by decide) k) ?_
      show Go p e below _ (T.setTop (mkF m 32 #[.val (.ref b), .val (.int (Int32.ofNat i)), .val (.int (Int32.ofNat cs.length)), .val (.ref r), .val (.int (Int32.ofNat i))] []))
      refine Go.st (fun _ k => XS.aloadN X.here hx rfl (hb hby d17_32) rfl rfl k) ?_
      show Go p e below _ (T.setTop (mkF m 33 #[.val (.ref b), .val (.int (Int32.ofNat i)), .val (.int (Int32.ofNat cs.length)), .val (.ref r), .val (.int (Int32.ofNat i))] [(.ref r)]))
      refine Go.ret X hx hlk hT hret rfl (riA rfl rfl) (hb hby d17_33) (by decide) (by decide) ?_
      rw [List.take_of_length_le (by omega)] at V_r
      exact ⟨r, kr, rfl, N, gk_r, keepE KB, V_r⟩
    | succ k ih =>
      intro i T hi L hik hT KB O V_r V_b N X
      refine Go.st (fun _ k => XS.iload X.here hx rfl (hb hby d17_8) rfl k) ?_
      show Go p e below _ (T.setTop (mkF m 10 #[.val (.ref b), .val (.int (Int32.ofNat i)), .val (.int (Int32.ofNat cs.length)), .val (.ref r), .val (.int (Int32.ofNat i))] [(.int (Int32.ofNat i))]))
      refine Go.st (fun _ k => XS.iloadN X.here hx rfl (hb hby d17_10) rfl k) ?_
      show Go p e below _ (T.setTop (mkF m 11 #[.val (.ref b), .val (.int (Int32.ofNat i)), .val (.int (Int32.ofNat cs.length)), .val (.ref r), .val (.int (Int32.ofNat i))] [(.int (Int32.ofNat cs.length)), (.int (Int32.ofNat i))]))
      refine Go.st (fun _ k => XS.icmpNo X.here hx rfl (hb hby d17_11) rfl (Jvm.Free.XT.ii_ge_f ((own_lt (by omega) (by omega)).mpr (by omega) : (Int32.ofNat i) < (Int32.ofNat cs.length))) k) ?_
      show Go p e below _ (T.setTop (mkF m 14 #[.val (.ref b), .val (.int (Int32.ofNat i)), .val (.int (Int32.ofNat cs.length)), .val (.ref r), .val (.int (Int32.ofNat i))] []))
      refine Go.st (fun _ k => XS.aloadN X.here hx rfl (hb hby d17_14) rfl rfl k) ?_
      show Go p e below _ (T.setTop (mkF m 15 #[.val (.ref b), .val (.int (Int32.ofNat i)), .val (.int (Int32.ofNat cs.length)), .val (.ref r), .val (.int (Int32.ofNat i))] [(.ref r)]))
      refine Go.st (fun _ k => XS.iload X.here hx rfl (hb hby d17_15) rfl k) ?_
      show Go p e below _ (T.setTop (mkF m 17 #[.val (.ref b), .val (.int (Int32.ofNat i)), .val (.int (Int32.ofNat cs.length)), .val (.ref r), .val (.int (Int32.ofNat i))] [(.int (Int32.ofNat i)), (.ref r)]))
      refine Go.st (fun _ k => XS.aloadN X.here hx rfl (hb hby d17_17) rfl rfl k) ?_
      show Go p e below _ (T.setTop (mkF m 18 #[.val (.ref b), .val (.int (Int32.ofNat i)), .val (.int (Int32.ofNat cs.length)), .val (.ref r), .val (.int (Int32.ofNat i))] [(.ref b), (.int (Int32.ofNat i)), (.ref r)]))
      refine Go.st (fun _ k => XS.iloadN X.here hx rfl (hb hby d17_18) rfl k) ?_
      show Go p e below _ (T.setTop (mkF m 19 #[.val (.ref b), .val (.int (Int32.ofNat i)), .val (.int (Int32.ofNat cs.length)), .val (.ref r), .val (.int (Int32.ofNat i))] [(.int (Int32.ofNat i)), (.ref b), (.int (Int32.ofNat i)), (.ref r)]))
      refine Go.caloadN (i := i) X hx hZ hT V_b (by rw [own_clamp (by omega)]; omega) (by omega) (own_ats cs i (by omega)) (hb hby d17_19) ?_
      show Go p e below _ (T.setTop (mkF m 20 #[.val (.ref b), .val (.int (Int32.ofNat i)), .val (.int (Int32.ofNat cs.length)), .val (.ref r), .val (.int (Int32.ofNat i))] [(.int (cs.getD i 0)), (.int (Int32.ofNat i)), (.ref r)]))
      have e1 : (StrChars.Road.wideBytes (cs.take i)).length = 2 * i := by rw [own_wlen, List.length_take]; omega
      have V_r := V_r.pad (pad_rep _ (.int (0 : Int32)) 2)
      refine Go.callP (argsL := [(.ref r), (.int (Int32.ofNat i)), (.int (cs.getD i 0))]) (rest := []) (W := 0) (ck := 0) (sk := 0) X hx hZ hown (hml.trans rfl) hT (hw _ (List.mem_of_getElem? (i := 89) rfl)) (hw _ (List.mem_of_getElem? (i := 90) rfl)) (hw _ (List.mem_of_getElem? (i := 74) rfl)) (hw _ (List.mem_of_getElem? (i := 91) rfl)) (by decide) pd_2 rfl rfl (Nat.le_of_ble_eq_true rfl) (hb hby d17_20) (backOf (W := 0) (met_putc l Z a0 hw [] n0 r kr (2 * cs.length) _ i (cs.getD i 0) _ O S16 ge_r V_r (by omega) (by omega) (by simp only [List.length_append, e1, List.length_replicate]; omega)) hZ (hw _ (List.mem_of_getElem? (i := 91) rfl)) (hw _ (List.mem_of_getElem? (i := 74) rfl)) (by decide) (by decide)) (by decide) (by decide) ?_
      intro v T h2 L hT hQ X
      obtain ⟨rfl, N0, K0, V_r⟩ := hQ
      have N := Fr.app N N0
      have KB := KB.trans K0 (allS (Or.inr gk_r) all0)
      have O := O.keep K0 (allS ge_r all0)
      have V_b := V_b.keep K0 (ninS ne_br nin0)
      have V_r : Arv Z h2 r kr .byte (Int32.ofNat (2 * cs.length)) (StrChars.Road.wideBytes (cs.take (i + 1))) (.int 0) := by
        have e2 := own_set2 (StrChars.Road.wideBytes (cs.take i)) (.int (0 : Int32)) (.int (0 : Int32)) (.int (StrChars.lo8 (cs.getD i 0))) (.int (StrChars.hi8 (cs.getD i 0)))
        rw [e1] at e2
        rw [own_take cs i (by omega), own_wapp]
        exact e2 ▸ V_r
      show Go p e below _ (T.setTop (mkF m 23 #[.val (.ref b), .val (.int (Int32.ofNat i)), .val (.int (Int32.ofNat cs.length)), .val (.ref r), .val (.int (Int32.ofNat i))] []))
      refine Go.st (fun _ k => XS.iinc X.here hx rfl (hb hby d17_23) rfl (l' := #[.val (.ref b), .val (.int ((Int32.ofNat i) + (1 : Int32))), .val (.int (Int32.ofNat cs.length)), .val (.ref r), .val (.int (Int32.ofNat i))]) rfl k) ?_
      show Go p e below _ (T.setTop (mkF m 26 #[.val (.ref b), .val (.int ((Int32.ofNat i) + (1 : Int32))), .val (.int (Int32.ofNat cs.length)), .val (.ref r), .val (.int (Int32.ofNat i))] []))
      refine Go.st (fun _ k => XS.iinc X.here hx rfl (hb hby d17_26) rfl (l' := #[.val (.ref b), .val (.int ((Int32.ofNat i) + (1 : Int32))), .val (.int (Int32.ofNat cs.length)), .val (.ref r), .val (.int ((Int32.ofNat i) + (1 : Int32)))]) rfl k) ?_
      show Go p e below _ (T.setTop (mkF m 29 #[.val (.ref b), .val (.int ((Int32.ofNat i) + (1 : Int32))), .val (.int (Int32.ofNat cs.length)), .val (.ref r), .val (.int ((Int32.ofNat i) + (1 : Int32)))] []))
      refine Go.st (fun _ k => XS.goto X.here hx rfl (pc0 := 29) (pc' := 8) rfl (hb hby d17_29) (by decide) (by decide) k) ?_
      show Go p e below _ (T.setTop (mkF m 8 #[.val (.ref b), .val (.int ((Int32.ofNat i) + (1 : Int32))), .val (.int (Int32.ofNat cs.length)), .val (.ref r), .val (.int ((Int32.ofNat i) + (1 : Int32)))] []))
      rw [own_succ]
      exact ih (i + 1) T _ _ (by omega) hT KB O V_r V_b N X
  exact loop cs.length 0 T _ _ (by omega) hT KB O V_r V_b (Fr.nil n0) X
def QC3 (Z : State) (n0 : Nat) (cs : List Int32) (h0 : Heap) (v : Option Value) (h : Heap) (L : List Loc) : Prop := ∃ (r : Addr) (kr : ClassId) (cd N2 : Int32) (vs : List Value), v = some (.ref r) ∧ Fr n0 L ∧ h0.size ≤ r ∧ Ext h0 h ∧ Arv Z h r kr .byte N2 vs (.int 0) ∧ StrChars.Road.CodA cs cd N2 vs
theorem own_getmem (cs : List Int32) (i : Nat) (h : i < cs.length) : cs.getD i 0 ∈ cs := by rw [List.getD_eq_getElem?_getD, List.getElem?_eq_getElem h]; exact List.getElem_mem h
theorem pd_3 : parseMethodDescriptor "([CI[BII)I" = some ⟨[(.array .char), .int, (.array .byte), .int, .int], (some .int)⟩ := by decide +kernel
theorem pd_4 : parseMethodDescriptor "([CII)[B" = some ⟨[(.array .char), .int, .int], (some (.array .byte))⟩ := by decide +kernel
theorem pd_5 : parseMethodDescriptor "([BI)C" = some ⟨[(.array .byte), .int], (some .char)⟩ := by decide +kernel
theorem d15_0 : decode jdk_52_method_16_code 0 = .ok (.iload_n 2, 1) := by decide +kernel
theorem d15_1 : decode jdk_52_method_16_code 1 = .ok (.newarray .byte, 2) := by decide +kernel
theorem d15_3 : decode jdk_52_method_16_code 3 = .ok (.astore_n 3, 1) := by decide +kernel
theorem d15_4 : decode jdk_52_method_16_code 4 = .ok (.aload_n 0, 1) := by decide +kernel
theorem d15_5 : decode jdk_52_method_16_code 5 = .ok (.iload_n 1, 1) := by decide +kernel
theorem d15_6 : decode jdk_52_method_16_code 6 = .ok (.aload_n 3, 1) := by decide +kernel
theorem d15_7 : decode jdk_52_method_16_code 7 = .ok (.iconst 0, 1) := by decide +kernel
theorem d15_8 : decode jdk_52_method_16_code 8 = .ok (.iload_n 2, 1) := by decide +kernel
theorem d15_9 : decode jdk_52_method_16_code 9 = .ok (.invokestatic 115, 3) := by decide +kernel
theorem d15_12 : decode jdk_52_method_16_code 12 = .ok (.istore 4, 2) := by decide +kernel
theorem d15_14 : decode jdk_52_method_16_code 14 = .ok (.iload 4, 2) := by decide +kernel
theorem d15_16 : decode jdk_52_method_16_code 16 = .ok (.iload_n 2, 1) := by decide +kernel
theorem d15_17 : decode jdk_52_method_16_code 17 = .ok (.if_icmp .eq 40, 3) := by decide +kernel
theorem d15_20 : decode jdk_52_method_16_code 20 = .ok (.aload_n 0, 1) := by decide +kernel
theorem d15_21 : decode jdk_52_method_16_code 21 = .ok (.iload_n 1, 1) := by decide +kernel
theorem d15_22 : decode jdk_52_method_16_code 22 = .ok (.iload_n 2, 1) := by decide +kernel
theorem d15_23 : decode jdk_52_method_16_code 23 = .ok (.invokestatic 119, 3) := by decide +kernel
theorem d15_26 : decode jdk_52_method_16_code 26 = .ok (.astore 5, 2) := by decide +kernel
theorem d15_28 : decode jdk_52_method_16_code 28 = .ok (.aload 5, 2) := by decide +kernel
theorem d15_30 : decode jdk_52_method_16_code 30 = .ok (.iload 4, 2) := by decide +kernel
theorem d15_32 : decode jdk_52_method_16_code 32 = .ok (.invokestatic 71, 3) := by decide +kernel
theorem d15_35 : decode jdk_52_method_16_code 35 = .ok (.sipush 255, 3) := by decide +kernel
theorem d15_38 : decode jdk_52_method_16_code 38 = .ok (.if_icmp .gt 16, 3) := by decide +kernel
theorem d15_54 : decode jdk_52_method_16_code 54 = .ok (.aload 5, 2) := by decide +kernel
theorem d15_56 : decode jdk_52_method_16_code 56 = .ok (.areturn, 1) := by decide +kernel
theorem d15_57 : decode jdk_52_method_16_code 57 = .ok (.aload_n 3, 1) := by decide +kernel
theorem d15_58 : decode jdk_52_method_16_code 58 = .ok (.areturn, 1) := by decide +kernel
theorem pn_6 : plainFor (⟨"java/lang/StringUTF16", "compress", "([CII)[B"⟩ : MethodName) = true := by first | exact plainFor_of_name (by first | (simp [plainName, overriddenIn]; done) | decide +kernel) | decide +kernel
theorem ef_AII_6 (m : MethodId) (y0 : Addr) (y1 : Int32) (y2 : Int32) : entryFrame m #[(.ref y0), (.int y1), (.int y2)] 6 = mkF m 0 #[.val (.ref y0), .val (.int y1), .val (.int y2), .unset, .unset, .unset] [] := by first | (simp [entryFrame, mkF, argsToLocals, Value.category]; done) | rfl
set_option maxRecDepth 65536 in
set_option maxHeartbeats 40000000 in
theorem met_cmp3 (l : Launch) (Z : State) (a0 : Array Value) (hw : ∀ d ∈ tables_1, d.before a0 Z = true) (ws : List Jvm.Cond) (n0 : Nat) (b : Addr) (kC : ClassId) (cs : List Int32) (h0 : Heap) (O : Old Z n0 h0) (S16 : St16 Z) (V_b : Arv Z h0 b kC .char (Int32.ofNat cs.length) (cs.map Value.int) (.int 0)) (hn : cs.length ≤ 40) (hp : ∀ c ∈ cs, ¬ c < 0 ∧ ¬ (65535 : Int32) < c) :
    MetFree l (⟨"java/lang/StringUTF16", "compress", "([CII)[B"⟩ : MethodName) (head1 (Jvm.Cond.code (⟨"java/lang/StringUTF16", "compress", "([CII)[B"⟩ : MethodName) jdk_52_method_16_code 6 (some (.array .byte)) :: ws) ({ frames := 3, cells := 2, slots := 120, locals := 40 } : Room)) (fun aa U => aa = #[(.ref b), (.int (0 : Int32)), (.int (Int32.ofNat cs.length))] ∧ Z.Warmed39 U.vm ∧ U.heap = h0) (fun _ _ _ _ _ => True) (fun _ U o U' => ∃ v L, o = .returned v ∧ QC3 Z n0 cs h0 v U'.heap L ∧ FrameEnd U o U' L ({ frames := 3, cells := 2, slots := 120, locals := 40 } : Room).cells ({ frames := 3, cells := 2, slots := 120, locals := 40 } : Room).slots) := by
  refine openP (y := (⟨"java/lang/StringUTF16", "compress", "([CII)[B"⟩ : MethodName)) pn_6 ?_
  intro p e s m below meth c T hx hby hml hret hlk hnm hZ hown X hT
  refine Go.st (fun _ k => castTop (ef_AII_6 m b (0 : Int32) (Int32.ofNat cs.length)) k) ?_
  show Go p e below _ (T.setTop (mkF m 0 #[.val (.ref b), .val (.int (0 : Int32)), .val (.int (Int32.ofNat cs.length)), .unset, .unset, .unset] []))
  refine Go.st (fun _ k => XS.iloadN X.here hx rfl (hb hby d15_0) rfl k) ?_
  show Go p e below _ (T.setTop (mkF m 1 #[.val (.ref b), .val (.int (0 : Int32)), .val (.int (Int32.ofNat cs.length)), .unset, .unset, .unset] [(.int (Int32.ofNat cs.length))]))
  have lt_b := V_b.lt
  refine Go.newA (n := cs.length) (cap := 40) X hx hZ hT (hw _ (List.mem_of_getElem? (i := 16) rfl)) (hb hby d15_1) (by omega) hn (by decide) (by decide) (by decide) ?_
  intro d T h1 kd g_d hT Ex0 V_d X
  have V_b := V_b.ext Ex0
  have ne_bd : b ≠ d := Nat.ne_of_lt (by rw [g_d]; exact lt_b)
  have ge_d : n0 ≤ d := Nat.le_trans (own_le O) (Nat.le_of_eq g_d.symm)
  have gk_d : h0.size ≤ d := Nat.le_of_eq g_d.symm
  have O := O.ext Ex0
  have KB := extK Ex0
  have N := Fr.nil n0
  show Go p e below _ (T.setTop (mkF m 3 #[.val (.ref b), .val (.int (0 : Int32)), .val (.int (Int32.ofNat cs.length)), .unset, .unset, .unset] [(.ref d)]))
  refine Go.st (fun _ k => XS.astoreN X.here hx rfl (hb hby d15_3) rfl rfl (l' := #[.val (.ref b), .val (.int (0 : Int32)), .val (.int (Int32.ofNat cs.length)), .val (.ref d), .unset, .unset]) rfl k) ?_
  show Go p e below _ (T.setTop (mkF m 4 #[.val (.ref b), .val (.int (0 : Int32)), .val (.int (Int32.ofNat cs.length)), .val (.ref d), .unset, .unset] []))
  refine Go.st (fun _ k => XS.aloadN X.here hx rfl (hb hby d15_4) rfl rfl k) ?_
  show Go p e below _ (T.setTop (mkF m 5 #[.val (.ref b), .val (.int (0 : Int32)), .val (.int (Int32.ofNat cs.length)), .val (.ref d), .unset, .unset] [(.ref b)]))
  refine Go.st (fun _ k => XS.iloadN X.here hx rfl (hb hby d15_5) rfl k) ?_
  show Go p e below _ (T.setTop (mkF m 6 #[.val (.ref b), .val (.int (0 : Int32)), .val (.int (Int32.ofNat cs.length)), .val (.ref d), .unset, .unset] [(.int (0 : Int32)), (.ref b)]))
  refine Go.st (fun _ k => XS.aloadN X.here hx rfl (hb hby d15_6) rfl rfl k) ?_
  show Go p e below _ (T.setTop (mkF m 7 #[.val (.ref b), .val (.int (0 : Int32)), .val (.int (Int32.ofNat cs.length)), .val (.ref d), .unset, .unset] [(.ref d), (.int (0 : Int32)), (.ref b)]))
  refine Go.st (fun _ k => XS.iconst X.here hx rfl (hb hby d15_7) k) ?_
  show Go p e below _ (T.setTop (mkF m 8 #[.val (.ref b), .val (.int (0 : Int32)), .val (.int (Int32.ofNat cs.length)), .val (.ref d), .unset, .unset] [(.int (0 : Int32)), (.ref d), (.int (0 : Int32)), (.ref b)]))
  refine Go.st (fun _ k => XS.iloadN X.here hx rfl (hb hby d15_8) rfl k) ?_
  show Go p e below _ (T.setTop (mkF m 9 #[.val (.ref b), .val (.int (0 : Int32)), .val (.int (Int32.ofNat cs.length)), .val (.ref d), .unset, .unset] [(.int (Int32.ofNat cs.length)), (.int (0 : Int32)), (.ref d), (.int (0 : Int32)), (.ref b)]))
  refine Go.callP (argsL := [(.ref b), (.int (0 : Int32)), (.ref d), (.int (0 : Int32)), (.int (Int32.ofNat cs.length))]) (rest := []) (W := 0) (ck := 0) (sk := 0) X hx hZ hown (hml.trans rfl) hT (hw _ (List.mem_of_getElem? (i := 76) rfl)) (hw _ (List.mem_of_getElem? (i := 77) rfl)) (hw _ (List.mem_of_getElem? (i := 74) rfl)) (hw _ (List.mem_of_getElem? (i := 78) rfl)) (by decide) pd_3 rfl rfl (Nat.le_of_ble_eq_true rfl) (hb hby d15_9) (backOf (W := 0) (met_cmp5 l Z a0 hw [] n0 b d kC kd cs _ ge_d ne_bd V_b V_d hn) hZ (hw _ (List.mem_of_getElem? (i := 78) rfl)) (hw _ (List.mem_of_getElem? (i := 74) rfl)) (by decide) (by decide)) (by decide) (by decide) ?_
  intro v T h2 L hT hQ X
  obtain ⟨rfl, N0, K0, V_d⟩ := hQ
  have N := Fr.app N N0
  have KB := KB.trans K0 (allS (Or.inr gk_d) all0)
  have O := O.keep K0 (allS ge_d all0)
  have V_b := V_b.keep K0 (ninS ne_bd nin0)
  show Go p e below _ (T.setTop (mkF m 12 #[.val (.ref b), .val (.int (0 : Int32)), .val (.int (Int32.ofNat cs.length)), .val (.ref d), .unset, .unset] [(.int (Int32.ofNat (fstW cs)))]))
  refine Go.st (fun _ k => XS.istore X.here hx rfl (hb hby d15_12) rfl (l' := #[.val (.ref b), .val (.int (0 : Int32)), .val (.int (Int32.ofNat cs.length)), .val (.ref d), .val (.int (Int32.ofNat (fstW cs))), .unset]) rfl k) ?_
  show Go p e below _ (T.setTop (mkF m 14 #[.val (.ref b), .val (.int (0 : Int32)), .val (.int (Int32.ofNat cs.length)), .val (.ref d), .val (.int (Int32.ofNat (fstW cs))), .unset] []))
  refine Go.st (fun _ k => XS.iload X.here hx rfl (hb hby d15_14) rfl k) ?_
  show Go p e below _ (T.setTop (mkF m 16 #[.val (.ref b), .val (.int (0 : Int32)), .val (.int (Int32.ofNat cs.length)), .val (.ref d), .val (.int (Int32.ofNat (fstW cs))), .unset] [(.int (Int32.ofNat (fstW cs)))]))
  refine Go.st (fun _ k => XS.iloadN X.here hx rfl (hb hby d15_16) rfl k) ?_
  show Go p e below _ (T.setTop (mkF m 17 #[.val (.ref b), .val (.int (0 : Int32)), .val (.int (Int32.ofNat cs.length)), .val (.ref d), .val (.int (Int32.ofNat (fstW cs))), .unset] [(.int (Int32.ofNat cs.length)), (.int (Int32.ofNat (fstW cs)))]))
  by_cases hne : (Int32.ofNat (fstW cs)) = (Int32.ofNat cs.length)
  · refine Go.st (fun _ k => XS.icmpYes X.here hx rfl (pc0 := 17) (pc' := 57) rfl (hb hby d15_17) rfl (Jvm.Free.XT.ii_eq_t hne) (by decide) (by decide) k) ?_
    show Go p e below _ (T.setTop (mkF m 57 #[.val (.ref b), .val (.int (0 : Int32)), .val (.int (Int32.ofNat cs.length)), .val (.ref d), .val (.int (Int32.ofNat (fstW cs))), .unset] []))
    refine Go.st (fun _ k => XS.aloadN X.here hx rfl (hb hby d15_57) rfl rfl k) ?_
    show Go p e below _ (T.setTop (mkF m 58 #[.val (.ref b), .val (.int (0 : Int32)), .val (.int (Int32.ofNat cs.length)), .val (.ref d), .val (.int (Int32.ofNat (fstW cs))), .unset] [(.ref d)]))
    refine Go.ret X hx hlk hT hret rfl (riA rfl rfl) (hb hby d15_58) (by decide) (by decide) ?_
    have hq := (own_eqN (by have := fstW_le cs; omega) (by omega)).mp hne
    exact ⟨d, kd, 0, _, _, rfl, N, gk_d, keepE KB, V_d hq, Or.inl ⟨rfl, rfl, rfl, fstW_eq cs hq⟩⟩
  · refine Go.st (fun _ k => XS.icmpNo X.here hx rfl (hb hby d15_17) rfl (Jvm.Free.XT.ii_eq_f hne) k) ?_
    show Go p e below _ (T.setTop (mkF m 20 #[.val (.ref b), .val (.int (0 : Int32)), .val (.int (Int32.ofNat cs.length)), .val (.ref d), .val (.int (Int32.ofNat (fstW cs))), .unset] []))
    refine Go.st (fun _ k => XS.aloadN X.here hx rfl (hb hby d15_20) rfl rfl k) ?_
    show Go p e below _ (T.setTop (mkF m 21 #[.val (.ref b), .val (.int (0 : Int32)), .val (.int (Int32.ofNat cs.length)), .val (.ref d), .val (.int (Int32.ofNat (fstW cs))), .unset] [(.ref b)]))
    refine Go.st (fun _ k => XS.iloadN X.here hx rfl (hb hby d15_21) rfl k) ?_
    show Go p e below _ (T.setTop (mkF m 22 #[.val (.ref b), .val (.int (0 : Int32)), .val (.int (Int32.ofNat cs.length)), .val (.ref d), .val (.int (Int32.ofNat (fstW cs))), .unset] [(.int (0 : Int32)), (.ref b)]))
    refine Go.st (fun _ k => XS.iloadN X.here hx rfl (hb hby d15_22) rfl k) ?_
    show Go p e below _ (T.setTop (mkF m 23 #[.val (.ref b), .val (.int (0 : Int32)), .val (.int (Int32.ofNat cs.length)), .val (.ref d), .val (.int (Int32.ofNat (fstW cs))), .unset] [(.int (Int32.ofNat cs.length)), (.int (0 : Int32)), (.ref b)]))
    refine Go.callP (argsL := [(.ref b), (.int (0 : Int32)), (.int (Int32.ofNat cs.length))]) (rest := []) (W := 0) (ck := 1) (sk := 80) X hx hZ hown (hml.trans rfl) hT (hw _ (List.mem_of_getElem? (i := 79) rfl)) (hw _ (List.mem_of_getElem? (i := 80) rfl)) (hw _ (List.mem_of_getElem? (i := 74) rfl)) (hw _ (List.mem_of_getElem? (i := 81) rfl)) (by decide) pd_4 rfl rfl (Nat.le_of_ble_eq_true rfl) (hb hby d15_23) (backOf (W := 0) (met_tob l Z a0 hw [] n0 b kC cs _ O S16 V_b hn) hZ (hw _ (List.mem_of_getElem? (i := 81) rfl)) (hw _ (List.mem_of_getElem? (i := 74) rfl)) (by decide) (by decide)) (by decide) (by decide) ?_
    intro v T h3 L hT hQ X
    obtain ⟨r, kr, rfl, N0, gk_r, Ex0, V_r⟩ := hQ
    have N := Fr.app N N0
    have gk_r := Nat.le_trans KB.1 gk_r
    have KB := KB.ext Ex0
    have O := O.ext Ex0
    show Go p e below _ (T.setTop (mkF m 26 #[.val (.ref b), .val (.int (0 : Int32)), .val (.int (Int32.ofNat cs.length)), .val (.ref d), .val (.int (Int32.ofNat (fstW cs))), .unset] [(.ref r)]))
    refine Go.st (fun _ k => XS.astore X.here hx rfl (hb hby d15_26) rfl rfl (l' := #[.val (.ref b), .val (.int (0 : Int32)), .val (.int (Int32.ofNat cs.length)), .val (.ref d), .val (.int (Int32.ofNat (fstW cs))), .val (.ref r)]) rfl k) ?_
    show Go p e below _ (T.setTop (mkF m 28 #[.val (.ref b), .val (.int (0 : Int32)), .val (.int (Int32.ofNat cs.length)), .val (.ref d), .val (.int (Int32.ofNat (fstW cs))), .val (.ref r)] []))
    refine Go.st (fun _ k => XS.aload X.here hx rfl (hb hby d15_28) rfl rfl k) ?_
    show Go p e below _ (T.setTop (mkF m 30 #[.val (.ref b), .val (.int (0 : Int32)), .val (.int (Int32.ofNat cs.length)), .val (.ref d), .val (.int (Int32.ofNat (fstW cs))), .val (.ref r)] [(.ref r)]))
    refine Go.st (fun _ k => XS.iload X.here hx rfl (hb hby d15_30) rfl k) ?_
    show Go p e below _ (T.setTop (mkF m 32 #[.val (.ref b), .val (.int (0 : Int32)), .val (.int (Int32.ofNat cs.length)), .val (.ref d), .val (.int (Int32.ofNat (fstW cs))), .val (.ref r)] [(.int (Int32.ofNat (fstW cs))), (.ref r)]))
    have hlt := fstW_lt cs (fun q => hne (by rw [q]))
    refine Go.callV (argsL := [(.ref r), (.int (Int32.ofNat (fstW cs)))]) (rest := []) (W := 0) X hx hZ hown (hml.trans rfl) hT (hw _ (List.mem_of_getElem? (i := 95) rfl)) (hw _ (List.mem_of_getElem? (i := 96) rfl)) (hw _ (List.mem_of_getElem? (i := 74) rfl)) (hw _ (List.mem_of_getElem? (i := 97) rfl)) (by decide) pd_5 rfl rfl (Nat.le_of_ble_eq_true rfl) (hb hby d15_32) (backOf (W := 0) (met_getc l Z a0 hw [] n0 r kr cs (fstW cs) _ O S16 V_r hn hlt.1 (hp _ (own_getmem cs _ hlt.1))) hZ (hw _ (List.mem_of_getElem? (i := 97) rfl)) (hw _ (List.mem_of_getElem? (i := 74) rfl)) (by decide) (by decide)) (by decide) (by decide) ?_
    intro T hT X
    show Go p e below _ (T.setTop (mkF m 35 #[.val (.ref b), .val (.int (0 : Int32)), .val (.int (Int32.ofNat cs.length)), .val (.ref d), .val (.int (Int32.ofNat (fstW cs))), .val (.ref r)] [(.int (cs.getD (fstW cs) 0))]))
    refine Go.st (fun _ k => XS.sipush X.here hx rfl (hb hby d15_35) k) ?_
    show Go p e below _ (T.setTop (mkF m 38 #[.val (.ref b), .val (.int (0 : Int32)), .val (.int (Int32.ofNat cs.length)), .val (.ref d), .val (.int (Int32.ofNat (fstW cs))), .val (.ref r)] [(.int (255 : Int32)), (.int (cs.getD (fstW cs) 0))]))
    refine Go.st (fun _ k => XS.icmpYes X.here hx rfl (pc0 := 38) (pc' := 54) rfl (hb hby d15_38) rfl (Jvm.Free.XT.ii_gt_t (hlt.2 : (255 : Int32) < (cs.getD (fstW cs) 0))) (by decide) (by decide) k) ?_
    show Go p e below _ (T.setTop (mkF m 54 #[.val (.ref b), .val (.int (0 : Int32)), .val (.int (Int32.ofNat cs.length)), .val (.ref d), .val (.int (Int32.ofNat (fstW cs))), .val (.ref r)] []))
    refine Go.st (fun _ k => XS.aload X.here hx rfl (hb hby d15_54) rfl rfl k) ?_
    show Go p e below _ (T.setTop (mkF m 56 #[.val (.ref b), .val (.int (0 : Int32)), .val (.int (Int32.ofNat cs.length)), .val (.ref d), .val (.int (Int32.ofNat (fstW cs))), .val (.ref r)] [(.ref r)]))
    refine Go.ret X hx hlk hT hret rfl (riA rfl rfl) (hb hby d15_56) (by decide) (by decide) ?_
    exact ⟨r, kr, 1, _, _, rfl, N, gk_r, keepE KB, V_r, Or.inr ⟨rfl, rfl, rfl, _, own_getmem cs _ hlt.1, hlt.2⟩⟩
theorem own_cfal {cs : List Int32} {cd N2 : Int32} {vs : List Value} (hc : StrChars.Road.CodA cs cd N2 vs) (hpos : 0 < cs.length) (hn : cs.length ≤ 40) : ((((Int32.ofNat cs.length - N2)).toUInt32 >>> ((31 : Int32) &&& 31).toUInt32).toInt32.toInt8.toInt32) = cd := by
  have key : ∀ (n : Nat), n ≤ 40 → 0 < n → ((((Int32.ofNat n - Int32.ofNat (2 * n))).toUInt32 >>> ((31 : Int32) &&& 31).toUInt32).toInt32.toInt8.toInt32) = 1 := by
    intro n h1 h2
    have e1 := c_iushr (Int32.ofNat n - Int32.ofNat (2 * n)) 31 31 (by decide) (by decide)
    have e2 : (Int32.ofNat n - Int32.ofNat (2 * n)).toInt = -(n : Int) := by
      rw [Jvm.Free.XT.sub32 (by rw [own_int (by omega), own_int (by omega)]; constructor <;> omega), own_int (by omega), own_int (by omega)]; omega
    rw [e2] at e1
    have e3 : (((Int32.ofNat n - Int32.ofNat (2 * n)).toUInt32 >>> ((31 : Int32) &&& 31).toUInt32).toInt32).toInt = 1 := by rw [e1]; show (-(n : Int) % 4294967296) / 2147483648 = 1; omega
    have e4 : (((Int32.ofNat n - Int32.ofNat (2 * n)).toUInt32 >>> ((31 : Int32) &&& 31).toUInt32).toInt32) = 1 := Int32.toInt_inj.mp e3
    rw [e4]; decide
  rcases hc with ⟨rfl, rfl, -⟩ | ⟨rfl, rfl, -⟩
  · rw [Int32.sub_self]; decide
  · exact key _ hn hpos
theorem d22_0 : decode jdk_52_method_15_code 0 = .ok (.iload_n 1, 1) := by decide +kernel
theorem d22_1 : decode jdk_52_method_15_code 1 = .ok (.aload_n 0, 1) := by decide +kernel
theorem d22_2 : decode jdk_52_method_15_code 2 = .ok (.arraylength, 1) := by decide +kernel
theorem d22_3 : decode jdk_52_method_15_code 3 = .ok (.isub, 1) := by decide +kernel
theorem d22_4 : decode jdk_52_method_15_code 4 = .ok (.bipush 31, 2) := by decide +kernel
theorem d22_6 : decode jdk_52_method_15_code 6 = .ok (.iushr, 1) := by decide +kernel
theorem d22_7 : decode jdk_52_method_15_code 7 = .ok (.i2b, 1) := by decide +kernel
theorem d22_8 : decode jdk_52_method_15_code 8 = .ok (.ireturn, 1) := by decide +kernel
theorem pn_7 : plainFor (⟨"java/lang/StringUTF16", "coderFromArrayLen", "([BI)B"⟩ : MethodName) = true := by first | exact plainFor_of_name (by first | (simp [plainName, overriddenIn]; done) | decide +kernel) | decide +kernel
set_option maxRecDepth 65536 in
set_option maxHeartbeats 40000000 in
theorem met_cfal (l : Launch) (Z : State) (a0 : Array Value) (hw : ∀ d ∈ tables_1, d.before a0 Z = true) (ws : List Jvm.Cond) (d : Addr) (kd : ClassId) (cs : List Int32) (cd N2 : Int32) (vs : List Value) (h0 : Heap) (V_d : Arv Z h0 d kd .byte N2 vs (.int 0)) (hc : StrChars.Road.CodA cs cd N2 vs) (hpos : 0 < cs.length) (hn : cs.length ≤ 40) :
    MetFree l (⟨"java/lang/StringUTF16", "coderFromArrayLen", "([BI)B"⟩ : MethodName) (head1 (Jvm.Cond.code (⟨"java/lang/StringUTF16", "coderFromArrayLen", "([BI)B"⟩ : MethodName) jdk_52_method_15_code 2 (some .byte) :: ws) ({ frames := 0, cells := 0, slots := 0, locals := 0 } : Room)) (fun aa U => aa = #[(.ref d), (.int (Int32.ofNat cs.length))] ∧ Z.Warmed39 U.vm ∧ U.heap = h0) (fun _ _ _ _ _ => True) (fun _ U o U' => ∃ v L, o = .returned v ∧ QV (.int cd) h0 v U'.heap L ∧ FrameEnd U o U' L ({ frames := 0, cells := 0, slots := 0, locals := 0 } : Room).cells ({ frames := 0, cells := 0, slots := 0, locals := 0 } : Room).slots) := by
  refine openP (y := (⟨"java/lang/StringUTF16", "coderFromArrayLen", "([BI)B"⟩ : MethodName)) pn_7 ?_
  intro p e s m below meth c T hx hby hml hret hlk hnm hZ hown X hT
  refine Go.st (fun _ k => castTop (ef_AI_2 m d (Int32.ofNat cs.length)) k) ?_
  show Go p e below _ (T.setTop (mkF m 0 #[.val (.ref d), .val (.int (Int32.ofNat cs.length))] []))
  refine Go.st (fun _ k => XS.iloadN X.here hx rfl (hb hby d22_0) rfl k) ?_
  show Go p e below _ (T.setTop (mkF m 1 #[.val (.ref d), .val (.int (Int32.ofNat cs.length))] [(.int (Int32.ofNat cs.length))]))
  refine Go.st (fun _ k => XS.aloadN X.here hx rfl (hb hby d22_1) rfl rfl k) ?_
  show Go p e below _ (T.setTop (mkF m 2 #[.val (.ref d), .val (.int (Int32.ofNat cs.length))] [(.ref d), (.int (Int32.ofNat cs.length))]))
  refine Go.alen X hx hZ hT V_d (hb hby d22_2) ?_
  show Go p e below _ (T.setTop (mkF m 3 #[.val (.ref d), .val (.int (Int32.ofNat cs.length))] [(.int N2), (.int (Int32.ofNat cs.length))]))
  refine Go.st (fun _ k => XS.isub X.here hx rfl (hb hby d22_3) rfl k) ?_
  show Go p e below _ (T.setTop (mkF m 4 #[.val (.ref d), .val (.int (Int32.ofNat cs.length))] [(.int ((Int32.ofNat cs.length) - N2))]))
  refine Go.st (fun _ k => XS.bipush X.here hx rfl (hb hby d22_4) k) ?_
  show Go p e below _ (T.setTop (mkF m 6 #[.val (.ref d), .val (.int (Int32.ofNat cs.length))] [(.int (31 : Int32)), (.int ((Int32.ofNat cs.length) - N2))]))
  refine Go.st (fun _ k => XS.iushr X.here hx rfl (hb hby d22_6) rfl k) ?_
  show Go p e below _ (T.setTop (mkF m 7 #[.val (.ref d), .val (.int (Int32.ofNat cs.length))] [(.int (((((Int32.ofNat cs.length) - N2)).toUInt32 >>> ((31 : Int32) &&& 31).toUInt32).toInt32))]))
  refine Go.st (fun _ k => XS.i2b X.here hx rfl (hb hby d22_7) rfl k) ?_
  show Go p e below _ (T.setTop (mkF m 8 #[.val (.ref d), .val (.int (Int32.ofNat cs.length))] [(.int ((((((Int32.ofNat cs.length) - N2)).toUInt32 >>> ((31 : Int32) &&& 31).toUInt32).toInt32).toInt8.toInt32))]))
  refine Go.ret X hx hlk hT hret (Jvm.Free.XT.narrow_b _) (riI (by simp)) (hb hby d22_8) (by decide) (by decide) ?_
  exact ⟨congrArg (fun z => some (Value.int z)) (own_cfal hc hpos hn), rfl, rfl⟩
theorem own_ncd {cd : Int32} (h : cd = 0 ∨ cd = 1) : narrow .byte (.int cd) = .int cd := by rcases h with rfl | rfl <;> decide
theorem own_fcd {cd : Int32} (h : cd = 0 ∨ cd = 1) : fits .byte (.int cd) = true := by rcases h with rfl | rfl <;> decide
theorem pd_6 : parseMethodDescriptor "([BI)B" = some ⟨[(.array .byte), .int], (some .byte)⟩ := by decide +kernel
theorem d13_0 : decode jdk_42_method_149_code 0 = .ok (.aload_n 0, 1) := by decide +kernel
theorem d13_1 : decode jdk_42_method_149_code 1 = .ok (.invokespecial 1, 3) := by decide +kernel
theorem d13_4 : decode jdk_42_method_149_code 4 = .ok (.iload_n 3, 1) := by decide +kernel
theorem d13_5 : decode jdk_42_method_149_code 5 = .ok (.ifCond .ne 22, 3) := by decide +kernel
theorem d13_27 : decode jdk_42_method_149_code 27 = .ok (.getstatic 38, 3) := by decide +kernel
theorem d13_30 : decode jdk_42_method_149_code 30 = .ok (.ifCond .eq 28, 3) := by decide +kernel
theorem d13_33 : decode jdk_42_method_149_code 33 = .ok (.aload_n 1, 1) := by decide +kernel
theorem d13_34 : decode jdk_42_method_149_code 34 = .ok (.iload_n 2, 1) := by decide +kernel
theorem d13_35 : decode jdk_42_method_149_code 35 = .ok (.iload_n 3, 1) := by decide +kernel
theorem d13_36 : decode jdk_42_method_149_code 36 = .ok (.invokestatic 177, 3) := by decide +kernel
theorem d13_39 : decode jdk_42_method_149_code 39 = .ok (.astore 5, 2) := by decide +kernel
theorem d13_41 : decode jdk_42_method_149_code 41 = .ok (.aload_n 0, 1) := by decide +kernel
theorem d13_42 : decode jdk_42_method_149_code 42 = .ok (.aload 5, 2) := by decide +kernel
theorem d13_44 : decode jdk_42_method_149_code 44 = .ok (.iload_n 3, 1) := by decide +kernel
theorem d13_45 : decode jdk_42_method_149_code 45 = .ok (.invokestatic 47, 3) := by decide +kernel
theorem d13_48 : decode jdk_42_method_149_code 48 = .ok (.putfield 15, 3) := by decide +kernel
theorem d13_51 : decode jdk_42_method_149_code 51 = .ok (.aload_n 0, 1) := by decide +kernel
theorem d13_52 : decode jdk_42_method_149_code 52 = .ok (.aload 5, 2) := by decide +kernel
theorem d13_54 : decode jdk_42_method_149_code 54 = .ok (.putfield 9, 3) := by decide +kernel
theorem d13_57 : decode jdk_42_method_149_code 57 = .ok (.return_, 1) := by decide +kernel
theorem pn_8 : plainFor (⟨"java/lang/String", "<init>", "([CIILjava/lang/Void;)V"⟩ : MethodName) = true := by first | exact plainFor_of_name (by first | (simp [plainName, overriddenIn]; done) | decide +kernel) | decide +kernel
theorem ef_AAIIN_6 (m : MethodId) (y0 : Addr) (y1 : Addr) (y2 : Int32) (y3 : Int32) : entryFrame m #[(.ref y0), (.ref y1), (.int y2), (.int y3), .null] 6 = mkF m 0 #[.val (.ref y0), .val (.ref y1), .val (.int y2), .val (.int y3), .val .null, .unset] [] := by first | (simp [entryFrame, mkF, argsToLocals, Value.category]; done) | rfl
set_option maxRecDepth 65536 in
set_option maxHeartbeats 40000000 in
theorem met_new4n (l : Launch) (Z : State) (a0 : Array Value) (hw : ∀ d ∈ tables_1, d.before a0 Z = true) (ws : List Jvm.Cond) (n0 : Nat) (x b : Addr) (kC : ClassId) (cs : List Int32) (z : Int32) (h0 : Heap) (O : Old Z n0 h0) (ge_x : n0 ≤ x) (A_x : Exa Z h0 x ST) (F_x_value : Fld Z h0 x ST "value" "[B" .null) (F_x_coder : Fld Z h0 x ST "coder" "B" (.int (0 : Int32))) (Sc : Stat Z z) (S16 : St16 Z) (V_b : Arv Z h0 b kC .char (Int32.ofNat cs.length) (cs.map Value.int) (.int 0)) (hpos : 0 < cs.length) (hn : cs.length ≤ 40) (hp : ∀ c ∈ cs, ¬ c < 0 ∧ ¬ (65535 : Int32) < c) :
    MetFree l (⟨"java/lang/String", "<init>", "([CIILjava/lang/Void;)V"⟩ : MethodName) (head1 (Jvm.Cond.code (⟨"java/lang/String", "<init>", "([CIILjava/lang/Void;)V"⟩ : MethodName) jdk_42_method_149_code 6 none :: ws) ({ frames := 4, cells := 2, slots := 120, locals := 57 } : Room)) (fun aa U => aa = #[(.ref x), (.ref b), (.int (0 : Int32)), (.int (Int32.ofNat cs.length)), .null] ∧ Z.Warmed39 U.vm ∧ U.heap = h0) (fun _ _ _ _ _ => True) (fun _ U o U' => ∃ v L, o = .returned v ∧ QS Z x cs n0 h0 v U'.heap L ∧ FrameEnd U o U' L ({ frames := 4, cells := 2, slots := 120, locals := 57 } : Room).cells ({ frames := 4, cells := 2, slots := 120, locals := 57 } : Room).slots) := by
  refine openP (y := (⟨"java/lang/String", "<init>", "([CIILjava/lang/Void;)V"⟩ : MethodName)) pn_8 ?_
  intro p e s m below meth c T hx hby hml hret hlk hnm hZ hown X hT
  refine Go.st (fun _ k => castTop (ef_AAIIN_6 m x b (0 : Int32) (Int32.ofNat cs.length)) k) ?_
  show Go p e below _ (T.setTop (mkF m 0 #[.val (.ref x), .val (.ref b), .val (.int (0 : Int32)), .val (.int (Int32.ofNat cs.length)), .val .null, .unset] []))
  have N := Fr.nil n0
  refine Go.st (fun _ k => XS.aloadN X.here hx rfl (hb hby d13_0) rfl rfl k) ?_
  show Go p e below _ (T.setTop (mkF m 1 #[.val (.ref x), .val (.ref b), .val (.int (0 : Int32)), .val (.int (Int32.ofNat cs.length)), .val .null, .unset] [(.ref x)]))
  obtain ⟨T, X, hT, st⟩ := initO X hx hZ hown (hw _ (List.mem_of_getElem? (i := 69) rfl)) (hw _ (List.mem_of_getElem? (i := 70) rfl)) (hw _ (List.mem_of_getElem? (i := 71) rfl)) hT (g := (mkF m 1 #[.val (.ref x), .val (.ref b), .val (.int (0 : Int32)), .val (.int (Int32.ofNat cs.length)), .val .null, .unset] [(.ref x)])) rfl (by rw [hml]; rfl) rfl (hb hby d13_1) (by decide) (W := 0) (by show 2 * 0 + _ ≤ _; exact Nat.le_of_ble_eq_true rfl) (by decide)
  refine Go.st st ?_
  show Go p e below _ (T.setTop (mkF m 4 #[.val (.ref x), .val (.ref b), .val (.int (0 : Int32)), .val (.int (Int32.ofNat cs.length)), .val .null, .unset] []))
  refine Go.st (fun _ k => XS.iloadN X.here hx rfl (hb hby d13_4) rfl k) ?_
  show Go p e below _ (T.setTop (mkF m 5 #[.val (.ref x), .val (.ref b), .val (.int (0 : Int32)), .val (.int (Int32.ofNat cs.length)), .val .null, .unset] [(.int (Int32.ofNat cs.length))]))
  refine Go.st (fun _ k => XS.ifYes X.here hx rfl (pc0 := 5) (pc' := 27) rfl (hb hby d13_5) rfl (Jvm.Free.XT.i0_ne_t (fun q => absurd ((own_eqN (b := 0) (by omega) (by omega)).mp q) (by omega) : ¬ ((Int32.ofNat cs.length) = (0 : Int32)))) (by decide) (by decide) k) ?_
  show Go p e below _ (T.setTop (mkF m 27 #[.val (.ref x), .val (.ref b), .val (.int (0 : Int32)), .val (.int (Int32.ofNat cs.length)), .val .null, .unset] []))
  obtain ⟨T, X, hT, st⟩ := getS2 X hx hZ hown (host := "") (Or.inl (hw _ (List.mem_of_getElem? (i := 36) rfl))) Via.refl hT (Sc.1.ext O.2) (g := (mkF m 27 #[.val (.ref x), .val (.ref b), .val (.int (0 : Int32)), .val (.int (Int32.ofNat cs.length)), .val .null, .unset] [])) rfl (hb hby d13_27)
  refine Go.st st ?_
  show Go p e below _ (T.setTop (mkF m 30 #[.val (.ref x), .val (.ref b), .val (.int (0 : Int32)), .val (.int (Int32.ofNat cs.length)), .val .null, .unset] [(.int z)]))
  refine Go.st (fun _ k => XS.ifNo X.here hx rfl (hb hby d13_30) rfl (Jvm.Free.XT.i0_eq_f (Sc.2 : ¬ (z = (0 : Int32)))) k) ?_
  show Go p e below _ (T.setTop (mkF m 33 #[.val (.ref x), .val (.ref b), .val (.int (0 : Int32)), .val (.int (Int32.ofNat cs.length)), .val .null, .unset] []))
  refine Go.st (fun _ k => XS.aloadN X.here hx rfl (hb hby d13_33) rfl rfl k) ?_
  show Go p e below _ (T.setTop (mkF m 34 #[.val (.ref x), .val (.ref b), .val (.int (0 : Int32)), .val (.int (Int32.ofNat cs.length)), .val .null, .unset] [(.ref b)]))
  refine Go.st (fun _ k => XS.iloadN X.here hx rfl (hb hby d13_34) rfl k) ?_
  show Go p e below _ (T.setTop (mkF m 35 #[.val (.ref x), .val (.ref b), .val (.int (0 : Int32)), .val (.int (Int32.ofNat cs.length)), .val .null, .unset] [(.int (0 : Int32)), (.ref b)]))
  refine Go.st (fun _ k => XS.iloadN X.here hx rfl (hb hby d13_35) rfl k) ?_
  show Go p e below _ (T.setTop (mkF m 36 #[.val (.ref x), .val (.ref b), .val (.int (0 : Int32)), .val (.int (Int32.ofNat cs.length)), .val .null, .unset] [(.int (Int32.ofNat cs.length)), (.int (0 : Int32)), (.ref b)]))
  refine Go.callP (argsL := [(.ref b), (.int (0 : Int32)), (.int (Int32.ofNat cs.length))]) (rest := []) (W := 0) (ck := 2) (sk := 120) X hx hZ hown (hml.trans rfl) hT (hw _ (List.mem_of_getElem? (i := 72) rfl)) (hw _ (List.mem_of_getElem? (i := 73) rfl)) (hw _ (List.mem_of_getElem? (i := 74) rfl)) (hw _ (List.mem_of_getElem? (i := 75) rfl)) (by decide) pd_4 rfl rfl (Nat.le_of_ble_eq_true rfl) (hb hby d13_36) (backOf (W := 0) (met_cmp3 l Z a0 hw [] n0 b kC cs _ O S16 V_b hn hp) hZ (hw _ (List.mem_of_getElem? (i := 75) rfl)) (hw _ (List.mem_of_getElem? (i := 74) rfl)) (by decide) (by decide)) (by decide) (by decide) ?_
  intro v T h1 L hT hQ X
  obtain ⟨r, kr, cd, N2, vs, rfl, N0, gk_r, Ex0, V_r, hcod⟩ := hQ
  have N := Fr.app N N0
  have hcd : cd = 0 ∨ cd = 1 := hcod.imp (·.1) (·.1)
  have A_x := A_x.ext Ex0
  have F_x_value := F_x_value.ext Ex0
  have F_x_coder := F_x_coder.ext Ex0
  have KB := (Keep.refl h0 [x]).ext Ex0
  have ne_x_r : x ≠ r := Exa.neArv A_x V_r (hw _ (List.mem_of_getElem? (i := 15) rfl))
  show Go p e below _ (T.setTop (mkF m 39 #[.val (.ref x), .val (.ref b), .val (.int (0 : Int32)), .val (.int (Int32.ofNat cs.length)), .val .null, .unset] [(.ref r)]))
  refine Go.st (fun _ k => XS.astore X.here hx rfl (hb hby d13_39) rfl rfl (l' := #[.val (.ref x), .val (.ref b), .val (.int (0 : Int32)), .val (.int (Int32.ofNat cs.length)), .val .null, .val (.ref r)]) rfl k) ?_
  show Go p e below _ (T.setTop (mkF m 41 #[.val (.ref x), .val (.ref b), .val (.int (0 : Int32)), .val (.int (Int32.ofNat cs.length)), .val .null, .val (.ref r)] []))
  refine Go.st (fun _ k => XS.aloadN X.here hx rfl (hb hby d13_41) rfl rfl k) ?_
  show Go p e below _ (T.setTop (mkF m 42 #[.val (.ref x), .val (.ref b), .val (.int (0 : Int32)), .val (.int (Int32.ofNat cs.length)), .val .null, .val (.ref r)] [(.ref x)]))
  refine Go.st (fun _ k => XS.aload X.here hx rfl (hb hby d13_42) rfl rfl k) ?_
  show Go p e below _ (T.setTop (mkF m 44 #[.val (.ref x), .val (.ref b), .val (.int (0 : Int32)), .val (.int (Int32.ofNat cs.length)), .val .null, .val (.ref r)] [(.ref r), (.ref x)]))
  refine Go.st (fun _ k => XS.iloadN X.here hx rfl (hb hby d13_44) rfl k) ?_
  show Go p e below _ (T.setTop (mkF m 45 #[.val (.ref x), .val (.ref b), .val (.int (0 : Int32)), .val (.int (Int32.ofNat cs.length)), .val .null, .val (.ref r)] [(.int (Int32.ofNat cs.length)), (.ref r), (.ref x)]))
  refine Go.callV (argsL := [(.ref r), (.int (Int32.ofNat cs.length))]) (rest := [(.ref x)]) (W := 1) X hx hZ hown (hml.trans rfl) hT (hw _ (List.mem_of_getElem? (i := 98) rfl)) (hw _ (List.mem_of_getElem? (i := 99) rfl)) (hw _ (List.mem_of_getElem? (i := 74) rfl)) (hw _ (List.mem_of_getElem? (i := 100) rfl)) (by decide) pd_6 rfl rfl (Nat.le_of_ble_eq_true rfl) (hb hby d13_45) (backOf (W := 1) (met_cfal l Z a0 hw [] r kr cs cd N2 vs _ V_r hcod hpos hn) hZ (hw _ (List.mem_of_getElem? (i := 100) rfl)) (hw _ (List.mem_of_getElem? (i := 74) rfl)) (by decide) (by decide)) (by decide) (by decide) ?_
  intro T hT X
  show Go p e below _ (T.setTop (mkF m 48 #[.val (.ref x), .val (.ref b), .val (.int (0 : Int32)), .val (.int (Int32.ofNat cs.length)), .val .null, .val (.ref r)] [(.int cd), (.ref x)]))
  obtain ⟨T, h2, X, hT, Wr0, st⟩ := putF X hx hZ hown (host := "") (Or.inl (hw _ (List.mem_of_getElem? (i := 37) rfl))) Via.refl hT F_x_coder A_x (Or.inr ⟨(hw _ (List.mem_of_getElem? (i := 18) rfl)), rfl, hnm⟩) (hw _ (List.mem_of_getElem? (i := 15) rfl)) (ty := .byte) (by decide) (own_ncd hcd) (own_fcd hcd) (g := (mkF m 48 #[.val (.ref x), .val (.ref b), .val (.int (0 : Int32)), .val (.int (Int32.ofNat cs.length)), .val .null, .val (.ref r)] [(.int cd), (.ref x)])) rfl rfl (hb hby d13_48)
  refine Go.st st ?_
  have N := Fr.snoc X N ge_x
  have A_x := A_x.wr Wr0
  have F_x_value := F_x_value.other Wr0 (Or.inr (slot_ne (C := "java/lang/String") (Or.inr (hw _ (List.mem_of_getElem? (i := 17) rfl))) (Or.inr (hw _ (List.mem_of_getElem? (i := 18) rfl))) (by decide) (t := (.array .byte)) (by decide) (t' := .byte) (by decide)))
  have F_x_coder := F_x_coder.same Wr0
  have V_r := V_r.other Wr0 ne_x_r.symm
  have KB := (KB).wr Wr0 (Or.inl (List.mem_of_getElem? (i := 0) rfl))
  show Go p e below _ (T.setTop (mkF m 51 #[.val (.ref x), .val (.ref b), .val (.int (0 : Int32)), .val (.int (Int32.ofNat cs.length)), .val .null, .val (.ref r)] []))
  refine Go.st (fun _ k => XS.aloadN X.here hx rfl (hb hby d13_51) rfl rfl k) ?_
  show Go p e below _ (T.setTop (mkF m 52 #[.val (.ref x), .val (.ref b), .val (.int (0 : Int32)), .val (.int (Int32.ofNat cs.length)), .val .null, .val (.ref r)] [(.ref x)]))
  refine Go.st (fun _ k => XS.aload X.here hx rfl (hb hby d13_52) rfl rfl k) ?_
  show Go p e below _ (T.setTop (mkF m 54 #[.val (.ref x), .val (.ref b), .val (.int (0 : Int32)), .val (.int (Int32.ofNat cs.length)), .val .null, .val (.ref r)] [(.ref r), (.ref x)]))
  obtain ⟨T, h3, X, hT, Wr0, st⟩ := putF X hx hZ hown (host := "") (Or.inl (hw _ (List.mem_of_getElem? (i := 30) rfl))) Via.refl hT F_x_value A_x (Or.inr ⟨(hw _ (List.mem_of_getElem? (i := 17) rfl)), rfl, hnm⟩) (hw _ (List.mem_of_getElem? (i := 15) rfl)) (ty := (.array .byte)) (by decide) rfl rfl (g := (mkF m 54 #[.val (.ref x), .val (.ref b), .val (.int (0 : Int32)), .val (.int (Int32.ofNat cs.length)), .val .null, .val (.ref r)] [(.ref r), (.ref x)])) rfl rfl (hb hby d13_54)
  refine Go.st st ?_
  have N := Fr.snoc X N ge_x
  have A_x := A_x.wr Wr0
  have F_x_value := F_x_value.same Wr0
  have F_x_coder := F_x_coder.other Wr0 (Or.inr (slot_ne (C := "java/lang/String") (Or.inr (hw _ (List.mem_of_getElem? (i := 18) rfl))) (Or.inr (hw _ (List.mem_of_getElem? (i := 17) rfl))) (by decide) (t := .byte) (by decide) (t' := (.array .byte)) (by decide)))
  have V_r := V_r.other Wr0 ne_x_r.symm
  have KB := (KB).wr Wr0 (Or.inl (List.mem_of_getElem? (i := 0) rfl))
  show Go p e below _ (T.setTop (mkF m 57 #[.val (.ref x), .val (.ref b), .val (.int (0 : Int32)), .val (.int (Int32.ofNat cs.length)), .val .null, .val (.ref r)] []))
  refine Go.retV X hx hlk hT hret (hb hby d13_57) (by decide) (by decide) ?_
  exact ⟨rfl, N, KB, r, kr, cd, N2, vs, A_x, F_x_value, F_x_coder, V_r, hcod, hp, by omega⟩
theorem pd_7 : parseMethodDescriptor "([CIILjava/lang/Void;)V" = some ⟨[(.array .char), .int, .int, (.object "java/lang/Void")], none⟩ := by decide +kernel
theorem d12_0 : decode jdk_42_method_3_code 0 = .ok (.aload_n 0, 1) := by decide +kernel
theorem d12_1 : decode jdk_42_method_3_code 1 = .ok (.aload_n 1, 1) := by decide +kernel
theorem d12_2 : decode jdk_42_method_3_code 2 = .ok (.iconst 0, 1) := by decide +kernel
theorem d12_3 : decode jdk_42_method_3_code 3 = .ok (.aload_n 1, 1) := by decide +kernel
theorem d12_4 : decode jdk_42_method_3_code 4 = .ok (.arraylength, 1) := by decide +kernel
theorem d12_5 : decode jdk_42_method_3_code 5 = .ok (.aconst_null, 1) := by decide +kernel
theorem d12_6 : decode jdk_42_method_3_code 6 = .ok (.invokespecial 27, 3) := by decide +kernel
theorem d12_9 : decode jdk_42_method_3_code 9 = .ok (.return_, 1) := by decide +kernel
theorem pn_9 : plainFor (⟨"java/lang/String", "<init>", "([C)V"⟩ : MethodName) = true := by first | exact plainFor_of_name (by first | (simp [plainName, overriddenIn]; done) | decide +kernel) | decide +kernel
theorem ef_AA_2 (m : MethodId) (y0 : Addr) (y1 : Addr) : entryFrame m #[(.ref y0), (.ref y1)] 2 = mkF m 0 #[.val (.ref y0), .val (.ref y1)] [] := by first | (simp [entryFrame, mkF, argsToLocals, Value.category]; done) | rfl
set_option maxRecDepth 65536 in
set_option maxHeartbeats 40000000 in
theorem met_new1n (l : Launch) (Z : State) (a0 : Array Value) (hw : ∀ d ∈ tables_1, d.before a0 Z = true) (ws : List Jvm.Cond) (n0 : Nat) (x b : Addr) (kC : ClassId) (cs : List Int32) (z : Int32) (h0 : Heap) (O : Old Z n0 h0) (ge_x : n0 ≤ x) (A_x : Exa Z h0 x ST) (F_x_value : Fld Z h0 x ST "value" "[B" .null) (F_x_coder : Fld Z h0 x ST "coder" "B" (.int (0 : Int32))) (Sc : Stat Z z) (S16 : St16 Z) (V_b : Arv Z h0 b kC .char (Int32.ofNat cs.length) (cs.map Value.int) (.int 0)) (hpos : 0 < cs.length) (hn : cs.length ≤ 40) (hp : ∀ c ∈ cs, ¬ c < 0 ∧ ¬ (65535 : Int32) < c) :
    MetFree l (⟨"java/lang/String", "<init>", "([C)V"⟩ : MethodName) (head1 (Jvm.Cond.code (⟨"java/lang/String", "<init>", "([C)V"⟩ : MethodName) jdk_42_method_3_code 2 none :: ws) ({ frames := 5, cells := 2, slots := 120, locals := 74 } : Room)) (fun aa U => aa = #[(.ref x), (.ref b)] ∧ Z.Warmed39 U.vm ∧ U.heap = h0) (fun _ _ _ _ _ => True) (fun _ U o U' => ∃ v L, o = .returned v ∧ QS Z x cs n0 h0 v U'.heap L ∧ FrameEnd U o U' L ({ frames := 5, cells := 2, slots := 120, locals := 74 } : Room).cells ({ frames := 5, cells := 2, slots := 120, locals := 74 } : Room).slots) := by
  refine openP (y := (⟨"java/lang/String", "<init>", "([C)V"⟩ : MethodName)) pn_9 ?_
  intro p e s m below meth c T hx hby hml hret hlk hnm hZ hown X hT
  refine Go.st (fun _ k => castTop (ef_AA_2 m x b) k) ?_
  show Go p e below _ (T.setTop (mkF m 0 #[.val (.ref x), .val (.ref b)] []))
  refine Go.st (fun _ k => XS.aloadN X.here hx rfl (hb hby d12_0) rfl rfl k) ?_
  show Go p e below _ (T.setTop (mkF m 1 #[.val (.ref x), .val (.ref b)] [(.ref x)]))
  refine Go.st (fun _ k => XS.aloadN X.here hx rfl (hb hby d12_1) rfl rfl k) ?_
  show Go p e below _ (T.setTop (mkF m 2 #[.val (.ref x), .val (.ref b)] [(.ref b), (.ref x)]))
  refine Go.st (fun _ k => XS.iconst X.here hx rfl (hb hby d12_2) k) ?_
  show Go p e below _ (T.setTop (mkF m 3 #[.val (.ref x), .val (.ref b)] [(.int (0 : Int32)), (.ref b), (.ref x)]))
  refine Go.st (fun _ k => XS.aloadN X.here hx rfl (hb hby d12_3) rfl rfl k) ?_
  show Go p e below _ (T.setTop (mkF m 4 #[.val (.ref x), .val (.ref b)] [(.ref b), (.int (0 : Int32)), (.ref b), (.ref x)]))
  obtain ⟨cl0, Ar0, q0, S0, M0, H0, U0⟩ := id V_b
  refine Go.st (fun _ k => X.arraylength hx (by rw [hT]; exact Ar0.1) (State.isArrayOf_alike hZ.alike Ar0.2.1) (g := (mkF m 4 #[.val (.ref x), .val (.ref b)] [(.ref b), (.int (0 : Int32)), (.ref b), (.ref x)])) rfl rfl (hb hby d12_4) _ k) ?_
  rw [len_of S0 M0]
  show Go p e below _ (T.setTop (mkF m 5 #[.val (.ref x), .val (.ref b)] [(.int (Int32.ofNat cs.length)), (.int (0 : Int32)), (.ref b), (.ref x)]))
  refine Go.st (fun _ k => XS.aconstNull X.here hx rfl (hb hby d12_5) k) ?_
  show Go p e below _ (T.setTop (mkF m 6 #[.val (.ref x), .val (.ref b)] [.null, (.int (Int32.ofNat cs.length)), (.int (0 : Int32)), (.ref b), (.ref x)]))
  refine Go.specP (argsL := [(.ref b), (.int (0 : Int32)), (.int (Int32.ofNat cs.length)), .null]) (rest := []) (W := 0) (ck := 2) (sk := 120) X hx hZ hown (hml.trans rfl) hT rfl (hw _ (List.mem_of_getElem? (i := 65) rfl)) (hw _ (List.mem_of_getElem? (i := 66) rfl)) (hw _ (List.mem_of_getElem? (i := 68) rfl)) (by decide) pd_7 rfl rfl (Nat.le_of_ble_eq_true rfl) (hb hby d12_6) (backOf (W := 0) (met_new4n l Z a0 hw [] n0 x b kC cs z _ O ge_x A_x F_x_value F_x_coder Sc S16 V_b hpos hn hp) hZ (hw _ (List.mem_of_getElem? (i := 68) rfl)) (hw _ (List.mem_of_getElem? (i := 14) rfl)) (by decide) (by decide)) (by decide) (by decide) ?_
  intro v T h1 L hT hQ X
  obtain ⟨rfl, N, KB, S⟩ := hQ
  show Go p e below _ (T.setTop (mkF m 9 #[.val (.ref x), .val (.ref b)] []))
  refine Go.retV X hx hlk hT hret (hb hby d12_9) (by decide) (by decide) ?_
  exact ⟨rfl, N, KB, S⟩
def QStr (Z : State) (n0 : Nat) (cs : List Int32) (h0 : Heap) (v : Option Value) (h : Heap) (L : List Loc) : Prop := ∃ r, v = some (.ref r) ∧ Fr n0 L ∧ Ext h0 h ∧ Str Z h r cs
def f_canenc (ch : Int32) : Int32 := (if (255 : Int32) < ch then (0 : Int32) else (1 : Int32))
theorem d28_0 : decode jdk_43_method_3_code 0 = .ok (.iload_n 0, 1) := by decide +kernel
theorem d28_1 : decode jdk_43_method_3_code 1 = .ok (.sipush 255, 3) := by decide +kernel
theorem d28_4 : decode jdk_43_method_3_code 4 = .ok (.if_icmp .gt 7, 3) := by decide +kernel
theorem d28_7 : decode jdk_43_method_3_code 7 = .ok (.iconst 1, 1) := by decide +kernel
theorem d28_8 : decode jdk_43_method_3_code 8 = .ok (.goto 4, 3) := by decide +kernel
theorem d28_11 : decode jdk_43_method_3_code 11 = .ok (.iconst 0, 1) := by decide +kernel
theorem d28_12 : decode jdk_43_method_3_code 12 = .ok (.ireturn, 1) := by decide +kernel
theorem pn_10 : plainFor (⟨"java/lang/StringLatin1", "canEncode", "(C)Z"⟩ : MethodName) = true := by first | exact plainFor_of_name (by first | (simp [plainName, overriddenIn]; done) | decide +kernel) | decide +kernel
set_option maxRecDepth 65536 in
set_option maxHeartbeats 40000000 in
theorem met_canenc (l : Launch) (Z : State) (a0 : Array Value) (hw : ∀ d ∈ tables_1, d.before a0 Z = true) (ws : List Jvm.Cond) (ch : Int32) (h0 : Heap)  :
    MetFree l (⟨"java/lang/StringLatin1", "canEncode", "(C)Z"⟩ : MethodName) (head1 (Jvm.Cond.code (⟨"java/lang/StringLatin1", "canEncode", "(C)Z"⟩ : MethodName) jdk_43_method_3_code 1 (some .boolean) :: ws) ({ frames := 0, cells := 0, slots := 0, locals := 0 } : Room)) (fun aa U => aa = #[(.int ch)] ∧ Z.Warmed39 U.vm ∧ U.heap = h0) (fun _ _ _ _ _ => True) (fun _ U o U' => ∃ v L, o = .returned v ∧ QV (.int (f_canenc ch)) h0 v U'.heap L ∧ FrameEnd U o U' L ({ frames := 0, cells := 0, slots := 0, locals := 0 } : Room).cells ({ frames := 0, cells := 0, slots := 0, locals := 0 } : Room).slots) := by
  refine openP (y := (⟨"java/lang/StringLatin1", "canEncode", "(C)Z"⟩ : MethodName)) pn_10 ?_
  intro p e s m below meth c T hx hby hml hret hlk hnm hZ hown X hT
  refine Go.st (fun _ k => castTop (ef_I_1 m ch) k) ?_
  show Go p e below _ (T.setTop (mkF m 0 #[.val (.int ch)] []))
  refine Go.st (fun _ k => XS.iloadN X.here hx rfl (hb hby d28_0) rfl k) ?_
  show Go p e below _ (T.setTop (mkF m 1 #[.val (.int ch)] [(.int ch)]))
  refine Go.st (fun _ k => XS.sipush X.here hx rfl (hb hby d28_1) k) ?_
  show Go p e below _ (T.setTop (mkF m 4 #[.val (.int ch)] [(.int (255 : Int32)), (.int ch)]))
  by_cases hc1 : (255 : Int32) < ch
  · refine Go.st (fun _ k => XS.icmpYes X.here hx rfl (pc0 := 4) (pc' := 11) rfl (hb hby d28_4) rfl (Jvm.Free.XT.ii_gt_t hc1) (by decide) (by decide) k) ?_
    show Go p e below _ (T.setTop (mkF m 11 #[.val (.int ch)] []))
    refine Go.st (fun _ k => XS.iconst X.here hx rfl (hb hby d28_11) k) ?_
    show Go p e below _ (T.setTop (mkF m 12 #[.val (.int ch)] [(.int (0 : Int32))]))
    refine Go.ret X hx hlk hT hret (by decide) (riI (by simp)) (hb hby d28_12) (by decide) (by decide) ?_
    exact ⟨congrArg (fun z => some (Value.int z)) (by rw [f_canenc, if_pos hc1]), rfl, rfl⟩
  · refine Go.st (fun _ k => XS.icmpNo X.here hx rfl (hb hby d28_4) rfl (Jvm.Free.XT.ii_gt_f hc1) k) ?_
    show Go p e below _ (T.setTop (mkF m 7 #[.val (.int ch)] []))
    refine Go.st (fun _ k => XS.iconst X.here hx rfl (hb hby d28_7) k) ?_
    show Go p e below _ (T.setTop (mkF m 8 #[.val (.int ch)] [(.int (1 : Int32))]))
    refine Go.st (fun _ k => XS.goto X.here hx rfl (pc0 := 8) (pc' := 12) rfl (hb hby d28_8) (by decide) (by decide) k) ?_
    show Go p e below _ (T.setTop (mkF m 12 #[.val (.int ch)] [(.int (1 : Int32))]))
    refine Go.ret X hx hlk hT hret (by decide) (riI (by simp)) (hb hby d28_12) (by decide) (by decide) ?_
    exact ⟨congrArg (fun z => some (Value.int z)) (by rw [f_canenc, if_neg hc1]), rfl, rfl⟩
def QTc (Z : State) (n0 : Nat) (ch : Int32) (h0 : Heap) (v : Option Value) (h : Heap) (L : List Loc) : Prop := ∃ (r : Addr) (kr : ClassId), v = some (.ref r) ∧ Fr n0 L ∧ h0.size ≤ r ∧ Ext h0 h ∧ Arv Z h r kr .byte (1 : Int32) [.int (StrChars.lo8 ch)] (.int 0)
theorem d31_0 : decode jdk_43_method_46_code 0 = .ok (.iconst 1, 1) := by decide +kernel
theorem d31_1 : decode jdk_43_method_46_code 1 = .ok (.newarray .byte, 2) := by decide +kernel
theorem d31_3 : decode jdk_43_method_46_code 3 = .ok (.dup, 1) := by decide +kernel
theorem d31_4 : decode jdk_43_method_46_code 4 = .ok (.iconst 0, 1) := by decide +kernel
theorem d31_5 : decode jdk_43_method_46_code 5 = .ok (.iload_n 0, 1) := by decide +kernel
theorem d31_6 : decode jdk_43_method_46_code 6 = .ok (.i2b, 1) := by decide +kernel
theorem d31_7 : decode jdk_43_method_46_code 7 = .ok (.bastore, 1) := by decide +kernel
theorem d31_8 : decode jdk_43_method_46_code 8 = .ok (.areturn, 1) := by decide +kernel
theorem pn_11 : plainFor (⟨"java/lang/StringLatin1", "toBytes", "(C)[B"⟩ : MethodName) = true := by first | exact plainFor_of_name (by first | (simp [plainName, overriddenIn]; done) | decide +kernel) | decide +kernel
set_option maxRecDepth 65536 in
set_option maxHeartbeats 40000000 in
theorem met_tobc (l : Launch) (Z : State) (a0 : Array Value) (hw : ∀ d ∈ tables_1, d.before a0 Z = true) (ws : List Jvm.Cond) (n0 : Nat) (ch : Int32) (h0 : Heap) (O : Old Z n0 h0) :
    MetFree l (⟨"java/lang/StringLatin1", "toBytes", "(C)[B"⟩ : MethodName) (head1 (Jvm.Cond.code (⟨"java/lang/StringLatin1", "toBytes", "(C)[B"⟩ : MethodName) jdk_43_method_46_code 1 (some (.array .byte)) :: ws) ({ frames := 0, cells := 1, slots := 1, locals := 0 } : Room)) (fun aa U => aa = #[(.int ch)] ∧ Z.Warmed39 U.vm ∧ U.heap = h0) (fun _ _ _ _ _ => True) (fun _ U o U' => ∃ v L, o = .returned v ∧ QTc Z n0 ch h0 v U'.heap L ∧ FrameEnd U o U' L ({ frames := 0, cells := 1, slots := 1, locals := 0 } : Room).cells ({ frames := 0, cells := 1, slots := 1, locals := 0 } : Room).slots) := by
  refine openP (y := (⟨"java/lang/StringLatin1", "toBytes", "(C)[B"⟩ : MethodName)) pn_11 ?_
  intro p e s m below meth c T hx hby hml hret hlk hnm hZ hown X hT
  refine Go.st (fun _ k => castTop (ef_I_1 m ch) k) ?_
  show Go p e below _ (T.setTop (mkF m 0 #[.val (.int ch)] []))
  have N := Fr.nil n0
  have K0b : Keep h0 h0 [] := Keep.refl _ _
  refine Go.st (fun _ k => XS.iconst X.here hx rfl (hb hby d31_0) k) ?_
  show Go p e below _ (T.setTop (mkF m 1 #[.val (.int ch)] [(.int (1 : Int32))]))
  obtain ⟨T, h1, k_r, X, hT, Ex0, A_r, st⟩ := newP X hx hZ (hw _ (List.mem_of_getElem? (i := 16) rfl)) hT (g := (mkF m 1 #[.val (.int ch)] [(.int (1 : Int32))])) rfl (hb hby d31_1) rfl (by decide : ¬ ((1 : Int32) < (0 : Int32))) (cap := 1) (by decide) (by decide) (by decide) (by decide)
  obtain ⟨r, g_r⟩ : ∃ z, z = h0.size := ⟨_, rfl⟩
  rw [← g_r] at A_r st
  refine Go.st st ?_
  have ge_r : n0 ≤ r := Nat.le_trans (own_le (O)) (Nat.le_of_eq g_r.symm)
  have gk_r : h0.size ≤ r := Nat.le_trans (Keep.refl h0 []).1 (Nat.le_of_eq g_r.symm)
  have KB := (Keep.refl h0 []).ext Ex0
  have V_r : Arv Z _ r k_r .byte (1 : Int32) [(.int (0 : Int32))] (.int (0 : Int32)) := (Arv.new A_r (by decide)).pad (pad_rep [] (.int (0 : Int32)) 1)
  show Go p e below _ (T.setTop (mkF m 3 #[.val (.int ch)] [(.ref r)]))
  refine Go.st (fun _ k => XS.dup X.here hx rfl (hb hby d31_3) rfl rfl k) ?_
  show Go p e below _ (T.setTop (mkF m 4 #[.val (.int ch)] [(.ref r), (.ref r)]))
  refine Go.st (fun _ k => XS.iconst X.here hx rfl (hb hby d31_4) k) ?_
  show Go p e below _ (T.setTop (mkF m 5 #[.val (.int ch)] [(.int (0 : Int32)), (.ref r), (.ref r)]))
  refine Go.st (fun _ k => XS.iloadN X.here hx rfl (hb hby d31_5) rfl k) ?_
  show Go p e below _ (T.setTop (mkF m 6 #[.val (.int ch)] [(.int ch), (.int (0 : Int32)), (.ref r), (.ref r)]))
  refine Go.st (fun _ k => XS.i2b X.here hx rfl (hb hby d31_6) rfl k) ?_
  show Go p e below _ (T.setTop (mkF m 7 #[.val (.int ch)] [(.int (ch.toInt8.toInt32)), (.int (0 : Int32)), (.ref r), (.ref r)]))
  obtain ⟨cl0, Ar0, q0, S0, M0, H0, U0⟩ := id V_r
  obtain ⟨T, h2, X, hT, Wr0, st⟩ := stB X hx hZ hT Ar0 (j := (0 : Int32)) (inb_of S0 ⟨(by decide : ¬ ((0 : Int32) < (0 : Int32))), (by decide : (0 : Int32) < (1 : Int32))⟩) (g := (mkF m 7 #[.val (.int ch)] [(.int (ch.toInt8.toInt32)), (.int (0 : Int32)), (.ref r), (.ref r)])) rfl rfl (hb hby d31_7)
  refine Go.st st ?_
  have N := Fr.snoc X N ge_r
  have KB := (KB).wr Wr0 (Or.inr gk_r)
  have V_r : Arv Z _ r k_r .byte (1 : Int32) [(.int (nar .byte (ch.toInt8.toInt32)))] (.int (0 : Int32)) := Arv.set Ar0 q0 S0 M0 H0 U0 (fits_nar_byte _) Wr0 0 rfl (Nat.le_of_ble_eq_true rfl)
  show Go p e below _ (T.setTop (mkF m 8 #[.val (.int ch)] [(.ref r)]))
  refine Go.ret X hx hlk hT hret rfl (riA rfl rfl) (hb hby d31_8) (by decide) (by decide) ?_
  have gk := gk_r
  have O := O.keep KB all0
  have K0b := K0b.trans KB (fun _ q => nomatch q)
  exact ⟨r, k_r, rfl, N, gk, keepE K0b, by simpa [nar, StrChars.lo8] using V_r⟩
def QBB (Z : State) (n0 : Nat) (x r : Addr) (cd : Int32) (h0 : Heap) (v : Option Value) (h : Heap) (L : List Loc) : Prop := v = none ∧ Fr n0 L ∧ Keep h0 h [x] ∧ Exa Z h x ST ∧ Fld Z h x ST "value" "[B" (.ref r) ∧ Fld Z h x ST "coder" "B" (.int cd)
theorem d30_0 : decode jdk_42_method_151_code 0 = .ok (.aload_n 0, 1) := by decide +kernel
theorem d30_1 : decode jdk_42_method_151_code 1 = .ok (.invokespecial 1, 3) := by decide +kernel
theorem d30_4 : decode jdk_42_method_151_code 4 = .ok (.aload_n 0, 1) := by decide +kernel
theorem d30_5 : decode jdk_42_method_151_code 5 = .ok (.aload_n 1, 1) := by decide +kernel
theorem d30_6 : decode jdk_42_method_151_code 6 = .ok (.putfield 9, 3) := by decide +kernel
theorem d30_9 : decode jdk_42_method_151_code 9 = .ok (.aload_n 0, 1) := by decide +kernel
theorem d30_10 : decode jdk_42_method_151_code 10 = .ok (.iload_n 2, 1) := by decide +kernel
theorem d30_11 : decode jdk_42_method_151_code 11 = .ok (.putfield 15, 3) := by decide +kernel
theorem d30_14 : decode jdk_42_method_151_code 14 = .ok (.return_, 1) := by decide +kernel
theorem pn_12 : plainFor (⟨"java/lang/String", "<init>", "([BB)V"⟩ : MethodName) = true := by first | exact plainFor_of_name (by first | (simp [plainName, overriddenIn]; done) | decide +kernel) | decide +kernel
theorem ef_AAI_3 (m : MethodId) (y0 : Addr) (y1 : Addr) (y2 : Int32) : entryFrame m #[(.ref y0), (.ref y1), (.int y2)] 3 = mkF m 0 #[.val (.ref y0), .val (.ref y1), .val (.int y2)] [] := by first | (simp [entryFrame, mkF, argsToLocals, Value.category]; done) | rfl
set_option maxRecDepth 65536 in
set_option maxHeartbeats 40000000 in
theorem met_bb (l : Launch) (Z : State) (a0 : Array Value) (hw : ∀ d ∈ tables_1, d.before a0 Z = true) (ws : List Jvm.Cond) (n0 : Nat) (x r : Addr) (cd : Int32) (h0 : Heap) (hcd : cd = 0 ∨ cd = 1) (ge_x : n0 ≤ x) (A_x : Exa Z h0 x ST) (F_x_value : Fld Z h0 x ST "value" "[B" .null) (F_x_coder : Fld Z h0 x ST "coder" "B" (.int (0 : Int32))) :
    MetFree l (⟨"java/lang/String", "<init>", "([BB)V"⟩ : MethodName) (head1 (Jvm.Cond.code (⟨"java/lang/String", "<init>", "([BB)V"⟩ : MethodName) jdk_42_method_151_code 3 none :: ws) ({ frames := 1, cells := 0, slots := 0, locals := 12 } : Room)) (fun aa U => aa = #[(.ref x), (.ref r), (.int cd)] ∧ Z.Warmed39 U.vm ∧ U.heap = h0) (fun _ _ _ _ _ => True) (fun _ U o U' => ∃ v L, o = .returned v ∧ QBB Z n0 x r cd h0 v U'.heap L ∧ FrameEnd U o U' L ({ frames := 1, cells := 0, slots := 0, locals := 12 } : Room).cells ({ frames := 1, cells := 0, slots := 0, locals := 12 } : Room).slots) := by
  refine openP (y := (⟨"java/lang/String", "<init>", "([BB)V"⟩ : MethodName)) pn_12 ?_
  intro p e s m below meth c T hx hby hml hret hlk hnm hZ hown X hT
  refine Go.st (fun _ k => castTop (ef_AAI_3 m x r cd) k) ?_
  show Go p e below _ (T.setTop (mkF m 0 #[.val (.ref x), .val (.ref r), .val (.int cd)] []))
  have N := Fr.nil n0
  refine Go.st (fun _ k => XS.aloadN X.here hx rfl (hb hby d30_0) rfl rfl k) ?_
  show Go p e below _ (T.setTop (mkF m 1 #[.val (.ref x), .val (.ref r), .val (.int cd)] [(.ref x)]))
  obtain ⟨T, X, hT, st⟩ := initO X hx hZ hown (hw _ (List.mem_of_getElem? (i := 69) rfl)) (hw _ (List.mem_of_getElem? (i := 70) rfl)) (hw _ (List.mem_of_getElem? (i := 71) rfl)) hT (g := (mkF m 1 #[.val (.ref x), .val (.ref r), .val (.int cd)] [(.ref x)])) rfl (by rw [hml]; rfl) rfl (hb hby d30_1) (by decide) (W := 0) (by show 2 * 0 + _ ≤ _; exact Nat.le_of_ble_eq_true rfl) (by decide)
  refine Go.st st ?_
  show Go p e below _ (T.setTop (mkF m 4 #[.val (.ref x), .val (.ref r), .val (.int cd)] []))
  refine Go.st (fun _ k => XS.aloadN X.here hx rfl (hb hby d30_4) rfl rfl k) ?_
  show Go p e below _ (T.setTop (mkF m 5 #[.val (.ref x), .val (.ref r), .val (.int cd)] [(.ref x)]))
  refine Go.st (fun _ k => XS.aloadN X.here hx rfl (hb hby d30_5) rfl rfl k) ?_
  show Go p e below _ (T.setTop (mkF m 6 #[.val (.ref x), .val (.ref r), .val (.int cd)] [(.ref r), (.ref x)]))
  obtain ⟨T, h1, X, hT, Wr0, st⟩ := putF X hx hZ hown (host := "") (Or.inl (hw _ (List.mem_of_getElem? (i := 30) rfl))) Via.refl hT F_x_value A_x (Or.inr ⟨(hw _ (List.mem_of_getElem? (i := 17) rfl)), rfl, hnm⟩) (hw _ (List.mem_of_getElem? (i := 15) rfl)) (ty := (.array .byte)) (by decide) rfl rfl (g := (mkF m 6 #[.val (.ref x), .val (.ref r), .val (.int cd)] [(.ref r), (.ref x)])) rfl rfl (hb hby d30_6)
  refine Go.st st ?_
  have N := Fr.snoc X N ge_x
  have A_x := A_x.wr Wr0
  have F_x_value := F_x_value.same Wr0
  have F_x_coder := F_x_coder.other Wr0 (Or.inr (slot_ne (C := "java/lang/String") (Or.inr (hw _ (List.mem_of_getElem? (i := 18) rfl))) (Or.inr (hw _ (List.mem_of_getElem? (i := 17) rfl))) (by decide) (t := .byte) (by decide) (t' := (.array .byte)) (by decide)))
  have KB := (Keep.refl h0 [x]).wr Wr0 (Or.inl (List.mem_of_getElem? (i := 0) rfl))
  show Go p e below _ (T.setTop (mkF m 9 #[.val (.ref x), .val (.ref r), .val (.int cd)] []))
  refine Go.st (fun _ k => XS.aloadN X.here hx rfl (hb hby d30_9) rfl rfl k) ?_
  show Go p e below _ (T.setTop (mkF m 10 #[.val (.ref x), .val (.ref r), .val (.int cd)] [(.ref x)]))
  refine Go.st (fun _ k => XS.iloadN X.here hx rfl (hb hby d30_10) rfl k) ?_
  show Go p e below _ (T.setTop (mkF m 11 #[.val (.ref x), .val (.ref r), .val (.int cd)] [(.int cd), (.ref x)]))
  obtain ⟨T, h2, X, hT, Wr0, st⟩ := putF X hx hZ hown (host := "") (Or.inl (hw _ (List.mem_of_getElem? (i := 37) rfl))) Via.refl hT F_x_coder A_x (Or.inr ⟨(hw _ (List.mem_of_getElem? (i := 18) rfl)), rfl, hnm⟩) (hw _ (List.mem_of_getElem? (i := 15) rfl)) (ty := .byte) (by decide) (own_ncd hcd) (own_fcd hcd) (g := (mkF m 11 #[.val (.ref x), .val (.ref r), .val (.int cd)] [(.int cd), (.ref x)])) rfl rfl (hb hby d30_11)
  refine Go.st st ?_
  have N := Fr.snoc X N ge_x
  have A_x := A_x.wr Wr0
  have F_x_value := F_x_value.other Wr0 (Or.inr (slot_ne (C := "java/lang/String") (Or.inr (hw _ (List.mem_of_getElem? (i := 17) rfl))) (Or.inr (hw _ (List.mem_of_getElem? (i := 18) rfl))) (by decide) (t := (.array .byte)) (by decide) (t' := .byte) (by decide)))
  have F_x_coder := F_x_coder.same Wr0
  have KB := (KB).wr Wr0 (Or.inl (List.mem_of_getElem? (i := 0) rfl))
  show Go p e below _ (T.setTop (mkF m 14 #[.val (.ref x), .val (.ref r), .val (.int cd)] []))
  refine Go.retV X hx hlk hT hret (hb hby d30_14) (by decide) (by decide) ?_
  exact ⟨rfl, N, KB, A_x, F_x_value, F_x_coder⟩
theorem pd_8 : parseMethodDescriptor "(C)Z" = some ⟨[.char], (some .boolean)⟩ := by decide +kernel
theorem pd_9 : parseMethodDescriptor "(C)[B" = some ⟨[.char], (some (.array .byte))⟩ := by decide +kernel
theorem pd_10 : parseMethodDescriptor "([BB)V" = some ⟨[(.array .byte), .byte], none⟩ := by decide +kernel
theorem own_one {ch : Int32} (hc0 : ¬ ch < 0) (hc1 : ¬ (255 : Int32) < ch) : ∀ c ∈ [ch], ¬ c < 0 ∧ ¬ (65535 : Int32) < c := fun c q => by cases List.mem_singleton.mp q; exact ⟨hc0, fun z => hc1 (Int32.lt_trans (by decide) z)⟩
theorem d27_0 : decode jdk_42_method_139_code 0 = .ok (.getstatic 38, 3) := by decide +kernel
theorem d27_3 : decode jdk_42_method_139_code 3 = .ok (.ifCond .eq 23, 3) := by decide +kernel
theorem d27_6 : decode jdk_42_method_139_code 6 = .ok (.iload_n 0, 1) := by decide +kernel
theorem d27_7 : decode jdk_42_method_139_code 7 = .ok (.invokestatic 1015, 3) := by decide +kernel
theorem d27_10 : decode jdk_42_method_139_code 10 = .ok (.ifCond .eq 16, 3) := by decide +kernel
theorem d27_13 : decode jdk_42_method_139_code 13 = .ok (.new 10, 3) := by decide +kernel
theorem d27_16 : decode jdk_42_method_139_code 16 = .ok (.dup, 1) := by decide +kernel
theorem d27_17 : decode jdk_42_method_139_code 17 = .ok (.iload_n 0, 1) := by decide +kernel
theorem d27_18 : decode jdk_42_method_139_code 18 = .ok (.invokestatic 1018, 3) := by decide +kernel
theorem d27_21 : decode jdk_42_method_139_code 21 = .ok (.iconst 0, 1) := by decide +kernel
theorem d27_22 : decode jdk_42_method_139_code 22 = .ok (.invokespecial 209, 3) := by decide +kernel
theorem d27_25 : decode jdk_42_method_139_code 25 = .ok (.areturn, 1) := by decide +kernel
theorem pn_13 : plainFor (⟨"java/lang/String", "valueOf", "(C)Ljava/lang/String;"⟩ : MethodName) = true := by first | exact plainFor_of_name (by first | (simp [plainName, overriddenIn]; done) | decide +kernel) | decide +kernel
set_option maxRecDepth 65536 in
set_option maxHeartbeats 40000000 in
theorem met_valof (l : Launch) (Z : State) (a0 : Array Value) (hw : ∀ d ∈ tables_1, d.before a0 Z = true) (ws : List Jvm.Cond) (n0 : Nat) (ch z : Int32) (h0 : Heap) (O : Old Z n0 h0) (Sc : Stat Z z) (hc0 : ¬ ch < 0) (hc1 : ¬ (255 : Int32) < ch) :
    MetFree l (⟨"java/lang/String", "valueOf", "(C)Ljava/lang/String;"⟩ : MethodName) (head1 (Jvm.Cond.code (⟨"java/lang/String", "valueOf", "(C)Ljava/lang/String;"⟩ : MethodName) jdk_42_method_139_code 1 (some (.object "java/lang/String")) :: ws) ({ frames := 2, cells := 2, slots := 5, locals := 27 } : Room)) (fun aa U => aa = #[(.int ch)] ∧ Z.Warmed39 U.vm ∧ U.heap = h0) (fun _ _ _ _ _ => True) (fun _ U o U' => ∃ v L, o = .returned v ∧ QStr Z n0 [ch] h0 v U'.heap L ∧ FrameEnd U o U' L ({ frames := 2, cells := 2, slots := 5, locals := 27 } : Room).cells ({ frames := 2, cells := 2, slots := 5, locals := 27 } : Room).slots) := by
  refine openP (y := (⟨"java/lang/String", "valueOf", "(C)Ljava/lang/String;"⟩ : MethodName)) pn_13 ?_
  intro p e s m below meth c T hx hby hml hret hlk hnm hZ hown X hT
  refine Go.st (fun _ k => castTop (ef_I_1 m ch) k) ?_
  show Go p e below _ (T.setTop (mkF m 0 #[.val (.int ch)] []))
  have N := Fr.nil n0
  have K0b : Keep h0 h0 [] := Keep.refl _ _
  obtain ⟨T, X, hT, st⟩ := getS2 X hx hZ hown (host := "") (Or.inl (hw _ (List.mem_of_getElem? (i := 36) rfl))) Via.refl hT (Sc.1.ext O.2) (g := (mkF m 0 #[.val (.int ch)] [])) rfl (hb hby d27_0)
  refine Go.st st ?_
  show Go p e below _ (T.setTop (mkF m 3 #[.val (.int ch)] [(.int z)]))
  refine Go.st (fun _ k => XS.ifNo X.here hx rfl (hb hby d27_3) rfl (Jvm.Free.XT.i0_eq_f (Sc.2 : ¬ (z = (0 : Int32)))) k) ?_
  show Go p e below _ (T.setTop (mkF m 6 #[.val (.int ch)] []))
  refine Go.st (fun _ k => XS.iloadN X.here hx rfl (hb hby d27_6) rfl k) ?_
  show Go p e below _ (T.setTop (mkF m 7 #[.val (.int ch)] [(.int ch)]))
  refine Go.callV (argsL := [(.int ch)]) (rest := []) (W := 0) X hx hZ hown (hml.trans rfl) hT (hw _ (List.mem_of_getElem? (i := 121) rfl)) (hw _ (List.mem_of_getElem? (i := 122) rfl)) (hw _ (List.mem_of_getElem? (i := 123) rfl)) (hw _ (List.mem_of_getElem? (i := 124) rfl)) (by decide) pd_8 rfl rfl (Nat.le_of_ble_eq_true rfl) (hb hby d27_7) (backOf (W := 0) (met_canenc l Z a0 hw [] ch _) hZ (hw _ (List.mem_of_getElem? (i := 124) rfl)) (hw _ (List.mem_of_getElem? (i := 123) rfl)) (by decide) (by decide)) (by decide) (by decide) ?_
  intro T hT X
  show Go p e below _ (T.setTop (mkF m 10 #[.val (.int ch)] [(.int (f_canenc ch))]))
  refine Go.st (fun _ k => XS.ifNo X.here hx rfl (hb hby d27_10) rfl (Jvm.Free.XT.i0_eq_f (by rw [f_canenc, if_neg hc1]; decide : ¬ ((f_canenc ch) = (0 : Int32)))) k) ?_
  show Go p e below _ (T.setTop (mkF m 13 #[.val (.int ch)] []))
  obtain ⟨T, h1, X, hT, Ex0, A_x, D_x, -, st⟩ := newO X hx hZ hown (hw _ (List.mem_of_getElem? (i := 125) rfl)) (hw _ (List.mem_of_getElem? (i := 15) rfl)) (hw _ (List.mem_of_getElem? (i := 14) rfl)) hT (g := (mkF m 13 #[.val (.int ch)] [])) rfl (hb hby d27_13) (by decide) (by decide)
  obtain ⟨x, g_x⟩ : ∃ z, z = h0.size := ⟨_, rfl⟩
  rw [← g_x] at A_x D_x st
  refine Go.st st ?_
  have ge_x : n0 ≤ x := Nat.le_trans (own_le (O)) (Nat.le_of_eq g_x.symm)
  have gk_x : h0.size ≤ x := Nat.le_trans (Keep.refl h0 []).1 (Nat.le_of_eq g_x.symm)
  have KB := (Keep.refl h0 []).ext Ex0
  have F_x_value := D_x (Or.inr (hw _ (List.mem_of_getElem? (i := 17) rfl))) (ty := (.array .byte)) (by decide)
  have F_x_coder := D_x (Or.inr (hw _ (List.mem_of_getElem? (i := 18) rfl))) (ty := .byte) (by decide)
  show Go p e below _ (T.setTop (mkF m 16 #[.val (.int ch)] [(.ref x)]))
  refine Go.st (fun _ k => XS.dup X.here hx rfl (hb hby d27_16) rfl rfl k) ?_
  show Go p e below _ (T.setTop (mkF m 17 #[.val (.int ch)] [(.ref x), (.ref x)]))
  refine Go.st (fun _ k => XS.iloadN X.here hx rfl (hb hby d27_17) rfl k) ?_
  show Go p e below _ (T.setTop (mkF m 18 #[.val (.int ch)] [(.int ch), (.ref x), (.ref x)]))
  refine Go.callP (argsL := [(.int ch)]) (rest := [(.ref x), (.ref x)]) (W := 2) (ck := 1) (sk := 1) X hx hZ hown (hml.trans rfl) hT (hw _ (List.mem_of_getElem? (i := 132) rfl)) (hw _ (List.mem_of_getElem? (i := 133) rfl)) (hw _ (List.mem_of_getElem? (i := 123) rfl)) (hw _ (List.mem_of_getElem? (i := 134) rfl)) (by decide) pd_9 rfl rfl (Nat.le_of_ble_eq_true rfl) (hb hby d27_18) (backOf (W := 2) (met_tobc l Z a0 hw [] n0 ch _ (O.keep KB all0)) hZ (hw _ (List.mem_of_getElem? (i := 134) rfl)) (hw _ (List.mem_of_getElem? (i := 123) rfl)) (by decide) (by decide)) (by decide) (by decide) ?_
  intro v T h2 L hT hQ X
  obtain ⟨r, kr, rfl, N0, gk_r, Ex0, V_r⟩ := hQ
  have N := Fr.app N N0
  have A_x := A_x.ext Ex0
  have F_x_value := F_x_value.ext Ex0
  have F_x_coder := F_x_coder.ext Ex0
  have KB := (KB).ext Ex0
  have ne_x_r : x ≠ r := Exa.neArv A_x V_r (hw _ (List.mem_of_getElem? (i := 15) rfl))
  show Go p e below _ (T.setTop (mkF m 21 #[.val (.int ch)] [(.ref r), (.ref x), (.ref x)]))
  refine Go.st (fun _ k => XS.iconst X.here hx rfl (hb hby d27_21) k) ?_
  show Go p e below _ (T.setTop (mkF m 22 #[.val (.int ch)] [(.int (0 : Int32)), (.ref r), (.ref x), (.ref x)]))
  refine Go.specP (argsL := [(.ref r), (.int (0 : Int32))]) (rest := [(.ref x)]) (W := 1) (ck := 0) (sk := 0) X hx hZ hown (hml.trans rfl) hT rfl (hw _ (List.mem_of_getElem? (i := 129) rfl)) (hw _ (List.mem_of_getElem? (i := 130) rfl)) (hw _ (List.mem_of_getElem? (i := 131) rfl)) (by decide) pd_10 rfl rfl (Nat.le_of_ble_eq_true rfl) (hb hby d27_22) (backOf (W := 1) (met_bb l Z a0 hw [] n0 x r (0 : Int32) _ (Or.inl rfl) ge_x A_x F_x_value F_x_coder) hZ (hw _ (List.mem_of_getElem? (i := 131) rfl)) (hw _ (List.mem_of_getElem? (i := 14) rfl)) (by decide) (by decide)) (by decide) (by decide) ?_
  intro v T h3 L hT hQ X
  obtain ⟨rfl, N0, K0, E0, F0, C0⟩ := hQ
  have N := Fr.app N N0
  have V_r := V_r.keep K0 (ninS ne_x_r.symm nin0)
  have KB := (KB).trans K0 (allS (Or.inr gk_x) all0)
  have S_x : Str Z h3 x [ch] := ⟨_, _, _, _, _, E0, F0, C0, V_r, StrChars.Road.codOf (cs := [ch]) rfl (by simpa using hc1), own_one hc0 hc1, Nat.le_of_ble_eq_true rfl⟩
  have O := O.keep KB all0
  have K0b := K0b.trans KB (fun _ q => nomatch q)
  show Go p e below _ (T.setTop (mkF m 25 #[.val (.int ch)] [(.ref x)]))
  refine Go.ret X hx hlk hT hret rfl (riA rfl rfl) (hb hby d27_25) (by decide) (by decide) ?_
  exact ⟨x, rfl, N, keepE K0b, S_x⟩
theorem own_wordsLen : ∀ d ∈ StrChars.Road.wordsLen, d ∈ tables_1 := by decide +kernel
theorem own_len {p : Program} {l : Launch} {e : Env} {R : Room} {s : State} {args : Array Value} {below : List Frame} {Z : State} {a0 : Array Value} {h : Heap} {W : Nat} {x : Addr} {cs : List Int32} {z : Int32} {n0 : Nat} (hw : ∀ d ∈ tables_1, d.before a0 Z = true) (hZ : Z.Warmed39 s.vm) (O : Old Z n0 h) (Sc : Stat Z z) (S : Str Z h x cs) (hfr : 2 ≤ R.frames) (hlo : W + 25 ≤ R.locals) :
    PB l R p e below s args (⟨"java/lang/String", "length", "()I"⟩ : MethodName) W #[.ref x] h 0 0 (QV (.int (Int32.ofNat cs.length)) h) := by
  obtain ⟨t, kb, cd, N2, vs, h1, h2, h3, h4, h5, h6, h7⟩ := S
  exact StrChars.Road.lenW hZ (fun d hd => hw d (own_wordsLen d hd)) (kI := 4) (hw _ (List.mem_of_getElem? (i := 15) rfl)) h1 h2 h3 h4 h5 h6 (Sc.1.ext O.2) Sc.2 h7 hfr hlo
def f_hs (ch : Int32) : Int32 := (if ch < (55296 : Int32) then (0 : Int32) else (if ch < (56320 : Int32) then (1 : Int32) else (0 : Int32)))
theorem d25_0 : decode jdk_89_method_14_code 0 = .ok (.iload_n 0, 1) := by decide +kernel
theorem d25_1 : decode jdk_89_method_14_code 1 = .ok (.ldc 75, 2) := by decide +kernel
theorem d25_3 : decode jdk_89_method_14_code 3 = .ok (.if_icmp .lt 13, 3) := by decide +kernel
theorem d25_6 : decode jdk_89_method_14_code 6 = .ok (.iload_n 0, 1) := by decide +kernel
theorem d25_7 : decode jdk_89_method_14_code 7 = .ok (.ldc 76, 2) := by decide +kernel
theorem d25_9 : decode jdk_89_method_14_code 9 = .ok (.if_icmp .ge 7, 3) := by decide +kernel
theorem d25_12 : decode jdk_89_method_14_code 12 = .ok (.iconst 1, 1) := by decide +kernel
theorem d25_13 : decode jdk_89_method_14_code 13 = .ok (.goto 4, 3) := by decide +kernel
theorem d25_16 : decode jdk_89_method_14_code 16 = .ok (.iconst 0, 1) := by decide +kernel
theorem d25_17 : decode jdk_89_method_14_code 17 = .ok (.ireturn, 1) := by decide +kernel
theorem pn_14 : plainFor (⟨"java/lang/Character", "isHighSurrogate", "(C)Z"⟩ : MethodName) = true := by first | exact plainFor_of_name (by first | (simp [plainName, overriddenIn]; done) | decide +kernel) | decide +kernel
set_option maxRecDepth 65536 in
set_option maxHeartbeats 40000000 in
theorem met_hs (l : Launch) (Z : State) (a0 : Array Value) (hw : ∀ d ∈ tables_1, d.before a0 Z = true) (ws : List Jvm.Cond) (ch : Int32) (h0 : Heap)  :
    MetFree l (⟨"java/lang/Character", "isHighSurrogate", "(C)Z"⟩ : MethodName) (head1 (Jvm.Cond.code (⟨"java/lang/Character", "isHighSurrogate", "(C)Z"⟩ : MethodName) jdk_89_method_14_code 1 (some .boolean) :: ws) ({ frames := 0, cells := 0, slots := 0, locals := 0 } : Room)) (fun aa U => aa = #[(.int ch)] ∧ Z.Warmed39 U.vm ∧ U.heap = h0) (fun _ _ _ _ _ => True) (fun _ U o U' => ∃ v L, o = .returned v ∧ QV (.int (f_hs ch)) h0 v U'.heap L ∧ FrameEnd U o U' L ({ frames := 0, cells := 0, slots := 0, locals := 0 } : Room).cells ({ frames := 0, cells := 0, slots := 0, locals := 0 } : Room).slots) := by
  refine openP (y := (⟨"java/lang/Character", "isHighSurrogate", "(C)Z"⟩ : MethodName)) pn_14 ?_
  intro p e s m below meth c T hx hby hml hret hlk hnm hZ hown X hT
  refine Go.st (fun _ k => castTop (ef_I_1 m ch) k) ?_
  show Go p e below _ (T.setTop (mkF m 0 #[.val (.int ch)] []))
  refine Go.st (fun _ k => XS.iloadN X.here hx rfl (hb hby d25_0) rfl k) ?_
  show Go p e below _ (T.setTop (mkF m 1 #[.val (.int ch)] [(.int ch)]))
  refine Go.st (fun _ k => X.ldcI hx hown (mvT hZ (hw _ (List.mem_of_getElem? (i := 111) rfl))) rfl (hb hby d25_1) k) ?_
  show Go p e below _ (T.setTop (mkF m 3 #[.val (.int ch)] [(.int (55296 : Int32)), (.int ch)]))
  by_cases hc1 : ch < (55296 : Int32)
  · refine Go.st (fun _ k => XS.icmpYes X.here hx rfl (pc0 := 3) (pc' := 16) rfl (hb hby d25_3) rfl (Jvm.Free.XT.ii_lt_t hc1) (by decide) (by decide) k) ?_
    show Go p e below _ (T.setTop (mkF m 16 #[.val (.int ch)] []))
    refine Go.st (fun _ k => XS.iconst X.here hx rfl (hb hby d25_16) k) ?_
    show Go p e below _ (T.setTop (mkF m 17 #[.val (.int ch)] [(.int (0 : Int32))]))
    refine Go.ret X hx hlk hT hret (by decide) (riI (by simp)) (hb hby d25_17) (by decide) (by decide) ?_
    exact ⟨congrArg (fun z => some (Value.int z)) (by rw [f_hs, if_pos hc1]), rfl, rfl⟩
  · refine Go.st (fun _ k => XS.icmpNo X.here hx rfl (hb hby d25_3) rfl (Jvm.Free.XT.ii_lt_f hc1) k) ?_
    show Go p e below _ (T.setTop (mkF m 6 #[.val (.int ch)] []))
    refine Go.st (fun _ k => XS.iloadN X.here hx rfl (hb hby d25_6) rfl k) ?_
    show Go p e below _ (T.setTop (mkF m 7 #[.val (.int ch)] [(.int ch)]))
    refine Go.st (fun _ k => X.ldcI hx hown (mvT hZ (hw _ (List.mem_of_getElem? (i := 112) rfl))) rfl (hb hby d25_7) k) ?_
    show Go p e below _ (T.setTop (mkF m 9 #[.val (.int ch)] [(.int (56320 : Int32)), (.int ch)]))
    by_cases hc2 : ch < (56320 : Int32)
    · refine Go.st (fun _ k => XS.icmpNo X.here hx rfl (hb hby d25_9) rfl (Jvm.Free.XT.ii_ge_f hc2) k) ?_
      show Go p e below _ (T.setTop (mkF m 12 #[.val (.int ch)] []))
      refine Go.st (fun _ k => XS.iconst X.here hx rfl (hb hby d25_12) k) ?_
      show Go p e below _ (T.setTop (mkF m 13 #[.val (.int ch)] [(.int (1 : Int32))]))
      refine Go.st (fun _ k => XS.goto X.here hx rfl (pc0 := 13) (pc' := 17) rfl (hb hby d25_13) (by decide) (by decide) k) ?_
      show Go p e below _ (T.setTop (mkF m 17 #[.val (.int ch)] [(.int (1 : Int32))]))
      refine Go.ret X hx hlk hT hret (by decide) (riI (by simp)) (hb hby d25_17) (by decide) (by decide) ?_
      exact ⟨congrArg (fun z => some (Value.int z)) (by rw [f_hs, if_neg hc1, if_pos hc2]), rfl, rfl⟩
    · refine Go.st (fun _ k => XS.icmpYes X.here hx rfl (pc0 := 9) (pc' := 16) rfl (hb hby d25_9) rfl (Jvm.Free.XT.ii_ge_t hc2) (by decide) (by decide) k) ?_
      show Go p e below _ (T.setTop (mkF m 16 #[.val (.int ch)] []))
      refine Go.st (fun _ k => XS.iconst X.here hx rfl (hb hby d25_16) k) ?_
      show Go p e below _ (T.setTop (mkF m 17 #[.val (.int ch)] [(.int (0 : Int32))]))
      refine Go.ret X hx hlk hT hret (by decide) (riI (by simp)) (hb hby d25_17) (by decide) (by decide) ?_
      exact ⟨congrArg (fun z => some (Value.int z)) (by rw [f_hs, if_neg hc1, if_neg hc2]), rfl, rfl⟩
def f_ls (ch : Int32) : Int32 := (if ch < (56320 : Int32) then (0 : Int32) else (if ch < (57344 : Int32) then (1 : Int32) else (0 : Int32)))
theorem d26_0 : decode jdk_89_method_15_code 0 = .ok (.iload_n 0, 1) := by decide +kernel
theorem d26_1 : decode jdk_89_method_15_code 1 = .ok (.ldc 76, 2) := by decide +kernel
theorem d26_3 : decode jdk_89_method_15_code 3 = .ok (.if_icmp .lt 13, 3) := by decide +kernel
theorem d26_6 : decode jdk_89_method_15_code 6 = .ok (.iload_n 0, 1) := by decide +kernel
theorem d26_7 : decode jdk_89_method_15_code 7 = .ok (.ldc 77, 2) := by decide +kernel
theorem d26_9 : decode jdk_89_method_15_code 9 = .ok (.if_icmp .ge 7, 3) := by decide +kernel
theorem d26_12 : decode jdk_89_method_15_code 12 = .ok (.iconst 1, 1) := by decide +kernel
theorem d26_13 : decode jdk_89_method_15_code 13 = .ok (.goto 4, 3) := by decide +kernel
theorem d26_16 : decode jdk_89_method_15_code 16 = .ok (.iconst 0, 1) := by decide +kernel
theorem d26_17 : decode jdk_89_method_15_code 17 = .ok (.ireturn, 1) := by decide +kernel
theorem pn_15 : plainFor (⟨"java/lang/Character", "isLowSurrogate", "(C)Z"⟩ : MethodName) = true := by first | exact plainFor_of_name (by first | (simp [plainName, overriddenIn]; done) | decide +kernel) | decide +kernel
set_option maxRecDepth 65536 in
set_option maxHeartbeats 40000000 in
theorem met_ls (l : Launch) (Z : State) (a0 : Array Value) (hw : ∀ d ∈ tables_1, d.before a0 Z = true) (ws : List Jvm.Cond) (ch : Int32) (h0 : Heap)  :
    MetFree l (⟨"java/lang/Character", "isLowSurrogate", "(C)Z"⟩ : MethodName) (head1 (Jvm.Cond.code (⟨"java/lang/Character", "isLowSurrogate", "(C)Z"⟩ : MethodName) jdk_89_method_15_code 1 (some .boolean) :: ws) ({ frames := 0, cells := 0, slots := 0, locals := 0 } : Room)) (fun aa U => aa = #[(.int ch)] ∧ Z.Warmed39 U.vm ∧ U.heap = h0) (fun _ _ _ _ _ => True) (fun _ U o U' => ∃ v L, o = .returned v ∧ QV (.int (f_ls ch)) h0 v U'.heap L ∧ FrameEnd U o U' L ({ frames := 0, cells := 0, slots := 0, locals := 0 } : Room).cells ({ frames := 0, cells := 0, slots := 0, locals := 0 } : Room).slots) := by
  refine openP (y := (⟨"java/lang/Character", "isLowSurrogate", "(C)Z"⟩ : MethodName)) pn_15 ?_
  intro p e s m below meth c T hx hby hml hret hlk hnm hZ hown X hT
  refine Go.st (fun _ k => castTop (ef_I_1 m ch) k) ?_
  show Go p e below _ (T.setTop (mkF m 0 #[.val (.int ch)] []))
  refine Go.st (fun _ k => XS.iloadN X.here hx rfl (hb hby d26_0) rfl k) ?_
  show Go p e below _ (T.setTop (mkF m 1 #[.val (.int ch)] [(.int ch)]))
  refine Go.st (fun _ k => X.ldcI hx hown (mvT hZ (hw _ (List.mem_of_getElem? (i := 112) rfl))) rfl (hb hby d26_1) k) ?_
  show Go p e below _ (T.setTop (mkF m 3 #[.val (.int ch)] [(.int (56320 : Int32)), (.int ch)]))
  by_cases hc1 : ch < (56320 : Int32)
  · refine Go.st (fun _ k => XS.icmpYes X.here hx rfl (pc0 := 3) (pc' := 16) rfl (hb hby d26_3) rfl (Jvm.Free.XT.ii_lt_t hc1) (by decide) (by decide) k) ?_
    show Go p e below _ (T.setTop (mkF m 16 #[.val (.int ch)] []))
    refine Go.st (fun _ k => XS.iconst X.here hx rfl (hb hby d26_16) k) ?_
    show Go p e below _ (T.setTop (mkF m 17 #[.val (.int ch)] [(.int (0 : Int32))]))
    refine Go.ret X hx hlk hT hret (by decide) (riI (by simp)) (hb hby d26_17) (by decide) (by decide) ?_
    exact ⟨congrArg (fun z => some (Value.int z)) (by rw [f_ls, if_pos hc1]), rfl, rfl⟩
  · refine Go.st (fun _ k => XS.icmpNo X.here hx rfl (hb hby d26_3) rfl (Jvm.Free.XT.ii_lt_f hc1) k) ?_
    show Go p e below _ (T.setTop (mkF m 6 #[.val (.int ch)] []))
    refine Go.st (fun _ k => XS.iloadN X.here hx rfl (hb hby d26_6) rfl k) ?_
    show Go p e below _ (T.setTop (mkF m 7 #[.val (.int ch)] [(.int ch)]))
    refine Go.st (fun _ k => X.ldcI hx hown (mvT hZ (hw _ (List.mem_of_getElem? (i := 116) rfl))) rfl (hb hby d26_7) k) ?_
    show Go p e below _ (T.setTop (mkF m 9 #[.val (.int ch)] [(.int (57344 : Int32)), (.int ch)]))
    by_cases hc2 : ch < (57344 : Int32)
    · refine Go.st (fun _ k => XS.icmpNo X.here hx rfl (hb hby d26_9) rfl (Jvm.Free.XT.ii_ge_f hc2) k) ?_
      show Go p e below _ (T.setTop (mkF m 12 #[.val (.int ch)] []))
      refine Go.st (fun _ k => XS.iconst X.here hx rfl (hb hby d26_12) k) ?_
      show Go p e below _ (T.setTop (mkF m 13 #[.val (.int ch)] [(.int (1 : Int32))]))
      refine Go.st (fun _ k => XS.goto X.here hx rfl (pc0 := 13) (pc' := 17) rfl (hb hby d26_13) (by decide) (by decide) k) ?_
      show Go p e below _ (T.setTop (mkF m 17 #[.val (.int ch)] [(.int (1 : Int32))]))
      refine Go.ret X hx hlk hT hret (by decide) (riI (by simp)) (hb hby d26_17) (by decide) (by decide) ?_
      exact ⟨congrArg (fun z => some (Value.int z)) (by rw [f_ls, if_neg hc1, if_pos hc2]), rfl, rfl⟩
    · refine Go.st (fun _ k => XS.icmpYes X.here hx rfl (pc0 := 9) (pc' := 16) rfl (hb hby d26_9) rfl (Jvm.Free.XT.ii_ge_t hc2) (by decide) (by decide) k) ?_
      show Go p e below _ (T.setTop (mkF m 16 #[.val (.int ch)] []))
      refine Go.st (fun _ k => XS.iconst X.here hx rfl (hb hby d26_16) k) ?_
      show Go p e below _ (T.setTop (mkF m 17 #[.val (.int ch)] [(.int (0 : Int32))]))
      refine Go.ret X hx hlk hT hret (by decide) (riI (by simp)) (hb hby d26_17) (by decide) (by decide) ?_
      exact ⟨congrArg (fun z => some (Value.int z)) (by rw [f_ls, if_neg hc1, if_neg hc2]), rfl, rfl⟩
/-- the pairs that codePointCount finds from the left -/
def prs : List Int32 → Nat
  | [] => 0
  | [_] => 0
  | c :: d :: r => if f_hs c = (0 : Int32) then prs (d :: r) else if f_ls d = (0 : Int32) then prs (d :: r) else prs r + 1
theorem prs_le : ∀ cs : List Int32, 2 * prs cs ≤ cs.length
  | [] => Nat.le_refl _
  | [_] => by simp [prs]
  | c :: d :: r => by
    have h1 := prs_le (d :: r)
    have h2 := prs_le r
    rw [prs]
    simp only [List.length_cons] at h1 ⊢
    split
    · omega
    · split <;> omega
theorem own_hs0 {c : Int32} (h : ¬ (255 : Int32) < c) : f_hs c = 0 := by
  rw [f_hs]
  have : c < (55296 : Int32) := by
    rw [Int32.lt_iff_toInt_lt] at h ⊢
    have e1 : (255 : Int32).toInt = 255 := by decide
    have e2 : (55296 : Int32).toInt = 55296 := by decide
    rw [e1] at h; rw [e2]; omega
  rw [if_pos this]
theorem prs_latin : ∀ cs : List Int32, (∀ c ∈ cs, ¬ (255 : Int32) < c) → prs cs = 0
  | [], _ => rfl
  | [_], _ => rfl
  | c :: d :: r, h => by
    rw [prs, if_pos (own_hs0 (h c (by simp)))]
    exact prs_latin (d :: r) (fun x hx => h x (by simp at hx ⊢; exact Or.inr hx))
theorem own_drop2 (cs : List Int32) (i : Nat) (h : i + 1 < cs.length) : cs.drop i = cs.getD i 0 :: cs.getD (i + 1) 0 :: cs.drop (i + 2) := by
  rw [List.drop_eq_getElem_cons (by omega), List.drop_eq_getElem_cons (i := i + 1) (by omega), List.getD_eq_getElem?_getD, List.getD_eq_getElem?_getD, List.getElem?_eq_getElem (by omega), List.getElem?_eq_getElem (by omega)]
  rfl
theorem own_drop1 (cs : List Int32) (i : Nat) (h : i + 1 < cs.length) : cs.drop (i + 1) = cs.getD (i + 1) 0 :: cs.drop (i + 2) := by
  rw [List.drop_eq_getElem_cons (i := i + 1) (by omega), List.getD_eq_getElem?_getD, List.getElem?_eq_getElem (by omega)]
  rfl
theorem own_prs_hi {cs : List Int32} {i : Nat} (h : i + 1 < cs.length) (q : f_hs (cs.getD i 0) = (0 : Int32)) : prs (cs.drop i) = prs (cs.drop (i + 1)) := by
  rw [own_drop2 cs i h, prs, if_pos q, own_drop1 cs i h]
theorem own_prs_lo {cs : List Int32} {i : Nat} (h : i + 1 < cs.length) (q : ¬ f_hs (cs.getD i 0) = (0 : Int32)) (q2 : f_ls (cs.getD (i + 1) 0) = (0 : Int32)) : prs (cs.drop i) = prs (cs.drop (i + 1)) := by
  rw [own_drop2 cs i h, prs, if_neg q, if_pos q2, own_drop1 cs i h]
theorem own_prs_yes {cs : List Int32} {i : Nat} (h : i + 1 < cs.length) (q : ¬ f_hs (cs.getD i 0) = (0 : Int32)) (q2 : ¬ f_ls (cs.getD (i + 1) 0) = (0 : Int32)) : prs (cs.drop i) = prs (cs.drop (i + 2)) + 1 := by
  rw [own_drop2 cs i h, prs, if_neg q, if_neg q2]
theorem own_prs_end {cs : List Int32} {i : Nat} (h : ¬ i + 1 < cs.length) : prs (cs.drop i) = 0 := by
  have : (cs.drop i).length ≤ 1 := by rw [List.length_drop]; omega
  match hq : cs.drop i with
  | [] => rfl
  | [_] => rfl
  | _ :: _ :: _ => rw [hq] at this; simp at this
theorem own_pred {n : Nat} (h : 0 < n) : Int32.ofNat n - (1 : Int32) = Int32.ofNat (n - 1) := by
  obtain ⟨m, rfl⟩ : ∃ m, n = m + 1 := ⟨n - 1, by omega⟩
  rw [← own_succ, Int32.add_sub_cancel]; rfl
theorem own_predI {n : Nat} (h : 0 < n) : Int32.ofNat n + (-1 : Int32) = Int32.ofNat (n - 1) := by
  rw [← own_pred h, Int32.sub_eq_add_neg]
theorem d24_0 : decode jdk_52_method_11_code 0 = .ok (.getstatic 44, 3) := by decide +kernel
theorem d24_3 : decode jdk_52_method_11_code 3 = .ok (.ifCond .ne 16, 3) := by decide +kernel
theorem d24_19 : decode jdk_52_method_11_code 19 = .ok (.iload_n 2, 1) := by decide +kernel
theorem d24_20 : decode jdk_52_method_11_code 20 = .ok (.iload_n 1, 1) := by decide +kernel
theorem d24_21 : decode jdk_52_method_11_code 21 = .ok (.isub, 1) := by decide +kernel
theorem d24_22 : decode jdk_52_method_11_code 22 = .ok (.istore 4, 2) := by decide +kernel
theorem d24_24 : decode jdk_52_method_11_code 24 = .ok (.iload_n 1, 1) := by decide +kernel
theorem d24_25 : decode jdk_52_method_11_code 25 = .ok (.istore 5, 2) := by decide +kernel
theorem d24_27 : decode jdk_52_method_11_code 27 = .ok (.iload_n 3, 1) := by decide +kernel
theorem d24_28 : decode jdk_52_method_11_code 28 = .ok (.ifCond .eq 16, 3) := by decide +kernel
theorem d24_44 : decode jdk_52_method_11_code 44 = .ok (.iload 5, 2) := by decide +kernel
theorem d24_46 : decode jdk_52_method_11_code 46 = .ok (.iload_n 2, 1) := by decide +kernel
theorem d24_47 : decode jdk_52_method_11_code 47 = .ok (.iconst 1, 1) := by decide +kernel
theorem d24_48 : decode jdk_52_method_11_code 48 = .ok (.isub, 1) := by decide +kernel
theorem d24_49 : decode jdk_52_method_11_code 49 = .ok (.if_icmp .ge 39, 3) := by decide +kernel
theorem d24_52 : decode jdk_52_method_11_code 52 = .ok (.aload_n 0, 1) := by decide +kernel
theorem d24_53 : decode jdk_52_method_11_code 53 = .ok (.iload 5, 2) := by decide +kernel
theorem d24_55 : decode jdk_52_method_11_code 55 = .ok (.iinc 5 1, 3) := by decide +kernel
theorem d24_58 : decode jdk_52_method_11_code 58 = .ok (.invokestatic 71, 3) := by decide +kernel
theorem d24_61 : decode jdk_52_method_11_code 61 = .ok (.invokestatic 75, 3) := by decide +kernel
theorem d24_64 : decode jdk_52_method_11_code 64 = .ok (.ifCond .eq (-20), 3) := by decide +kernel
theorem d24_67 : decode jdk_52_method_11_code 67 = .ok (.aload_n 0, 1) := by decide +kernel
theorem d24_68 : decode jdk_52_method_11_code 68 = .ok (.iload 5, 2) := by decide +kernel
theorem d24_70 : decode jdk_52_method_11_code 70 = .ok (.invokestatic 71, 3) := by decide +kernel
theorem d24_73 : decode jdk_52_method_11_code 73 = .ok (.invokestatic 81, 3) := by decide +kernel
theorem d24_76 : decode jdk_52_method_11_code 76 = .ok (.ifCond .eq (-32), 3) := by decide +kernel
theorem d24_79 : decode jdk_52_method_11_code 79 = .ok (.iinc 4 (-1), 3) := by decide +kernel
theorem d24_82 : decode jdk_52_method_11_code 82 = .ok (.iinc 5 1, 3) := by decide +kernel
theorem d24_85 : decode jdk_52_method_11_code 85 = .ok (.goto (-41), 3) := by decide +kernel
theorem d24_88 : decode jdk_52_method_11_code 88 = .ok (.iload 4, 2) := by decide +kernel
theorem d24_90 : decode jdk_52_method_11_code 90 = .ok (.ireturn, 1) := by decide +kernel
theorem pn_16 : plainFor (⟨"java/lang/StringUTF16", "codePointCount", "([BIIZ)I"⟩ : MethodName) = true := by first | exact plainFor_of_name (by first | (simp [plainName, overriddenIn]; done) | decide +kernel) | decide +kernel
theorem ef_AIII_6 (m : MethodId) (y0 : Addr) (y1 : Int32) (y2 : Int32) (y3 : Int32) : entryFrame m #[(.ref y0), (.int y1), (.int y2), (.int y3)] 6 = mkF m 0 #[.val (.ref y0), .val (.int y1), .val (.int y2), .val (.int y3), .unset, .unset] [] := by first | (simp [entryFrame, mkF, argsToLocals, Value.category]; done) | rfl
set_option maxRecDepth 65536 in
set_option maxHeartbeats 40000000 in
theorem met_cpu4 (l : Launch) (Z : State) (a0 : Array Value) (hw : ∀ d ∈ tables_1, d.before a0 Z = true) (ws : List Jvm.Cond) (n0 : Nat) (d : Addr) (kd : ClassId) (cs : List Int32) (h0 : Heap) (O : Old Z n0 h0) (S16 : St16 Z) (V_d : Arv Z h0 d kd .byte (Int32.ofNat (2 * cs.length)) (StrChars.Road.wideBytes cs) (.int 0)) (hpos : 0 < cs.length) (hn : cs.length ≤ 40) (hp : ∀ c ∈ cs, ¬ c < 0 ∧ ¬ (65535 : Int32) < c) :
    MetFree l (⟨"java/lang/StringUTF16", "codePointCount", "([BIIZ)I"⟩ : MethodName) (head1 (Jvm.Cond.code (⟨"java/lang/StringUTF16", "codePointCount", "([BIIZ)I"⟩ : MethodName) jdk_52_method_11_code 6 (some .int) :: ws) ({ frames := 1, cells := 0, slots := 0, locals := 13 } : Room)) (fun aa U => aa = #[(.ref d), (.int (0 : Int32)), (.int (Int32.ofNat cs.length)), (.int (0 : Int32))] ∧ Z.Warmed39 U.vm ∧ U.heap = h0) (fun _ _ _ _ _ => True) (fun _ U o U' => ∃ v L, o = .returned v ∧ QV (.int (Int32.ofNat (cs.length - prs cs))) h0 v U'.heap L ∧ FrameEnd U o U' L ({ frames := 1, cells := 0, slots := 0, locals := 13 } : Room).cells ({ frames := 1, cells := 0, slots := 0, locals := 13 } : Room).slots) := by
  refine openP (y := (⟨"java/lang/StringUTF16", "codePointCount", "([BIIZ)I"⟩ : MethodName)) pn_16 ?_
  intro p e s m below meth c T hx hby hml hret hlk hnm hZ hown X hT
  refine Go.st (fun _ k => castTop (ef_AIII_6 m d (0 : Int32) (Int32.ofNat cs.length) (0 : Int32)) k) ?_
  show Go p e below _ (T.setTop (mkF m 0 #[.val (.ref d), .val (.int (0 : Int32)), .val (.int (Int32.ofNat cs.length)), .val (.int (0 : Int32)), .unset, .unset] []))
  have S0s := O.2
  obtain ⟨T, X, hT, st⟩ := getS2 X hx hZ hown (host := "") (Or.inl (hw _ (List.mem_of_getElem? (i := 92) rfl))) Via.refl hT (S16.1.ext (O.2)) (g := (mkF m 0 #[.val (.ref d), .val (.int (0 : Int32)), .val (.int (Int32.ofNat cs.length)), .val (.int (0 : Int32)), .unset, .unset] [])) rfl (hb hby d24_0)
  refine Go.st st ?_
  show Go p e below _ (T.setTop (mkF m 3 #[.val (.ref d), .val (.int (0 : Int32)), .val (.int (Int32.ofNat cs.length)), .val (.int (0 : Int32)), .unset, .unset] [(.int (1 : Int32))]))
  refine Go.st (fun _ k => XS.ifYes X.here hx rfl (pc0 := 3) (pc' := 19) rfl (hb hby d24_3) rfl (Jvm.Free.XT.i0_ne_t (by decide : ¬ ((1 : Int32) = (0 : Int32)))) (by decide) (by decide) k) ?_
  show Go p e below _ (T.setTop (mkF m 19 #[.val (.ref d), .val (.int (0 : Int32)), .val (.int (Int32.ofNat cs.length)), .val (.int (0 : Int32)), .unset, .unset] []))
  refine Go.st (fun _ k => XS.iloadN X.here hx rfl (hb hby d24_19) rfl k) ?_
  show Go p e below _ (T.setTop (mkF m 20 #[.val (.ref d), .val (.int (0 : Int32)), .val (.int (Int32.ofNat cs.length)), .val (.int (0 : Int32)), .unset, .unset] [(.int (Int32.ofNat cs.length))]))
  refine Go.st (fun _ k => XS.iloadN X.here hx rfl (hb hby d24_20) rfl k) ?_
  show Go p e below _ (T.setTop (mkF m 21 #[.val (.ref d), .val (.int (0 : Int32)), .val (.int (Int32.ofNat cs.length)), .val (.int (0 : Int32)), .unset, .unset] [(.int (0 : Int32)), (.int (Int32.ofNat cs.length))]))
  refine Go.st (fun _ k => XS.isub X.here hx rfl (hb hby d24_21) rfl k) ?_
  show Go p e below _ (T.setTop (mkF m 22 #[.val (.ref d), .val (.int (0 : Int32)), .val (.int (Int32.ofNat cs.length)), .val (.int (0 : Int32)), .unset, .unset] [(.int ((Int32.ofNat cs.length) - (0 : Int32)))]))
  rw [show (Int32.ofNat cs.length - (0 : Int32)) = Int32.ofNat cs.length from Int32.sub_zero _]
  show Go p e below _ (T.setTop (mkF m 22 #[.val (.ref d), .val (.int (0 : Int32)), .val (.int (Int32.ofNat cs.length)), .val (.int (0 : Int32)), .unset, .unset] [(.int (Int32.ofNat cs.length))]))
  refine Go.st (fun _ k => XS.istore X.here hx rfl (hb hby d24_22) rfl (l' := #[.val (.ref d), .val (.int (0 : Int32)), .val (.int (Int32.ofNat cs.length)), .val (.int (0 : Int32)), .val (.int (Int32.ofNat cs.length)), .unset]) rfl k) ?_
  show Go p e below _ (T.setTop (mkF m 24 #[.val (.ref d), .val (.int (0 : Int32)), .val (.int (Int32.ofNat cs.length)), .val (.int (0 : Int32)), .val (.int (Int32.ofNat cs.length)), .unset] []))
  refine Go.st (fun _ k => XS.iloadN X.here hx rfl (hb hby d24_24) rfl k) ?_
  show Go p e below _ (T.setTop (mkF m 25 #[.val (.ref d), .val (.int (0 : Int32)), .val (.int (Int32.ofNat cs.length)), .val (.int (0 : Int32)), .val (.int (Int32.ofNat cs.length)), .unset] [(.int (0 : Int32))]))
  refine Go.st (fun _ k => XS.istore X.here hx rfl (hb hby d24_25) rfl (l' := #[.val (.ref d), .val (.int (0 : Int32)), .val (.int (Int32.ofNat cs.length)), .val (.int (0 : Int32)), .val (.int (Int32.ofNat cs.length)), .val (.int (0 : Int32))]) rfl k) ?_
  show Go p e below _ (T.setTop (mkF m 27 #[.val (.ref d), .val (.int (0 : Int32)), .val (.int (Int32.ofNat cs.length)), .val (.int (0 : Int32)), .val (.int (Int32.ofNat cs.length)), .val (.int (0 : Int32))] []))
  refine Go.st (fun _ k => XS.iloadN X.here hx rfl (hb hby d24_27) rfl k) ?_
  show Go p e below _ (T.setTop (mkF m 28 #[.val (.ref d), .val (.int (0 : Int32)), .val (.int (Int32.ofNat cs.length)), .val (.int (0 : Int32)), .val (.int (Int32.ofNat cs.length)), .val (.int (0 : Int32))] [(.int (0 : Int32))]))
  refine Go.st (fun _ k => XS.ifYes X.here hx rfl (pc0 := 28) (pc' := 44) rfl (hb hby d24_28) rfl (Jvm.Free.XT.i0_eq_t (by decide : (0 : Int32) = (0 : Int32))) (by decide) (by decide) k) ?_
  show Go p e below _ (T.setTop (mkF m 44 #[.val (.ref d), .val (.int (0 : Int32)), .val (.int (Int32.ofNat cs.length)), .val (.int (0 : Int32)), .val (.int (Int32.ofNat cs.length)), .val (.int (0 : Int32))] []))
  have loop : ∀ (k i q : Nat) (T : State), cs.length ≤ i + k → i ≤ cs.length → prs (cs.drop i) ≤ q → q ≤ cs.length → T.heap = h0 → Stand p l e ({ frames := 1, cells := 0, slots := 0, locals := 13 } : Room) s m #[(.ref d), (.int (0 : Int32)), (.int (Int32.ofNat cs.length)), (.int (0 : Int32))] below meth c T [] 0 0 → Go p e below (EndP s (QV (.int (Int32.ofNat (q - prs (cs.drop i)))) h0) ({ frames := 1, cells := 0, slots := 0, locals := 13 } : Room).cells ({ frames := 1, cells := 0, slots := 0, locals := 13 } : Room).slots) (T.setTop (mkF m 44 #[.val (.ref d), .val (.int (0 : Int32)), .val (.int (Int32.ofNat cs.length)), .val (.int (0 : Int32)), .val (.int (Int32.ofNat q)), .val (.int (Int32.ofNat i))] [])) := by
    intro k
    induction k with
    | zero =>
      intro i q T hik hi hq hqn hT X
      refine Go.st (fun _ k => XS.iload X.here hx rfl (hb hby d24_44) rfl k) ?_
      show Go p e below _ (T.setTop (mkF m 46 #[.val (.ref d), .val (.int (0 : Int32)), .val (.int (Int32.ofNat cs.length)), .val (.int (0 : Int32)), .val (.int (Int32.ofNat q)), .val (.int (Int32.ofNat i))] [(.int (Int32.ofNat i))]))
      refine Go.st (fun _ k => XS.iloadN X.here hx rfl (hb hby d24_46) rfl k) ?_
      show Go p e below _ (T.setTop (mkF m 47 #[.val (.ref d), .val (.int (0 : Int32)), .val (.int (Int32.ofNat cs.length)), .val (.int (0 : Int32)), .val (.int (Int32.ofNat q)), .val (.int (Int32.ofNat i))] [(.int (Int32.ofNat cs.length)), (.int (Int32.ofNat i))]))
      refine Go.st (fun _ k => XS.iconst X.here hx rfl (hb hby d24_47) k) ?_
      show Go p e below _ (T.setTop (mkF m 48 #[.val (.ref d), .val (.int (0 : Int32)), .val (.int (Int32.ofNat cs.length)), .val (.int (0 : Int32)), .val (.int (Int32.ofNat q)), .val (.int (Int32.ofNat i))] [(.int (1 : Int32)), (.int (Int32.ofNat cs.length)), (.int (Int32.ofNat i))]))
      refine Go.st (fun _ k => XS.isub X.here hx rfl (hb hby d24_48) rfl k) ?_
      show Go p e below _ (T.setTop (mkF m 49 #[.val (.ref d), .val (.int (0 : Int32)), .val (.int (Int32.ofNat cs.length)), .val (.int (0 : Int32)), .val (.int (Int32.ofNat q)), .val (.int (Int32.ofNat i))] [(.int ((Int32.ofNat cs.length) - (1 : Int32))), (.int (Int32.ofNat i))]))
      rw [own_pred hpos]
      show Go p e below _ (T.setTop (mkF m 49 #[.val (.ref d), .val (.int (0 : Int32)), .val (.int (Int32.ofNat cs.length)), .val (.int (0 : Int32)), .val (.int (Int32.ofNat q)), .val (.int (Int32.ofNat i))] [(.int (Int32.ofNat (cs.length - 1))), (.int (Int32.ofNat i))]))
      refine Go.st (fun _ k => XS.icmpYes X.here hx rfl (pc0 := 49) (pc' := 88) rfl (hb hby d24_49) rfl (Jvm.Free.XT.ii_ge_t (fun z => absurd ((own_lt (by omega) (by omega)).mp z) (by omega) : ¬ ((Int32.ofNat i) < (Int32.ofNat (cs.length - 1))))) (by decide) (by decide) k) ?_
      show Go p e below _ (T.setTop (mkF m 88 #[.val (.ref d), .val (.int (0 : Int32)), .val (.int (Int32.ofNat cs.length)), .val (.int (0 : Int32)), .val (.int (Int32.ofNat q)), .val (.int (Int32.ofNat i))] []))
      refine Go.st (fun _ k => XS.iload X.here hx rfl (hb hby d24_88) rfl k) ?_
      show Go p e below _ (T.setTop (mkF m 90 #[.val (.ref d), .val (.int (0 : Int32)), .val (.int (Int32.ofNat cs.length)), .val (.int (0 : Int32)), .val (.int (Int32.ofNat q)), .val (.int (Int32.ofNat i))] [(.int (Int32.ofNat q))]))
      refine Go.ret X hx hlk hT hret rfl (riI (by simp)) (hb hby d24_90) (by decide) (by decide) ?_
      exact ⟨by rw [own_prs_end (by omega)]; rfl, rfl, rfl⟩
    | succ k ih =>
      intro i q T hik hi hq hqn hT X
      refine Go.st (fun _ k => XS.iload X.here hx rfl (hb hby d24_44) rfl k) ?_
      show Go p e below _ (T.setTop (mkF m 46 #[.val (.ref d), .val (.int (0 : Int32)), .val (.int (Int32.ofNat cs.length)), .val (.int (0 : Int32)), .val (.int (Int32.ofNat q)), .val (.int (Int32.ofNat i))] [(.int (Int32.ofNat i))]))
      refine Go.st (fun _ k => XS.iloadN X.here hx rfl (hb hby d24_46) rfl k) ?_
      show Go p e below _ (T.setTop (mkF m 47 #[.val (.ref d), .val (.int (0 : Int32)), .val (.int (Int32.ofNat cs.length)), .val (.int (0 : Int32)), .val (.int (Int32.ofNat q)), .val (.int (Int32.ofNat i))] [(.int (Int32.ofNat cs.length)), (.int (Int32.ofNat i))]))
      refine Go.st (fun _ k => XS.iconst X.here hx rfl (hb hby d24_47) k) ?_
      show Go p e below _ (T.setTop (mkF m 48 #[.val (.ref d), .val (.int (0 : Int32)), .val (.int (Int32.ofNat cs.length)), .val (.int (0 : Int32)), .val (.int (Int32.ofNat q)), .val (.int (Int32.ofNat i))] [(.int (1 : Int32)), (.int (Int32.ofNat cs.length)), (.int (Int32.ofNat i))]))
      refine Go.st (fun _ k => XS.isub X.here hx rfl (hb hby d24_48) rfl k) ?_
      show Go p e below _ (T.setTop (mkF m 49 #[.val (.ref d), .val (.int (0 : Int32)), .val (.int (Int32.ofNat cs.length)), .val (.int (0 : Int32)), .val (.int (Int32.ofNat q)), .val (.int (Int32.ofNat i))] [(.int ((Int32.ofNat cs.length) - (1 : Int32))), (.int (Int32.ofNat i))]))
      rw [own_pred hpos]
      show Go p e below _ (T.setTop (mkF m 49 #[.val (.ref d), .val (.int (0 : Int32)), .val (.int (Int32.ofNat cs.length)), .val (.int (0 : Int32)), .val (.int (Int32.ofNat q)), .val (.int (Int32.ofNat i))] [(.int (Int32.ofNat (cs.length - 1))), (.int (Int32.ofNat i))]))
      by_cases hlt : i + 1 < cs.length
      · refine Go.st (fun _ k => XS.icmpNo X.here hx rfl (hb hby d24_49) rfl (Jvm.Free.XT.ii_ge_f ((own_lt (by omega) (by omega)).mpr (by omega) : (Int32.ofNat i) < (Int32.ofNat (cs.length - 1)))) k) ?_
        show Go p e below _ (T.setTop (mkF m 52 #[.val (.ref d), .val (.int (0 : Int32)), .val (.int (Int32.ofNat cs.length)), .val (.int (0 : Int32)), .val (.int (Int32.ofNat q)), .val (.int (Int32.ofNat i))] []))
        refine Go.st (fun _ k => XS.aloadN X.here hx rfl (hb hby d24_52) rfl rfl k) ?_
        show Go p e below _ (T.setTop (mkF m 53 #[.val (.ref d), .val (.int (0 : Int32)), .val (.int (Int32.ofNat cs.length)), .val (.int (0 : Int32)), .val (.int (Int32.ofNat q)), .val (.int (Int32.ofNat i))] [(.ref d)]))
        refine Go.st (fun _ k => XS.iload X.here hx rfl (hb hby d24_53) rfl k) ?_
        show Go p e below _ (T.setTop (mkF m 55 #[.val (.ref d), .val (.int (0 : Int32)), .val (.int (Int32.ofNat cs.length)), .val (.int (0 : Int32)), .val (.int (Int32.ofNat q)), .val (.int (Int32.ofNat i))] [(.int (Int32.ofNat i)), (.ref d)]))
        refine Go.st (fun _ k => XS.iinc X.here hx rfl (hb hby d24_55) rfl (l' := #[.val (.ref d), .val (.int (0 : Int32)), .val (.int (Int32.ofNat cs.length)), .val (.int (0 : Int32)), .val (.int (Int32.ofNat q)), .val (.int ((Int32.ofNat i) + (1 : Int32)))]) rfl k) ?_
        show Go p e below _ (T.setTop (mkF m 58 #[.val (.ref d), .val (.int (0 : Int32)), .val (.int (Int32.ofNat cs.length)), .val (.int (0 : Int32)), .val (.int (Int32.ofNat q)), .val (.int ((Int32.ofNat i) + (1 : Int32)))] [(.int (Int32.ofNat i)), (.ref d)]))
        rw [own_succ]
        show Go p e below _ (T.setTop (mkF m 58 #[.val (.ref d), .val (.int (0 : Int32)), .val (.int (Int32.ofNat cs.length)), .val (.int (0 : Int32)), .val (.int (Int32.ofNat q)), .val (.int (Int32.ofNat (i + 1)))] [(.int (Int32.ofNat i)), (.ref d)]))
        refine Go.callV (argsL := [(.ref d), (.int (Int32.ofNat i))]) (rest := []) (W := 0) X hx hZ hown (hml.trans rfl) hT (hw _ (List.mem_of_getElem? (i := 95) rfl)) (hw _ (List.mem_of_getElem? (i := 96) rfl)) (hw _ (List.mem_of_getElem? (i := 74) rfl)) (hw _ (List.mem_of_getElem? (i := 97) rfl)) (by decide) pd_5 rfl rfl (Nat.le_of_ble_eq_true rfl) (hb hby d24_58) (backOf (W := 0) (met_getc l Z a0 hw [] n0 d kd cs i _ O S16 V_d hn (by omega) (hp _ (own_getmem cs _ (by omega)))) hZ (hw _ (List.mem_of_getElem? (i := 97) rfl)) (hw _ (List.mem_of_getElem? (i := 74) rfl)) (by decide) (by decide)) (by decide) (by decide) ?_
        intro T hT X
        show Go p e below _ (T.setTop (mkF m 61 #[.val (.ref d), .val (.int (0 : Int32)), .val (.int (Int32.ofNat cs.length)), .val (.int (0 : Int32)), .val (.int (Int32.ofNat q)), .val (.int (Int32.ofNat (i + 1)))] [(.int (cs.getD i 0))]))
        refine Go.callV (argsL := [(.int (cs.getD i 0))]) (rest := []) (W := 0) X hx hZ hown (hml.trans rfl) hT (hw _ (List.mem_of_getElem? (i := 107) rfl)) (hw _ (List.mem_of_getElem? (i := 108) rfl)) (hw _ (List.mem_of_getElem? (i := 109) rfl)) (hw _ (List.mem_of_getElem? (i := 110) rfl)) (by decide) pd_8 rfl rfl (Nat.le_of_ble_eq_true rfl) (hb hby d24_61) (backOf (W := 0) (met_hs l Z a0 hw [] (cs.getD i 0) _) hZ (hw _ (List.mem_of_getElem? (i := 110) rfl)) (hw _ (List.mem_of_getElem? (i := 109) rfl)) (by decide) (by decide)) (by decide) (by decide) ?_
        intro T hT X
        show Go p e below _ (T.setTop (mkF m 64 #[.val (.ref d), .val (.int (0 : Int32)), .val (.int (Int32.ofNat cs.length)), .val (.int (0 : Int32)), .val (.int (Int32.ofNat q)), .val (.int (Int32.ofNat (i + 1)))] [(.int (f_hs (cs.getD i 0)))]))
        by_cases hc1 : (f_hs (cs.getD i 0)) = (0 : Int32)
        · refine Go.st (fun _ k => XS.ifYes X.here hx rfl (pc0 := 64) (pc' := 44) rfl (hb hby d24_64) rfl (Jvm.Free.XT.i0_eq_t hc1) (by decide) (by decide) k) ?_
          show Go p e below _ (T.setTop (mkF m 44 #[.val (.ref d), .val (.int (0 : Int32)), .val (.int (Int32.ofNat cs.length)), .val (.int (0 : Int32)), .val (.int (Int32.ofNat q)), .val (.int (Int32.ofNat (i + 1)))] []))
          rw [own_prs_hi (by omega) hc1]
          rw [own_prs_hi (by omega) hc1] at hq
          exact ih (i + 1) q T (by omega) (by omega) hq hqn hT X
        · refine Go.st (fun _ k => XS.ifNo X.here hx rfl (hb hby d24_64) rfl (Jvm.Free.XT.i0_eq_f hc1) k) ?_
          show Go p e below _ (T.setTop (mkF m 67 #[.val (.ref d), .val (.int (0 : Int32)), .val (.int (Int32.ofNat cs.length)), .val (.int (0 : Int32)), .val (.int (Int32.ofNat q)), .val (.int (Int32.ofNat (i + 1)))] []))
          refine Go.st (fun _ k => XS.aloadN X.here hx rfl (hb hby d24_67) rfl rfl k) ?_
          show Go p e below _ (T.setTop (mkF m 68 #[.val (.ref d), .val (.int (0 : Int32)), .val (.int (Int32.ofNat cs.length)), .val (.int (0 : Int32)), .val (.int (Int32.ofNat q)), .val (.int (Int32.ofNat (i + 1)))] [(.ref d)]))
          refine Go.st (fun _ k => XS.iload X.here hx rfl (hb hby d24_68) rfl k) ?_
          show Go p e below _ (T.setTop (mkF m 70 #[.val (.ref d), .val (.int (0 : Int32)), .val (.int (Int32.ofNat cs.length)), .val (.int (0 : Int32)), .val (.int (Int32.ofNat q)), .val (.int (Int32.ofNat (i + 1)))] [(.int (Int32.ofNat (i + 1))), (.ref d)]))
          refine Go.callV (argsL := [(.ref d), (.int (Int32.ofNat (i + 1)))]) (rest := []) (W := 0) X hx hZ hown (hml.trans rfl) hT (hw _ (List.mem_of_getElem? (i := 95) rfl)) (hw _ (List.mem_of_getElem? (i := 96) rfl)) (hw _ (List.mem_of_getElem? (i := 74) rfl)) (hw _ (List.mem_of_getElem? (i := 97) rfl)) (by decide) pd_5 rfl rfl (Nat.le_of_ble_eq_true rfl) (hb hby d24_70) (backOf (W := 0) (met_getc l Z a0 hw [] n0 d kd cs (i + 1) _ O S16 V_d hn (by omega) (hp _ (own_getmem cs _ (by omega)))) hZ (hw _ (List.mem_of_getElem? (i := 97) rfl)) (hw _ (List.mem_of_getElem? (i := 74) rfl)) (by decide) (by decide)) (by decide) (by decide) ?_
          intro T hT X
          show Go p e below _ (T.setTop (mkF m 73 #[.val (.ref d), .val (.int (0 : Int32)), .val (.int (Int32.ofNat cs.length)), .val (.int (0 : Int32)), .val (.int (Int32.ofNat q)), .val (.int (Int32.ofNat (i + 1)))] [(.int (cs.getD (i + 1) 0))]))
          refine Go.callV (argsL := [(.int (cs.getD (i + 1) 0))]) (rest := []) (W := 0) X hx hZ hown (hml.trans rfl) hT (hw _ (List.mem_of_getElem? (i := 113) rfl)) (hw _ (List.mem_of_getElem? (i := 114) rfl)) (hw _ (List.mem_of_getElem? (i := 109) rfl)) (hw _ (List.mem_of_getElem? (i := 115) rfl)) (by decide) pd_8 rfl rfl (Nat.le_of_ble_eq_true rfl) (hb hby d24_73) (backOf (W := 0) (met_ls l Z a0 hw [] (cs.getD (i + 1) 0) _) hZ (hw _ (List.mem_of_getElem? (i := 115) rfl)) (hw _ (List.mem_of_getElem? (i := 109) rfl)) (by decide) (by decide)) (by decide) (by decide) ?_
          intro T hT X
          show Go p e below _ (T.setTop (mkF m 76 #[.val (.ref d), .val (.int (0 : Int32)), .val (.int (Int32.ofNat cs.length)), .val (.int (0 : Int32)), .val (.int (Int32.ofNat q)), .val (.int (Int32.ofNat (i + 1)))] [(.int (f_ls (cs.getD (i + 1) 0)))]))
          by_cases hc2 : (f_ls (cs.getD (i + 1) 0)) = (0 : Int32)
          · refine Go.st (fun _ k => XS.ifYes X.here hx rfl (pc0 := 76) (pc' := 44) rfl (hb hby d24_76) rfl (Jvm.Free.XT.i0_eq_t hc2) (by decide) (by decide) k) ?_
            show Go p e below _ (T.setTop (mkF m 44 #[.val (.ref d), .val (.int (0 : Int32)), .val (.int (Int32.ofNat cs.length)), .val (.int (0 : Int32)), .val (.int (Int32.ofNat q)), .val (.int (Int32.ofNat (i + 1)))] []))
            rw [own_prs_lo (by omega) hc1 hc2]
            rw [own_prs_lo (by omega) hc1 hc2] at hq
            exact ih (i + 1) q T (by omega) (by omega) hq hqn hT X
          · refine Go.st (fun _ k => XS.ifNo X.here hx rfl (hb hby d24_76) rfl (Jvm.Free.XT.i0_eq_f hc2) k) ?_
            show Go p e below _ (T.setTop (mkF m 79 #[.val (.ref d), .val (.int (0 : Int32)), .val (.int (Int32.ofNat cs.length)), .val (.int (0 : Int32)), .val (.int (Int32.ofNat q)), .val (.int (Int32.ofNat (i + 1)))] []))
            refine Go.st (fun _ k => XS.iinc X.here hx rfl (hb hby d24_79) rfl (l' := #[.val (.ref d), .val (.int (0 : Int32)), .val (.int (Int32.ofNat cs.length)), .val (.int (0 : Int32)), .val (.int ((Int32.ofNat q) + (-1 : Int32))), .val (.int (Int32.ofNat (i + 1)))]) rfl k) ?_
            show Go p e below _ (T.setTop (mkF m 82 #[.val (.ref d), .val (.int (0 : Int32)), .val (.int (Int32.ofNat cs.length)), .val (.int (0 : Int32)), .val (.int ((Int32.ofNat q) + (-1 : Int32))), .val (.int (Int32.ofNat (i + 1)))] []))
            refine Go.st (fun _ k => XS.iinc X.here hx rfl (hb hby d24_82) rfl (l' := #[.val (.ref d), .val (.int (0 : Int32)), .val (.int (Int32.ofNat cs.length)), .val (.int (0 : Int32)), .val (.int ((Int32.ofNat q) + (-1 : Int32))), .val (.int ((Int32.ofNat (i + 1)) + (1 : Int32)))]) rfl k) ?_
            show Go p e below _ (T.setTop (mkF m 85 #[.val (.ref d), .val (.int (0 : Int32)), .val (.int (Int32.ofNat cs.length)), .val (.int (0 : Int32)), .val (.int ((Int32.ofNat q) + (-1 : Int32))), .val (.int ((Int32.ofNat (i + 1)) + (1 : Int32)))] []))
            refine Go.st (fun _ k => XS.goto X.here hx rfl (pc0 := 85) (pc' := 44) rfl (hb hby d24_85) (by decide) (by decide) k) ?_
            show Go p e below _ (T.setTop (mkF m 44 #[.val (.ref d), .val (.int (0 : Int32)), .val (.int (Int32.ofNat cs.length)), .val (.int (0 : Int32)), .val (.int ((Int32.ofNat q) + (-1 : Int32))), .val (.int ((Int32.ofNat (i + 1)) + (1 : Int32)))] []))
            rw [own_prs_yes (by omega) hc1 hc2]
            rw [own_prs_yes (by omega) hc1 hc2] at hq
            rw [own_predI (by omega), own_succ]
            rw [show q - (prs (cs.drop (i + 2)) + 1) = (q - 1) - prs (cs.drop (i + 2)) from by omega]
            exact ih (i + 2) (q - 1) T (by omega) (by omega) (by omega) (by omega) hT X
      · refine Go.st (fun _ k => XS.icmpYes X.here hx rfl (pc0 := 49) (pc' := 88) rfl (hb hby d24_49) rfl (Jvm.Free.XT.ii_ge_t (fun z => absurd ((own_lt (by omega) (by omega)).mp z) (by omega) : ¬ ((Int32.ofNat i) < (Int32.ofNat (cs.length - 1))))) (by decide) (by decide) k) ?_
        show Go p e below _ (T.setTop (mkF m 88 #[.val (.ref d), .val (.int (0 : Int32)), .val (.int (Int32.ofNat cs.length)), .val (.int (0 : Int32)), .val (.int (Int32.ofNat q)), .val (.int (Int32.ofNat i))] []))
        refine Go.st (fun _ k => XS.iload X.here hx rfl (hb hby d24_88) rfl k) ?_
        show Go p e below _ (T.setTop (mkF m 90 #[.val (.ref d), .val (.int (0 : Int32)), .val (.int (Int32.ofNat cs.length)), .val (.int (0 : Int32)), .val (.int (Int32.ofNat q)), .val (.int (Int32.ofNat i))] [(.int (Int32.ofNat q))]))
        refine Go.ret X hx hlk hT hret rfl (riI (by simp)) (hb hby d24_90) (by decide) (by decide) ?_
        exact ⟨by rw [own_prs_end (by omega)]; rfl, rfl, rfl⟩
  have r := loop cs.length 0 cs.length T (by omega) (by omega) (by have := prs_le cs; simp only [List.drop_zero]; omega) (Nat.le_refl _) hT X
  rw [List.drop_zero] at r
  exact r
theorem pd_11 : parseMethodDescriptor "([BIIZ)I" = some ⟨[(.array .byte), .int, .int, .boolean], (some .int)⟩ := by decide +kernel
theorem d23_0 : decode jdk_52_method_12_code 0 = .ok (.aload_n 0, 1) := by decide +kernel
theorem d23_1 : decode jdk_52_method_12_code 1 = .ok (.iload_n 1, 1) := by decide +kernel
theorem d23_2 : decode jdk_52_method_12_code 2 = .ok (.iload_n 2, 1) := by decide +kernel
theorem d23_3 : decode jdk_52_method_12_code 3 = .ok (.iconst 0, 1) := by decide +kernel
theorem d23_4 : decode jdk_52_method_12_code 4 = .ok (.invokestatic 100, 3) := by decide +kernel
theorem d23_7 : decode jdk_52_method_12_code 7 = .ok (.ireturn, 1) := by decide +kernel
theorem pn_17 : plainFor (⟨"java/lang/StringUTF16", "codePointCount", "([BII)I"⟩ : MethodName) = true := by first | exact plainFor_of_name (by first | (simp [plainName, overriddenIn]; done) | decide +kernel) | decide +kernel
set_option maxRecDepth 65536 in
set_option maxHeartbeats 40000000 in
theorem met_cpu3 (l : Launch) (Z : State) (a0 : Array Value) (hw : ∀ d ∈ tables_1, d.before a0 Z = true) (ws : List Jvm.Cond) (n0 : Nat) (d : Addr) (kd : ClassId) (cs : List Int32) (h0 : Heap) (O : Old Z n0 h0) (S16 : St16 Z) (V_d : Arv Z h0 d kd .byte (Int32.ofNat (2 * cs.length)) (StrChars.Road.wideBytes cs) (.int 0)) (hpos : 0 < cs.length) (hn : cs.length ≤ 40) (hp : ∀ c ∈ cs, ¬ c < 0 ∧ ¬ (65535 : Int32) < c) :
    MetFree l (⟨"java/lang/StringUTF16", "codePointCount", "([BII)I"⟩ : MethodName) (head1 (Jvm.Cond.code (⟨"java/lang/StringUTF16", "codePointCount", "([BII)I"⟩ : MethodName) jdk_52_method_12_code 3 (some .int) :: ws) ({ frames := 2, cells := 0, slots := 0, locals := 30 } : Room)) (fun aa U => aa = #[(.ref d), (.int (0 : Int32)), (.int (Int32.ofNat cs.length))] ∧ Z.Warmed39 U.vm ∧ U.heap = h0) (fun _ _ _ _ _ => True) (fun _ U o U' => ∃ v L, o = .returned v ∧ QV (.int (Int32.ofNat (cs.length - prs cs))) h0 v U'.heap L ∧ FrameEnd U o U' L ({ frames := 2, cells := 0, slots := 0, locals := 30 } : Room).cells ({ frames := 2, cells := 0, slots := 0, locals := 30 } : Room).slots) := by
  refine openP (y := (⟨"java/lang/StringUTF16", "codePointCount", "([BII)I"⟩ : MethodName)) pn_17 ?_
  intro p e s m below meth c T hx hby hml hret hlk hnm hZ hown X hT
  refine Go.st (fun _ k => castTop (ef_AII_3 m d (0 : Int32) (Int32.ofNat cs.length)) k) ?_
  show Go p e below _ (T.setTop (mkF m 0 #[.val (.ref d), .val (.int (0 : Int32)), .val (.int (Int32.ofNat cs.length))] []))
  refine Go.st (fun _ k => XS.aloadN X.here hx rfl (hb hby d23_0) rfl rfl k) ?_
  show Go p e below _ (T.setTop (mkF m 1 #[.val (.ref d), .val (.int (0 : Int32)), .val (.int (Int32.ofNat cs.length))] [(.ref d)]))
  refine Go.st (fun _ k => XS.iloadN X.here hx rfl (hb hby d23_1) rfl k) ?_
  show Go p e below _ (T.setTop (mkF m 2 #[.val (.ref d), .val (.int (0 : Int32)), .val (.int (Int32.ofNat cs.length))] [(.int (0 : Int32)), (.ref d)]))
  refine Go.st (fun _ k => XS.iloadN X.here hx rfl (hb hby d23_2) rfl k) ?_
  show Go p e below _ (T.setTop (mkF m 3 #[.val (.ref d), .val (.int (0 : Int32)), .val (.int (Int32.ofNat cs.length))] [(.int (Int32.ofNat cs.length)), (.int (0 : Int32)), (.ref d)]))
  refine Go.st (fun _ k => XS.iconst X.here hx rfl (hb hby d23_3) k) ?_
  show Go p e below _ (T.setTop (mkF m 4 #[.val (.ref d), .val (.int (0 : Int32)), .val (.int (Int32.ofNat cs.length))] [(.int (0 : Int32)), (.int (Int32.ofNat cs.length)), (.int (0 : Int32)), (.ref d)]))
  refine Go.callV (argsL := [(.ref d), (.int (0 : Int32)), (.int (Int32.ofNat cs.length)), (.int (0 : Int32))]) (rest := []) (W := 0) X hx hZ hown (hml.trans rfl) hT (hw _ (List.mem_of_getElem? (i := 104) rfl)) (hw _ (List.mem_of_getElem? (i := 105) rfl)) (hw _ (List.mem_of_getElem? (i := 74) rfl)) (hw _ (List.mem_of_getElem? (i := 106) rfl)) (by decide) pd_11 rfl rfl (Nat.le_of_ble_eq_true rfl) (hb hby d23_4) (backOf (W := 0) (met_cpu4 l Z a0 hw [] n0 d kd cs _ O S16 V_d hpos hn hp) hZ (hw _ (List.mem_of_getElem? (i := 106) rfl)) (hw _ (List.mem_of_getElem? (i := 74) rfl)) (by decide) (by decide)) (by decide) (by decide) ?_
  intro T hT X
  show Go p e below _ (T.setTop (mkF m 7 #[.val (.ref d), .val (.int (0 : Int32)), .val (.int (Int32.ofNat cs.length))] [(.int (Int32.ofNat (cs.length - prs cs)))]))
  refine Go.ret X hx hlk hT hret rfl (riI (by simp)) (hb hby d23_7) (by decide) (by decide) ?_
  exact ⟨rfl, rfl, rfl⟩
theorem d9_0 : decode jdk_41_method_12_code 0 = .ok (.iload_n 0, 1) := by decide +kernel
theorem d9_1 : decode jdk_41_method_12_code 1 = .ok (.ifCond .lt 13, 3) := by decide +kernel
theorem d9_4 : decode jdk_41_method_12_code 4 = .ok (.iload_n 0, 1) := by decide +kernel
theorem d9_5 : decode jdk_41_method_12_code 5 = .ok (.iload_n 1, 1) := by decide +kernel
theorem d9_6 : decode jdk_41_method_12_code 6 = .ok (.if_icmp .gt 8, 3) := by decide +kernel
theorem d9_9 : decode jdk_41_method_12_code 9 = .ok (.iload_n 1, 1) := by decide +kernel
theorem d9_10 : decode jdk_41_method_12_code 10 = .ok (.iload_n 2, 1) := by decide +kernel
theorem d9_11 : decode jdk_41_method_12_code 11 = .ok (.if_icmp .le 11, 3) := by decide +kernel
theorem d9_22 : decode jdk_41_method_12_code 22 = .ok (.iload_n 0, 1) := by decide +kernel
theorem d9_23 : decode jdk_41_method_12_code 23 = .ok (.ireturn, 1) := by decide +kernel
theorem pn_18 : plainFor (⟨"jdk/internal/util/Preconditions", "checkFromToIndex", "(IIILjava/util/function/BiFunction;)I"⟩ : MethodName) = true := by first | exact plainFor_of_name (by first | (simp [plainName, overriddenIn]; done) | decide +kernel) | decide +kernel
theorem ef_IIIN_4 (m : MethodId) (y0 : Int32) (y1 : Int32) (y2 : Int32) : entryFrame m #[(.int y0), (.int y1), (.int y2), .null] 4 = mkF m 0 #[.val (.int y0), .val (.int y1), .val (.int y2), .val .null] [] := by first | (simp [entryFrame, mkF, argsToLocals, Value.category]; done) | rfl
set_option maxRecDepth 65536 in
set_option maxHeartbeats 40000000 in
theorem met_pcf (l : Launch) (Z : State) (a0 : Array Value) (hw : ∀ d ∈ tables_1, d.before a0 Z = true) (ws : List Jvm.Cond) (a b n : Int32) (h0 : Heap) (h1 : ¬ (a < (0 : Int32))) (h2 : ¬ (b < a)) (h3 : ¬ (n < b)) :
    MetFree l (⟨"jdk/internal/util/Preconditions", "checkFromToIndex", "(IIILjava/util/function/BiFunction;)I"⟩ : MethodName) (head1 (Jvm.Cond.code (⟨"jdk/internal/util/Preconditions", "checkFromToIndex", "(IIILjava/util/function/BiFunction;)I"⟩ : MethodName) jdk_41_method_12_code 4 (some .int) :: ws) ({ frames := 0, cells := 0, slots := 0, locals := 0 } : Room)) (fun aa U => aa = #[(.int a), (.int b), (.int n), .null] ∧ Z.Warmed39 U.vm ∧ U.heap = h0) (fun _ _ _ _ _ => True) (fun _ U o U' => ∃ v L, o = .returned v ∧ QV (.int a) h0 v U'.heap L ∧ FrameEnd U o U' L ({ frames := 0, cells := 0, slots := 0, locals := 0 } : Room).cells ({ frames := 0, cells := 0, slots := 0, locals := 0 } : Room).slots) := by
  refine openP (y := (⟨"jdk/internal/util/Preconditions", "checkFromToIndex", "(IIILjava/util/function/BiFunction;)I"⟩ : MethodName)) pn_18 ?_
  intro p e s m below meth c T hx hby hml hret hlk hnm hZ hown X hT
  refine Go.st (fun _ k => castTop (ef_IIIN_4 m a b n) k) ?_
  show Go p e below _ (T.setTop (mkF m 0 #[.val (.int a), .val (.int b), .val (.int n), .val .null] []))
  refine Go.st (fun _ k => XS.iloadN X.here hx rfl (hb hby d9_0) rfl k) ?_
  show Go p e below _ (T.setTop (mkF m 1 #[.val (.int a), .val (.int b), .val (.int n), .val .null] [(.int a)]))
  refine Go.st (fun _ k => XS.ifNo X.here hx rfl (hb hby d9_1) rfl (Jvm.Free.XT.i0_lt_f (h1 : ¬ (a < (0 : Int32)))) k) ?_
  show Go p e below _ (T.setTop (mkF m 4 #[.val (.int a), .val (.int b), .val (.int n), .val .null] []))
  refine Go.st (fun _ k => XS.iloadN X.here hx rfl (hb hby d9_4) rfl k) ?_
  show Go p e below _ (T.setTop (mkF m 5 #[.val (.int a), .val (.int b), .val (.int n), .val .null] [(.int a)]))
  refine Go.st (fun _ k => XS.iloadN X.here hx rfl (hb hby d9_5) rfl k) ?_
  show Go p e below _ (T.setTop (mkF m 6 #[.val (.int a), .val (.int b), .val (.int n), .val .null] [(.int b), (.int a)]))
  refine Go.st (fun _ k => XS.icmpNo X.here hx rfl (hb hby d9_6) rfl (Jvm.Free.XT.ii_gt_f (h2 : ¬ (b < a))) k) ?_
  show Go p e below _ (T.setTop (mkF m 9 #[.val (.int a), .val (.int b), .val (.int n), .val .null] []))
  refine Go.st (fun _ k => XS.iloadN X.here hx rfl (hb hby d9_9) rfl k) ?_
  show Go p e below _ (T.setTop (mkF m 10 #[.val (.int a), .val (.int b), .val (.int n), .val .null] [(.int b)]))
  refine Go.st (fun _ k => XS.iloadN X.here hx rfl (hb hby d9_10) rfl k) ?_
  show Go p e below _ (T.setTop (mkF m 11 #[.val (.int a), .val (.int b), .val (.int n), .val .null] [(.int n), (.int b)]))
  refine Go.st (fun _ k => XS.icmpYes X.here hx rfl (pc0 := 11) (pc' := 22) rfl (hb hby d9_11) rfl (Jvm.Free.XT.ii_le_t (h3 : ¬ (n < b))) (by decide) (by decide) k) ?_
  show Go p e below _ (T.setTop (mkF m 22 #[.val (.int a), .val (.int b), .val (.int n), .val .null] []))
  refine Go.st (fun _ k => XS.iloadN X.here hx rfl (hb hby d9_22) rfl k) ?_
  show Go p e below _ (T.setTop (mkF m 23 #[.val (.int a), .val (.int b), .val (.int n), .val .null] [(.int a)]))
  refine Go.ret X hx hlk hT hret rfl (riI (by simp)) (hb hby d9_23) (by decide) (by decide) ?_
  exact ⟨rfl, rfl, rfl⟩
theorem pd_12 : parseMethodDescriptor "(IIILjava/util/function/BiFunction;)I" = some ⟨[.int, .int, .int, (.object "java/util/function/BiFunction")], (some .int)⟩ := by decide +kernel
theorem d8_0 : decode jdk_31_method_18_code 0 = .ok (.iload_n 0, 1) := by decide +kernel
theorem d8_1 : decode jdk_31_method_18_code 1 = .ok (.iload_n 1, 1) := by decide +kernel
theorem d8_2 : decode jdk_31_method_18_code 2 = .ok (.iload_n 2, 1) := by decide +kernel
theorem d8_3 : decode jdk_31_method_18_code 3 = .ok (.aconst_null, 1) := by decide +kernel
theorem d8_4 : decode jdk_31_method_18_code 4 = .ok (.invokestatic 111, 3) := by decide +kernel
theorem d8_7 : decode jdk_31_method_18_code 7 = .ok (.ireturn, 1) := by decide +kernel
theorem pn_19 : plainFor (⟨"java/util/Objects", "checkFromToIndex", "(III)I"⟩ : MethodName) = true := by first | exact plainFor_of_name (by first | (simp [plainName, overriddenIn]; done) | decide +kernel) | decide +kernel
theorem ef_III_3 (m : MethodId) (y0 : Int32) (y1 : Int32) (y2 : Int32) : entryFrame m #[(.int y0), (.int y1), (.int y2)] 3 = mkF m 0 #[.val (.int y0), .val (.int y1), .val (.int y2)] [] := by first | (simp [entryFrame, mkF, argsToLocals, Value.category]; done) | rfl
set_option maxRecDepth 65536 in
set_option maxHeartbeats 40000000 in
theorem met_ocf (l : Launch) (Z : State) (a0 : Array Value) (hw : ∀ d ∈ tables_1, d.before a0 Z = true) (ws : List Jvm.Cond) (a b n : Int32) (h0 : Heap) (h1 : ¬ (a < (0 : Int32))) (h2 : ¬ (b < a)) (h3 : ¬ (n < b)) :
    MetFree l (⟨"java/util/Objects", "checkFromToIndex", "(III)I"⟩ : MethodName) (head1 (Jvm.Cond.code (⟨"java/util/Objects", "checkFromToIndex", "(III)I"⟩ : MethodName) jdk_31_method_18_code 3 (some .int) :: ws) ({ frames := 1, cells := 0, slots := 0, locals := 15 } : Room)) (fun aa U => aa = #[(.int a), (.int b), (.int n)] ∧ Z.Warmed39 U.vm ∧ U.heap = h0) (fun _ _ _ _ _ => True) (fun _ U o U' => ∃ v L, o = .returned v ∧ QV (.int a) h0 v U'.heap L ∧ FrameEnd U o U' L ({ frames := 1, cells := 0, slots := 0, locals := 15 } : Room).cells ({ frames := 1, cells := 0, slots := 0, locals := 15 } : Room).slots) := by
  refine openP (y := (⟨"java/util/Objects", "checkFromToIndex", "(III)I"⟩ : MethodName)) pn_19 ?_
  intro p e s m below meth c T hx hby hml hret hlk hnm hZ hown X hT
  refine Go.st (fun _ k => castTop (ef_III_3 m a b n) k) ?_
  show Go p e below _ (T.setTop (mkF m 0 #[.val (.int a), .val (.int b), .val (.int n)] []))
  refine Go.st (fun _ k => XS.iloadN X.here hx rfl (hb hby d8_0) rfl k) ?_
  show Go p e below _ (T.setTop (mkF m 1 #[.val (.int a), .val (.int b), .val (.int n)] [(.int a)]))
  refine Go.st (fun _ k => XS.iloadN X.here hx rfl (hb hby d8_1) rfl k) ?_
  show Go p e below _ (T.setTop (mkF m 2 #[.val (.int a), .val (.int b), .val (.int n)] [(.int b), (.int a)]))
  refine Go.st (fun _ k => XS.iloadN X.here hx rfl (hb hby d8_2) rfl k) ?_
  show Go p e below _ (T.setTop (mkF m 3 #[.val (.int a), .val (.int b), .val (.int n)] [(.int n), (.int b), (.int a)]))
  refine Go.st (fun _ k => XS.aconstNull X.here hx rfl (hb hby d8_3) k) ?_
  show Go p e below _ (T.setTop (mkF m 4 #[.val (.int a), .val (.int b), .val (.int n)] [.null, (.int n), (.int b), (.int a)]))
  refine Go.callV (argsL := [(.int a), (.int b), (.int n), .null]) (rest := []) (W := 0) X hx hZ hown (hml.trans rfl) hT (hw _ (List.mem_of_getElem? (i := 48) rfl)) (hw _ (List.mem_of_getElem? (i := 49) rfl)) (hw _ (List.mem_of_getElem? (i := 50) rfl)) (hw _ (List.mem_of_getElem? (i := 51) rfl)) (by decide) pd_12 rfl rfl (Nat.le_of_ble_eq_true rfl) (hb hby d8_4) (backOf (W := 0) (met_pcf l Z a0 hw [] a b n _ h1 h2 h3) hZ (hw _ (List.mem_of_getElem? (i := 51) rfl)) (hw _ (List.mem_of_getElem? (i := 50) rfl)) (by decide) (by decide)) (by decide) (by decide) ?_
  intro T hT X
  show Go p e below _ (T.setTop (mkF m 7 #[.val (.int a), .val (.int b), .val (.int n)] [(.int a)]))
  refine Go.ret X hx hlk hT hret rfl (riI (by simp)) (hb hby d8_7) (by decide) (by decide) ?_
  exact ⟨rfl, rfl, rfl⟩
def f_isl (cd : Int32) : Int32 := (if cd = (0 : Int32) then (1 : Int32) else (0 : Int32))
theorem d10_0 : decode jdk_42_method_154_code 0 = .ok (.getstatic 38, 3) := by decide +kernel
theorem d10_3 : decode jdk_42_method_154_code 3 = .ok (.ifCond .eq 14, 3) := by decide +kernel
theorem d10_6 : decode jdk_42_method_154_code 6 = .ok (.aload_n 0, 1) := by decide +kernel
theorem d10_7 : decode jdk_42_method_154_code 7 = .ok (.getfield 15, 3) := by decide +kernel
theorem d10_10 : decode jdk_42_method_154_code 10 = .ok (.ifCond .ne 7, 3) := by decide +kernel
theorem d10_13 : decode jdk_42_method_154_code 13 = .ok (.iconst 1, 1) := by decide +kernel
theorem d10_14 : decode jdk_42_method_154_code 14 = .ok (.goto 4, 3) := by decide +kernel
theorem d10_17 : decode jdk_42_method_154_code 17 = .ok (.iconst 0, 1) := by decide +kernel
theorem d10_18 : decode jdk_42_method_154_code 18 = .ok (.ireturn, 1) := by decide +kernel
theorem pn_20 : plainFor (⟨"java/lang/String", "isLatin1", "()Z"⟩ : MethodName) = true := by first | exact plainFor_of_name (by first | (simp [plainName, overriddenIn]; done) | decide +kernel) | decide +kernel
theorem ef_A_1 (m : MethodId) (y0 : Addr) : entryFrame m #[(.ref y0)] 1 = mkF m 0 #[.val (.ref y0)] [] := by first | (simp [entryFrame, mkF, argsToLocals, Value.category]; done) | rfl
set_option maxRecDepth 65536 in
set_option maxHeartbeats 40000000 in
theorem met_isl (l : Launch) (Z : State) (a0 : Array Value) (hw : ∀ d ∈ tables_1, d.before a0 Z = true) (ws : List Jvm.Cond) (z : Int32) (n0 : Nat) (y : Addr) (cd : Int32) (h0 : Heap) (O : Old Z n0 h0) (Sc : Stat Z z) (F_y : Fld Z h0 y ST "coder" "B" (.int cd)) :
    MetFree l (⟨"java/lang/String", "isLatin1", "()Z"⟩ : MethodName) (head1 (Jvm.Cond.code (⟨"java/lang/String", "isLatin1", "()Z"⟩ : MethodName) jdk_42_method_154_code 1 (some .boolean) :: ws) ({ frames := 0, cells := 0, slots := 0, locals := 0 } : Room)) (fun aa U => aa = #[(.ref y)] ∧ Z.Warmed39 U.vm ∧ U.heap = h0) (fun _ _ _ _ _ => True) (fun _ U o U' => ∃ v L, o = .returned v ∧ QV (.int (f_isl cd)) h0 v U'.heap L ∧ FrameEnd U o U' L ({ frames := 0, cells := 0, slots := 0, locals := 0 } : Room).cells ({ frames := 0, cells := 0, slots := 0, locals := 0 } : Room).slots) := by
  refine openP (y := (⟨"java/lang/String", "isLatin1", "()Z"⟩ : MethodName)) pn_20 ?_
  intro p e s m below meth c T hx hby hml hret hlk hnm hZ hown X hT
  refine Go.st (fun _ k => castTop (ef_A_1 m y) k) ?_
  show Go p e below _ (T.setTop (mkF m 0 #[.val (.ref y)] []))
  obtain ⟨T, X, hT, st⟩ := getS2 X hx hZ hown (host := "") (Or.inl (hw _ (List.mem_of_getElem? (i := 36) rfl))) Via.refl hT (Sc.1.ext O.2) (g := (mkF m 0 #[.val (.ref y)] [])) rfl (hb hby d10_0)
  refine Go.st st ?_
  show Go p e below _ (T.setTop (mkF m 3 #[.val (.ref y)] [(.int z)]))
  refine Go.st (fun _ k => XS.ifNo X.here hx rfl (hb hby d10_3) rfl (Jvm.Free.XT.i0_eq_f (Sc.2 : ¬ (z = (0 : Int32)))) k) ?_
  show Go p e below _ (T.setTop (mkF m 6 #[.val (.ref y)] []))
  refine Go.st (fun _ k => XS.aloadN X.here hx rfl (hb hby d10_6) rfl rfl k) ?_
  show Go p e below _ (T.setTop (mkF m 7 #[.val (.ref y)] [(.ref y)]))
  obtain ⟨T, X, hT, st⟩ := getF X hx hZ hown (host := "") (Or.inl (hw _ (List.mem_of_getElem? (i := 37) rfl))) Via.refl hT F_y (g := (mkF m 7 #[.val (.ref y)] [(.ref y)])) rfl rfl (hb hby d10_7)
  refine Go.st st ?_
  show Go p e below _ (T.setTop (mkF m 10 #[.val (.ref y)] [(.int cd)]))
  by_cases hc1 : cd = (0 : Int32)
  · refine Go.st (fun _ k => XS.ifNo X.here hx rfl (hb hby d10_10) rfl (Jvm.Free.XT.i0_ne_f hc1) k) ?_
    show Go p e below _ (T.setTop (mkF m 13 #[.val (.ref y)] []))
    refine Go.st (fun _ k => XS.iconst X.here hx rfl (hb hby d10_13) k) ?_
    show Go p e below _ (T.setTop (mkF m 14 #[.val (.ref y)] [(.int (1 : Int32))]))
    refine Go.st (fun _ k => XS.goto X.here hx rfl (pc0 := 14) (pc' := 18) rfl (hb hby d10_14) (by decide) (by decide) k) ?_
    show Go p e below _ (T.setTop (mkF m 18 #[.val (.ref y)] [(.int (1 : Int32))]))
    refine Go.ret X hx hlk hT hret (by decide) (riI (by simp)) (hb hby d10_18) (by decide) (by decide) ?_
    exact ⟨congrArg (fun z => some (Value.int z)) (by rw [f_isl, if_pos hc1]), rfl, rfl⟩
  · refine Go.st (fun _ k => XS.ifYes X.here hx rfl (pc0 := 10) (pc' := 17) rfl (hb hby d10_10) rfl (Jvm.Free.XT.i0_ne_t hc1) (by decide) (by decide) k) ?_
    show Go p e below _ (T.setTop (mkF m 17 #[.val (.ref y)] []))
    refine Go.st (fun _ k => XS.iconst X.here hx rfl (hb hby d10_17) k) ?_
    show Go p e below _ (T.setTop (mkF m 18 #[.val (.ref y)] [(.int (0 : Int32))]))
    refine Go.ret X hx hlk hT hret (by decide) (riI (by simp)) (hb hby d10_18) (by decide) (by decide) ?_
    exact ⟨congrArg (fun z => some (Value.int z)) (by rw [f_isl, if_neg hc1]), rfl, rfl⟩
theorem pd_13 : parseMethodDescriptor "()I" = some ⟨[], (some .int)⟩ := by decide +kernel
theorem pd_14 : parseMethodDescriptor "(III)I" = some ⟨[.int, .int, .int], (some .int)⟩ := by decide +kernel
theorem pd_15 : parseMethodDescriptor "()Z" = some ⟨[], (some .boolean)⟩ := by decide +kernel
theorem pd_16 : parseMethodDescriptor "([BII)I" = some ⟨[(.array .byte), .int, .int], (some .int)⟩ := by decide +kernel
theorem own_slen {Z : State} {h : Heap} {x : Addr} {cs : List Int32} (S : Str Z h x cs) : cs.length ≤ 4000 := by obtain ⟨t, kb, cd, N2, vs, h1, h2, h3, h4, h5, h6, h7⟩ := S; exact h7
theorem d7_0 : decode jdk_42_method_59_code 0 = .ok (.iload_n 1, 1) := by decide +kernel
theorem d7_1 : decode jdk_42_method_59_code 1 = .ok (.iload_n 2, 1) := by decide +kernel
theorem d7_2 : decode jdk_42_method_59_code 2 = .ok (.aload_n 0, 1) := by decide +kernel
theorem d7_3 : decode jdk_42_method_59_code 3 = .ok (.invokevirtual 505, 3) := by decide +kernel
theorem d7_6 : decode jdk_42_method_59_code 6 = .ok (.invokestatic 511, 3) := by decide +kernel
theorem d7_9 : decode jdk_42_method_59_code 9 = .ok (.pop, 1) := by decide +kernel
theorem d7_10 : decode jdk_42_method_59_code 10 = .ok (.aload_n 0, 1) := by decide +kernel
theorem d7_11 : decode jdk_42_method_59_code 11 = .ok (.invokevirtual 492, 3) := by decide +kernel
theorem d7_14 : decode jdk_42_method_59_code 14 = .ok (.ifCond .eq 7, 3) := by decide +kernel
theorem d7_17 : decode jdk_42_method_59_code 17 = .ok (.iload_n 2, 1) := by decide +kernel
theorem d7_18 : decode jdk_42_method_59_code 18 = .ok (.iload_n 1, 1) := by decide +kernel
theorem d7_19 : decode jdk_42_method_59_code 19 = .ok (.isub, 1) := by decide +kernel
theorem d7_20 : decode jdk_42_method_59_code 20 = .ok (.ireturn, 1) := by decide +kernel
theorem d7_21 : decode jdk_42_method_59_code 21 = .ok (.aload_n 0, 1) := by decide +kernel
theorem d7_22 : decode jdk_42_method_59_code 22 = .ok (.getfield 9, 3) := by decide +kernel
theorem d7_25 : decode jdk_42_method_59_code 25 = .ok (.iload_n 1, 1) := by decide +kernel
theorem d7_26 : decode jdk_42_method_59_code 26 = .ok (.iload_n 2, 1) := by decide +kernel
theorem d7_27 : decode jdk_42_method_59_code 27 = .ok (.invokestatic 514, 3) := by decide +kernel
theorem d7_30 : decode jdk_42_method_59_code 30 = .ok (.ireturn, 1) := by decide +kernel
theorem pn_21 : plainFor (⟨"java/lang/String", "codePointCount", "(II)I"⟩ : MethodName) = true := by first | exact plainFor_of_name (by first | (simp [plainName, overriddenIn]; done) | decide +kernel) | decide +kernel
set_option maxRecDepth 65536 in
set_option maxHeartbeats 40000000 in
theorem met_cpc (l : Launch) (Z : State) (a0 : Array Value) (hw : ∀ d ∈ tables_1, d.before a0 Z = true) (ws : List Jvm.Cond) (z : Int32) (n0 : Nat) (y : Addr) (cs : List Int32) (h0 : Heap) (O : Old Z n0 h0) (Sc : Stat Z z) (S16 : St16 Z) (S_y : Str Z h0 y cs) (hn : cs.length ≤ 40) :
    MetFree l (⟨"java/lang/String", "codePointCount", "(II)I"⟩ : MethodName) (head1 (Jvm.Cond.code (⟨"java/lang/String", "codePointCount", "(II)I"⟩ : MethodName) jdk_42_method_59_code 3 (some .int) :: ws) ({ frames := 3, cells := 0, slots := 0, locals := 44 } : Room)) (fun aa U => aa = #[(.ref y), (.int (0 : Int32)), (.int (Int32.ofNat cs.length))] ∧ Z.Warmed39 U.vm ∧ U.heap = h0) (fun _ _ _ _ _ => True) (fun _ U o U' => ∃ v L, o = .returned v ∧ QV (.int (Int32.ofNat (cs.length - prs cs))) h0 v U'.heap L ∧ FrameEnd U o U' L ({ frames := 3, cells := 0, slots := 0, locals := 44 } : Room).cells ({ frames := 3, cells := 0, slots := 0, locals := 44 } : Room).slots) := by
  refine openP (y := (⟨"java/lang/String", "codePointCount", "(II)I"⟩ : MethodName)) pn_21 ?_
  intro p e s m below meth c T hx hby hml hret hlk hnm hZ hown X hT
  refine Go.st (fun _ k => castTop (ef_AII_3 m y (0 : Int32) (Int32.ofNat cs.length)) k) ?_
  show Go p e below _ (T.setTop (mkF m 0 #[.val (.ref y), .val (.int (0 : Int32)), .val (.int (Int32.ofNat cs.length))] []))
  have hl4 := own_slen S_y
  refine Go.st (fun _ k => XS.iloadN X.here hx rfl (hb hby d7_0) rfl k) ?_
  show Go p e below _ (T.setTop (mkF m 1 #[.val (.ref y), .val (.int (0 : Int32)), .val (.int (Int32.ofNat cs.length))] [(.int (0 : Int32))]))
  refine Go.st (fun _ k => XS.iloadN X.here hx rfl (hb hby d7_1) rfl k) ?_
  show Go p e below _ (T.setTop (mkF m 2 #[.val (.ref y), .val (.int (0 : Int32)), .val (.int (Int32.ofNat cs.length))] [(.int (Int32.ofNat cs.length)), (.int (0 : Int32))]))
  refine Go.st (fun _ k => XS.aloadN X.here hx rfl (hb hby d7_2) rfl rfl k) ?_
  show Go p e below _ (T.setTop (mkF m 3 #[.val (.ref y), .val (.int (0 : Int32)), .val (.int (Int32.ofNat cs.length))] [(.ref y), (.int (Int32.ofNat cs.length)), (.int (0 : Int32))]))
  refine Go.virtV (K := "java/lang/String") (z := (⟨"java/lang/String", "length", "()I"⟩ : MethodName)) (argsL := []) (rest := [(.int (Int32.ofNat cs.length)), (.int (0 : Int32))]) (W := 2) (w := (.int (Int32.ofNat cs.length))) X hx hZ hown (hml.trans rfl) hT S_y.exa (hw _ (List.mem_of_getElem? (i := 43) rfl)) (hw _ (List.mem_of_getElem? (i := 26) rfl)) (hw _ (List.mem_of_getElem? (i := 28) rfl)) (hw _ (List.mem_of_getElem? (i := 27) rfl)) (by decide) pd_13 rfl rfl (Nat.le_of_ble_eq_true rfl) (hb hby d7_3) (notFace_of_selects (args := #[]) (mvT hZ (hw _ (List.mem_of_getElem? (i := 28) rfl)))) (own_len (W := 2) hw hZ O Sc S_y (by decide) (by decide)) (by decide) (by decide) ?_
  intro T hT X
  show Go p e below _ (T.setTop (mkF m 6 #[.val (.ref y), .val (.int (0 : Int32)), .val (.int (Int32.ofNat cs.length))] [(.int (Int32.ofNat cs.length)), (.int (Int32.ofNat cs.length)), (.int (0 : Int32))]))
  refine Go.callV (argsL := [(.int (0 : Int32)), (.int (Int32.ofNat cs.length)), (.int (Int32.ofNat cs.length))]) (rest := []) (W := 0) X hx hZ hown (hml.trans rfl) hT (hw _ (List.mem_of_getElem? (i := 44) rfl)) (hw _ (List.mem_of_getElem? (i := 45) rfl)) (hw _ (List.mem_of_getElem? (i := 46) rfl)) (hw _ (List.mem_of_getElem? (i := 47) rfl)) (by decide) pd_14 rfl rfl (Nat.le_of_ble_eq_true rfl) (hb hby d7_6) (backOf (W := 0) (met_ocf l Z a0 hw [] (0 : Int32) (Int32.ofNat cs.length) (Int32.ofNat cs.length) _ (by decide) (own_nn (by omega)) Int32.lt_irrefl) hZ (hw _ (List.mem_of_getElem? (i := 47) rfl)) (hw _ (List.mem_of_getElem? (i := 46) rfl)) (by decide) (by decide)) (by decide) (by decide) ?_
  intro T hT X
  show Go p e below _ (T.setTop (mkF m 9 #[.val (.ref y), .val (.int (0 : Int32)), .val (.int (Int32.ofNat cs.length))] [(.int (0 : Int32))]))
  refine Go.st (fun _ k => XS.pop X.here hx rfl (hb hby d7_9) rfl rfl k) ?_
  show Go p e below _ (T.setTop (mkF m 10 #[.val (.ref y), .val (.int (0 : Int32)), .val (.int (Int32.ofNat cs.length))] []))
  refine Go.st (fun _ k => XS.aloadN X.here hx rfl (hb hby d7_10) rfl rfl k) ?_
  show Go p e below _ (T.setTop (mkF m 11 #[.val (.ref y), .val (.int (0 : Int32)), .val (.int (Int32.ofNat cs.length))] [(.ref y)]))
  obtain ⟨r, kr, cd, N2, vs, E_y, F_v, F_c, V_r, hcod, hp, -⟩ := id S_y
  refine Go.virtV (K := "java/lang/String") (z := (⟨"java/lang/String", "isLatin1", "()Z"⟩ : MethodName)) (argsL := []) (rest := []) (W := 0) (w := (.int (f_isl cd))) X hx hZ hown (hml.trans rfl) hT E_y (hw _ (List.mem_of_getElem? (i := 52) rfl)) (hw _ (List.mem_of_getElem? (i := 53) rfl)) (hw _ (List.mem_of_getElem? (i := 55) rfl)) (hw _ (List.mem_of_getElem? (i := 54) rfl)) (by decide) pd_15 rfl rfl (Nat.le_of_ble_eq_true rfl) (hb hby d7_11) (notFace_of_selects (args := #[]) (mvT hZ (hw _ (List.mem_of_getElem? (i := 55) rfl)))) (backOf (W := 0) (met_isl l Z a0 hw [] z n0 y cd _ O Sc F_c) hZ (hw _ (List.mem_of_getElem? (i := 56) rfl)) (hw _ (List.mem_of_getElem? (i := 14) rfl)) (by decide) (by decide)) (by decide) (by decide) ?_
  intro T hT X
  show Go p e below _ (T.setTop (mkF m 14 #[.val (.ref y), .val (.int (0 : Int32)), .val (.int (Int32.ofNat cs.length))] [(.int (f_isl cd))]))
  by_cases hcd : (f_isl cd) = (0 : Int32)
  · refine Go.st (fun _ k => XS.ifYes X.here hx rfl (pc0 := 14) (pc' := 21) rfl (hb hby d7_14) rfl (Jvm.Free.XT.i0_eq_t hcd) (by decide) (by decide) k) ?_
    show Go p e below _ (T.setTop (mkF m 21 #[.val (.ref y), .val (.int (0 : Int32)), .val (.int (Int32.ofNat cs.length))] []))
    obtain ⟨rfl, rfl, rfl, hwide⟩ : cd = 1 ∧ N2 = Int32.ofNat (2 * cs.length) ∧ vs = StrChars.Road.wideBytes cs ∧ ∃ c ∈ cs, (255 : Int32) < c := by
      rcases hcod with ⟨rfl, -⟩ | q
      · exact absurd hcd (by decide)
      · exact q
    have hpos : 0 < cs.length := by obtain ⟨c, hc, -⟩ := hwide; exact List.length_pos_of_mem hc
    refine Go.st (fun _ k => XS.aloadN X.here hx rfl (hb hby d7_21) rfl rfl k) ?_
    show Go p e below _ (T.setTop (mkF m 22 #[.val (.ref y), .val (.int (0 : Int32)), .val (.int (Int32.ofNat cs.length))] [(.ref y)]))
    obtain ⟨T, X, hT, st⟩ := getF X hx hZ hown (host := "") (Or.inl (hw _ (List.mem_of_getElem? (i := 30) rfl))) Via.refl hT F_v (g := (mkF m 22 #[.val (.ref y), .val (.int (0 : Int32)), .val (.int (Int32.ofNat cs.length))] [(.ref y)])) rfl rfl (hb hby d7_22)
    refine Go.st st ?_
    show Go p e below _ (T.setTop (mkF m 25 #[.val (.ref y), .val (.int (0 : Int32)), .val (.int (Int32.ofNat cs.length))] [(.ref r)]))
    refine Go.st (fun _ k => XS.iloadN X.here hx rfl (hb hby d7_25) rfl k) ?_
    show Go p e below _ (T.setTop (mkF m 26 #[.val (.ref y), .val (.int (0 : Int32)), .val (.int (Int32.ofNat cs.length))] [(.int (0 : Int32)), (.ref r)]))
    refine Go.st (fun _ k => XS.iloadN X.here hx rfl (hb hby d7_26) rfl k) ?_
    show Go p e below _ (T.setTop (mkF m 27 #[.val (.ref y), .val (.int (0 : Int32)), .val (.int (Int32.ofNat cs.length))] [(.int (Int32.ofNat cs.length)), (.int (0 : Int32)), (.ref r)]))
    refine Go.callV (argsL := [(.ref r), (.int (0 : Int32)), (.int (Int32.ofNat cs.length))]) (rest := []) (W := 0) X hx hZ hown (hml.trans rfl) hT (hw _ (List.mem_of_getElem? (i := 101) rfl)) (hw _ (List.mem_of_getElem? (i := 102) rfl)) (hw _ (List.mem_of_getElem? (i := 74) rfl)) (hw _ (List.mem_of_getElem? (i := 103) rfl)) (by decide) pd_16 rfl rfl (Nat.le_of_ble_eq_true rfl) (hb hby d7_27) (backOf (W := 0) (met_cpu3 l Z a0 hw [] n0 r kr cs _ O S16 V_r hpos hn hp) hZ (hw _ (List.mem_of_getElem? (i := 103) rfl)) (hw _ (List.mem_of_getElem? (i := 74) rfl)) (by decide) (by decide)) (by decide) (by decide) ?_
    intro T hT X
    show Go p e below _ (T.setTop (mkF m 30 #[.val (.ref y), .val (.int (0 : Int32)), .val (.int (Int32.ofNat cs.length))] [(.int (Int32.ofNat (cs.length - prs cs)))]))
    refine Go.ret X hx hlk hT hret rfl (riI (by simp)) (hb hby d7_30) (by decide) (by decide) ?_
    exact ⟨rfl, rfl, rfl⟩
  · refine Go.st (fun _ k => XS.ifNo X.here hx rfl (hb hby d7_14) rfl (Jvm.Free.XT.i0_eq_f hcd) k) ?_
    show Go p e below _ (T.setTop (mkF m 17 #[.val (.ref y), .val (.int (0 : Int32)), .val (.int (Int32.ofNat cs.length))] []))
    refine Go.st (fun _ k => XS.iloadN X.here hx rfl (hb hby d7_17) rfl k) ?_
    show Go p e below _ (T.setTop (mkF m 18 #[.val (.ref y), .val (.int (0 : Int32)), .val (.int (Int32.ofNat cs.length))] [(.int (Int32.ofNat cs.length))]))
    refine Go.st (fun _ k => XS.iloadN X.here hx rfl (hb hby d7_18) rfl k) ?_
    show Go p e below _ (T.setTop (mkF m 19 #[.val (.ref y), .val (.int (0 : Int32)), .val (.int (Int32.ofNat cs.length))] [(.int (0 : Int32)), (.int (Int32.ofNat cs.length))]))
    refine Go.st (fun _ k => XS.isub X.here hx rfl (hb hby d7_19) rfl k) ?_
    show Go p e below _ (T.setTop (mkF m 20 #[.val (.ref y), .val (.int (0 : Int32)), .val (.int (Int32.ofNat cs.length))] [(.int ((Int32.ofNat cs.length) - (0 : Int32)))]))
    refine Go.ret X hx hlk hT hret rfl (riI (by simp)) (hb hby d7_20) (by decide) (by decide) ?_
    have hlat : ∀ c ∈ cs, ¬ (255 : Int32) < c := by
      rcases hcod with ⟨-, -, -, q⟩ | ⟨rfl, -⟩
      · exact q
      · exact absurd (by decide) hcd
    exact ⟨by rw [prs_latin cs hlat, Int32.sub_zero]; rfl, rfl, rfl⟩
abbrev cc (y : Int32) : Int32 := y.toUInt32.toUInt16.toUInt32.toInt32
theorem own_ccr (y : Int32) : ¬ cc y < 0 ∧ ¬ (65535 : Int32) < cc y := by
  have h2 : ((cc y).toInt - y.toInt) % 65536 = 0 ∧ 0 ≤ (cc y).toInt ∧ (cc y).toInt < 65536 := c_i2c y
  have e1 : (65535 : Int32).toInt = 65535 := by decide
  constructor
  · rw [Int32.lt_iff_toInt_lt]; show ¬ _ < (0 : Int); omega
  · rw [Int32.lt_iff_toInt_lt, e1]; omega
theorem own_all {cs : List Int32} (h : ∃ ys : List Int32, cs = ys.map cc) : ∀ c ∈ cs, ¬ c < 0 ∧ ¬ (65535 : Int32) < c := by
  obtain ⟨ys, rfl⟩ := h
  intro c hc
  obtain ⟨y, -, rfl⟩ := List.mem_map.mp hc
  exact own_ccr y
def f_plain (y : Int32) : Int32 := (if (y &&& (65535 : Int32)) < (55296 : Int32) then ((y &&& (65535 : Int32)).toUInt32.toUInt16.toUInt32.toInt32) else (if (57343 : Int32) < (y &&& (65535 : Int32)) then ((y &&& (65535 : Int32)).toUInt32.toUInt16.toUInt32.toInt32) else (((y &&& (65535 : Int32)) ^^^ (8192 : Int32)).toUInt32.toUInt16.toUInt32.toInt32)))
theorem d3_0 : decode method_2_code 0 = .ok (.iload_n 0, 1) := by decide +kernel
theorem d3_1 : decode method_2_code 1 = .ok (.ldc 7, 2) := by decide +kernel
theorem d3_3 : decode method_2_code 3 = .ok (.iand, 1) := by decide +kernel
theorem d3_4 : decode method_2_code 4 = .ok (.istore_n 1, 1) := by decide +kernel
theorem d3_5 : decode method_2_code 5 = .ok (.iload_n 1, 1) := by decide +kernel
theorem d3_6 : decode method_2_code 6 = .ok (.ldc 8, 2) := by decide +kernel
theorem d3_8 : decode method_2_code 8 = .ok (.if_icmp .lt 15, 3) := by decide +kernel
theorem d3_11 : decode method_2_code 11 = .ok (.iload_n 1, 1) := by decide +kernel
theorem d3_12 : decode method_2_code 12 = .ok (.ldc 9, 2) := by decide +kernel
theorem d3_14 : decode method_2_code 14 = .ok (.if_icmp .gt 9, 3) := by decide +kernel
theorem d3_17 : decode method_2_code 17 = .ok (.iload_n 1, 1) := by decide +kernel
theorem d3_18 : decode method_2_code 18 = .ok (.sipush 8192, 3) := by decide +kernel
theorem d3_21 : decode method_2_code 21 = .ok (.ixor, 1) := by decide +kernel
theorem d3_22 : decode method_2_code 22 = .ok (.istore_n 1, 1) := by decide +kernel
theorem d3_23 : decode method_2_code 23 = .ok (.iload_n 1, 1) := by decide +kernel
theorem d3_24 : decode method_2_code 24 = .ok (.i2c, 1) := by decide +kernel
theorem d3_25 : decode method_2_code 25 = .ok (.ireturn, 1) := by decide +kernel
theorem pn_22 : plainFor (⟨"com/example/daugava/daugava/iso20022/Iso20022IsMax35TextPinLaw", "plain", "(I)C"⟩ : MethodName) = true := by first | exact plainFor_of_name (by first | (simp [plainName, overriddenIn]; done) | decide +kernel) | decide +kernel
theorem ef_I_2 (m : MethodId) (y0 : Int32) : entryFrame m #[(.int y0)] 2 = mkF m 0 #[.val (.int y0), .unset] [] := by first | (simp [entryFrame, mkF, argsToLocals, Value.category]; done) | rfl
set_option maxRecDepth 65536 in
set_option maxHeartbeats 40000000 in
theorem met_plain (l : Launch) (Z : State) (a0 : Array Value) (hw : ∀ d ∈ tables_1, d.before a0 Z = true) (ws : List Jvm.Cond) (y : Int32) (h0 : Heap)  :
    MetFree l (⟨"com/example/daugava/daugava/iso20022/Iso20022IsMax35TextPinLaw", "plain", "(I)C"⟩ : MethodName) (head1 (Jvm.Cond.code (⟨"com/example/daugava/daugava/iso20022/Iso20022IsMax35TextPinLaw", "plain", "(I)C"⟩ : MethodName) method_2_code 2 (some .char) :: ws) ({ frames := 0, cells := 0, slots := 0, locals := 0 } : Room)) (fun aa U => aa = #[(.int y)] ∧ Z.Warmed39 U.vm ∧ U.heap = h0) (fun _ _ _ _ _ => True) (fun _ U o U' => ∃ v L, o = .returned v ∧ QV (.int (f_plain y)) h0 v U'.heap L ∧ FrameEnd U o U' L ({ frames := 0, cells := 0, slots := 0, locals := 0 } : Room).cells ({ frames := 0, cells := 0, slots := 0, locals := 0 } : Room).slots) := by
  refine openP (y := (⟨"com/example/daugava/daugava/iso20022/Iso20022IsMax35TextPinLaw", "plain", "(I)C"⟩ : MethodName)) pn_22 ?_
  intro p e s m below meth c T hx hby hml hret hlk hnm hZ hown X hT
  refine Go.st (fun _ k => castTop (ef_I_2 m y) k) ?_
  show Go p e below _ (T.setTop (mkF m 0 #[.val (.int y), .unset] []))
  refine Go.st (fun _ k => XS.iloadN X.here hx rfl (hb hby d3_0) rfl k) ?_
  show Go p e below _ (T.setTop (mkF m 1 #[.val (.int y), .unset] [(.int y)]))
  refine Go.st (fun _ k => X.ldcI hx hown (mvT hZ (hw _ (List.mem_of_getElem? (i := 12) rfl))) rfl (hb hby d3_1) k) ?_
  show Go p e below _ (T.setTop (mkF m 3 #[.val (.int y), .unset] [(.int (65535 : Int32)), (.int y)]))
  refine Go.st (fun _ k => XS.iand X.here hx rfl (hb hby d3_3) rfl k) ?_
  show Go p e below _ (T.setTop (mkF m 4 #[.val (.int y), .unset] [(.int (y &&& (65535 : Int32)))]))
  refine Go.st (fun _ k => XS.istoreN X.here hx rfl (hb hby d3_4) rfl (l' := #[.val (.int y), .val (.int (y &&& (65535 : Int32)))]) rfl k) ?_
  show Go p e below _ (T.setTop (mkF m 5 #[.val (.int y), .val (.int (y &&& (65535 : Int32)))] []))
  refine Go.st (fun _ k => XS.iloadN X.here hx rfl (hb hby d3_5) rfl k) ?_
  show Go p e below _ (T.setTop (mkF m 6 #[.val (.int y), .val (.int (y &&& (65535 : Int32)))] [(.int (y &&& (65535 : Int32)))]))
  refine Go.st (fun _ k => X.ldcI hx hown (mvT hZ (hw _ (List.mem_of_getElem? (i := 8) rfl))) rfl (hb hby d3_6) k) ?_
  show Go p e below _ (T.setTop (mkF m 8 #[.val (.int y), .val (.int (y &&& (65535 : Int32)))] [(.int (55296 : Int32)), (.int (y &&& (65535 : Int32)))]))
  by_cases hc1 : (y &&& (65535 : Int32)) < (55296 : Int32)
  · refine Go.st (fun _ k => XS.icmpYes X.here hx rfl (pc0 := 8) (pc' := 23) rfl (hb hby d3_8) rfl (Jvm.Free.XT.ii_lt_t hc1) (by decide) (by decide) k) ?_
    show Go p e below _ (T.setTop (mkF m 23 #[.val (.int y), .val (.int (y &&& (65535 : Int32)))] []))
    refine Go.st (fun _ k => XS.iloadN X.here hx rfl (hb hby d3_23) rfl k) ?_
    show Go p e below _ (T.setTop (mkF m 24 #[.val (.int y), .val (.int (y &&& (65535 : Int32)))] [(.int (y &&& (65535 : Int32)))]))
    refine Go.st (fun _ k => XS.i2c X.here hx rfl (hb hby d3_24) rfl k) ?_
    show Go p e below _ (T.setTop (mkF m 25 #[.val (.int y), .val (.int (y &&& (65535 : Int32)))] [(.int ((y &&& (65535 : Int32)).toUInt32.toUInt16.toUInt32.toInt32))]))
    refine Go.ret X hx hlk hT hret (own_nc _) (riI (by simp)) (hb hby d3_25) (by decide) (by decide) ?_
    exact ⟨congrArg (fun z => some (Value.int z)) (by rw [f_plain, if_pos hc1]), rfl, rfl⟩
  · refine Go.st (fun _ k => XS.icmpNo X.here hx rfl (hb hby d3_8) rfl (Jvm.Free.XT.ii_lt_f hc1) k) ?_
    show Go p e below _ (T.setTop (mkF m 11 #[.val (.int y), .val (.int (y &&& (65535 : Int32)))] []))
    refine Go.st (fun _ k => XS.iloadN X.here hx rfl (hb hby d3_11) rfl k) ?_
    show Go p e below _ (T.setTop (mkF m 12 #[.val (.int y), .val (.int (y &&& (65535 : Int32)))] [(.int (y &&& (65535 : Int32)))]))
    refine Go.st (fun _ k => X.ldcI hx hown (mvT hZ (hw _ (List.mem_of_getElem? (i := 117) rfl))) rfl (hb hby d3_12) k) ?_
    show Go p e below _ (T.setTop (mkF m 14 #[.val (.int y), .val (.int (y &&& (65535 : Int32)))] [(.int (57343 : Int32)), (.int (y &&& (65535 : Int32)))]))
    by_cases hc2 : (57343 : Int32) < (y &&& (65535 : Int32))
    · refine Go.st (fun _ k => XS.icmpYes X.here hx rfl (pc0 := 14) (pc' := 23) rfl (hb hby d3_14) rfl (Jvm.Free.XT.ii_gt_t hc2) (by decide) (by decide) k) ?_
      show Go p e below _ (T.setTop (mkF m 23 #[.val (.int y), .val (.int (y &&& (65535 : Int32)))] []))
      refine Go.st (fun _ k => XS.iloadN X.here hx rfl (hb hby d3_23) rfl k) ?_
      show Go p e below _ (T.setTop (mkF m 24 #[.val (.int y), .val (.int (y &&& (65535 : Int32)))] [(.int (y &&& (65535 : Int32)))]))
      refine Go.st (fun _ k => XS.i2c X.here hx rfl (hb hby d3_24) rfl k) ?_
      show Go p e below _ (T.setTop (mkF m 25 #[.val (.int y), .val (.int (y &&& (65535 : Int32)))] [(.int ((y &&& (65535 : Int32)).toUInt32.toUInt16.toUInt32.toInt32))]))
      refine Go.ret X hx hlk hT hret (own_nc _) (riI (by simp)) (hb hby d3_25) (by decide) (by decide) ?_
      exact ⟨congrArg (fun z => some (Value.int z)) (by rw [f_plain, if_neg hc1, if_pos hc2]), rfl, rfl⟩
    · refine Go.st (fun _ k => XS.icmpNo X.here hx rfl (hb hby d3_14) rfl (Jvm.Free.XT.ii_gt_f hc2) k) ?_
      show Go p e below _ (T.setTop (mkF m 17 #[.val (.int y), .val (.int (y &&& (65535 : Int32)))] []))
      refine Go.st (fun _ k => XS.iloadN X.here hx rfl (hb hby d3_17) rfl k) ?_
      show Go p e below _ (T.setTop (mkF m 18 #[.val (.int y), .val (.int (y &&& (65535 : Int32)))] [(.int (y &&& (65535 : Int32)))]))
      refine Go.st (fun _ k => XS.sipush X.here hx rfl (hb hby d3_18) k) ?_
      show Go p e below _ (T.setTop (mkF m 21 #[.val (.int y), .val (.int (y &&& (65535 : Int32)))] [(.int (8192 : Int32)), (.int (y &&& (65535 : Int32)))]))
      refine Go.st (fun _ k => XS.ixor X.here hx rfl (hb hby d3_21) rfl k) ?_
      show Go p e below _ (T.setTop (mkF m 22 #[.val (.int y), .val (.int (y &&& (65535 : Int32)))] [(.int ((y &&& (65535 : Int32)) ^^^ (8192 : Int32)))]))
      refine Go.st (fun _ k => XS.istoreN X.here hx rfl (hb hby d3_22) rfl (l' := #[.val (.int y), .val (.int ((y &&& (65535 : Int32)) ^^^ (8192 : Int32)))]) rfl k) ?_
      show Go p e below _ (T.setTop (mkF m 23 #[.val (.int y), .val (.int ((y &&& (65535 : Int32)) ^^^ (8192 : Int32)))] []))
      refine Go.st (fun _ k => XS.iloadN X.here hx rfl (hb hby d3_23) rfl k) ?_
      show Go p e below _ (T.setTop (mkF m 24 #[.val (.int y), .val (.int ((y &&& (65535 : Int32)) ^^^ (8192 : Int32)))] [(.int ((y &&& (65535 : Int32)) ^^^ (8192 : Int32)))]))
      refine Go.st (fun _ k => XS.i2c X.here hx rfl (hb hby d3_24) rfl k) ?_
      show Go p e below _ (T.setTop (mkF m 25 #[.val (.int y), .val (.int ((y &&& (65535 : Int32)) ^^^ (8192 : Int32)))] [(.int (((y &&& (65535 : Int32)) ^^^ (8192 : Int32)).toUInt32.toUInt16.toUInt32.toInt32))]))
      refine Go.ret X hx hlk hT hret (own_nc _) (riI (by simp)) (hb hby d3_25) (by decide) (by decide) ?_
      exact ⟨congrArg (fun z => some (Value.int z)) (by rw [f_plain, if_neg hc1, if_neg hc2]), rfl, rfl⟩
def f_high (y : Int32) : Int32 := (((55296 : Int32) ||| (y &&& (1023 : Int32))).toUInt32.toUInt16.toUInt32.toInt32)
theorem d2_0 : decode method_3_code 0 = .ok (.ldc 8, 2) := by decide +kernel
theorem d2_2 : decode method_3_code 2 = .ok (.iload_n 0, 1) := by decide +kernel
theorem d2_3 : decode method_3_code 3 = .ok (.sipush 1023, 3) := by decide +kernel
theorem d2_6 : decode method_3_code 6 = .ok (.iand, 1) := by decide +kernel
theorem d2_7 : decode method_3_code 7 = .ok (.ior, 1) := by decide +kernel
theorem d2_8 : decode method_3_code 8 = .ok (.i2c, 1) := by decide +kernel
theorem d2_9 : decode method_3_code 9 = .ok (.ireturn, 1) := by decide +kernel
theorem pn_23 : plainFor (⟨"com/example/daugava/daugava/iso20022/Iso20022IsMax35TextPinLaw", "high", "(I)C"⟩ : MethodName) = true := by first | exact plainFor_of_name (by first | (simp [plainName, overriddenIn]; done) | decide +kernel) | decide +kernel
set_option maxRecDepth 65536 in
set_option maxHeartbeats 40000000 in
theorem met_high (l : Launch) (Z : State) (a0 : Array Value) (hw : ∀ d ∈ tables_1, d.before a0 Z = true) (ws : List Jvm.Cond) (y : Int32) (h0 : Heap)  :
    MetFree l (⟨"com/example/daugava/daugava/iso20022/Iso20022IsMax35TextPinLaw", "high", "(I)C"⟩ : MethodName) (head1 (Jvm.Cond.code (⟨"com/example/daugava/daugava/iso20022/Iso20022IsMax35TextPinLaw", "high", "(I)C"⟩ : MethodName) method_3_code 1 (some .char) :: ws) ({ frames := 0, cells := 0, slots := 0, locals := 0 } : Room)) (fun aa U => aa = #[(.int y)] ∧ Z.Warmed39 U.vm ∧ U.heap = h0) (fun _ _ _ _ _ => True) (fun _ U o U' => ∃ v L, o = .returned v ∧ QV (.int (f_high y)) h0 v U'.heap L ∧ FrameEnd U o U' L ({ frames := 0, cells := 0, slots := 0, locals := 0 } : Room).cells ({ frames := 0, cells := 0, slots := 0, locals := 0 } : Room).slots) := by
  refine openP (y := (⟨"com/example/daugava/daugava/iso20022/Iso20022IsMax35TextPinLaw", "high", "(I)C"⟩ : MethodName)) pn_23 ?_
  intro p e s m below meth c T hx hby hml hret hlk hnm hZ hown X hT
  refine Go.st (fun _ k => castTop (ef_I_1 m y) k) ?_
  show Go p e below _ (T.setTop (mkF m 0 #[.val (.int y)] []))
  refine Go.st (fun _ k => X.ldcI hx hown (mvT hZ (hw _ (List.mem_of_getElem? (i := 8) rfl))) rfl (hb hby d2_0) k) ?_
  show Go p e below _ (T.setTop (mkF m 2 #[.val (.int y)] [(.int (55296 : Int32))]))
  refine Go.st (fun _ k => XS.iloadN X.here hx rfl (hb hby d2_2) rfl k) ?_
  show Go p e below _ (T.setTop (mkF m 3 #[.val (.int y)] [(.int y), (.int (55296 : Int32))]))
  refine Go.st (fun _ k => XS.sipush X.here hx rfl (hb hby d2_3) k) ?_
  show Go p e below _ (T.setTop (mkF m 6 #[.val (.int y)] [(.int (1023 : Int32)), (.int y), (.int (55296 : Int32))]))
  refine Go.st (fun _ k => XS.iand X.here hx rfl (hb hby d2_6) rfl k) ?_
  show Go p e below _ (T.setTop (mkF m 7 #[.val (.int y)] [(.int (y &&& (1023 : Int32))), (.int (55296 : Int32))]))
  refine Go.st (fun _ k => XS.ior X.here hx rfl (hb hby d2_7) rfl k) ?_
  show Go p e below _ (T.setTop (mkF m 8 #[.val (.int y)] [(.int ((55296 : Int32) ||| (y &&& (1023 : Int32))))]))
  refine Go.st (fun _ k => XS.i2c X.here hx rfl (hb hby d2_8) rfl k) ?_
  show Go p e below _ (T.setTop (mkF m 9 #[.val (.int y)] [(.int (((55296 : Int32) ||| (y &&& (1023 : Int32))).toUInt32.toUInt16.toUInt32.toInt32))]))
  refine Go.ret X hx hlk hT hret (own_nc _) (riI (by simp)) (hb hby d2_9) (by decide) (by decide) ?_
  exact ⟨congrArg (fun z => some (Value.int z)) (by rw [f_high]), rfl, rfl⟩
def f_low (y : Int32) : Int32 := (((56320 : Int32) ||| (y &&& (1023 : Int32))).toUInt32.toUInt16.toUInt32.toInt32)
theorem d11_0 : decode method_4_code 0 = .ok (.ldc 10, 2) := by decide +kernel
theorem d11_2 : decode method_4_code 2 = .ok (.iload_n 0, 1) := by decide +kernel
theorem d11_3 : decode method_4_code 3 = .ok (.sipush 1023, 3) := by decide +kernel
theorem d11_6 : decode method_4_code 6 = .ok (.iand, 1) := by decide +kernel
theorem d11_7 : decode method_4_code 7 = .ok (.ior, 1) := by decide +kernel
theorem d11_8 : decode method_4_code 8 = .ok (.i2c, 1) := by decide +kernel
theorem d11_9 : decode method_4_code 9 = .ok (.ireturn, 1) := by decide +kernel
theorem pn_24 : plainFor (⟨"com/example/daugava/daugava/iso20022/Iso20022IsMax35TextPinLaw", "low", "(I)C"⟩ : MethodName) = true := by first | exact plainFor_of_name (by first | (simp [plainName, overriddenIn]; done) | decide +kernel) | decide +kernel
set_option maxRecDepth 65536 in
set_option maxHeartbeats 40000000 in
theorem met_low (l : Launch) (Z : State) (a0 : Array Value) (hw : ∀ d ∈ tables_1, d.before a0 Z = true) (ws : List Jvm.Cond) (y : Int32) (h0 : Heap)  :
    MetFree l (⟨"com/example/daugava/daugava/iso20022/Iso20022IsMax35TextPinLaw", "low", "(I)C"⟩ : MethodName) (head1 (Jvm.Cond.code (⟨"com/example/daugava/daugava/iso20022/Iso20022IsMax35TextPinLaw", "low", "(I)C"⟩ : MethodName) method_4_code 1 (some .char) :: ws) ({ frames := 0, cells := 0, slots := 0, locals := 0 } : Room)) (fun aa U => aa = #[(.int y)] ∧ Z.Warmed39 U.vm ∧ U.heap = h0) (fun _ _ _ _ _ => True) (fun _ U o U' => ∃ v L, o = .returned v ∧ QV (.int (f_low y)) h0 v U'.heap L ∧ FrameEnd U o U' L ({ frames := 0, cells := 0, slots := 0, locals := 0 } : Room).cells ({ frames := 0, cells := 0, slots := 0, locals := 0 } : Room).slots) := by
  refine openP (y := (⟨"com/example/daugava/daugava/iso20022/Iso20022IsMax35TextPinLaw", "low", "(I)C"⟩ : MethodName)) pn_24 ?_
  intro p e s m below meth c T hx hby hml hret hlk hnm hZ hown X hT
  refine Go.st (fun _ k => castTop (ef_I_1 m y) k) ?_
  show Go p e below _ (T.setTop (mkF m 0 #[.val (.int y)] []))
  refine Go.st (fun _ k => X.ldcI hx hown (mvT hZ (hw _ (List.mem_of_getElem? (i := 60) rfl))) rfl (hb hby d11_0) k) ?_
  show Go p e below _ (T.setTop (mkF m 2 #[.val (.int y)] [(.int (56320 : Int32))]))
  refine Go.st (fun _ k => XS.iloadN X.here hx rfl (hb hby d11_2) rfl k) ?_
  show Go p e below _ (T.setTop (mkF m 3 #[.val (.int y)] [(.int y), (.int (56320 : Int32))]))
  refine Go.st (fun _ k => XS.sipush X.here hx rfl (hb hby d11_3) k) ?_
  show Go p e below _ (T.setTop (mkF m 6 #[.val (.int y)] [(.int (1023 : Int32)), (.int y), (.int (56320 : Int32))]))
  refine Go.st (fun _ k => XS.iand X.here hx rfl (hb hby d11_6) rfl k) ?_
  show Go p e below _ (T.setTop (mkF m 7 #[.val (.int y)] [(.int (y &&& (1023 : Int32))), (.int (56320 : Int32))]))
  refine Go.st (fun _ k => XS.ior X.here hx rfl (hb hby d11_7) rfl k) ?_
  show Go p e below _ (T.setTop (mkF m 8 #[.val (.int y)] [(.int ((56320 : Int32) ||| (y &&& (1023 : Int32))))]))
  refine Go.st (fun _ k => XS.i2c X.here hx rfl (hb hby d11_8) rfl k) ?_
  show Go p e below _ (T.setTop (mkF m 9 #[.val (.int y)] [(.int (((56320 : Int32) ||| (y &&& (1023 : Int32))).toUInt32.toUInt16.toUInt32.toInt32))]))
  refine Go.ret X hx hlk hT hret (own_nc _) (riI (by simp)) (hb hby d11_9) (by decide) (by decide) ?_
  exact ⟨congrArg (fun z => some (Value.int z)) (by rw [f_low]), rfl, rfl⟩
abbrev M16 (y : Int32) : Prop := ¬ y < 0 ∧ ¬ (65535 : Int32) < y
theorem own_narc {y : Int32} (h : M16 y) : nar .char y = y := by
  have h2 := c_i2c y
  have e0 := h.1; have e1 := h.2
  rw [Int32.lt_iff_toInt_lt] at e0 e1
  have f0 : (0 : Int32).toInt = 0 := by decide
  have f1 : (65535 : Int32).toInt = 65535 := by decide
  rw [f0] at e0; rw [f1] at e1
  show y.toUInt32.toUInt16.toUInt32.toInt32 = y
  apply Int32.toInt_inj.mp
  omega
theorem own_pl16 (y : Int32) : M16 (f_plain y) := by
  rw [f_plain]
  repeat' split
  all_goals exact own_ccr _
theorem own_hi16 (y : Int32) : M16 (f_high y) := by rw [f_high]; exact own_ccr _
theorem own_lo16 (y : Int32) : M16 (f_low y) := by rw [f_low]; exact own_ccr _
/-- the kind and the two draws of a slot -/
def kin (kinds : Int64) (k : Nat) : Int32 := ((((kinds).toUInt64 >>> (((2 : Int32) * Int32.ofNat k) &&& 0x3f).toInt64.toUInt64).toInt64).toInt32) &&& (3 : Int32)
def dra (draws : Int64) (k : Nat) : Int32 := (((draws).toUInt64 >>> ((Int32.ofNat k) &&& 0x3f).toInt64.toUInt64).toInt64).toInt32
def drb (draws : Int64) (k : Nat) : Int32 := (((draws).toUInt64 >>> ((Int32.ofNat k + (20 : Int32)) &&& 0x3f).toInt64.toUInt64).toInt64).toInt32
def sA (kinds draws : Int64) (k : Nat) : Int32 := if kin kinds k = (0 : Int32) then f_plain (dra draws k) else if kin kinds k = (1 : Int32) then f_high (dra draws k) else if kin kinds k = (2 : Int32) then f_low (dra draws k) else f_high (dra draws k)
def sB (kinds draws : Int64) (k : Nat) : Int32 := if kin kinds k = (0 : Int32) then f_plain (drb draws k) else if kin kinds k = (1 : Int32) then f_low (drb draws k) else if kin kinds k = (2 : Int32) then f_low (drb draws k) else f_plain (drb draws k)
def sP (kinds : Int64) (k : Nat) : Int32 := if kin kinds k = (0 : Int32) then (0 : Int32) else if kin kinds k = (1 : Int32) then (1 : Int32) else if kin kinds k = (2 : Int32) then (0 : Int32) else (0 : Int32)
theorem sA16 (kinds draws : Int64) (k : Nat) : M16 (sA kinds draws k) := by
  rw [sA]; split
  · exact own_pl16 _
  split
  · exact own_hi16 _
  split
  · exact own_lo16 _
  · exact own_hi16 _
theorem sB16 (kinds draws : Int64) (k : Nat) : M16 (sB kinds draws k) := by
  rw [sB]; split
  · exact own_pl16 _
  split
  · exact own_lo16 _
  split
  · exact own_lo16 _
  · exact own_pl16 _
theorem own_mul2 {k : Nat} (h : k < 1000) : (2 : Int32) * Int32.ofNat k = Int32.ofNat (2 * k) := by
  show Int32.ofNat 2 * _ = _
  rw [← Int32.ofNat_mul]
theorem pd_17 : parseMethodDescriptor "(I)C" = some ⟨[.int], (some .char)⟩ := by decide +kernel
def QSl (Z : State) (n0 : Nat) (a : Addr) (ka : ClassId) (vs : List Value) (kq : Nat) (kinds draws : Int64) (h0 : Heap) (v : Option Value) (h : Heap) (L : List Loc) : Prop := v = some (.int (sP kinds kq)) ∧ Fr n0 L ∧ Keep h0 h [a] ∧ Arv Z h a ka .char (40 : Int32) ((vs.set (2 * kq) (.int (sA kinds draws kq))).set (2 * kq + 1) (.int (sB kinds draws kq))) (.int 0)
theorem d1_0 : decode method_5_code 0 = .ok (.lload_n 2, 1) := by decide +kernel
theorem d1_1 : decode method_5_code 1 = .ok (.iconst 2, 1) := by decide +kernel
theorem d1_2 : decode method_5_code 2 = .ok (.iload_n 1, 1) := by decide +kernel
theorem d1_3 : decode method_5_code 3 = .ok (.imul, 1) := by decide +kernel
theorem d1_4 : decode method_5_code 4 = .ok (.lushr, 1) := by decide +kernel
theorem d1_5 : decode method_5_code 5 = .ok (.l2i, 1) := by decide +kernel
theorem d1_6 : decode method_5_code 6 = .ok (.iconst 3, 1) := by decide +kernel
theorem d1_7 : decode method_5_code 7 = .ok (.iand, 1) := by decide +kernel
theorem d1_8 : decode method_5_code 8 = .ok (.istore 6, 2) := by decide +kernel
theorem d1_10 : decode method_5_code 10 = .ok (.lload 4, 2) := by decide +kernel
theorem d1_12 : decode method_5_code 12 = .ok (.iload_n 1, 1) := by decide +kernel
theorem d1_13 : decode method_5_code 13 = .ok (.lushr, 1) := by decide +kernel
theorem d1_14 : decode method_5_code 14 = .ok (.l2i, 1) := by decide +kernel
theorem d1_15 : decode method_5_code 15 = .ok (.istore 7, 2) := by decide +kernel
theorem d1_17 : decode method_5_code 17 = .ok (.lload 4, 2) := by decide +kernel
theorem d1_19 : decode method_5_code 19 = .ok (.iload_n 1, 1) := by decide +kernel
theorem d1_20 : decode method_5_code 20 = .ok (.bipush 20, 2) := by decide +kernel
theorem d1_22 : decode method_5_code 22 = .ok (.iadd, 1) := by decide +kernel
theorem d1_23 : decode method_5_code 23 = .ok (.lushr, 1) := by decide +kernel
theorem d1_24 : decode method_5_code 24 = .ok (.l2i, 1) := by decide +kernel
theorem d1_25 : decode method_5_code 25 = .ok (.istore 8, 2) := by decide +kernel
theorem d1_27 : decode method_5_code 27 = .ok (.iload 6, 2) := by decide +kernel
theorem d1_29 : decode method_5_code 29 = .ok (.ifCond .ne 27, 3) := by decide +kernel
theorem d1_32 : decode method_5_code 32 = .ok (.aload_n 0, 1) := by decide +kernel
theorem d1_33 : decode method_5_code 33 = .ok (.iconst 2, 1) := by decide +kernel
theorem d1_34 : decode method_5_code 34 = .ok (.iload_n 1, 1) := by decide +kernel
theorem d1_35 : decode method_5_code 35 = .ok (.imul, 1) := by decide +kernel
theorem d1_36 : decode method_5_code 36 = .ok (.iload 7, 2) := by decide +kernel
theorem d1_38 : decode method_5_code 38 = .ok (.invokestatic 11, 3) := by decide +kernel
theorem d1_41 : decode method_5_code 41 = .ok (.castore, 1) := by decide +kernel
theorem d1_42 : decode method_5_code 42 = .ok (.aload_n 0, 1) := by decide +kernel
theorem d1_43 : decode method_5_code 43 = .ok (.iconst 2, 1) := by decide +kernel
theorem d1_44 : decode method_5_code 44 = .ok (.iload_n 1, 1) := by decide +kernel
theorem d1_45 : decode method_5_code 45 = .ok (.imul, 1) := by decide +kernel
theorem d1_46 : decode method_5_code 46 = .ok (.iconst 1, 1) := by decide +kernel
theorem d1_47 : decode method_5_code 47 = .ok (.iadd, 1) := by decide +kernel
theorem d1_48 : decode method_5_code 48 = .ok (.iload 8, 2) := by decide +kernel
theorem d1_50 : decode method_5_code 50 = .ok (.invokestatic 11, 3) := by decide +kernel
theorem d1_53 : decode method_5_code 53 = .ok (.castore, 1) := by decide +kernel
theorem d1_54 : decode method_5_code 54 = .ok (.iconst 0, 1) := by decide +kernel
theorem d1_55 : decode method_5_code 55 = .ok (.ireturn, 1) := by decide +kernel
theorem d1_56 : decode method_5_code 56 = .ok (.iload 6, 2) := by decide +kernel
theorem d1_58 : decode method_5_code 58 = .ok (.iconst 1, 1) := by decide +kernel
theorem d1_59 : decode method_5_code 59 = .ok (.if_icmp .ne 27, 3) := by decide +kernel
theorem d1_62 : decode method_5_code 62 = .ok (.aload_n 0, 1) := by decide +kernel
theorem d1_63 : decode method_5_code 63 = .ok (.iconst 2, 1) := by decide +kernel
theorem d1_64 : decode method_5_code 64 = .ok (.iload_n 1, 1) := by decide +kernel
theorem d1_65 : decode method_5_code 65 = .ok (.imul, 1) := by decide +kernel
theorem d1_66 : decode method_5_code 66 = .ok (.iload 7, 2) := by decide +kernel
theorem d1_68 : decode method_5_code 68 = .ok (.invokestatic 17, 3) := by decide +kernel
theorem d1_71 : decode method_5_code 71 = .ok (.castore, 1) := by decide +kernel
theorem d1_72 : decode method_5_code 72 = .ok (.aload_n 0, 1) := by decide +kernel
theorem d1_73 : decode method_5_code 73 = .ok (.iconst 2, 1) := by decide +kernel
theorem d1_74 : decode method_5_code 74 = .ok (.iload_n 1, 1) := by decide +kernel
theorem d1_75 : decode method_5_code 75 = .ok (.imul, 1) := by decide +kernel
theorem d1_76 : decode method_5_code 76 = .ok (.iconst 1, 1) := by decide +kernel
theorem d1_77 : decode method_5_code 77 = .ok (.iadd, 1) := by decide +kernel
theorem d1_78 : decode method_5_code 78 = .ok (.iload 8, 2) := by decide +kernel
theorem d1_80 : decode method_5_code 80 = .ok (.invokestatic 20, 3) := by decide +kernel
theorem d1_83 : decode method_5_code 83 = .ok (.castore, 1) := by decide +kernel
theorem d1_84 : decode method_5_code 84 = .ok (.iconst 1, 1) := by decide +kernel
theorem d1_85 : decode method_5_code 85 = .ok (.ireturn, 1) := by decide +kernel
theorem d1_86 : decode method_5_code 86 = .ok (.iload 6, 2) := by decide +kernel
theorem d1_88 : decode method_5_code 88 = .ok (.iconst 2, 1) := by decide +kernel
theorem d1_89 : decode method_5_code 89 = .ok (.if_icmp .ne 27, 3) := by decide +kernel
theorem d1_92 : decode method_5_code 92 = .ok (.aload_n 0, 1) := by decide +kernel
theorem d1_93 : decode method_5_code 93 = .ok (.iconst 2, 1) := by decide +kernel
theorem d1_94 : decode method_5_code 94 = .ok (.iload_n 1, 1) := by decide +kernel
theorem d1_95 : decode method_5_code 95 = .ok (.imul, 1) := by decide +kernel
theorem d1_96 : decode method_5_code 96 = .ok (.iload 7, 2) := by decide +kernel
theorem d1_98 : decode method_5_code 98 = .ok (.invokestatic 20, 3) := by decide +kernel
theorem d1_101 : decode method_5_code 101 = .ok (.castore, 1) := by decide +kernel
theorem d1_102 : decode method_5_code 102 = .ok (.aload_n 0, 1) := by decide +kernel
theorem d1_103 : decode method_5_code 103 = .ok (.iconst 2, 1) := by decide +kernel
theorem d1_104 : decode method_5_code 104 = .ok (.iload_n 1, 1) := by decide +kernel
theorem d1_105 : decode method_5_code 105 = .ok (.imul, 1) := by decide +kernel
theorem d1_106 : decode method_5_code 106 = .ok (.iconst 1, 1) := by decide +kernel
theorem d1_107 : decode method_5_code 107 = .ok (.iadd, 1) := by decide +kernel
theorem d1_108 : decode method_5_code 108 = .ok (.iload 8, 2) := by decide +kernel
theorem d1_110 : decode method_5_code 110 = .ok (.invokestatic 20, 3) := by decide +kernel
theorem d1_113 : decode method_5_code 113 = .ok (.castore, 1) := by decide +kernel
theorem d1_114 : decode method_5_code 114 = .ok (.iconst 0, 1) := by decide +kernel
theorem d1_115 : decode method_5_code 115 = .ok (.ireturn, 1) := by decide +kernel
theorem d1_116 : decode method_5_code 116 = .ok (.aload_n 0, 1) := by decide +kernel
theorem d1_117 : decode method_5_code 117 = .ok (.iconst 2, 1) := by decide +kernel
theorem d1_118 : decode method_5_code 118 = .ok (.iload_n 1, 1) := by decide +kernel
theorem d1_119 : decode method_5_code 119 = .ok (.imul, 1) := by decide +kernel
theorem d1_120 : decode method_5_code 120 = .ok (.iload 7, 2) := by decide +kernel
theorem d1_122 : decode method_5_code 122 = .ok (.invokestatic 17, 3) := by decide +kernel
theorem d1_125 : decode method_5_code 125 = .ok (.castore, 1) := by decide +kernel
theorem d1_126 : decode method_5_code 126 = .ok (.aload_n 0, 1) := by decide +kernel
theorem d1_127 : decode method_5_code 127 = .ok (.iconst 2, 1) := by decide +kernel
theorem d1_128 : decode method_5_code 128 = .ok (.iload_n 1, 1) := by decide +kernel
theorem d1_129 : decode method_5_code 129 = .ok (.imul, 1) := by decide +kernel
theorem d1_130 : decode method_5_code 130 = .ok (.iconst 1, 1) := by decide +kernel
theorem d1_131 : decode method_5_code 131 = .ok (.iadd, 1) := by decide +kernel
theorem d1_132 : decode method_5_code 132 = .ok (.iload 8, 2) := by decide +kernel
theorem d1_134 : decode method_5_code 134 = .ok (.invokestatic 11, 3) := by decide +kernel
theorem d1_137 : decode method_5_code 137 = .ok (.castore, 1) := by decide +kernel
theorem d1_138 : decode method_5_code 138 = .ok (.iconst 0, 1) := by decide +kernel
theorem d1_139 : decode method_5_code 139 = .ok (.ireturn, 1) := by decide +kernel
theorem pn_25 : plainFor (⟨"com/example/daugava/daugava/iso20022/Iso20022IsMax35TextPinLaw", "slot", "([CIJJ)I"⟩ : MethodName) = true := by first | exact plainFor_of_name (by first | (simp [plainName, overriddenIn]; done) | decide +kernel) | decide +kernel
theorem ef_AIJJ_9 (m : MethodId) (y0 : Addr) (y1 : Int32) (y2 : Int64) (y3 : Int64) : entryFrame m #[(.ref y0), (.int y1), (.long y2), (.long y3)] 9 = mkF m 0 #[.val (.ref y0), .val (.int y1), .val (.long y2), .second, .val (.long y3), .second, .unset, .unset, .unset] [] := by first | (simp [entryFrame, mkF, argsToLocals, Value.category]; done) | rfl
set_option maxRecDepth 65536 in
set_option maxHeartbeats 40000000 in
theorem met_slot (l : Launch) (Z : State) (a0 : Array Value) (hw : ∀ d ∈ tables_1, d.before a0 Z = true) (ws : List Jvm.Cond) (n0 : Nat) (a : Addr) (ka : ClassId) (vs : List Value) (kq : Nat) (kinds draws : Int64) (h0 : Heap) (ge_a : n0 ≤ a) (V_a : Arv Z h0 a ka .char (40 : Int32) vs (.int 0)) (hk : kq < 20) (hv : vs.length = 40) :
    MetFree l (⟨"com/example/daugava/daugava/iso20022/Iso20022IsMax35TextPinLaw", "slot", "([CIJJ)I"⟩ : MethodName) (head1 (Jvm.Cond.code (⟨"com/example/daugava/daugava/iso20022/Iso20022IsMax35TextPinLaw", "slot", "([CIJJ)I"⟩ : MethodName) method_5_code 9 (some .int) :: ws) ({ frames := 1, cells := 0, slots := 0, locals := 15 } : Room)) (fun aa U => aa = #[(.ref a), (.int (Int32.ofNat kq)), (.long kinds), (.long draws)] ∧ Z.Warmed39 U.vm ∧ U.heap = h0) (fun _ _ _ _ _ => True) (fun _ U o U' => ∃ v L, o = .returned v ∧ QSl Z n0 a ka vs kq kinds draws h0 v U'.heap L ∧ FrameEnd U o U' L ({ frames := 1, cells := 0, slots := 0, locals := 15 } : Room).cells ({ frames := 1, cells := 0, slots := 0, locals := 15 } : Room).slots) := by
  refine openP (y := (⟨"com/example/daugava/daugava/iso20022/Iso20022IsMax35TextPinLaw", "slot", "([CIJJ)I"⟩ : MethodName)) pn_25 ?_
  intro p e s m below meth c T hx hby hml hret hlk hnm hZ hown X hT
  refine Go.st (fun _ k => castTop (ef_AIJJ_9 m a (Int32.ofNat kq) kinds draws) k) ?_
  show Go p e below _ (T.setTop (mkF m 0 #[.val (.ref a), .val (.int (Int32.ofNat kq)), .val (.long kinds), .second, .val (.long draws), .second, .unset, .unset, .unset] []))
  have N := Fr.nil n0
  refine Go.st (fun _ k => XS.lloadN X.here hx rfl (hb hby d1_0) rfl k) ?_
  show Go p e below _ (T.setTop (mkF m 1 #[.val (.ref a), .val (.int (Int32.ofNat kq)), .val (.long kinds), .second, .val (.long draws), .second, .unset, .unset, .unset] [(.long kinds)]))
  refine Go.st (fun _ k => XS.iconst X.here hx rfl (hb hby d1_1) k) ?_
  show Go p e below _ (T.setTop (mkF m 2 #[.val (.ref a), .val (.int (Int32.ofNat kq)), .val (.long kinds), .second, .val (.long draws), .second, .unset, .unset, .unset] [(.int (2 : Int32)), (.long kinds)]))
  refine Go.st (fun _ k => XS.iloadN X.here hx rfl (hb hby d1_2) rfl k) ?_
  show Go p e below _ (T.setTop (mkF m 3 #[.val (.ref a), .val (.int (Int32.ofNat kq)), .val (.long kinds), .second, .val (.long draws), .second, .unset, .unset, .unset] [(.int (Int32.ofNat kq)), (.int (2 : Int32)), (.long kinds)]))
  refine Go.st (fun _ k => XS.imul X.here hx rfl (hb hby d1_3) rfl k) ?_
  show Go p e below _ (T.setTop (mkF m 4 #[.val (.ref a), .val (.int (Int32.ofNat kq)), .val (.long kinds), .second, .val (.long draws), .second, .unset, .unset, .unset] [(.int ((2 : Int32) * (Int32.ofNat kq))), (.long kinds)]))
  refine Go.st (fun _ k => XS.lushr X.here hx rfl (hb hby d1_4) rfl k) ?_
  show Go p e below _ (T.setTop (mkF m 5 #[.val (.ref a), .val (.int (Int32.ofNat kq)), .val (.long kinds), .second, .val (.long draws), .second, .unset, .unset, .unset] [(.long (((kinds).toUInt64 >>> (((2 : Int32) * (Int32.ofNat kq)) &&& 0x3f).toInt64.toUInt64).toInt64))]))
  refine Go.st (fun _ k => XS.l2i X.here hx rfl (hb hby d1_5) rfl k) ?_
  show Go p e below _ (T.setTop (mkF m 6 #[.val (.ref a), .val (.int (Int32.ofNat kq)), .val (.long kinds), .second, .val (.long draws), .second, .unset, .unset, .unset] [(.int ((((kinds).toUInt64 >>> (((2 : Int32) * (Int32.ofNat kq)) &&& 0x3f).toInt64.toUInt64).toInt64).toInt32))]))
  refine Go.st (fun _ k => XS.iconst X.here hx rfl (hb hby d1_6) k) ?_
  show Go p e below _ (T.setTop (mkF m 7 #[.val (.ref a), .val (.int (Int32.ofNat kq)), .val (.long kinds), .second, .val (.long draws), .second, .unset, .unset, .unset] [(.int (3 : Int32)), (.int ((((kinds).toUInt64 >>> (((2 : Int32) * (Int32.ofNat kq)) &&& 0x3f).toInt64.toUInt64).toInt64).toInt32))]))
  refine Go.st (fun _ k => XS.iand X.here hx rfl (hb hby d1_7) rfl k) ?_
  show Go p e below _ (T.setTop (mkF m 8 #[.val (.ref a), .val (.int (Int32.ofNat kq)), .val (.long kinds), .second, .val (.long draws), .second, .unset, .unset, .unset] [(.int (((((kinds).toUInt64 >>> (((2 : Int32) * (Int32.ofNat kq)) &&& 0x3f).toInt64.toUInt64).toInt64).toInt32) &&& (3 : Int32)))]))
  rw [show (((((kinds).toUInt64 >>> (((2 : Int32) * (Int32.ofNat kq)) &&& 0x3f).toInt64.toUInt64).toInt64).toInt32) &&& (3 : Int32)) = (kin kinds kq) from rfl]
  show Go p e below _ (T.setTop (mkF m 8 #[.val (.ref a), .val (.int (Int32.ofNat kq)), .val (.long kinds), .second, .val (.long draws), .second, .unset, .unset, .unset] [(.int (kin kinds kq))]))
  refine Go.st (fun _ k => XS.istore X.here hx rfl (hb hby d1_8) rfl (l' := #[.val (.ref a), .val (.int (Int32.ofNat kq)), .val (.long kinds), .second, .val (.long draws), .second, .val (.int (kin kinds kq)), .unset, .unset]) rfl k) ?_
  show Go p e below _ (T.setTop (mkF m 10 #[.val (.ref a), .val (.int (Int32.ofNat kq)), .val (.long kinds), .second, .val (.long draws), .second, .val (.int (kin kinds kq)), .unset, .unset] []))
  refine Go.st (fun _ k => XS.lload X.here hx rfl (hb hby d1_10) rfl k) ?_
  show Go p e below _ (T.setTop (mkF m 12 #[.val (.ref a), .val (.int (Int32.ofNat kq)), .val (.long kinds), .second, .val (.long draws), .second, .val (.int (kin kinds kq)), .unset, .unset] [(.long draws)]))
  refine Go.st (fun _ k => XS.iloadN X.here hx rfl (hb hby d1_12) rfl k) ?_
  show Go p e below _ (T.setTop (mkF m 13 #[.val (.ref a), .val (.int (Int32.ofNat kq)), .val (.long kinds), .second, .val (.long draws), .second, .val (.int (kin kinds kq)), .unset, .unset] [(.int (Int32.ofNat kq)), (.long draws)]))
  refine Go.st (fun _ k => XS.lushr X.here hx rfl (hb hby d1_13) rfl k) ?_
  show Go p e below _ (T.setTop (mkF m 14 #[.val (.ref a), .val (.int (Int32.ofNat kq)), .val (.long kinds), .second, .val (.long draws), .second, .val (.int (kin kinds kq)), .unset, .unset] [(.long (((draws).toUInt64 >>> ((Int32.ofNat kq) &&& 0x3f).toInt64.toUInt64).toInt64))]))
  refine Go.st (fun _ k => XS.l2i X.here hx rfl (hb hby d1_14) rfl k) ?_
  show Go p e below _ (T.setTop (mkF m 15 #[.val (.ref a), .val (.int (Int32.ofNat kq)), .val (.long kinds), .second, .val (.long draws), .second, .val (.int (kin kinds kq)), .unset, .unset] [(.int ((((draws).toUInt64 >>> ((Int32.ofNat kq) &&& 0x3f).toInt64.toUInt64).toInt64).toInt32))]))
  rw [show ((((draws).toUInt64 >>> ((Int32.ofNat kq) &&& 0x3f).toInt64.toUInt64).toInt64).toInt32) = (dra draws kq) from rfl]
  show Go p e below _ (T.setTop (mkF m 15 #[.val (.ref a), .val (.int (Int32.ofNat kq)), .val (.long kinds), .second, .val (.long draws), .second, .val (.int (kin kinds kq)), .unset, .unset] [(.int (dra draws kq))]))
  refine Go.st (fun _ k => XS.istore X.here hx rfl (hb hby d1_15) rfl (l' := #[.val (.ref a), .val (.int (Int32.ofNat kq)), .val (.long kinds), .second, .val (.long draws), .second, .val (.int (kin kinds kq)), .val (.int (dra draws kq)), .unset]) rfl k) ?_
  show Go p e below _ (T.setTop (mkF m 17 #[.val (.ref a), .val (.int (Int32.ofNat kq)), .val (.long kinds), .second, .val (.long draws), .second, .val (.int (kin kinds kq)), .val (.int (dra draws kq)), .unset] []))
  refine Go.st (fun _ k => XS.lload X.here hx rfl (hb hby d1_17) rfl k) ?_
  show Go p e below _ (T.setTop (mkF m 19 #[.val (.ref a), .val (.int (Int32.ofNat kq)), .val (.long kinds), .second, .val (.long draws), .second, .val (.int (kin kinds kq)), .val (.int (dra draws kq)), .unset] [(.long draws)]))
  refine Go.st (fun _ k => XS.iloadN X.here hx rfl (hb hby d1_19) rfl k) ?_
  show Go p e below _ (T.setTop (mkF m 20 #[.val (.ref a), .val (.int (Int32.ofNat kq)), .val (.long kinds), .second, .val (.long draws), .second, .val (.int (kin kinds kq)), .val (.int (dra draws kq)), .unset] [(.int (Int32.ofNat kq)), (.long draws)]))
  refine Go.st (fun _ k => XS.bipush X.here hx rfl (hb hby d1_20) k) ?_
  show Go p e below _ (T.setTop (mkF m 22 #[.val (.ref a), .val (.int (Int32.ofNat kq)), .val (.long kinds), .second, .val (.long draws), .second, .val (.int (kin kinds kq)), .val (.int (dra draws kq)), .unset] [(.int (20 : Int32)), (.int (Int32.ofNat kq)), (.long draws)]))
  refine Go.st (fun _ k => XS.iadd X.here hx rfl (hb hby d1_22) rfl k) ?_
  show Go p e below _ (T.setTop (mkF m 23 #[.val (.ref a), .val (.int (Int32.ofNat kq)), .val (.long kinds), .second, .val (.long draws), .second, .val (.int (kin kinds kq)), .val (.int (dra draws kq)), .unset] [(.int ((Int32.ofNat kq) + (20 : Int32))), (.long draws)]))
  refine Go.st (fun _ k => XS.lushr X.here hx rfl (hb hby d1_23) rfl k) ?_
  show Go p e below _ (T.setTop (mkF m 24 #[.val (.ref a), .val (.int (Int32.ofNat kq)), .val (.long kinds), .second, .val (.long draws), .second, .val (.int (kin kinds kq)), .val (.int (dra draws kq)), .unset] [(.long (((draws).toUInt64 >>> (((Int32.ofNat kq) + (20 : Int32)) &&& 0x3f).toInt64.toUInt64).toInt64))]))
  refine Go.st (fun _ k => XS.l2i X.here hx rfl (hb hby d1_24) rfl k) ?_
  show Go p e below _ (T.setTop (mkF m 25 #[.val (.ref a), .val (.int (Int32.ofNat kq)), .val (.long kinds), .second, .val (.long draws), .second, .val (.int (kin kinds kq)), .val (.int (dra draws kq)), .unset] [(.int ((((draws).toUInt64 >>> (((Int32.ofNat kq) + (20 : Int32)) &&& 0x3f).toInt64.toUInt64).toInt64).toInt32))]))
  rw [show ((((draws).toUInt64 >>> (((Int32.ofNat kq) + (20 : Int32)) &&& 0x3f).toInt64.toUInt64).toInt64).toInt32) = (drb draws kq) from rfl]
  show Go p e below _ (T.setTop (mkF m 25 #[.val (.ref a), .val (.int (Int32.ofNat kq)), .val (.long kinds), .second, .val (.long draws), .second, .val (.int (kin kinds kq)), .val (.int (dra draws kq)), .unset] [(.int (drb draws kq))]))
  refine Go.st (fun _ k => XS.istore X.here hx rfl (hb hby d1_25) rfl (l' := #[.val (.ref a), .val (.int (Int32.ofNat kq)), .val (.long kinds), .second, .val (.long draws), .second, .val (.int (kin kinds kq)), .val (.int (dra draws kq)), .val (.int (drb draws kq))]) rfl k) ?_
  show Go p e below _ (T.setTop (mkF m 27 #[.val (.ref a), .val (.int (Int32.ofNat kq)), .val (.long kinds), .second, .val (.long draws), .second, .val (.int (kin kinds kq)), .val (.int (dra draws kq)), .val (.int (drb draws kq))] []))
  refine Go.st (fun _ k => XS.iload X.here hx rfl (hb hby d1_27) rfl k) ?_
  show Go p e below _ (T.setTop (mkF m 29 #[.val (.ref a), .val (.int (Int32.ofNat kq)), .val (.long kinds), .second, .val (.long draws), .second, .val (.int (kin kinds kq)), .val (.int (dra draws kq)), .val (.int (drb draws kq))] [(.int (kin kinds kq))]))
  by_cases hc1 : (kin kinds kq) = (0 : Int32)
  · refine Go.st (fun _ k => XS.ifNo X.here hx rfl (hb hby d1_29) rfl (Jvm.Free.XT.i0_ne_f hc1) k) ?_
    show Go p e below _ (T.setTop (mkF m 32 #[.val (.ref a), .val (.int (Int32.ofNat kq)), .val (.long kinds), .second, .val (.long draws), .second, .val (.int (kin kinds kq)), .val (.int (dra draws kq)), .val (.int (drb draws kq))] []))
    refine Go.st (fun _ k => XS.aloadN X.here hx rfl (hb hby d1_32) rfl rfl k) ?_
    show Go p e below _ (T.setTop (mkF m 33 #[.val (.ref a), .val (.int (Int32.ofNat kq)), .val (.long kinds), .second, .val (.long draws), .second, .val (.int (kin kinds kq)), .val (.int (dra draws kq)), .val (.int (drb draws kq))] [(.ref a)]))
    refine Go.st (fun _ k => XS.iconst X.here hx rfl (hb hby d1_33) k) ?_
    show Go p e below _ (T.setTop (mkF m 34 #[.val (.ref a), .val (.int (Int32.ofNat kq)), .val (.long kinds), .second, .val (.long draws), .second, .val (.int (kin kinds kq)), .val (.int (dra draws kq)), .val (.int (drb draws kq))] [(.int (2 : Int32)), (.ref a)]))
    refine Go.st (fun _ k => XS.iloadN X.here hx rfl (hb hby d1_34) rfl k) ?_
    show Go p e below _ (T.setTop (mkF m 35 #[.val (.ref a), .val (.int (Int32.ofNat kq)), .val (.long kinds), .second, .val (.long draws), .second, .val (.int (kin kinds kq)), .val (.int (dra draws kq)), .val (.int (drb draws kq))] [(.int (Int32.ofNat kq)), (.int (2 : Int32)), (.ref a)]))
    refine Go.st (fun _ k => XS.imul X.here hx rfl (hb hby d1_35) rfl k) ?_
    show Go p e below _ (T.setTop (mkF m 36 #[.val (.ref a), .val (.int (Int32.ofNat kq)), .val (.long kinds), .second, .val (.long draws), .second, .val (.int (kin kinds kq)), .val (.int (dra draws kq)), .val (.int (drb draws kq))] [(.int ((2 : Int32) * (Int32.ofNat kq))), (.ref a)]))
    rw [own_mul2 (by omega)]
    show Go p e below _ (T.setTop (mkF m 36 #[.val (.ref a), .val (.int (Int32.ofNat kq)), .val (.long kinds), .second, .val (.long draws), .second, .val (.int (kin kinds kq)), .val (.int (dra draws kq)), .val (.int (drb draws kq))] [(.int (Int32.ofNat (2 * kq))), (.ref a)]))
    refine Go.st (fun _ k => XS.iload X.here hx rfl (hb hby d1_36) rfl k) ?_
    show Go p e below _ (T.setTop (mkF m 38 #[.val (.ref a), .val (.int (Int32.ofNat kq)), .val (.long kinds), .second, .val (.long draws), .second, .val (.int (kin kinds kq)), .val (.int (dra draws kq)), .val (.int (drb draws kq))] [(.int (dra draws kq)), (.int (Int32.ofNat (2 * kq))), (.ref a)]))
    refine Go.callV (argsL := [(.int (dra draws kq))]) (rest := [(.int (Int32.ofNat (2 * kq))), (.ref a)]) (W := 2) X hx hZ hown (hml.trans rfl) hT (hw _ (List.mem_of_getElem? (i := 9) rfl)) (hw _ (List.mem_of_getElem? (i := 10) rfl)) (hw _ (List.mem_of_getElem? (i := 3) rfl)) (hw _ (List.mem_of_getElem? (i := 11) rfl)) (by decide) pd_17 rfl rfl (Nat.le_of_ble_eq_true rfl) (hb hby d1_38) (backOf (W := 2) (met_plain l Z a0 hw [] (dra draws kq) _) hZ (hw _ (List.mem_of_getElem? (i := 11) rfl)) (hw _ (List.mem_of_getElem? (i := 3) rfl)) (by decide) (by decide)) (by decide) (by decide) ?_
    intro T hT X
    show Go p e below _ (T.setTop (mkF m 41 #[.val (.ref a), .val (.int (Int32.ofNat kq)), .val (.long kinds), .second, .val (.long draws), .second, .val (.int (kin kinds kq)), .val (.int (dra draws kq)), .val (.int (drb draws kq))] [(.int (f_plain (dra draws kq))), (.int (Int32.ofNat (2 * kq))), (.ref a)]))
    refine Go.stCN (i := 2 * kq) X hx hZ hT V_a (by show _ < 40; omega) (by omega) (by omega) (hb hby d1_41) ?_
    intro T h1 hT Wr1 V_a X
    have N := Fr.app N (own_fr1 (i := 2 * kq) ge_a)
    show Go p e below _ (T.setTop (mkF m 42 #[.val (.ref a), .val (.int (Int32.ofNat kq)), .val (.long kinds), .second, .val (.long draws), .second, .val (.int (kin kinds kq)), .val (.int (dra draws kq)), .val (.int (drb draws kq))] []))
    refine Go.st (fun _ k => XS.aloadN X.here hx rfl (hb hby d1_42) rfl rfl k) ?_
    show Go p e below _ (T.setTop (mkF m 43 #[.val (.ref a), .val (.int (Int32.ofNat kq)), .val (.long kinds), .second, .val (.long draws), .second, .val (.int (kin kinds kq)), .val (.int (dra draws kq)), .val (.int (drb draws kq))] [(.ref a)]))
    refine Go.st (fun _ k => XS.iconst X.here hx rfl (hb hby d1_43) k) ?_
    show Go p e below _ (T.setTop (mkF m 44 #[.val (.ref a), .val (.int (Int32.ofNat kq)), .val (.long kinds), .second, .val (.long draws), .second, .val (.int (kin kinds kq)), .val (.int (dra draws kq)), .val (.int (drb draws kq))] [(.int (2 : Int32)), (.ref a)]))
    refine Go.st (fun _ k => XS.iloadN X.here hx rfl (hb hby d1_44) rfl k) ?_
    show Go p e below _ (T.setTop (mkF m 45 #[.val (.ref a), .val (.int (Int32.ofNat kq)), .val (.long kinds), .second, .val (.long draws), .second, .val (.int (kin kinds kq)), .val (.int (dra draws kq)), .val (.int (drb draws kq))] [(.int (Int32.ofNat kq)), (.int (2 : Int32)), (.ref a)]))
    refine Go.st (fun _ k => XS.imul X.here hx rfl (hb hby d1_45) rfl k) ?_
    show Go p e below _ (T.setTop (mkF m 46 #[.val (.ref a), .val (.int (Int32.ofNat kq)), .val (.long kinds), .second, .val (.long draws), .second, .val (.int (kin kinds kq)), .val (.int (dra draws kq)), .val (.int (drb draws kq))] [(.int ((2 : Int32) * (Int32.ofNat kq))), (.ref a)]))
    rw [own_mul2 (by omega)]
    show Go p e below _ (T.setTop (mkF m 46 #[.val (.ref a), .val (.int (Int32.ofNat kq)), .val (.long kinds), .second, .val (.long draws), .second, .val (.int (kin kinds kq)), .val (.int (dra draws kq)), .val (.int (drb draws kq))] [(.int (Int32.ofNat (2 * kq))), (.ref a)]))
    refine Go.st (fun _ k => XS.iconst X.here hx rfl (hb hby d1_46) k) ?_
    show Go p e below _ (T.setTop (mkF m 47 #[.val (.ref a), .val (.int (Int32.ofNat kq)), .val (.long kinds), .second, .val (.long draws), .second, .val (.int (kin kinds kq)), .val (.int (dra draws kq)), .val (.int (drb draws kq))] [(.int (1 : Int32)), (.int (Int32.ofNat (2 * kq))), (.ref a)]))
    refine Go.st (fun _ k => XS.iadd X.here hx rfl (hb hby d1_47) rfl k) ?_
    show Go p e below _ (T.setTop (mkF m 48 #[.val (.ref a), .val (.int (Int32.ofNat kq)), .val (.long kinds), .second, .val (.long draws), .second, .val (.int (kin kinds kq)), .val (.int (dra draws kq)), .val (.int (drb draws kq))] [(.int ((Int32.ofNat (2 * kq)) + (1 : Int32))), (.ref a)]))
    rw [own_succ]
    show Go p e below _ (T.setTop (mkF m 48 #[.val (.ref a), .val (.int (Int32.ofNat kq)), .val (.long kinds), .second, .val (.long draws), .second, .val (.int (kin kinds kq)), .val (.int (dra draws kq)), .val (.int (drb draws kq))] [(.int (Int32.ofNat (2 * kq + 1))), (.ref a)]))
    refine Go.st (fun _ k => XS.iload X.here hx rfl (hb hby d1_48) rfl k) ?_
    show Go p e below _ (T.setTop (mkF m 50 #[.val (.ref a), .val (.int (Int32.ofNat kq)), .val (.long kinds), .second, .val (.long draws), .second, .val (.int (kin kinds kq)), .val (.int (dra draws kq)), .val (.int (drb draws kq))] [(.int (drb draws kq)), (.int (Int32.ofNat (2 * kq + 1))), (.ref a)]))
    refine Go.callV (argsL := [(.int (drb draws kq))]) (rest := [(.int (Int32.ofNat (2 * kq + 1))), (.ref a)]) (W := 2) X hx hZ hown (hml.trans rfl) hT (hw _ (List.mem_of_getElem? (i := 9) rfl)) (hw _ (List.mem_of_getElem? (i := 10) rfl)) (hw _ (List.mem_of_getElem? (i := 3) rfl)) (hw _ (List.mem_of_getElem? (i := 11) rfl)) (by decide) pd_17 rfl rfl (Nat.le_of_ble_eq_true rfl) (hb hby d1_50) (backOf (W := 2) (met_plain l Z a0 hw [] (drb draws kq) _) hZ (hw _ (List.mem_of_getElem? (i := 11) rfl)) (hw _ (List.mem_of_getElem? (i := 3) rfl)) (by decide) (by decide)) (by decide) (by decide) ?_
    intro T hT X
    show Go p e below _ (T.setTop (mkF m 53 #[.val (.ref a), .val (.int (Int32.ofNat kq)), .val (.long kinds), .second, .val (.long draws), .second, .val (.int (kin kinds kq)), .val (.int (dra draws kq)), .val (.int (drb draws kq))] [(.int (f_plain (drb draws kq))), (.int (Int32.ofNat (2 * kq + 1))), (.ref a)]))
    refine Go.stCN (i := 2 * kq + 1) X hx hZ hT V_a (by show _ < 40; omega) (by omega) (by simp only [List.length_set]; omega) (hb hby d1_53) ?_
    intro T h2 hT Wr2 V_a X
    have N := Fr.app N (own_fr1 (i := 2 * kq + 1) ge_a)
    have KB := ((Keep.refl h0 [a]).wr Wr1 (Or.inl (List.mem_of_getElem? (i := 0) rfl))).wr Wr2 (Or.inl (List.mem_of_getElem? (i := 0) rfl))
    show Go p e below _ (T.setTop (mkF m 54 #[.val (.ref a), .val (.int (Int32.ofNat kq)), .val (.long kinds), .second, .val (.long draws), .second, .val (.int (kin kinds kq)), .val (.int (dra draws kq)), .val (.int (drb draws kq))] []))
    refine Go.st (fun _ k => XS.iconst X.here hx rfl (hb hby d1_54) k) ?_
    show Go p e below _ (T.setTop (mkF m 55 #[.val (.ref a), .val (.int (Int32.ofNat kq)), .val (.long kinds), .second, .val (.long draws), .second, .val (.int (kin kinds kq)), .val (.int (dra draws kq)), .val (.int (drb draws kq))] [(.int (0 : Int32))]))
    refine Go.ret X hx hlk hT hret rfl (riI (by simp)) (hb hby d1_55) (by decide) (by decide) ?_
    have eA : sA kinds draws kq = f_plain (dra draws kq) := by rw [sA, if_pos hc1]
    have eB : sB kinds draws kq = f_plain (drb draws kq) := by rw [sB, if_pos hc1]
    have eP : sP kinds kq = (0 : Int32) := by rw [sP, if_pos hc1]
    rw [own_narc (own_pl16 _), own_narc (own_pl16 _), ← eA, ← eB] at V_a
    exact ⟨by rw [eP], N, KB, V_a⟩
  · refine Go.st (fun _ k => XS.ifYes X.here hx rfl (pc0 := 29) (pc' := 56) rfl (hb hby d1_29) rfl (Jvm.Free.XT.i0_ne_t hc1) (by decide) (by decide) k) ?_
    show Go p e below _ (T.setTop (mkF m 56 #[.val (.ref a), .val (.int (Int32.ofNat kq)), .val (.long kinds), .second, .val (.long draws), .second, .val (.int (kin kinds kq)), .val (.int (dra draws kq)), .val (.int (drb draws kq))] []))
    refine Go.st (fun _ k => XS.iload X.here hx rfl (hb hby d1_56) rfl k) ?_
    show Go p e below _ (T.setTop (mkF m 58 #[.val (.ref a), .val (.int (Int32.ofNat kq)), .val (.long kinds), .second, .val (.long draws), .second, .val (.int (kin kinds kq)), .val (.int (dra draws kq)), .val (.int (drb draws kq))] [(.int (kin kinds kq))]))
    refine Go.st (fun _ k => XS.iconst X.here hx rfl (hb hby d1_58) k) ?_
    show Go p e below _ (T.setTop (mkF m 59 #[.val (.ref a), .val (.int (Int32.ofNat kq)), .val (.long kinds), .second, .val (.long draws), .second, .val (.int (kin kinds kq)), .val (.int (dra draws kq)), .val (.int (drb draws kq))] [(.int (1 : Int32)), (.int (kin kinds kq))]))
    by_cases hc2 : (kin kinds kq) = (1 : Int32)
    · refine Go.st (fun _ k => XS.icmpNo X.here hx rfl (hb hby d1_59) rfl (Jvm.Free.XT.ii_ne_f hc2) k) ?_
      show Go p e below _ (T.setTop (mkF m 62 #[.val (.ref a), .val (.int (Int32.ofNat kq)), .val (.long kinds), .second, .val (.long draws), .second, .val (.int (kin kinds kq)), .val (.int (dra draws kq)), .val (.int (drb draws kq))] []))
      refine Go.st (fun _ k => XS.aloadN X.here hx rfl (hb hby d1_62) rfl rfl k) ?_
      show Go p e below _ (T.setTop (mkF m 63 #[.val (.ref a), .val (.int (Int32.ofNat kq)), .val (.long kinds), .second, .val (.long draws), .second, .val (.int (kin kinds kq)), .val (.int (dra draws kq)), .val (.int (drb draws kq))] [(.ref a)]))
      refine Go.st (fun _ k => XS.iconst X.here hx rfl (hb hby d1_63) k) ?_
      show Go p e below _ (T.setTop (mkF m 64 #[.val (.ref a), .val (.int (Int32.ofNat kq)), .val (.long kinds), .second, .val (.long draws), .second, .val (.int (kin kinds kq)), .val (.int (dra draws kq)), .val (.int (drb draws kq))] [(.int (2 : Int32)), (.ref a)]))
      refine Go.st (fun _ k => XS.iloadN X.here hx rfl (hb hby d1_64) rfl k) ?_
      show Go p e below _ (T.setTop (mkF m 65 #[.val (.ref a), .val (.int (Int32.ofNat kq)), .val (.long kinds), .second, .val (.long draws), .second, .val (.int (kin kinds kq)), .val (.int (dra draws kq)), .val (.int (drb draws kq))] [(.int (Int32.ofNat kq)), (.int (2 : Int32)), (.ref a)]))
      refine Go.st (fun _ k => XS.imul X.here hx rfl (hb hby d1_65) rfl k) ?_
      show Go p e below _ (T.setTop (mkF m 66 #[.val (.ref a), .val (.int (Int32.ofNat kq)), .val (.long kinds), .second, .val (.long draws), .second, .val (.int (kin kinds kq)), .val (.int (dra draws kq)), .val (.int (drb draws kq))] [(.int ((2 : Int32) * (Int32.ofNat kq))), (.ref a)]))
      rw [own_mul2 (by omega)]
      show Go p e below _ (T.setTop (mkF m 66 #[.val (.ref a), .val (.int (Int32.ofNat kq)), .val (.long kinds), .second, .val (.long draws), .second, .val (.int (kin kinds kq)), .val (.int (dra draws kq)), .val (.int (drb draws kq))] [(.int (Int32.ofNat (2 * kq))), (.ref a)]))
      refine Go.st (fun _ k => XS.iload X.here hx rfl (hb hby d1_66) rfl k) ?_
      show Go p e below _ (T.setTop (mkF m 68 #[.val (.ref a), .val (.int (Int32.ofNat kq)), .val (.long kinds), .second, .val (.long draws), .second, .val (.int (kin kinds kq)), .val (.int (dra draws kq)), .val (.int (drb draws kq))] [(.int (dra draws kq)), (.int (Int32.ofNat (2 * kq))), (.ref a)]))
      refine Go.callV (argsL := [(.int (dra draws kq))]) (rest := [(.int (Int32.ofNat (2 * kq))), (.ref a)]) (W := 2) X hx hZ hown (hml.trans rfl) hT (hw _ (List.mem_of_getElem? (i := 5) rfl)) (hw _ (List.mem_of_getElem? (i := 6) rfl)) (hw _ (List.mem_of_getElem? (i := 3) rfl)) (hw _ (List.mem_of_getElem? (i := 7) rfl)) (by decide) pd_17 rfl rfl (Nat.le_of_ble_eq_true rfl) (hb hby d1_68) (backOf (W := 2) (met_high l Z a0 hw [] (dra draws kq) _) hZ (hw _ (List.mem_of_getElem? (i := 7) rfl)) (hw _ (List.mem_of_getElem? (i := 3) rfl)) (by decide) (by decide)) (by decide) (by decide) ?_
      intro T hT X
      show Go p e below _ (T.setTop (mkF m 71 #[.val (.ref a), .val (.int (Int32.ofNat kq)), .val (.long kinds), .second, .val (.long draws), .second, .val (.int (kin kinds kq)), .val (.int (dra draws kq)), .val (.int (drb draws kq))] [(.int (f_high (dra draws kq))), (.int (Int32.ofNat (2 * kq))), (.ref a)]))
      refine Go.stCN (i := 2 * kq) X hx hZ hT V_a (by show _ < 40; omega) (by omega) (by omega) (hb hby d1_71) ?_
      intro T h3 hT Wr1 V_a X
      have N := Fr.app N (own_fr1 (i := 2 * kq) ge_a)
      show Go p e below _ (T.setTop (mkF m 72 #[.val (.ref a), .val (.int (Int32.ofNat kq)), .val (.long kinds), .second, .val (.long draws), .second, .val (.int (kin kinds kq)), .val (.int (dra draws kq)), .val (.int (drb draws kq))] []))
      refine Go.st (fun _ k => XS.aloadN X.here hx rfl (hb hby d1_72) rfl rfl k) ?_
      show Go p e below _ (T.setTop (mkF m 73 #[.val (.ref a), .val (.int (Int32.ofNat kq)), .val (.long kinds), .second, .val (.long draws), .second, .val (.int (kin kinds kq)), .val (.int (dra draws kq)), .val (.int (drb draws kq))] [(.ref a)]))
      refine Go.st (fun _ k => XS.iconst X.here hx rfl (hb hby d1_73) k) ?_
      show Go p e below _ (T.setTop (mkF m 74 #[.val (.ref a), .val (.int (Int32.ofNat kq)), .val (.long kinds), .second, .val (.long draws), .second, .val (.int (kin kinds kq)), .val (.int (dra draws kq)), .val (.int (drb draws kq))] [(.int (2 : Int32)), (.ref a)]))
      refine Go.st (fun _ k => XS.iloadN X.here hx rfl (hb hby d1_74) rfl k) ?_
      show Go p e below _ (T.setTop (mkF m 75 #[.val (.ref a), .val (.int (Int32.ofNat kq)), .val (.long kinds), .second, .val (.long draws), .second, .val (.int (kin kinds kq)), .val (.int (dra draws kq)), .val (.int (drb draws kq))] [(.int (Int32.ofNat kq)), (.int (2 : Int32)), (.ref a)]))
      refine Go.st (fun _ k => XS.imul X.here hx rfl (hb hby d1_75) rfl k) ?_
      show Go p e below _ (T.setTop (mkF m 76 #[.val (.ref a), .val (.int (Int32.ofNat kq)), .val (.long kinds), .second, .val (.long draws), .second, .val (.int (kin kinds kq)), .val (.int (dra draws kq)), .val (.int (drb draws kq))] [(.int ((2 : Int32) * (Int32.ofNat kq))), (.ref a)]))
      rw [own_mul2 (by omega)]
      show Go p e below _ (T.setTop (mkF m 76 #[.val (.ref a), .val (.int (Int32.ofNat kq)), .val (.long kinds), .second, .val (.long draws), .second, .val (.int (kin kinds kq)), .val (.int (dra draws kq)), .val (.int (drb draws kq))] [(.int (Int32.ofNat (2 * kq))), (.ref a)]))
      refine Go.st (fun _ k => XS.iconst X.here hx rfl (hb hby d1_76) k) ?_
      show Go p e below _ (T.setTop (mkF m 77 #[.val (.ref a), .val (.int (Int32.ofNat kq)), .val (.long kinds), .second, .val (.long draws), .second, .val (.int (kin kinds kq)), .val (.int (dra draws kq)), .val (.int (drb draws kq))] [(.int (1 : Int32)), (.int (Int32.ofNat (2 * kq))), (.ref a)]))
      refine Go.st (fun _ k => XS.iadd X.here hx rfl (hb hby d1_77) rfl k) ?_
      show Go p e below _ (T.setTop (mkF m 78 #[.val (.ref a), .val (.int (Int32.ofNat kq)), .val (.long kinds), .second, .val (.long draws), .second, .val (.int (kin kinds kq)), .val (.int (dra draws kq)), .val (.int (drb draws kq))] [(.int ((Int32.ofNat (2 * kq)) + (1 : Int32))), (.ref a)]))
      rw [own_succ]
      show Go p e below _ (T.setTop (mkF m 78 #[.val (.ref a), .val (.int (Int32.ofNat kq)), .val (.long kinds), .second, .val (.long draws), .second, .val (.int (kin kinds kq)), .val (.int (dra draws kq)), .val (.int (drb draws kq))] [(.int (Int32.ofNat (2 * kq + 1))), (.ref a)]))
      refine Go.st (fun _ k => XS.iload X.here hx rfl (hb hby d1_78) rfl k) ?_
      show Go p e below _ (T.setTop (mkF m 80 #[.val (.ref a), .val (.int (Int32.ofNat kq)), .val (.long kinds), .second, .val (.long draws), .second, .val (.int (kin kinds kq)), .val (.int (dra draws kq)), .val (.int (drb draws kq))] [(.int (drb draws kq)), (.int (Int32.ofNat (2 * kq + 1))), (.ref a)]))
      refine Go.callV (argsL := [(.int (drb draws kq))]) (rest := [(.int (Int32.ofNat (2 * kq + 1))), (.ref a)]) (W := 2) X hx hZ hown (hml.trans rfl) hT (hw _ (List.mem_of_getElem? (i := 57) rfl)) (hw _ (List.mem_of_getElem? (i := 58) rfl)) (hw _ (List.mem_of_getElem? (i := 3) rfl)) (hw _ (List.mem_of_getElem? (i := 59) rfl)) (by decide) pd_17 rfl rfl (Nat.le_of_ble_eq_true rfl) (hb hby d1_80) (backOf (W := 2) (met_low l Z a0 hw [] (drb draws kq) _) hZ (hw _ (List.mem_of_getElem? (i := 59) rfl)) (hw _ (List.mem_of_getElem? (i := 3) rfl)) (by decide) (by decide)) (by decide) (by decide) ?_
      intro T hT X
      show Go p e below _ (T.setTop (mkF m 83 #[.val (.ref a), .val (.int (Int32.ofNat kq)), .val (.long kinds), .second, .val (.long draws), .second, .val (.int (kin kinds kq)), .val (.int (dra draws kq)), .val (.int (drb draws kq))] [(.int (f_low (drb draws kq))), (.int (Int32.ofNat (2 * kq + 1))), (.ref a)]))
      refine Go.stCN (i := 2 * kq + 1) X hx hZ hT V_a (by show _ < 40; omega) (by omega) (by simp only [List.length_set]; omega) (hb hby d1_83) ?_
      intro T h4 hT Wr2 V_a X
      have N := Fr.app N (own_fr1 (i := 2 * kq + 1) ge_a)
      have KB := ((Keep.refl h0 [a]).wr Wr1 (Or.inl (List.mem_of_getElem? (i := 0) rfl))).wr Wr2 (Or.inl (List.mem_of_getElem? (i := 0) rfl))
      show Go p e below _ (T.setTop (mkF m 84 #[.val (.ref a), .val (.int (Int32.ofNat kq)), .val (.long kinds), .second, .val (.long draws), .second, .val (.int (kin kinds kq)), .val (.int (dra draws kq)), .val (.int (drb draws kq))] []))
      refine Go.st (fun _ k => XS.iconst X.here hx rfl (hb hby d1_84) k) ?_
      show Go p e below _ (T.setTop (mkF m 85 #[.val (.ref a), .val (.int (Int32.ofNat kq)), .val (.long kinds), .second, .val (.long draws), .second, .val (.int (kin kinds kq)), .val (.int (dra draws kq)), .val (.int (drb draws kq))] [(.int (1 : Int32))]))
      refine Go.ret X hx hlk hT hret rfl (riI (by simp)) (hb hby d1_85) (by decide) (by decide) ?_
      have eA : sA kinds draws kq = f_high (dra draws kq) := by rw [sA, if_neg hc1, if_pos hc2]
      have eB : sB kinds draws kq = f_low (drb draws kq) := by rw [sB, if_neg hc1, if_pos hc2]
      have eP : sP kinds kq = (1 : Int32) := by rw [sP, if_neg hc1, if_pos hc2]
      rw [own_narc (own_hi16 _), own_narc (own_lo16 _), ← eA, ← eB] at V_a
      exact ⟨by rw [eP], N, KB, V_a⟩
    · refine Go.st (fun _ k => XS.icmpYes X.here hx rfl (pc0 := 59) (pc' := 86) rfl (hb hby d1_59) rfl (Jvm.Free.XT.ii_ne_t hc2) (by decide) (by decide) k) ?_
      show Go p e below _ (T.setTop (mkF m 86 #[.val (.ref a), .val (.int (Int32.ofNat kq)), .val (.long kinds), .second, .val (.long draws), .second, .val (.int (kin kinds kq)), .val (.int (dra draws kq)), .val (.int (drb draws kq))] []))
      refine Go.st (fun _ k => XS.iload X.here hx rfl (hb hby d1_86) rfl k) ?_
      show Go p e below _ (T.setTop (mkF m 88 #[.val (.ref a), .val (.int (Int32.ofNat kq)), .val (.long kinds), .second, .val (.long draws), .second, .val (.int (kin kinds kq)), .val (.int (dra draws kq)), .val (.int (drb draws kq))] [(.int (kin kinds kq))]))
      refine Go.st (fun _ k => XS.iconst X.here hx rfl (hb hby d1_88) k) ?_
      show Go p e below _ (T.setTop (mkF m 89 #[.val (.ref a), .val (.int (Int32.ofNat kq)), .val (.long kinds), .second, .val (.long draws), .second, .val (.int (kin kinds kq)), .val (.int (dra draws kq)), .val (.int (drb draws kq))] [(.int (2 : Int32)), (.int (kin kinds kq))]))
      by_cases hc3 : (kin kinds kq) = (2 : Int32)
      · refine Go.st (fun _ k => XS.icmpNo X.here hx rfl (hb hby d1_89) rfl (Jvm.Free.XT.ii_ne_f hc3) k) ?_
        show Go p e below _ (T.setTop (mkF m 92 #[.val (.ref a), .val (.int (Int32.ofNat kq)), .val (.long kinds), .second, .val (.long draws), .second, .val (.int (kin kinds kq)), .val (.int (dra draws kq)), .val (.int (drb draws kq))] []))
        refine Go.st (fun _ k => XS.aloadN X.here hx rfl (hb hby d1_92) rfl rfl k) ?_
        show Go p e below _ (T.setTop (mkF m 93 #[.val (.ref a), .val (.int (Int32.ofNat kq)), .val (.long kinds), .second, .val (.long draws), .second, .val (.int (kin kinds kq)), .val (.int (dra draws kq)), .val (.int (drb draws kq))] [(.ref a)]))
        refine Go.st (fun _ k => XS.iconst X.here hx rfl (hb hby d1_93) k) ?_
        show Go p e below _ (T.setTop (mkF m 94 #[.val (.ref a), .val (.int (Int32.ofNat kq)), .val (.long kinds), .second, .val (.long draws), .second, .val (.int (kin kinds kq)), .val (.int (dra draws kq)), .val (.int (drb draws kq))] [(.int (2 : Int32)), (.ref a)]))
        refine Go.st (fun _ k => XS.iloadN X.here hx rfl (hb hby d1_94) rfl k) ?_
        show Go p e below _ (T.setTop (mkF m 95 #[.val (.ref a), .val (.int (Int32.ofNat kq)), .val (.long kinds), .second, .val (.long draws), .second, .val (.int (kin kinds kq)), .val (.int (dra draws kq)), .val (.int (drb draws kq))] [(.int (Int32.ofNat kq)), (.int (2 : Int32)), (.ref a)]))
        refine Go.st (fun _ k => XS.imul X.here hx rfl (hb hby d1_95) rfl k) ?_
        show Go p e below _ (T.setTop (mkF m 96 #[.val (.ref a), .val (.int (Int32.ofNat kq)), .val (.long kinds), .second, .val (.long draws), .second, .val (.int (kin kinds kq)), .val (.int (dra draws kq)), .val (.int (drb draws kq))] [(.int ((2 : Int32) * (Int32.ofNat kq))), (.ref a)]))
        rw [own_mul2 (by omega)]
        show Go p e below _ (T.setTop (mkF m 96 #[.val (.ref a), .val (.int (Int32.ofNat kq)), .val (.long kinds), .second, .val (.long draws), .second, .val (.int (kin kinds kq)), .val (.int (dra draws kq)), .val (.int (drb draws kq))] [(.int (Int32.ofNat (2 * kq))), (.ref a)]))
        refine Go.st (fun _ k => XS.iload X.here hx rfl (hb hby d1_96) rfl k) ?_
        show Go p e below _ (T.setTop (mkF m 98 #[.val (.ref a), .val (.int (Int32.ofNat kq)), .val (.long kinds), .second, .val (.long draws), .second, .val (.int (kin kinds kq)), .val (.int (dra draws kq)), .val (.int (drb draws kq))] [(.int (dra draws kq)), (.int (Int32.ofNat (2 * kq))), (.ref a)]))
        refine Go.callV (argsL := [(.int (dra draws kq))]) (rest := [(.int (Int32.ofNat (2 * kq))), (.ref a)]) (W := 2) X hx hZ hown (hml.trans rfl) hT (hw _ (List.mem_of_getElem? (i := 57) rfl)) (hw _ (List.mem_of_getElem? (i := 58) rfl)) (hw _ (List.mem_of_getElem? (i := 3) rfl)) (hw _ (List.mem_of_getElem? (i := 59) rfl)) (by decide) pd_17 rfl rfl (Nat.le_of_ble_eq_true rfl) (hb hby d1_98) (backOf (W := 2) (met_low l Z a0 hw [] (dra draws kq) _) hZ (hw _ (List.mem_of_getElem? (i := 59) rfl)) (hw _ (List.mem_of_getElem? (i := 3) rfl)) (by decide) (by decide)) (by decide) (by decide) ?_
        intro T hT X
        show Go p e below _ (T.setTop (mkF m 101 #[.val (.ref a), .val (.int (Int32.ofNat kq)), .val (.long kinds), .second, .val (.long draws), .second, .val (.int (kin kinds kq)), .val (.int (dra draws kq)), .val (.int (drb draws kq))] [(.int (f_low (dra draws kq))), (.int (Int32.ofNat (2 * kq))), (.ref a)]))
        refine Go.stCN (i := 2 * kq) X hx hZ hT V_a (by show _ < 40; omega) (by omega) (by omega) (hb hby d1_101) ?_
        intro T h5 hT Wr1 V_a X
        have N := Fr.app N (own_fr1 (i := 2 * kq) ge_a)
        show Go p e below _ (T.setTop (mkF m 102 #[.val (.ref a), .val (.int (Int32.ofNat kq)), .val (.long kinds), .second, .val (.long draws), .second, .val (.int (kin kinds kq)), .val (.int (dra draws kq)), .val (.int (drb draws kq))] []))
        refine Go.st (fun _ k => XS.aloadN X.here hx rfl (hb hby d1_102) rfl rfl k) ?_
        show Go p e below _ (T.setTop (mkF m 103 #[.val (.ref a), .val (.int (Int32.ofNat kq)), .val (.long kinds), .second, .val (.long draws), .second, .val (.int (kin kinds kq)), .val (.int (dra draws kq)), .val (.int (drb draws kq))] [(.ref a)]))
        refine Go.st (fun _ k => XS.iconst X.here hx rfl (hb hby d1_103) k) ?_
        show Go p e below _ (T.setTop (mkF m 104 #[.val (.ref a), .val (.int (Int32.ofNat kq)), .val (.long kinds), .second, .val (.long draws), .second, .val (.int (kin kinds kq)), .val (.int (dra draws kq)), .val (.int (drb draws kq))] [(.int (2 : Int32)), (.ref a)]))
        refine Go.st (fun _ k => XS.iloadN X.here hx rfl (hb hby d1_104) rfl k) ?_
        show Go p e below _ (T.setTop (mkF m 105 #[.val (.ref a), .val (.int (Int32.ofNat kq)), .val (.long kinds), .second, .val (.long draws), .second, .val (.int (kin kinds kq)), .val (.int (dra draws kq)), .val (.int (drb draws kq))] [(.int (Int32.ofNat kq)), (.int (2 : Int32)), (.ref a)]))
        refine Go.st (fun _ k => XS.imul X.here hx rfl (hb hby d1_105) rfl k) ?_
        show Go p e below _ (T.setTop (mkF m 106 #[.val (.ref a), .val (.int (Int32.ofNat kq)), .val (.long kinds), .second, .val (.long draws), .second, .val (.int (kin kinds kq)), .val (.int (dra draws kq)), .val (.int (drb draws kq))] [(.int ((2 : Int32) * (Int32.ofNat kq))), (.ref a)]))
        rw [own_mul2 (by omega)]
        show Go p e below _ (T.setTop (mkF m 106 #[.val (.ref a), .val (.int (Int32.ofNat kq)), .val (.long kinds), .second, .val (.long draws), .second, .val (.int (kin kinds kq)), .val (.int (dra draws kq)), .val (.int (drb draws kq))] [(.int (Int32.ofNat (2 * kq))), (.ref a)]))
        refine Go.st (fun _ k => XS.iconst X.here hx rfl (hb hby d1_106) k) ?_
        show Go p e below _ (T.setTop (mkF m 107 #[.val (.ref a), .val (.int (Int32.ofNat kq)), .val (.long kinds), .second, .val (.long draws), .second, .val (.int (kin kinds kq)), .val (.int (dra draws kq)), .val (.int (drb draws kq))] [(.int (1 : Int32)), (.int (Int32.ofNat (2 * kq))), (.ref a)]))
        refine Go.st (fun _ k => XS.iadd X.here hx rfl (hb hby d1_107) rfl k) ?_
        show Go p e below _ (T.setTop (mkF m 108 #[.val (.ref a), .val (.int (Int32.ofNat kq)), .val (.long kinds), .second, .val (.long draws), .second, .val (.int (kin kinds kq)), .val (.int (dra draws kq)), .val (.int (drb draws kq))] [(.int ((Int32.ofNat (2 * kq)) + (1 : Int32))), (.ref a)]))
        rw [own_succ]
        show Go p e below _ (T.setTop (mkF m 108 #[.val (.ref a), .val (.int (Int32.ofNat kq)), .val (.long kinds), .second, .val (.long draws), .second, .val (.int (kin kinds kq)), .val (.int (dra draws kq)), .val (.int (drb draws kq))] [(.int (Int32.ofNat (2 * kq + 1))), (.ref a)]))
        refine Go.st (fun _ k => XS.iload X.here hx rfl (hb hby d1_108) rfl k) ?_
        show Go p e below _ (T.setTop (mkF m 110 #[.val (.ref a), .val (.int (Int32.ofNat kq)), .val (.long kinds), .second, .val (.long draws), .second, .val (.int (kin kinds kq)), .val (.int (dra draws kq)), .val (.int (drb draws kq))] [(.int (drb draws kq)), (.int (Int32.ofNat (2 * kq + 1))), (.ref a)]))
        refine Go.callV (argsL := [(.int (drb draws kq))]) (rest := [(.int (Int32.ofNat (2 * kq + 1))), (.ref a)]) (W := 2) X hx hZ hown (hml.trans rfl) hT (hw _ (List.mem_of_getElem? (i := 57) rfl)) (hw _ (List.mem_of_getElem? (i := 58) rfl)) (hw _ (List.mem_of_getElem? (i := 3) rfl)) (hw _ (List.mem_of_getElem? (i := 59) rfl)) (by decide) pd_17 rfl rfl (Nat.le_of_ble_eq_true rfl) (hb hby d1_110) (backOf (W := 2) (met_low l Z a0 hw [] (drb draws kq) _) hZ (hw _ (List.mem_of_getElem? (i := 59) rfl)) (hw _ (List.mem_of_getElem? (i := 3) rfl)) (by decide) (by decide)) (by decide) (by decide) ?_
        intro T hT X
        show Go p e below _ (T.setTop (mkF m 113 #[.val (.ref a), .val (.int (Int32.ofNat kq)), .val (.long kinds), .second, .val (.long draws), .second, .val (.int (kin kinds kq)), .val (.int (dra draws kq)), .val (.int (drb draws kq))] [(.int (f_low (drb draws kq))), (.int (Int32.ofNat (2 * kq + 1))), (.ref a)]))
        refine Go.stCN (i := 2 * kq + 1) X hx hZ hT V_a (by show _ < 40; omega) (by omega) (by simp only [List.length_set]; omega) (hb hby d1_113) ?_
        intro T h6 hT Wr2 V_a X
        have N := Fr.app N (own_fr1 (i := 2 * kq + 1) ge_a)
        have KB := ((Keep.refl h0 [a]).wr Wr1 (Or.inl (List.mem_of_getElem? (i := 0) rfl))).wr Wr2 (Or.inl (List.mem_of_getElem? (i := 0) rfl))
        show Go p e below _ (T.setTop (mkF m 114 #[.val (.ref a), .val (.int (Int32.ofNat kq)), .val (.long kinds), .second, .val (.long draws), .second, .val (.int (kin kinds kq)), .val (.int (dra draws kq)), .val (.int (drb draws kq))] []))
        refine Go.st (fun _ k => XS.iconst X.here hx rfl (hb hby d1_114) k) ?_
        show Go p e below _ (T.setTop (mkF m 115 #[.val (.ref a), .val (.int (Int32.ofNat kq)), .val (.long kinds), .second, .val (.long draws), .second, .val (.int (kin kinds kq)), .val (.int (dra draws kq)), .val (.int (drb draws kq))] [(.int (0 : Int32))]))
        refine Go.ret X hx hlk hT hret rfl (riI (by simp)) (hb hby d1_115) (by decide) (by decide) ?_
        have eA : sA kinds draws kq = f_low (dra draws kq) := by rw [sA, if_neg hc1, if_neg hc2, if_pos hc3]
        have eB : sB kinds draws kq = f_low (drb draws kq) := by rw [sB, if_neg hc1, if_neg hc2, if_pos hc3]
        have eP : sP kinds kq = (0 : Int32) := by rw [sP, if_neg hc1, if_neg hc2, if_pos hc3]
        rw [own_narc (own_lo16 _), own_narc (own_lo16 _), ← eA, ← eB] at V_a
        exact ⟨by rw [eP], N, KB, V_a⟩
      · refine Go.st (fun _ k => XS.icmpYes X.here hx rfl (pc0 := 89) (pc' := 116) rfl (hb hby d1_89) rfl (Jvm.Free.XT.ii_ne_t hc3) (by decide) (by decide) k) ?_
        show Go p e below _ (T.setTop (mkF m 116 #[.val (.ref a), .val (.int (Int32.ofNat kq)), .val (.long kinds), .second, .val (.long draws), .second, .val (.int (kin kinds kq)), .val (.int (dra draws kq)), .val (.int (drb draws kq))] []))
        refine Go.st (fun _ k => XS.aloadN X.here hx rfl (hb hby d1_116) rfl rfl k) ?_
        show Go p e below _ (T.setTop (mkF m 117 #[.val (.ref a), .val (.int (Int32.ofNat kq)), .val (.long kinds), .second, .val (.long draws), .second, .val (.int (kin kinds kq)), .val (.int (dra draws kq)), .val (.int (drb draws kq))] [(.ref a)]))
        refine Go.st (fun _ k => XS.iconst X.here hx rfl (hb hby d1_117) k) ?_
        show Go p e below _ (T.setTop (mkF m 118 #[.val (.ref a), .val (.int (Int32.ofNat kq)), .val (.long kinds), .second, .val (.long draws), .second, .val (.int (kin kinds kq)), .val (.int (dra draws kq)), .val (.int (drb draws kq))] [(.int (2 : Int32)), (.ref a)]))
        refine Go.st (fun _ k => XS.iloadN X.here hx rfl (hb hby d1_118) rfl k) ?_
        show Go p e below _ (T.setTop (mkF m 119 #[.val (.ref a), .val (.int (Int32.ofNat kq)), .val (.long kinds), .second, .val (.long draws), .second, .val (.int (kin kinds kq)), .val (.int (dra draws kq)), .val (.int (drb draws kq))] [(.int (Int32.ofNat kq)), (.int (2 : Int32)), (.ref a)]))
        refine Go.st (fun _ k => XS.imul X.here hx rfl (hb hby d1_119) rfl k) ?_
        show Go p e below _ (T.setTop (mkF m 120 #[.val (.ref a), .val (.int (Int32.ofNat kq)), .val (.long kinds), .second, .val (.long draws), .second, .val (.int (kin kinds kq)), .val (.int (dra draws kq)), .val (.int (drb draws kq))] [(.int ((2 : Int32) * (Int32.ofNat kq))), (.ref a)]))
        rw [own_mul2 (by omega)]
        show Go p e below _ (T.setTop (mkF m 120 #[.val (.ref a), .val (.int (Int32.ofNat kq)), .val (.long kinds), .second, .val (.long draws), .second, .val (.int (kin kinds kq)), .val (.int (dra draws kq)), .val (.int (drb draws kq))] [(.int (Int32.ofNat (2 * kq))), (.ref a)]))
        refine Go.st (fun _ k => XS.iload X.here hx rfl (hb hby d1_120) rfl k) ?_
        show Go p e below _ (T.setTop (mkF m 122 #[.val (.ref a), .val (.int (Int32.ofNat kq)), .val (.long kinds), .second, .val (.long draws), .second, .val (.int (kin kinds kq)), .val (.int (dra draws kq)), .val (.int (drb draws kq))] [(.int (dra draws kq)), (.int (Int32.ofNat (2 * kq))), (.ref a)]))
        refine Go.callV (argsL := [(.int (dra draws kq))]) (rest := [(.int (Int32.ofNat (2 * kq))), (.ref a)]) (W := 2) X hx hZ hown (hml.trans rfl) hT (hw _ (List.mem_of_getElem? (i := 5) rfl)) (hw _ (List.mem_of_getElem? (i := 6) rfl)) (hw _ (List.mem_of_getElem? (i := 3) rfl)) (hw _ (List.mem_of_getElem? (i := 7) rfl)) (by decide) pd_17 rfl rfl (Nat.le_of_ble_eq_true rfl) (hb hby d1_122) (backOf (W := 2) (met_high l Z a0 hw [] (dra draws kq) _) hZ (hw _ (List.mem_of_getElem? (i := 7) rfl)) (hw _ (List.mem_of_getElem? (i := 3) rfl)) (by decide) (by decide)) (by decide) (by decide) ?_
        intro T hT X
        show Go p e below _ (T.setTop (mkF m 125 #[.val (.ref a), .val (.int (Int32.ofNat kq)), .val (.long kinds), .second, .val (.long draws), .second, .val (.int (kin kinds kq)), .val (.int (dra draws kq)), .val (.int (drb draws kq))] [(.int (f_high (dra draws kq))), (.int (Int32.ofNat (2 * kq))), (.ref a)]))
        refine Go.stCN (i := 2 * kq) X hx hZ hT V_a (by show _ < 40; omega) (by omega) (by omega) (hb hby d1_125) ?_
        intro T h7 hT Wr1 V_a X
        have N := Fr.app N (own_fr1 (i := 2 * kq) ge_a)
        show Go p e below _ (T.setTop (mkF m 126 #[.val (.ref a), .val (.int (Int32.ofNat kq)), .val (.long kinds), .second, .val (.long draws), .second, .val (.int (kin kinds kq)), .val (.int (dra draws kq)), .val (.int (drb draws kq))] []))
        refine Go.st (fun _ k => XS.aloadN X.here hx rfl (hb hby d1_126) rfl rfl k) ?_
        show Go p e below _ (T.setTop (mkF m 127 #[.val (.ref a), .val (.int (Int32.ofNat kq)), .val (.long kinds), .second, .val (.long draws), .second, .val (.int (kin kinds kq)), .val (.int (dra draws kq)), .val (.int (drb draws kq))] [(.ref a)]))
        refine Go.st (fun _ k => XS.iconst X.here hx rfl (hb hby d1_127) k) ?_
        show Go p e below _ (T.setTop (mkF m 128 #[.val (.ref a), .val (.int (Int32.ofNat kq)), .val (.long kinds), .second, .val (.long draws), .second, .val (.int (kin kinds kq)), .val (.int (dra draws kq)), .val (.int (drb draws kq))] [(.int (2 : Int32)), (.ref a)]))
        refine Go.st (fun _ k => XS.iloadN X.here hx rfl (hb hby d1_128) rfl k) ?_
        show Go p e below _ (T.setTop (mkF m 129 #[.val (.ref a), .val (.int (Int32.ofNat kq)), .val (.long kinds), .second, .val (.long draws), .second, .val (.int (kin kinds kq)), .val (.int (dra draws kq)), .val (.int (drb draws kq))] [(.int (Int32.ofNat kq)), (.int (2 : Int32)), (.ref a)]))
        refine Go.st (fun _ k => XS.imul X.here hx rfl (hb hby d1_129) rfl k) ?_
        show Go p e below _ (T.setTop (mkF m 130 #[.val (.ref a), .val (.int (Int32.ofNat kq)), .val (.long kinds), .second, .val (.long draws), .second, .val (.int (kin kinds kq)), .val (.int (dra draws kq)), .val (.int (drb draws kq))] [(.int ((2 : Int32) * (Int32.ofNat kq))), (.ref a)]))
        rw [own_mul2 (by omega)]
        show Go p e below _ (T.setTop (mkF m 130 #[.val (.ref a), .val (.int (Int32.ofNat kq)), .val (.long kinds), .second, .val (.long draws), .second, .val (.int (kin kinds kq)), .val (.int (dra draws kq)), .val (.int (drb draws kq))] [(.int (Int32.ofNat (2 * kq))), (.ref a)]))
        refine Go.st (fun _ k => XS.iconst X.here hx rfl (hb hby d1_130) k) ?_
        show Go p e below _ (T.setTop (mkF m 131 #[.val (.ref a), .val (.int (Int32.ofNat kq)), .val (.long kinds), .second, .val (.long draws), .second, .val (.int (kin kinds kq)), .val (.int (dra draws kq)), .val (.int (drb draws kq))] [(.int (1 : Int32)), (.int (Int32.ofNat (2 * kq))), (.ref a)]))
        refine Go.st (fun _ k => XS.iadd X.here hx rfl (hb hby d1_131) rfl k) ?_
        show Go p e below _ (T.setTop (mkF m 132 #[.val (.ref a), .val (.int (Int32.ofNat kq)), .val (.long kinds), .second, .val (.long draws), .second, .val (.int (kin kinds kq)), .val (.int (dra draws kq)), .val (.int (drb draws kq))] [(.int ((Int32.ofNat (2 * kq)) + (1 : Int32))), (.ref a)]))
        rw [own_succ]
        show Go p e below _ (T.setTop (mkF m 132 #[.val (.ref a), .val (.int (Int32.ofNat kq)), .val (.long kinds), .second, .val (.long draws), .second, .val (.int (kin kinds kq)), .val (.int (dra draws kq)), .val (.int (drb draws kq))] [(.int (Int32.ofNat (2 * kq + 1))), (.ref a)]))
        refine Go.st (fun _ k => XS.iload X.here hx rfl (hb hby d1_132) rfl k) ?_
        show Go p e below _ (T.setTop (mkF m 134 #[.val (.ref a), .val (.int (Int32.ofNat kq)), .val (.long kinds), .second, .val (.long draws), .second, .val (.int (kin kinds kq)), .val (.int (dra draws kq)), .val (.int (drb draws kq))] [(.int (drb draws kq)), (.int (Int32.ofNat (2 * kq + 1))), (.ref a)]))
        refine Go.callV (argsL := [(.int (drb draws kq))]) (rest := [(.int (Int32.ofNat (2 * kq + 1))), (.ref a)]) (W := 2) X hx hZ hown (hml.trans rfl) hT (hw _ (List.mem_of_getElem? (i := 9) rfl)) (hw _ (List.mem_of_getElem? (i := 10) rfl)) (hw _ (List.mem_of_getElem? (i := 3) rfl)) (hw _ (List.mem_of_getElem? (i := 11) rfl)) (by decide) pd_17 rfl rfl (Nat.le_of_ble_eq_true rfl) (hb hby d1_134) (backOf (W := 2) (met_plain l Z a0 hw [] (drb draws kq) _) hZ (hw _ (List.mem_of_getElem? (i := 11) rfl)) (hw _ (List.mem_of_getElem? (i := 3) rfl)) (by decide) (by decide)) (by decide) (by decide) ?_
        intro T hT X
        show Go p e below _ (T.setTop (mkF m 137 #[.val (.ref a), .val (.int (Int32.ofNat kq)), .val (.long kinds), .second, .val (.long draws), .second, .val (.int (kin kinds kq)), .val (.int (dra draws kq)), .val (.int (drb draws kq))] [(.int (f_plain (drb draws kq))), (.int (Int32.ofNat (2 * kq + 1))), (.ref a)]))
        refine Go.stCN (i := 2 * kq + 1) X hx hZ hT V_a (by show _ < 40; omega) (by omega) (by simp only [List.length_set]; omega) (hb hby d1_137) ?_
        intro T h8 hT Wr2 V_a X
        have N := Fr.app N (own_fr1 (i := 2 * kq + 1) ge_a)
        have KB := ((Keep.refl h0 [a]).wr Wr1 (Or.inl (List.mem_of_getElem? (i := 0) rfl))).wr Wr2 (Or.inl (List.mem_of_getElem? (i := 0) rfl))
        show Go p e below _ (T.setTop (mkF m 138 #[.val (.ref a), .val (.int (Int32.ofNat kq)), .val (.long kinds), .second, .val (.long draws), .second, .val (.int (kin kinds kq)), .val (.int (dra draws kq)), .val (.int (drb draws kq))] []))
        refine Go.st (fun _ k => XS.iconst X.here hx rfl (hb hby d1_138) k) ?_
        show Go p e below _ (T.setTop (mkF m 139 #[.val (.ref a), .val (.int (Int32.ofNat kq)), .val (.long kinds), .second, .val (.long draws), .second, .val (.int (kin kinds kq)), .val (.int (dra draws kq)), .val (.int (drb draws kq))] [(.int (0 : Int32))]))
        refine Go.ret X hx hlk hT hret rfl (riI (by simp)) (hb hby d1_139) (by decide) (by decide) ?_
        have eA : sA kinds draws kq = f_high (dra draws kq) := by rw [sA, if_neg hc1, if_neg hc2, if_neg hc3]
        have eB : sB kinds draws kq = f_plain (drb draws kq) := by rw [sB, if_neg hc1, if_neg hc2, if_neg hc3]
        have eP : sP kinds kq = (0 : Int32) := by rw [sP, if_neg hc1, if_neg hc2, if_neg hc3]
        rw [own_narc (own_hi16 _), own_narc (own_pl16 _), ← eA, ← eB] at V_a
        exact ⟨by rw [eP], N, KB, V_a⟩
theorem pd_18 : parseMethodDescriptor "(II)I" = some ⟨[.int, .int], (some .int)⟩ := by decide +kernel
def f_m35 (cs : List Int32) : Int32 := (if (Int32.ofNat (cs.length - prs cs)) < (1 : Int32) then (0 : Int32) else (if (35 : Int32) < (Int32.ofNat (cs.length - prs cs)) then (0 : Int32) else (1 : Int32)))
theorem d4_0 : decode prog_52_method_2_code 0 = .ok (.aload_n 0, 1) := by decide +kernel
theorem d4_1 : decode prog_52_method_2_code 1 = .ok (.iconst 0, 1) := by decide +kernel
theorem d4_2 : decode prog_52_method_2_code 2 = .ok (.aload_n 0, 1) := by decide +kernel
theorem d4_3 : decode prog_52_method_2_code 3 = .ok (.invokevirtual 7, 3) := by decide +kernel
theorem d4_6 : decode prog_52_method_2_code 6 = .ok (.invokevirtual 13, 3) := by decide +kernel
theorem d4_9 : decode prog_52_method_2_code 9 = .ok (.istore_n 1, 1) := by decide +kernel
theorem d4_10 : decode prog_52_method_2_code 10 = .ok (.iload_n 1, 1) := by decide +kernel
theorem d4_11 : decode prog_52_method_2_code 11 = .ok (.iconst 1, 1) := by decide +kernel
theorem d4_12 : decode prog_52_method_2_code 12 = .ok (.if_icmp .lt 13, 3) := by decide +kernel
theorem d4_15 : decode prog_52_method_2_code 15 = .ok (.iload_n 1, 1) := by decide +kernel
theorem d4_16 : decode prog_52_method_2_code 16 = .ok (.bipush 35, 2) := by decide +kernel
theorem d4_18 : decode prog_52_method_2_code 18 = .ok (.if_icmp .gt 7, 3) := by decide +kernel
theorem d4_21 : decode prog_52_method_2_code 21 = .ok (.iconst 1, 1) := by decide +kernel
theorem d4_22 : decode prog_52_method_2_code 22 = .ok (.goto 4, 3) := by decide +kernel
theorem d4_25 : decode prog_52_method_2_code 25 = .ok (.iconst 0, 1) := by decide +kernel
theorem d4_26 : decode prog_52_method_2_code 26 = .ok (.ireturn, 1) := by decide +kernel
theorem pn_26 : plainFor (⟨"com/example/daugava/daugava/iso20022/Iso20022", "isMax35Text", "(Ljava/lang/String;)Z"⟩ : MethodName) = true := by first | exact plainFor_of_name (by first | (simp [plainName, overriddenIn]; done) | decide +kernel) | decide +kernel
theorem ef_A_2 (m : MethodId) (y0 : Addr) : entryFrame m #[(.ref y0)] 2 = mkF m 0 #[.val (.ref y0), .unset] [] := by first | (simp [entryFrame, mkF, argsToLocals, Value.category]; done) | rfl
set_option maxRecDepth 65536 in
set_option maxHeartbeats 40000000 in
theorem met_max35 (l : Launch) (Z : State) (a0 : Array Value) (hw : ∀ d ∈ tables_1, d.before a0 Z = true) (ws : List Jvm.Cond) (z : Int32) (n0 : Nat) (y : Addr) (cs : List Int32) (h0 : Heap) (O : Old Z n0 h0) (Sc : Stat Z z) (S16 : St16 Z) (S_y : Str Z h0 y cs) (hn : cs.length ≤ 40) :
    MetFree l (⟨"com/example/daugava/daugava/iso20022/Iso20022", "isMax35Text", "(Ljava/lang/String;)Z"⟩ : MethodName) (head1 (Jvm.Cond.code (⟨"com/example/daugava/daugava/iso20022/Iso20022", "isMax35Text", "(Ljava/lang/String;)Z"⟩ : MethodName) prog_52_method_2_code 2 (some .boolean) :: ws) ({ frames := 4, cells := 0, slots := 0, locals := 58 } : Room)) (fun aa U => aa = #[(.ref y)] ∧ Z.Warmed39 U.vm ∧ U.heap = h0) (fun _ _ _ _ _ => True) (fun _ U o U' => ∃ v L, o = .returned v ∧ QV (.int (f_m35 cs)) h0 v U'.heap L ∧ FrameEnd U o U' L ({ frames := 4, cells := 0, slots := 0, locals := 58 } : Room).cells ({ frames := 4, cells := 0, slots := 0, locals := 58 } : Room).slots) := by
  refine openP (y := (⟨"com/example/daugava/daugava/iso20022/Iso20022", "isMax35Text", "(Ljava/lang/String;)Z"⟩ : MethodName)) pn_26 ?_
  intro p e s m below meth c T hx hby hml hret hlk hnm hZ hown X hT
  refine Go.st (fun _ k => castTop (ef_A_2 m y) k) ?_
  show Go p e below _ (T.setTop (mkF m 0 #[.val (.ref y), .unset] []))
  refine Go.st (fun _ k => XS.aloadN X.here hx rfl (hb hby d4_0) rfl rfl k) ?_
  show Go p e below _ (T.setTop (mkF m 1 #[.val (.ref y), .unset] [(.ref y)]))
  refine Go.st (fun _ k => XS.iconst X.here hx rfl (hb hby d4_1) k) ?_
  show Go p e below _ (T.setTop (mkF m 2 #[.val (.ref y), .unset] [(.int (0 : Int32)), (.ref y)]))
  refine Go.st (fun _ k => XS.aloadN X.here hx rfl (hb hby d4_2) rfl rfl k) ?_
  show Go p e below _ (T.setTop (mkF m 3 #[.val (.ref y), .unset] [(.ref y), (.int (0 : Int32)), (.ref y)]))
  refine Go.virtV (K := "java/lang/String") (z := (⟨"java/lang/String", "length", "()I"⟩ : MethodName)) (argsL := []) (rest := [(.int (0 : Int32)), (.ref y)]) (W := 2) (w := (.int (Int32.ofNat cs.length))) X hx hZ hown (hml.trans rfl) hT S_y.exa (hw _ (List.mem_of_getElem? (i := 25) rfl)) (hw _ (List.mem_of_getElem? (i := 26) rfl)) (hw _ (List.mem_of_getElem? (i := 28) rfl)) (hw _ (List.mem_of_getElem? (i := 27) rfl)) (by decide) pd_13 rfl rfl (Nat.le_of_ble_eq_true rfl) (hb hby d4_3) (notFace_of_selects (args := #[]) (mvT hZ (hw _ (List.mem_of_getElem? (i := 28) rfl)))) (own_len (W := 2) hw hZ O Sc S_y (by decide) (by decide)) (by decide) (by decide) ?_
  intro T hT X
  show Go p e below _ (T.setTop (mkF m 6 #[.val (.ref y), .unset] [(.int (Int32.ofNat cs.length)), (.int (0 : Int32)), (.ref y)]))
  refine Go.virtV (K := "java/lang/String") (z := (⟨"java/lang/String", "codePointCount", "(II)I"⟩ : MethodName)) (argsL := [(.int (0 : Int32)), (.int (Int32.ofNat cs.length))]) (rest := []) (W := 0) (w := (.int (Int32.ofNat (cs.length - prs cs)))) X hx hZ hown (hml.trans rfl) hT S_y.exa (hw _ (List.mem_of_getElem? (i := 38) rfl)) (hw _ (List.mem_of_getElem? (i := 39) rfl)) (hw _ (List.mem_of_getElem? (i := 41) rfl)) (hw _ (List.mem_of_getElem? (i := 40) rfl)) (by decide) pd_18 rfl rfl (Nat.le_of_ble_eq_true rfl) (hb hby d4_6) (notFace_of_selects (args := #[]) (mvT hZ (hw _ (List.mem_of_getElem? (i := 41) rfl)))) (backOf (W := 0) (met_cpc l Z a0 hw [] z n0 y cs _ O Sc S16 S_y hn) hZ (hw _ (List.mem_of_getElem? (i := 42) rfl)) (hw _ (List.mem_of_getElem? (i := 14) rfl)) (by decide) (by decide)) (by decide) (by decide) ?_
  intro T hT X
  show Go p e below _ (T.setTop (mkF m 9 #[.val (.ref y), .unset] [(.int (Int32.ofNat (cs.length - prs cs)))]))
  refine Go.st (fun _ k => XS.istoreN X.here hx rfl (hb hby d4_9) rfl (l' := #[.val (.ref y), .val (.int (Int32.ofNat (cs.length - prs cs)))]) rfl k) ?_
  show Go p e below _ (T.setTop (mkF m 10 #[.val (.ref y), .val (.int (Int32.ofNat (cs.length - prs cs)))] []))
  refine Go.st (fun _ k => XS.iloadN X.here hx rfl (hb hby d4_10) rfl k) ?_
  show Go p e below _ (T.setTop (mkF m 11 #[.val (.ref y), .val (.int (Int32.ofNat (cs.length - prs cs)))] [(.int (Int32.ofNat (cs.length - prs cs)))]))
  refine Go.st (fun _ k => XS.iconst X.here hx rfl (hb hby d4_11) k) ?_
  show Go p e below _ (T.setTop (mkF m 12 #[.val (.ref y), .val (.int (Int32.ofNat (cs.length - prs cs)))] [(.int (1 : Int32)), (.int (Int32.ofNat (cs.length - prs cs)))]))
  by_cases hc1 : (Int32.ofNat (cs.length - prs cs)) < (1 : Int32)
  · refine Go.st (fun _ k => XS.icmpYes X.here hx rfl (pc0 := 12) (pc' := 25) rfl (hb hby d4_12) rfl (Jvm.Free.XT.ii_lt_t hc1) (by decide) (by decide) k) ?_
    show Go p e below _ (T.setTop (mkF m 25 #[.val (.ref y), .val (.int (Int32.ofNat (cs.length - prs cs)))] []))
    refine Go.st (fun _ k => XS.iconst X.here hx rfl (hb hby d4_25) k) ?_
    show Go p e below _ (T.setTop (mkF m 26 #[.val (.ref y), .val (.int (Int32.ofNat (cs.length - prs cs)))] [(.int (0 : Int32))]))
    refine Go.ret X hx hlk hT hret (by decide) (riI (by simp)) (hb hby d4_26) (by decide) (by decide) ?_
    exact ⟨congrArg (fun z => some (Value.int z)) (by rw [f_m35, if_pos hc1]), rfl, rfl⟩
  · refine Go.st (fun _ k => XS.icmpNo X.here hx rfl (hb hby d4_12) rfl (Jvm.Free.XT.ii_lt_f hc1) k) ?_
    show Go p e below _ (T.setTop (mkF m 15 #[.val (.ref y), .val (.int (Int32.ofNat (cs.length - prs cs)))] []))
    refine Go.st (fun _ k => XS.iloadN X.here hx rfl (hb hby d4_15) rfl k) ?_
    show Go p e below _ (T.setTop (mkF m 16 #[.val (.ref y), .val (.int (Int32.ofNat (cs.length - prs cs)))] [(.int (Int32.ofNat (cs.length - prs cs)))]))
    refine Go.st (fun _ k => XS.bipush X.here hx rfl (hb hby d4_16) k) ?_
    show Go p e below _ (T.setTop (mkF m 18 #[.val (.ref y), .val (.int (Int32.ofNat (cs.length - prs cs)))] [(.int (35 : Int32)), (.int (Int32.ofNat (cs.length - prs cs)))]))
    by_cases hc2 : (35 : Int32) < (Int32.ofNat (cs.length - prs cs))
    · refine Go.st (fun _ k => XS.icmpYes X.here hx rfl (pc0 := 18) (pc' := 25) rfl (hb hby d4_18) rfl (Jvm.Free.XT.ii_gt_t hc2) (by decide) (by decide) k) ?_
      show Go p e below _ (T.setTop (mkF m 25 #[.val (.ref y), .val (.int (Int32.ofNat (cs.length - prs cs)))] []))
      refine Go.st (fun _ k => XS.iconst X.here hx rfl (hb hby d4_25) k) ?_
      show Go p e below _ (T.setTop (mkF m 26 #[.val (.ref y), .val (.int (Int32.ofNat (cs.length - prs cs)))] [(.int (0 : Int32))]))
      refine Go.ret X hx hlk hT hret (by decide) (riI (by simp)) (hb hby d4_26) (by decide) (by decide) ?_
      exact ⟨congrArg (fun z => some (Value.int z)) (by rw [f_m35, if_neg hc1, if_pos hc2]), rfl, rfl⟩
    · refine Go.st (fun _ k => XS.icmpNo X.here hx rfl (hb hby d4_18) rfl (Jvm.Free.XT.ii_gt_f hc2) k) ?_
      show Go p e below _ (T.setTop (mkF m 21 #[.val (.ref y), .val (.int (Int32.ofNat (cs.length - prs cs)))] []))
      refine Go.st (fun _ k => XS.iconst X.here hx rfl (hb hby d4_21) k) ?_
      show Go p e below _ (T.setTop (mkF m 22 #[.val (.ref y), .val (.int (Int32.ofNat (cs.length - prs cs)))] [(.int (1 : Int32))]))
      refine Go.st (fun _ k => XS.goto X.here hx rfl (pc0 := 22) (pc' := 26) rfl (hb hby d4_22) (by decide) (by decide) k) ?_
      show Go p e below _ (T.setTop (mkF m 26 #[.val (.ref y), .val (.int (Int32.ofNat (cs.length - prs cs)))] [(.int (1 : Int32))]))
      refine Go.ret X hx hlk hT hret (by decide) (riI (by simp)) (hb hby d4_26) (by decide) (by decide) ?_
      exact ⟨congrArg (fun z => some (Value.int z)) (by rw [f_m35, if_neg hc1, if_neg hc2]), rfl, rfl⟩
def QTw (Z : State) (n0 : Nat) (ch : Int32) (h0 : Heap) (v : Option Value) (h : Heap) (L : List Loc) : Prop := ∃ (r : Addr) (kr : ClassId), v = some (.ref r) ∧ Fr n0 L ∧ h0.size ≤ r ∧ Ext h0 h ∧ Arv Z h r kr .byte (2 : Int32) [.int (StrChars.lo8 ch), .int (StrChars.hi8 ch)] (.int 0)
theorem d29_0 : decode jdk_52_method_24_code 0 = .ok (.iconst 2, 1) := by decide +kernel
theorem d29_1 : decode jdk_52_method_24_code 1 = .ok (.newarray .byte, 2) := by decide +kernel
theorem d29_3 : decode jdk_52_method_24_code 3 = .ok (.astore_n 1, 1) := by decide +kernel
theorem d29_4 : decode jdk_52_method_24_code 4 = .ok (.aload_n 1, 1) := by decide +kernel
theorem d29_5 : decode jdk_52_method_24_code 5 = .ok (.iconst 0, 1) := by decide +kernel
theorem d29_6 : decode jdk_52_method_24_code 6 = .ok (.iload_n 0, 1) := by decide +kernel
theorem d29_7 : decode jdk_52_method_24_code 7 = .ok (.invokestatic 111, 3) := by decide +kernel
theorem d29_10 : decode jdk_52_method_24_code 10 = .ok (.aload_n 1, 1) := by decide +kernel
theorem d29_11 : decode jdk_52_method_24_code 11 = .ok (.areturn, 1) := by decide +kernel
theorem pn_27 : plainFor (⟨"java/lang/StringUTF16", "toBytes", "(C)[B"⟩ : MethodName) = true := by first | exact plainFor_of_name (by first | (simp [plainName, overriddenIn]; done) | decide +kernel) | decide +kernel
set_option maxRecDepth 65536 in
set_option maxHeartbeats 40000000 in
theorem met_tobw (l : Launch) (Z : State) (a0 : Array Value) (hw : ∀ d ∈ tables_1, d.before a0 Z = true) (ws : List Jvm.Cond) (n0 : Nat) (ch : Int32) (h0 : Heap) (O : Old Z n0 h0) (S16 : St16 Z) :
    MetFree l (⟨"java/lang/StringUTF16", "toBytes", "(C)[B"⟩ : MethodName) (head1 (Jvm.Cond.code (⟨"java/lang/StringUTF16", "toBytes", "(C)[B"⟩ : MethodName) jdk_52_method_24_code 2 (some (.array .byte)) :: ws) ({ frames := 1, cells := 1, slots := 2, locals := 14 } : Room)) (fun aa U => aa = #[(.int ch)] ∧ Z.Warmed39 U.vm ∧ U.heap = h0) (fun _ _ _ _ _ => True) (fun _ U o U' => ∃ v L, o = .returned v ∧ QTw Z n0 ch h0 v U'.heap L ∧ FrameEnd U o U' L ({ frames := 1, cells := 1, slots := 2, locals := 14 } : Room).cells ({ frames := 1, cells := 1, slots := 2, locals := 14 } : Room).slots) := by
  refine openP (y := (⟨"java/lang/StringUTF16", "toBytes", "(C)[B"⟩ : MethodName)) pn_27 ?_
  intro p e s m below meth c T hx hby hml hret hlk hnm hZ hown X hT
  refine Go.st (fun _ k => castTop (ef_I_2 m ch) k) ?_
  show Go p e below _ (T.setTop (mkF m 0 #[.val (.int ch), .unset] []))
  have N := Fr.nil n0
  have K0b : Keep h0 h0 [] := Keep.refl _ _
  refine Go.st (fun _ k => XS.iconst X.here hx rfl (hb hby d29_0) k) ?_
  show Go p e below _ (T.setTop (mkF m 1 #[.val (.int ch), .unset] [(.int (2 : Int32))]))
  obtain ⟨T, h1, k_r, X, hT, Ex0, A_r, st⟩ := newP X hx hZ (hw _ (List.mem_of_getElem? (i := 16) rfl)) hT (g := (mkF m 1 #[.val (.int ch), .unset] [(.int (2 : Int32))])) rfl (hb hby d29_1) rfl (by decide : ¬ ((2 : Int32) < (0 : Int32))) (cap := 2) (by decide) (by decide) (by decide) (by decide)
  obtain ⟨r, g_r⟩ : ∃ z, z = h0.size := ⟨_, rfl⟩
  rw [← g_r] at A_r st
  refine Go.st st ?_
  have ge_r : n0 ≤ r := Nat.le_trans (own_le (O)) (Nat.le_of_eq g_r.symm)
  have gk_r : h0.size ≤ r := Nat.le_trans (Keep.refl h0 []).1 (Nat.le_of_eq g_r.symm)
  have KB := (Keep.refl h0 []).ext Ex0
  have V_r : Arv Z _ r k_r .byte (2 : Int32) [(.int (0 : Int32)), (.int (0 : Int32))] (.int (0 : Int32)) := (Arv.new A_r (by decide)).pad (pad_rep [] (.int (0 : Int32)) 2)
  show Go p e below _ (T.setTop (mkF m 3 #[.val (.int ch), .unset] [(.ref r)]))
  refine Go.st (fun _ k => XS.astoreN X.here hx rfl (hb hby d29_3) rfl rfl (l' := #[.val (.int ch), .val (.ref r)]) rfl k) ?_
  show Go p e below _ (T.setTop (mkF m 4 #[.val (.int ch), .val (.ref r)] []))
  refine Go.st (fun _ k => XS.aloadN X.here hx rfl (hb hby d29_4) rfl rfl k) ?_
  show Go p e below _ (T.setTop (mkF m 5 #[.val (.int ch), .val (.ref r)] [(.ref r)]))
  refine Go.st (fun _ k => XS.iconst X.here hx rfl (hb hby d29_5) k) ?_
  show Go p e below _ (T.setTop (mkF m 6 #[.val (.int ch), .val (.ref r)] [(.int (0 : Int32)), (.ref r)]))
  refine Go.st (fun _ k => XS.iloadN X.here hx rfl (hb hby d29_6) rfl k) ?_
  show Go p e below _ (T.setTop (mkF m 7 #[.val (.int ch), .val (.ref r)] [(.int ch), (.int (0 : Int32)), (.ref r)]))
  refine Go.callP (argsL := [(.ref r), (.int (0 : Int32)), (.int ch)]) (rest := []) (W := 0) (ck := 0) (sk := 0) X hx hZ hown (hml.trans rfl) hT (hw _ (List.mem_of_getElem? (i := 89) rfl)) (hw _ (List.mem_of_getElem? (i := 90) rfl)) (hw _ (List.mem_of_getElem? (i := 74) rfl)) (hw _ (List.mem_of_getElem? (i := 91) rfl)) (by decide) pd_2 rfl rfl (Nat.le_of_ble_eq_true rfl) (hb hby d29_7) (backOf (W := 0) (met_putc l Z a0 hw [] n0 r k_r 2 _ 0 ch _ (O.keep KB all0) S16 ge_r V_r (by omega) (by omega) (by simp)) hZ (hw _ (List.mem_of_getElem? (i := 91) rfl)) (hw _ (List.mem_of_getElem? (i := 74) rfl)) (by decide) (by decide)) (by decide) (by decide) ?_
  intro v T h2 L hT hQ X
  obtain ⟨rfl, N0, K0, V_r⟩ := hQ
  have N := Fr.app N N0
  have KB := (KB).trans K0 (allS (Or.inr gk_r) all0)
  show Go p e below _ (T.setTop (mkF m 10 #[.val (.int ch), .val (.ref r)] []))
  refine Go.st (fun _ k => XS.aloadN X.here hx rfl (hb hby d29_10) rfl rfl k) ?_
  show Go p e below _ (T.setTop (mkF m 11 #[.val (.int ch), .val (.ref r)] [(.ref r)]))
  refine Go.ret X hx hlk hT hret rfl (riA rfl rfl) (hb hby d29_11) (by decide) (by decide) ?_
  have gk := gk_r
  have O := O.keep KB all0
  have K0b := K0b.trans KB (fun _ q => nomatch q)
  exact ⟨r, k_r, rfl, N, gk, keepE K0b, V_r⟩
theorem own_w1 {ch : Int32} (h : M16 ch) : ∀ c ∈ [ch], ¬ c < 0 ∧ ¬ (65535 : Int32) < c := fun c q => by cases List.mem_singleton.mp q; exact h
theorem d27_26 : decode jdk_42_method_139_code 26 = .ok (.new 10, 3) := by decide +kernel
theorem d27_29 : decode jdk_42_method_139_code 29 = .ok (.dup, 1) := by decide +kernel
theorem d27_30 : decode jdk_42_method_139_code 30 = .ok (.iload_n 0, 1) := by decide +kernel
theorem d27_31 : decode jdk_42_method_139_code 31 = .ok (.invokestatic 1021, 3) := by decide +kernel
theorem d27_34 : decode jdk_42_method_139_code 34 = .ok (.iconst 1, 1) := by decide +kernel
theorem d27_35 : decode jdk_42_method_139_code 35 = .ok (.invokespecial 209, 3) := by decide +kernel
theorem d27_38 : decode jdk_42_method_139_code 38 = .ok (.areturn, 1) := by decide +kernel
set_option maxRecDepth 65536 in
set_option maxHeartbeats 40000000 in
theorem met_valofw (l : Launch) (Z : State) (a0 : Array Value) (hw : ∀ d ∈ tables_1, d.before a0 Z = true) (ws : List Jvm.Cond) (n0 : Nat) (ch z : Int32) (h0 : Heap) (O : Old Z n0 h0) (Sc : Stat Z z) (S16 : St16 Z) (hc : M16 ch) (hc1 : (255 : Int32) < ch) :
    MetFree l (⟨"java/lang/String", "valueOf", "(C)Ljava/lang/String;"⟩ : MethodName) (head1 (Jvm.Cond.code (⟨"java/lang/String", "valueOf", "(C)Ljava/lang/String;"⟩ : MethodName) jdk_42_method_139_code 1 (some (.object "java/lang/String")) :: ws) ({ frames := 2, cells := 2, slots := 6, locals := 29 } : Room)) (fun aa U => aa = #[(.int ch)] ∧ Z.Warmed39 U.vm ∧ U.heap = h0) (fun _ _ _ _ _ => True) (fun _ U o U' => ∃ v L, o = .returned v ∧ QStr Z n0 [ch] h0 v U'.heap L ∧ FrameEnd U o U' L ({ frames := 2, cells := 2, slots := 6, locals := 29 } : Room).cells ({ frames := 2, cells := 2, slots := 6, locals := 29 } : Room).slots) := by
  refine openP (y := (⟨"java/lang/String", "valueOf", "(C)Ljava/lang/String;"⟩ : MethodName)) pn_13 ?_
  intro p e s m below meth c T hx hby hml hret hlk hnm hZ hown X hT
  refine Go.st (fun _ k => castTop (ef_I_1 m ch) k) ?_
  show Go p e below _ (T.setTop (mkF m 0 #[.val (.int ch)] []))
  have N := Fr.nil n0
  have K0b : Keep h0 h0 [] := Keep.refl _ _
  obtain ⟨T, X, hT, st⟩ := getS2 X hx hZ hown (host := "") (Or.inl (hw _ (List.mem_of_getElem? (i := 36) rfl))) Via.refl hT (Sc.1.ext O.2) (g := (mkF m 0 #[.val (.int ch)] [])) rfl (hb hby d27_0)
  refine Go.st st ?_
  show Go p e below _ (T.setTop (mkF m 3 #[.val (.int ch)] [(.int z)]))
  refine Go.st (fun _ k => XS.ifNo X.here hx rfl (hb hby d27_3) rfl (Jvm.Free.XT.i0_eq_f (Sc.2 : ¬ (z = (0 : Int32)))) k) ?_
  show Go p e below _ (T.setTop (mkF m 6 #[.val (.int ch)] []))
  refine Go.st (fun _ k => XS.iloadN X.here hx rfl (hb hby d27_6) rfl k) ?_
  show Go p e below _ (T.setTop (mkF m 7 #[.val (.int ch)] [(.int ch)]))
  refine Go.callV (argsL := [(.int ch)]) (rest := []) (W := 0) X hx hZ hown (hml.trans rfl) hT (hw _ (List.mem_of_getElem? (i := 121) rfl)) (hw _ (List.mem_of_getElem? (i := 122) rfl)) (hw _ (List.mem_of_getElem? (i := 123) rfl)) (hw _ (List.mem_of_getElem? (i := 124) rfl)) (by decide) pd_8 rfl rfl (Nat.le_of_ble_eq_true rfl) (hb hby d27_7) (backOf (W := 0) (met_canenc l Z a0 hw [] ch _) hZ (hw _ (List.mem_of_getElem? (i := 124) rfl)) (hw _ (List.mem_of_getElem? (i := 123) rfl)) (by decide) (by decide)) (by decide) (by decide) ?_
  intro T hT X
  show Go p e below _ (T.setTop (mkF m 10 #[.val (.int ch)] [(.int (f_canenc ch))]))
  refine Go.st (fun _ k => XS.ifYes X.here hx rfl (pc0 := 10) (pc' := 26) rfl (hb hby d27_10) rfl (Jvm.Free.XT.i0_eq_t (by rw [f_canenc, if_pos hc1] : (f_canenc ch) = (0 : Int32))) (by decide) (by decide) k) ?_
  show Go p e below _ (T.setTop (mkF m 26 #[.val (.int ch)] []))
  obtain ⟨T, h1, X, hT, Ex0, A_x, D_x, -, st⟩ := newO X hx hZ hown (hw _ (List.mem_of_getElem? (i := 125) rfl)) (hw _ (List.mem_of_getElem? (i := 15) rfl)) (hw _ (List.mem_of_getElem? (i := 14) rfl)) hT (g := (mkF m 26 #[.val (.int ch)] [])) rfl (hb hby d27_26) (by decide) (by decide)
  obtain ⟨x, g_x⟩ : ∃ z, z = h0.size := ⟨_, rfl⟩
  rw [← g_x] at A_x D_x st
  refine Go.st st ?_
  have ge_x : n0 ≤ x := Nat.le_trans (own_le (O)) (Nat.le_of_eq g_x.symm)
  have gk_x : h0.size ≤ x := Nat.le_trans (Keep.refl h0 []).1 (Nat.le_of_eq g_x.symm)
  have KB := (Keep.refl h0 []).ext Ex0
  have F_x_value := D_x (Or.inr (hw _ (List.mem_of_getElem? (i := 17) rfl))) (ty := (.array .byte)) (by decide)
  have F_x_coder := D_x (Or.inr (hw _ (List.mem_of_getElem? (i := 18) rfl))) (ty := .byte) (by decide)
  show Go p e below _ (T.setTop (mkF m 29 #[.val (.int ch)] [(.ref x)]))
  refine Go.st (fun _ k => XS.dup X.here hx rfl (hb hby d27_29) rfl rfl k) ?_
  show Go p e below _ (T.setTop (mkF m 30 #[.val (.int ch)] [(.ref x), (.ref x)]))
  refine Go.st (fun _ k => XS.iloadN X.here hx rfl (hb hby d27_30) rfl k) ?_
  show Go p e below _ (T.setTop (mkF m 31 #[.val (.int ch)] [(.int ch), (.ref x), (.ref x)]))
  refine Go.callP (argsL := [(.int ch)]) (rest := [(.ref x), (.ref x)]) (W := 2) (ck := 1) (sk := 2) X hx hZ hown (hml.trans rfl) hT (hw _ (List.mem_of_getElem? (i := 126) rfl)) (hw _ (List.mem_of_getElem? (i := 127) rfl)) (hw _ (List.mem_of_getElem? (i := 74) rfl)) (hw _ (List.mem_of_getElem? (i := 128) rfl)) (by decide) pd_9 rfl rfl (Nat.le_of_ble_eq_true rfl) (hb hby d27_31) (backOf (W := 2) (met_tobw l Z a0 hw [] n0 ch _ (O.keep KB all0) S16) hZ (hw _ (List.mem_of_getElem? (i := 128) rfl)) (hw _ (List.mem_of_getElem? (i := 74) rfl)) (by decide) (by decide)) (by decide) (by decide) ?_
  intro v T h2 L hT hQ X
  obtain ⟨r, kr, rfl, N0, gk_r, Ex0, V_r⟩ := hQ
  have N := Fr.app N N0
  have A_x := A_x.ext Ex0
  have F_x_value := F_x_value.ext Ex0
  have F_x_coder := F_x_coder.ext Ex0
  have KB := (KB).ext Ex0
  have ne_x_r : x ≠ r := Exa.neArv A_x V_r (hw _ (List.mem_of_getElem? (i := 15) rfl))
  show Go p e below _ (T.setTop (mkF m 34 #[.val (.int ch)] [(.ref r), (.ref x), (.ref x)]))
  refine Go.st (fun _ k => XS.iconst X.here hx rfl (hb hby d27_34) k) ?_
  show Go p e below _ (T.setTop (mkF m 35 #[.val (.int ch)] [(.int (1 : Int32)), (.ref r), (.ref x), (.ref x)]))
  refine Go.specP (argsL := [(.ref r), (.int (1 : Int32))]) (rest := [(.ref x)]) (W := 1) (ck := 0) (sk := 0) X hx hZ hown (hml.trans rfl) hT rfl (hw _ (List.mem_of_getElem? (i := 129) rfl)) (hw _ (List.mem_of_getElem? (i := 130) rfl)) (hw _ (List.mem_of_getElem? (i := 131) rfl)) (by decide) pd_10 rfl rfl (Nat.le_of_ble_eq_true rfl) (hb hby d27_35) (backOf (W := 1) (met_bb l Z a0 hw [] n0 x r (1 : Int32) _ (Or.inr rfl) ge_x A_x F_x_value F_x_coder) hZ (hw _ (List.mem_of_getElem? (i := 131) rfl)) (hw _ (List.mem_of_getElem? (i := 14) rfl)) (by decide) (by decide)) (by decide) (by decide) ?_
  intro v T h3 L hT hQ X
  obtain ⟨rfl, N0, K0, E0, F0, C0⟩ := hQ
  have N := Fr.app N N0
  have V_r := V_r.keep K0 (ninS ne_x_r.symm nin0)
  have KB := (KB).trans K0 (allS (Or.inr gk_x) all0)
  have S_x : Str Z h3 x [ch] := ⟨_, _, _, _, _, E0, F0, C0, V_r, Or.inr ⟨rfl, rfl, rfl, ch, by simp, hc1⟩, own_w1 hc, Nat.le_of_ble_eq_true rfl⟩
  have O := O.keep KB all0
  have K0b := K0b.trans KB (fun _ q => nomatch q)
  show Go p e below _ (T.setTop (mkF m 38 #[.val (.int ch)] [(.ref x)]))
  refine Go.ret X hx hlk hT hret rfl (riA rfl rfl) (hb hby d27_38) (by decide) (by decide) ?_
  exact ⟨x, rfl, N, keepE K0b, S_x⟩
theorem own_fin8192 : ∀ r : Fin 2048, (55296 + r.val) ^^^ 8192 = 63488 + r.val := by decide +kernel
theorem own_x8192 {v : Int32} (h1 : 55296 ≤ v.toInt) (h2 : v.toInt ≤ 57343) : (v ^^^ (8192 : Int32)).toInt = v.toInt + 8192 := by
  have q := BitVec.toInt_eq_toNat_cond v.toBitVec
  have e : v.toBitVec.toInt = v.toInt := rfl
  have l1 := v.toBitVec.isLt
  have hn : (v.toBitVec.toNat : Int) = v.toInt := by split at q <;> omega
  have e1 : (v ^^^ (8192 : Int32)).toBitVec.toNat = v.toBitVec.toNat ^^^ 8192 := by rw [Int32.toBitVec_xor, BitVec.toNat_xor]; rfl
  have f := own_fin8192 ⟨v.toBitVec.toNat - 55296, by omega⟩
  simp only at f
  rw [show 55296 + (v.toBitVec.toNat - 55296) = v.toBitVec.toNat from by omega] at f
  rw [f] at e1
  have q2 := BitVec.toInt_eq_toNat_cond (v ^^^ (8192 : Int32)).toBitVec
  have e' : (v ^^^ (8192 : Int32)).toBitVec.toInt = (v ^^^ (8192 : Int32)).toInt := rfl
  split at q2 <;> omega
theorem own_nolh {y : Int32} (h : ¬ f_ls y = 0) : f_hs y = 0 := by
  rw [f_hs]
  rw [f_ls] at h
  by_cases a : y < (56320 : Int32)
  · rw [if_pos a] at h; exact absurd rfl h
  · by_cases b : y < (55296 : Int32)
    · rw [if_pos b]
    · rw [if_neg b, if_neg a]
def pr (c d : Int32) : Nat := if f_hs c = (0 : Int32) then 0 else if f_ls d = (0 : Int32) then 0 else 1
theorem prs_pr (c d : Int32) (r : List Int32) : prs (c :: d :: r) = pr c d + prs (d :: r) := by
  rw [prs, pr]
  split
  · omega
  · split
    · omega
    · rename_i h1 h2
      cases r with
      | nil => simp [prs]
      | cons e r => rw [show prs (d :: e :: r) = prs (e :: r) from by rw [prs, if_pos (own_nolh h2)]]; omega
/-- in a toInt range -/
theorem own_hsI {y : Int32} : f_hs y = if 55296 ≤ y.toInt ∧ y.toInt < 56320 then (1 : Int32) else 0 := by
  rw [f_hs]
  have e1 : (55296 : Int32).toInt = 55296 := by decide
  have e2 : (56320 : Int32).toInt = 56320 := by decide
  by_cases a : y < (55296 : Int32)
  · rw [if_pos a, if_neg]; rw [Int32.lt_iff_toInt_lt, e1] at a; omega
  · rw [if_neg a]
    rw [Int32.lt_iff_toInt_lt, e1] at a
    by_cases b : y < (56320 : Int32)
    · rw [if_pos b, if_pos]; rw [Int32.lt_iff_toInt_lt, e2] at b; omega
    · rw [if_neg b, if_neg]; rw [Int32.lt_iff_toInt_lt, e2] at b; omega
theorem own_lsI {y : Int32} : f_ls y = if 56320 ≤ y.toInt ∧ y.toInt < 57344 then (1 : Int32) else 0 := by
  rw [f_ls]
  have e1 : (56320 : Int32).toInt = 56320 := by decide
  have e2 : (57344 : Int32).toInt = 57344 := by decide
  by_cases a : y < (56320 : Int32)
  · rw [if_pos a, if_neg]; rw [Int32.lt_iff_toInt_lt, e1] at a; omega
  · rw [if_neg a]
    rw [Int32.lt_iff_toInt_lt, e1] at a
    by_cases b : y < (57344 : Int32)
    · rw [if_pos b, if_pos]; rw [Int32.lt_iff_toInt_lt, e2] at b; omega
    · rw [if_neg b, if_neg]; rw [Int32.lt_iff_toInt_lt, e2] at b; omega
theorem own_hiR (y : Int32) : 55296 ≤ (f_high y).toInt ∧ (f_high y).toInt < 56320 := by
  rw [f_high]
  have h1 := c_and y 1023 (by decide)
  have e1 : (1023 : Int32).toInt = 1023 := by decide
  rw [e1] at h1
  have h2 := c_or (55296 : Int32) (y &&& 1023) 10 (by decide) 1024 (by decide) (by decide) h1.1 (by omega)
  have e2 : (55296 : Int32).toInt = 55296 := by decide
  rw [e2] at h2
  have h3 := rng32 ((55296 : Int32) ||| (y &&& 1023))
  have h4 := c_i2c ((55296 : Int32) ||| (y &&& 1023))
  omega
theorem own_loR (y : Int32) : 56320 ≤ (f_low y).toInt ∧ (f_low y).toInt < 57344 := by
  rw [f_low]
  have h1 := c_and y 1023 (by decide)
  have e1 : (1023 : Int32).toInt = 1023 := by decide
  rw [e1] at h1
  have h2 := c_or (56320 : Int32) (y &&& 1023) 10 (by decide) 1024 (by decide) (by decide) h1.1 (by omega)
  have e2 : (56320 : Int32).toInt = 56320 := by decide
  rw [e2] at h2
  have h3 := rng32 ((56320 : Int32) ||| (y &&& 1023))
  have h4 := c_i2c ((56320 : Int32) ||| (y &&& 1023))
  omega
theorem own_plR (y : Int32) : (f_plain y).toInt < 55296 ∨ 57344 ≤ (f_plain y).toInt := by
  rw [f_plain]
  have h1 := c_and y 65535 (by decide)
  have e1 : (65535 : Int32).toInt = 65535 := by decide
  rw [e1] at h1
  have d1 : (55296 : Int32).toInt = 55296 := by decide
  have d2 : (57343 : Int32).toInt = 57343 := by decide
  split
  · rename_i q
    have h4 := c_i2c (y &&& 65535)
    rw [Int32.lt_iff_toInt_lt, d1] at q
    omega
  · rename_i q
    rw [Int32.lt_iff_toInt_lt, d1] at q
    split
    · rename_i q2
      have h4 := c_i2c (y &&& 65535)
      rw [Int32.lt_iff_toInt_lt, d2] at q2
      omega
    · rename_i q2
      rw [Int32.lt_iff_toInt_lt, d2] at q2
      have key : ((y &&& 65535) ^^^ (8192 : Int32)).toInt = (y &&& 65535).toInt + 8192 := own_x8192 (by omega) (by omega)
      have h4 := c_i2c ((y &&& 65535) ^^^ 8192)
      omega
theorem own_hs0' {y : Int32} (h : ¬ (55296 ≤ y.toInt ∧ y.toInt < 56320)) : f_hs y = 0 := by rw [own_hsI, if_neg h]
theorem own_ls0' {y : Int32} (h : ¬ (56320 ≤ y.toInt ∧ y.toInt < 57344)) : f_ls y = 0 := by rw [own_lsI, if_neg h]
/-- a slot's second char is no high surrogate -/
theorem own_sBh (kinds draws : Int64) (k : Nat) : f_hs (sB kinds draws k) = 0 := by
  rw [sB]
  repeat' split
  all_goals first | (apply own_hs0'; have := own_plR (drb draws k); omega) | (apply own_hs0'; have := own_loR (drb draws k); omega)
def pp (kinds : Int64) (k : Nat) : Nat := if kin kinds k = (1 : Int32) then 1 else 0
theorem own_sPp (kinds : Int64) (k : Nat) : sP kinds k = Int32.ofNat (pp kinds k) := by
  rw [sP, pp]
  by_cases a : kin kinds k = (0 : Int32)
  · rw [if_pos a, if_neg (by rw [a]; decide)]; rfl
  · rw [if_neg a]
    by_cases b : kin kinds k = (1 : Int32)
    · rw [if_pos b, if_pos b]; rfl
    · rw [if_neg b, if_neg b]; split <;> rfl
theorem own_prAB (kinds draws : Int64) (k : Nat) : pr (sA kinds draws k) (sB kinds draws k) = pp kinds k := by
  rw [pr, pp, sA, sB]
  by_cases a : kin kinds k = (0 : Int32)
  · rw [if_pos a, if_pos a, if_neg (by rw [a]; decide : ¬ kin kinds k = (1 : Int32)), if_pos]
    apply own_hs0'; have := own_plR (dra draws k); omega
  · rw [if_neg a, if_neg a]
    by_cases b : kin kinds k = (1 : Int32)
    · rw [if_pos b, if_pos b, if_pos b]
      have h1 := own_hiR (dra draws k); have h2 := own_loR (drb draws k)
      rw [own_hsI, if_pos h1, own_lsI, if_pos h2]; decide
    · rw [if_neg b, if_neg b, if_neg b]
      by_cases d : kin kinds k = (2 : Int32)
      · rw [if_pos d, if_pos d, if_pos]
        apply own_hs0'; have := own_loR (dra draws k); omega
      · rw [if_neg d, if_neg d, own_ls0' (y := f_plain (drb draws k)) (by have := own_plR (drb draws k); omega)]
        simp
theorem prs_skip {c : Int32} (h : f_hs c = 0) : ∀ r : List Int32, prs (c :: r) = prs r
  | [] => rfl
  | d :: r => by rw [prs, if_pos h]
def sl (kinds draws : Int64) : Nat → Nat → List Int32
  | _, 0 => []
  | k, n + 1 => sA kinds draws k :: sB kinds draws k :: sl kinds draws (k + 1) n
def pps (kinds : Int64) : Nat → Nat → Nat
  | _, 0 => 0
  | k, n + 1 => pp kinds k + pps kinds (k + 1) n
theorem prs_sl (kinds draws : Int64) : ∀ n k, prs (sl kinds draws k n) = pps kinds k n
  | 0, _ => rfl
  | n + 1, k => by rw [sl, prs_pr, own_prAB, prs_skip (own_sBh kinds draws k), prs_sl kinds draws n (k + 1), pps]
theorem pps_le (kinds : Int64) : ∀ n k, pps kinds k n ≤ n
  | 0, _ => Nat.le_refl _
  | n + 1, k => by
    have := pps_le kinds n (k + 1)
    rw [pps, pp]; split <;> omega
theorem sl_len (kinds draws : Int64) : ∀ n k, (sl kinds draws k n).length = 2 * n
  | 0, _ => rfl
  | n + 1, k => by rw [sl, List.length_cons, List.length_cons, sl_len kinds draws n (k + 1)]; omega
theorem sl16 (kinds draws : Int64) : ∀ n k, ∀ c ∈ sl kinds draws k n, ¬ c < 0 ∧ ¬ (65535 : Int32) < c
  | 0, _ => fun _ q => nomatch q
  | n + 1, k => fun c q => by
    rw [sl] at q
    rcases List.mem_cons.mp q with rfl | q
    · exact sA16 _ _ _
    · rcases List.mem_cons.mp q with rfl | q
      · exact sB16 _ _ _
      · exact sl16 kinds draws n (k + 1) c q
theorem own_addN (p q : Nat) : Int32.ofNat p + Int32.ofNat q = Int32.ofNat (p + q) := by rw [← Int32.ofNat_add]
theorem own_sub {n q : Nat} (h : q ≤ n) (hn : n < 2147483648) : Int32.ofNat n - Int32.ofNat q = Int32.ofNat (n - q) := by
  apply Int32.toInt_inj.mp
  rw [Jvm.Free.XT.sub32 (by rw [own_int hn, own_int (by omega)]; constructor <;> omega), own_int hn, own_int (by omega), own_int (by omega)]
  omega
theorem own_kin0 (kinds : Int64) : kin kinds 0 = kinds.toInt32 &&& (3 : Int32) := by
  rw [kin]
  have : (((kinds).toUInt64 >>> (((2 : Int32) * Int32.ofNat 0) &&& 0x3f).toInt64.toUInt64).toInt64) = kinds := by
    have e : (((2 : Int32) * Int32.ofNat 0) &&& 0x3f).toInt64.toUInt64 = 0 := by decide
    rw [e]; simp
  rw [this]
theorem own_and3 (y : Int32) : (y &&& (3 : Int32)) = 0 ∨ (y &&& (3 : Int32)) = 1 ∨ (y &&& (3 : Int32)) = 2 ∨ (y &&& (3 : Int32)) = 3 := by
  have h1 := c_and y 3 (by decide)
  have e3 : (3 : Int32).toInt = 3 := by decide
  rw [e3] at h1
  have : (y &&& 3).toInt = 0 ∨ (y &&& 3).toInt = 1 ∨ (y &&& 3).toInt = 2 ∨ (y &&& 3).toInt = 3 := by omega
  rcases this with q | q | q | q
  · exact Or.inl (Int32.toInt_inj.mp q)
  · exact Or.inr (Or.inl (Int32.toInt_inj.mp q))
  · exact Or.inr (Or.inr (Or.inl (Int32.toInt_inj.mp q)))
  · exact Or.inr (Or.inr (Or.inr (Int32.toInt_inj.mp q)))
theorem own_35 {cs : List Int32} {e : Int32} (he : e = Int32.ofNat (cs.length - prs cs)) : f_m35 cs = if e < (1 : Int32) then (0 : Int32) else if (35 : Int32) < e then (0 : Int32) else (1 : Int32) := by rw [f_m35, he]
theorem own_two (kinds draws : Int64) : prs [sA kinds draws 0, sB kinds draws 0] = pp kinds 0 := by
  have := prs_sl kinds draws 1 0
  simpa [sl, pps] using this
theorem own_ppsum (kinds : Int64) : (((((((((((((((((((pp kinds 0 + pp kinds 1) + pp kinds 2) + pp kinds 3) + pp kinds 4) + pp kinds 5) + pp kinds 6) + pp kinds 7) + pp kinds 8) + pp kinds 9) + pp kinds 10) + pp kinds 11) + pp kinds 12) + pp kinds 13) + pp kinds 14) + pp kinds 15) + pp kinds 16) + pp kinds 17) + pp kinds 18) + pp kinds 19) = pps kinds 0 20 := by
  simp only [pps, Nat.reduceAdd]; omega
theorem own_sum (kinds : Int64) {q0 q1 q2 q3 q4 q5 q6 q7 q8 q9 q10 q11 q12 q13 q14 q15 q16 q17 q18 q19 : Int32} (h0 : q0 = sP kinds 0) (h1 : q1 = sP kinds 1) (h2 : q2 = sP kinds 2) (h3 : q3 = sP kinds 3) (h4 : q4 = sP kinds 4) (h5 : q5 = sP kinds 5) (h6 : q6 = sP kinds 6) (h7 : q7 = sP kinds 7) (h8 : q8 = sP kinds 8) (h9 : q9 = sP kinds 9) (h10 : q10 = sP kinds 10) (h11 : q11 = sP kinds 11) (h12 : q12 = sP kinds 12) (h13 : q13 = sP kinds 13) (h14 : q14 = sP kinds 14) (h15 : q15 = sP kinds 15) (h16 : q16 = sP kinds 16) (h17 : q17 = sP kinds 17) (h18 : q18 = sP kinds 18) (h19 : q19 = sP kinds 19) : (((((((((((((((((((q0 + q1) + q2) + q3) + q4) + q5) + q6) + q7) + q8) + q9) + q10) + q11) + q12) + q13) + q14) + q15) + q16) + q17) + q18) + q19) = Int32.ofNat (pps kinds 0 20) := by
  rw [h0, h1, h2, h3, h4, h5, h6, h7, h8, h9, h10, h11, h12, h13, h14, h15, h16, h17, h18, h19]
  simp only [own_sPp, own_addN]
  exact congrArg Int32.ofNat (own_ppsum kinds)
theorem pd_19 : parseMethodDescriptor "([CIJJ)I" = some ⟨[(.array .char), .int, .long, .long], (some .int)⟩ := by decide +kernel
theorem pd_20 : parseMethodDescriptor "(Ljava/lang/String;)Z" = some ⟨[(.object "java/lang/String")], (some .boolean)⟩ := by decide +kernel
theorem pd_21 : parseMethodDescriptor "(C)Ljava/lang/String;" = some ⟨[.char], (some (.object "java/lang/String"))⟩ := by decide +kernel
theorem pd_22 : parseMethodDescriptor "([C)V" = some ⟨[(.array .char)], none⟩ := by decide +kernel
def QLaw (n0 : Nat) (v : Option Value) (h : Heap) (L : List Loc) : Prop := v = some (.int 1) ∧ Fr n0 L
theorem pn_28 : plainFor x = true := by first | exact plainFor_of_name (by first | (simp [plainName, overriddenIn]; done) | decide +kernel) | decide +kernel
theorem ef_JJI_12 (m : MethodId) (y0 : Int64) (y1 : Int64) (y2 : Int32) : entryFrame m #[(.long y0), (.long y1), (.int y2)] 12 = mkF m 0 #[.val (.long y0), .second, .val (.long y1), .second, .val (.int y2), .unset, .unset, .unset, .unset, .unset, .unset, .unset] [] := by first | (simp [entryFrame, mkF, argsToLocals, Value.category]; done) | rfl
set_option maxRecDepth 65536 in
set_option maxHeartbeats 40000000 in
theorem met_law (l : Launch) (Z : State) (a0 : Array Value) (hw : ∀ d ∈ tables_1, d.before a0 Z = true) (ws : List Jvm.Cond) (p0 p1 : Int64) (p2 z : Int32) (n0 : Nat) (h0 : Heap) (O : Old Z n0 h0) (Sc : Stat Z z) (S16 : St16 Z) :
    MetFree l x (head1 (Jvm.Cond.code x code maxLocals ret :: ws) room_1) (fun aa U => aa = #[(.long p0), (.long p1), (.int p2)] ∧ Z.Warmed39 U.vm ∧ U.heap = h0 ∧ CHv Z EL0 U.vm h0) (fun _ _ _ _ _ => True) (fun _ U o U' => ∃ v L, o = .returned v ∧ QLaw n0 v U'.heap L ∧ CHr Z EL0 U.vm U.heap U'.vm U'.heap ∧ ReturnedEndW U o U' L room_1.cells room_1.slots) := by
  refine openH (y := x) pn_28 ?_
  intro p e s m below meth c T vm hx hby hml hret hlk hnm hZ hown X hT H
  have hEL := own_EW hw
  refine Go.st (fun _ k => castTop (ef_JJI_12 m p0 p1 p2) k) ?_
  show Go p e below _ (T.setTop (mkF m 0 #[.val (.long p0), .second, .val (.long p1), .second, .val (.int p2), .unset, .unset, .unset, .unset, .unset, .unset, .unset] []))
  have N := Fr.nil n0
  refine Go.st (fun _ k => XS.bipush X.here hx rfl (hb hby at_0) k) ?_
  show Go p e below _ (T.setTop (mkF m 2 #[.val (.long p0), .second, .val (.long p1), .second, .val (.int p2), .unset, .unset, .unset, .unset, .unset, .unset, .unset] [(.int (40 : Int32))]))
  obtain ⟨T, h1, k_ba, X, hT, Ex0, A_ba, st⟩ := newP X hx hZ (hw _ (List.mem_of_getElem? (i := 0) rfl)) hT (g := (mkF m 2 #[.val (.long p0), .second, .val (.long p1), .second, .val (.int p2), .unset, .unset, .unset, .unset, .unset, .unset, .unset] [(.int (40 : Int32))])) rfl (hb hby at_2) rfl (by decide : ¬ ((40 : Int32) < (0 : Int32))) (cap := 40) (by decide) (by decide) (by decide) (by decide)
  obtain ⟨ba, g_ba⟩ : ∃ z, z = h0.size := ⟨_, rfl⟩
  rw [← g_ba] at A_ba st
  refine Go.st st ?_
  have ge_ba : n0 ≤ ba := Nat.le_trans (own_le (O)) (Nat.le_of_eq g_ba.symm)
  have gk_ba : h0.size ≤ ba := Nat.le_trans (Keep.refl h0 []).1 (Nat.le_of_eq g_ba.symm)
  have H := H.ext Ex0
  have KB := (Keep.refl h0 []).ext Ex0
  have V_ba : Arv Z _ ba k_ba .char (40 : Int32) [(.int (0 : Int32)), (.int (0 : Int32)), (.int (0 : Int32)), (.int (0 : Int32)), (.int (0 : Int32)), (.int (0 : Int32)), (.int (0 : Int32)), (.int (0 : Int32)), (.int (0 : Int32)), (.int (0 : Int32)), (.int (0 : Int32)), (.int (0 : Int32)), (.int (0 : Int32)), (.int (0 : Int32)), (.int (0 : Int32)), (.int (0 : Int32)), (.int (0 : Int32)), (.int (0 : Int32)), (.int (0 : Int32)), (.int (0 : Int32)), (.int (0 : Int32)), (.int (0 : Int32)), (.int (0 : Int32)), (.int (0 : Int32)), (.int (0 : Int32)), (.int (0 : Int32)), (.int (0 : Int32)), (.int (0 : Int32)), (.int (0 : Int32)), (.int (0 : Int32)), (.int (0 : Int32)), (.int (0 : Int32)), (.int (0 : Int32)), (.int (0 : Int32)), (.int (0 : Int32)), (.int (0 : Int32)), (.int (0 : Int32)), (.int (0 : Int32)), (.int (0 : Int32)), (.int (0 : Int32))] (.int (0 : Int32)) := (Arv.new A_ba (by decide)).pad (pad_rep [] (.int (0 : Int32)) 40)
  show Go p e below _ (T.setTop (mkF m 4 #[.val (.long p0), .second, .val (.long p1), .second, .val (.int p2), .unset, .unset, .unset, .unset, .unset, .unset, .unset] [(.ref ba)]))
  refine Go.st (fun _ k => XS.astore X.here hx rfl (hb hby at_4) rfl rfl (l' := #[.val (.long p0), .second, .val (.long p1), .second, .val (.int p2), .val (.ref ba), .unset, .unset, .unset, .unset, .unset, .unset]) rfl k) ?_
  show Go p e below _ (T.setTop (mkF m 6 #[.val (.long p0), .second, .val (.long p1), .second, .val (.int p2), .val (.ref ba), .unset, .unset, .unset, .unset, .unset, .unset] []))
  refine Go.st (fun _ k => XS.aload X.here hx rfl (hb hby at_6) rfl rfl k) ?_
  show Go p e below _ (T.setTop (mkF m 8 #[.val (.long p0), .second, .val (.long p1), .second, .val (.int p2), .val (.ref ba), .unset, .unset, .unset, .unset, .unset, .unset] [(.ref ba)]))
  refine Go.st (fun _ k => XS.iconst X.here hx rfl (hb hby at_8) k) ?_
  show Go p e below _ (T.setTop (mkF m 9 #[.val (.long p0), .second, .val (.long p1), .second, .val (.int p2), .val (.ref ba), .unset, .unset, .unset, .unset, .unset, .unset] [(.int (0 : Int32)), (.ref ba)]))
  refine Go.st (fun _ k => XS.lloadN X.here hx rfl (hb hby at_9) rfl k) ?_
  show Go p e below _ (T.setTop (mkF m 10 #[.val (.long p0), .second, .val (.long p1), .second, .val (.int p2), .val (.ref ba), .unset, .unset, .unset, .unset, .unset, .unset] [(.long p0), (.int (0 : Int32)), (.ref ba)]))
  refine Go.st (fun _ k => XS.lloadN X.here hx rfl (hb hby at_10) rfl k) ?_
  show Go p e below _ (T.setTop (mkF m 11 #[.val (.long p0), .second, .val (.long p1), .second, .val (.int p2), .val (.ref ba), .unset, .unset, .unset, .unset, .unset, .unset] [(.long p1), (.long p0), (.int (0 : Int32)), (.ref ba)]))
  have Sa := Safe.arv (EL := EL0) hZ.alike V_ba (by decide)
  refine Go.callP (argsL := [(.ref ba), (.int (0 : Int32)), (.long p0), (.long p1)]) (rest := []) (W := 0) (ck := 0) (sk := 0) X hx hZ hown (hml.trans rfl) hT (hw _ (List.mem_of_getElem? (i := 1) rfl)) (hw _ (List.mem_of_getElem? (i := 2) rfl)) (hw _ (List.mem_of_getElem? (i := 3) rfl)) (hw _ (List.mem_of_getElem? (i := 4) rfl)) (by decide) pd_19 rfl rfl (Nat.le_of_ble_eq_true rfl) (hb hby at_11) (backOf (W := 0) (met_slot l Z a0 hw [] n0 ba k_ba _ 0 p0 p1 _ ge_ba V_ba (by decide) rfl) hZ (hw _ (List.mem_of_getElem? (i := 4) rfl)) (hw _ (List.mem_of_getElem? (i := 3) rfl)) (by decide) (by decide)) (by decide) (by decide) ?_
  intro v T h2 L hT hQ X
  obtain ⟨rfl, N0, K0, V_ba⟩ := hQ
  have N := Fr.app N N0
  have H := H.keep K0 (sfS Sa sf0)
  have KB := (KB).trans K0 (allS (Or.inr gk_ba) all0)
  obtain ⟨va0, hva0⟩ : ∃ z, z = sA p0 p1 0 := ⟨_, rfl⟩
  obtain ⟨vb0, hvb0⟩ : ∃ z, z = sB p0 p1 0 := ⟨_, rfl⟩
  obtain ⟨vq0, hvq0⟩ : ∃ z, z = sP p0 0 := ⟨_, rfl⟩
  rw [← hva0, ← hvb0] at V_ba
  rw [← hvq0]
  have hma0 : M16 va0 := hva0 ▸ sA16 _ _ _
  have hmb0 : M16 vb0 := hvb0 ▸ sB16 _ _ _
  have V_ba : Arv Z h2 ba k_ba .char (40 : Int32) [(.int va0), (.int vb0), (.int (0 : Int32)), (.int (0 : Int32)), (.int (0 : Int32)), (.int (0 : Int32)), (.int (0 : Int32)), (.int (0 : Int32)), (.int (0 : Int32)), (.int (0 : Int32)), (.int (0 : Int32)), (.int (0 : Int32)), (.int (0 : Int32)), (.int (0 : Int32)), (.int (0 : Int32)), (.int (0 : Int32)), (.int (0 : Int32)), (.int (0 : Int32)), (.int (0 : Int32)), (.int (0 : Int32)), (.int (0 : Int32)), (.int (0 : Int32)), (.int (0 : Int32)), (.int (0 : Int32)), (.int (0 : Int32)), (.int (0 : Int32)), (.int (0 : Int32)), (.int (0 : Int32)), (.int (0 : Int32)), (.int (0 : Int32)), (.int (0 : Int32)), (.int (0 : Int32)), (.int (0 : Int32)), (.int (0 : Int32)), (.int (0 : Int32)), (.int (0 : Int32)), (.int (0 : Int32)), (.int (0 : Int32)), (.int (0 : Int32)), (.int (0 : Int32))] (.int (0 : Int32)) := V_ba
  show Go p e below _ (T.setTop (mkF m 14 #[.val (.long p0), .second, .val (.long p1), .second, .val (.int p2), .val (.ref ba), .unset, .unset, .unset, .unset, .unset, .unset] [(.int vq0)]))
  refine Go.st (fun _ k => XS.aload X.here hx rfl (hb hby at_14) rfl rfl k) ?_
  show Go p e below _ (T.setTop (mkF m 16 #[.val (.long p0), .second, .val (.long p1), .second, .val (.int p2), .val (.ref ba), .unset, .unset, .unset, .unset, .unset, .unset] [(.ref ba), (.int vq0)]))
  refine Go.st (fun _ k => XS.iconst X.here hx rfl (hb hby at_16) k) ?_
  show Go p e below _ (T.setTop (mkF m 17 #[.val (.long p0), .second, .val (.long p1), .second, .val (.int p2), .val (.ref ba), .unset, .unset, .unset, .unset, .unset, .unset] [(.int (1 : Int32)), (.ref ba), (.int vq0)]))
  refine Go.st (fun _ k => XS.lloadN X.here hx rfl (hb hby at_17) rfl k) ?_
  show Go p e below _ (T.setTop (mkF m 18 #[.val (.long p0), .second, .val (.long p1), .second, .val (.int p2), .val (.ref ba), .unset, .unset, .unset, .unset, .unset, .unset] [(.long p0), (.int (1 : Int32)), (.ref ba), (.int vq0)]))
  refine Go.st (fun _ k => XS.lloadN X.here hx rfl (hb hby at_18) rfl k) ?_
  show Go p e below _ (T.setTop (mkF m 19 #[.val (.long p0), .second, .val (.long p1), .second, .val (.int p2), .val (.ref ba), .unset, .unset, .unset, .unset, .unset, .unset] [(.long p1), (.long p0), (.int (1 : Int32)), (.ref ba), (.int vq0)]))
  have Sa := Safe.arv (EL := EL0) hZ.alike V_ba (by decide)
  refine Go.callP (argsL := [(.ref ba), (.int (1 : Int32)), (.long p0), (.long p1)]) (rest := [(.int vq0)]) (W := 1) (ck := 0) (sk := 0) X hx hZ hown (hml.trans rfl) hT (hw _ (List.mem_of_getElem? (i := 1) rfl)) (hw _ (List.mem_of_getElem? (i := 2) rfl)) (hw _ (List.mem_of_getElem? (i := 3) rfl)) (hw _ (List.mem_of_getElem? (i := 4) rfl)) (by decide) pd_19 rfl rfl (Nat.le_of_ble_eq_true rfl) (hb hby at_19) (backOf (W := 1) (met_slot l Z a0 hw [] n0 ba k_ba _ 1 p0 p1 _ ge_ba V_ba (by decide) rfl) hZ (hw _ (List.mem_of_getElem? (i := 4) rfl)) (hw _ (List.mem_of_getElem? (i := 3) rfl)) (by decide) (by decide)) (by decide) (by decide) ?_
  intro v T h3 L hT hQ X
  obtain ⟨rfl, N0, K0, V_ba⟩ := hQ
  have N := Fr.app N N0
  have H := H.keep K0 (sfS Sa sf0)
  have KB := (KB).trans K0 (allS (Or.inr gk_ba) all0)
  obtain ⟨va1, hva1⟩ : ∃ z, z = sA p0 p1 1 := ⟨_, rfl⟩
  obtain ⟨vb1, hvb1⟩ : ∃ z, z = sB p0 p1 1 := ⟨_, rfl⟩
  obtain ⟨vq1, hvq1⟩ : ∃ z, z = sP p0 1 := ⟨_, rfl⟩
  rw [← hva1, ← hvb1] at V_ba
  rw [← hvq1]
  have V_ba : Arv Z h3 ba k_ba .char (40 : Int32) [(.int va0), (.int vb0), (.int va1), (.int vb1), (.int (0 : Int32)), (.int (0 : Int32)), (.int (0 : Int32)), (.int (0 : Int32)), (.int (0 : Int32)), (.int (0 : Int32)), (.int (0 : Int32)), (.int (0 : Int32)), (.int (0 : Int32)), (.int (0 : Int32)), (.int (0 : Int32)), (.int (0 : Int32)), (.int (0 : Int32)), (.int (0 : Int32)), (.int (0 : Int32)), (.int (0 : Int32)), (.int (0 : Int32)), (.int (0 : Int32)), (.int (0 : Int32)), (.int (0 : Int32)), (.int (0 : Int32)), (.int (0 : Int32)), (.int (0 : Int32)), (.int (0 : Int32)), (.int (0 : Int32)), (.int (0 : Int32)), (.int (0 : Int32)), (.int (0 : Int32)), (.int (0 : Int32)), (.int (0 : Int32)), (.int (0 : Int32)), (.int (0 : Int32)), (.int (0 : Int32)), (.int (0 : Int32)), (.int (0 : Int32)), (.int (0 : Int32))] (.int (0 : Int32)) := V_ba
  show Go p e below _ (T.setTop (mkF m 22 #[.val (.long p0), .second, .val (.long p1), .second, .val (.int p2), .val (.ref ba), .unset, .unset, .unset, .unset, .unset, .unset] [(.int vq1), (.int vq0)]))
  refine Go.st (fun _ k => XS.iadd X.here hx rfl (hb hby at_22) rfl k) ?_
  show Go p e below _ (T.setTop (mkF m 23 #[.val (.long p0), .second, .val (.long p1), .second, .val (.int p2), .val (.ref ba), .unset, .unset, .unset, .unset, .unset, .unset] [(.int (vq0 + vq1))]))
  refine Go.st (fun _ k => XS.aload X.here hx rfl (hb hby at_23) rfl rfl k) ?_
  show Go p e below _ (T.setTop (mkF m 25 #[.val (.long p0), .second, .val (.long p1), .second, .val (.int p2), .val (.ref ba), .unset, .unset, .unset, .unset, .unset, .unset] [(.ref ba), (.int (vq0 + vq1))]))
  refine Go.st (fun _ k => XS.iconst X.here hx rfl (hb hby at_25) k) ?_
  show Go p e below _ (T.setTop (mkF m 26 #[.val (.long p0), .second, .val (.long p1), .second, .val (.int p2), .val (.ref ba), .unset, .unset, .unset, .unset, .unset, .unset] [(.int (2 : Int32)), (.ref ba), (.int (vq0 + vq1))]))
  refine Go.st (fun _ k => XS.lloadN X.here hx rfl (hb hby at_26) rfl k) ?_
  show Go p e below _ (T.setTop (mkF m 27 #[.val (.long p0), .second, .val (.long p1), .second, .val (.int p2), .val (.ref ba), .unset, .unset, .unset, .unset, .unset, .unset] [(.long p0), (.int (2 : Int32)), (.ref ba), (.int (vq0 + vq1))]))
  refine Go.st (fun _ k => XS.lloadN X.here hx rfl (hb hby at_27) rfl k) ?_
  show Go p e below _ (T.setTop (mkF m 28 #[.val (.long p0), .second, .val (.long p1), .second, .val (.int p2), .val (.ref ba), .unset, .unset, .unset, .unset, .unset, .unset] [(.long p1), (.long p0), (.int (2 : Int32)), (.ref ba), (.int (vq0 + vq1))]))
  have Sa := Safe.arv (EL := EL0) hZ.alike V_ba (by decide)
  refine Go.callP (argsL := [(.ref ba), (.int (2 : Int32)), (.long p0), (.long p1)]) (rest := [(.int (vq0 + vq1))]) (W := 1) (ck := 0) (sk := 0) X hx hZ hown (hml.trans rfl) hT (hw _ (List.mem_of_getElem? (i := 1) rfl)) (hw _ (List.mem_of_getElem? (i := 2) rfl)) (hw _ (List.mem_of_getElem? (i := 3) rfl)) (hw _ (List.mem_of_getElem? (i := 4) rfl)) (by decide) pd_19 rfl rfl (Nat.le_of_ble_eq_true rfl) (hb hby at_28) (backOf (W := 1) (met_slot l Z a0 hw [] n0 ba k_ba _ 2 p0 p1 _ ge_ba V_ba (by decide) rfl) hZ (hw _ (List.mem_of_getElem? (i := 4) rfl)) (hw _ (List.mem_of_getElem? (i := 3) rfl)) (by decide) (by decide)) (by decide) (by decide) ?_
  intro v T h4 L hT hQ X
  obtain ⟨rfl, N0, K0, V_ba⟩ := hQ
  have N := Fr.app N N0
  have H := H.keep K0 (sfS Sa sf0)
  have KB := (KB).trans K0 (allS (Or.inr gk_ba) all0)
  obtain ⟨va2, hva2⟩ : ∃ z, z = sA p0 p1 2 := ⟨_, rfl⟩
  obtain ⟨vb2, hvb2⟩ : ∃ z, z = sB p0 p1 2 := ⟨_, rfl⟩
  obtain ⟨vq2, hvq2⟩ : ∃ z, z = sP p0 2 := ⟨_, rfl⟩
  rw [← hva2, ← hvb2] at V_ba
  rw [← hvq2]
  have V_ba : Arv Z h4 ba k_ba .char (40 : Int32) [(.int va0), (.int vb0), (.int va1), (.int vb1), (.int va2), (.int vb2), (.int (0 : Int32)), (.int (0 : Int32)), (.int (0 : Int32)), (.int (0 : Int32)), (.int (0 : Int32)), (.int (0 : Int32)), (.int (0 : Int32)), (.int (0 : Int32)), (.int (0 : Int32)), (.int (0 : Int32)), (.int (0 : Int32)), (.int (0 : Int32)), (.int (0 : Int32)), (.int (0 : Int32)), (.int (0 : Int32)), (.int (0 : Int32)), (.int (0 : Int32)), (.int (0 : Int32)), (.int (0 : Int32)), (.int (0 : Int32)), (.int (0 : Int32)), (.int (0 : Int32)), (.int (0 : Int32)), (.int (0 : Int32)), (.int (0 : Int32)), (.int (0 : Int32)), (.int (0 : Int32)), (.int (0 : Int32)), (.int (0 : Int32)), (.int (0 : Int32)), (.int (0 : Int32)), (.int (0 : Int32)), (.int (0 : Int32)), (.int (0 : Int32))] (.int (0 : Int32)) := V_ba
  show Go p e below _ (T.setTop (mkF m 31 #[.val (.long p0), .second, .val (.long p1), .second, .val (.int p2), .val (.ref ba), .unset, .unset, .unset, .unset, .unset, .unset] [(.int vq2), (.int (vq0 + vq1))]))
  refine Go.st (fun _ k => XS.iadd X.here hx rfl (hb hby at_31) rfl k) ?_
  show Go p e below _ (T.setTop (mkF m 32 #[.val (.long p0), .second, .val (.long p1), .second, .val (.int p2), .val (.ref ba), .unset, .unset, .unset, .unset, .unset, .unset] [(.int ((vq0 + vq1) + vq2))]))
  refine Go.st (fun _ k => XS.aload X.here hx rfl (hb hby at_32) rfl rfl k) ?_
  show Go p e below _ (T.setTop (mkF m 34 #[.val (.long p0), .second, .val (.long p1), .second, .val (.int p2), .val (.ref ba), .unset, .unset, .unset, .unset, .unset, .unset] [(.ref ba), (.int ((vq0 + vq1) + vq2))]))
  refine Go.st (fun _ k => XS.iconst X.here hx rfl (hb hby at_34) k) ?_
  show Go p e below _ (T.setTop (mkF m 35 #[.val (.long p0), .second, .val (.long p1), .second, .val (.int p2), .val (.ref ba), .unset, .unset, .unset, .unset, .unset, .unset] [(.int (3 : Int32)), (.ref ba), (.int ((vq0 + vq1) + vq2))]))
  refine Go.st (fun _ k => XS.lloadN X.here hx rfl (hb hby at_35) rfl k) ?_
  show Go p e below _ (T.setTop (mkF m 36 #[.val (.long p0), .second, .val (.long p1), .second, .val (.int p2), .val (.ref ba), .unset, .unset, .unset, .unset, .unset, .unset] [(.long p0), (.int (3 : Int32)), (.ref ba), (.int ((vq0 + vq1) + vq2))]))
  refine Go.st (fun _ k => XS.lloadN X.here hx rfl (hb hby at_36) rfl k) ?_
  show Go p e below _ (T.setTop (mkF m 37 #[.val (.long p0), .second, .val (.long p1), .second, .val (.int p2), .val (.ref ba), .unset, .unset, .unset, .unset, .unset, .unset] [(.long p1), (.long p0), (.int (3 : Int32)), (.ref ba), (.int ((vq0 + vq1) + vq2))]))
  have Sa := Safe.arv (EL := EL0) hZ.alike V_ba (by decide)
  refine Go.callP (argsL := [(.ref ba), (.int (3 : Int32)), (.long p0), (.long p1)]) (rest := [(.int ((vq0 + vq1) + vq2))]) (W := 1) (ck := 0) (sk := 0) X hx hZ hown (hml.trans rfl) hT (hw _ (List.mem_of_getElem? (i := 1) rfl)) (hw _ (List.mem_of_getElem? (i := 2) rfl)) (hw _ (List.mem_of_getElem? (i := 3) rfl)) (hw _ (List.mem_of_getElem? (i := 4) rfl)) (by decide) pd_19 rfl rfl (Nat.le_of_ble_eq_true rfl) (hb hby at_37) (backOf (W := 1) (met_slot l Z a0 hw [] n0 ba k_ba _ 3 p0 p1 _ ge_ba V_ba (by decide) rfl) hZ (hw _ (List.mem_of_getElem? (i := 4) rfl)) (hw _ (List.mem_of_getElem? (i := 3) rfl)) (by decide) (by decide)) (by decide) (by decide) ?_
  intro v T h5 L hT hQ X
  obtain ⟨rfl, N0, K0, V_ba⟩ := hQ
  have N := Fr.app N N0
  have H := H.keep K0 (sfS Sa sf0)
  have KB := (KB).trans K0 (allS (Or.inr gk_ba) all0)
  obtain ⟨va3, hva3⟩ : ∃ z, z = sA p0 p1 3 := ⟨_, rfl⟩
  obtain ⟨vb3, hvb3⟩ : ∃ z, z = sB p0 p1 3 := ⟨_, rfl⟩
  obtain ⟨vq3, hvq3⟩ : ∃ z, z = sP p0 3 := ⟨_, rfl⟩
  rw [← hva3, ← hvb3] at V_ba
  rw [← hvq3]
  have V_ba : Arv Z h5 ba k_ba .char (40 : Int32) [(.int va0), (.int vb0), (.int va1), (.int vb1), (.int va2), (.int vb2), (.int va3), (.int vb3), (.int (0 : Int32)), (.int (0 : Int32)), (.int (0 : Int32)), (.int (0 : Int32)), (.int (0 : Int32)), (.int (0 : Int32)), (.int (0 : Int32)), (.int (0 : Int32)), (.int (0 : Int32)), (.int (0 : Int32)), (.int (0 : Int32)), (.int (0 : Int32)), (.int (0 : Int32)), (.int (0 : Int32)), (.int (0 : Int32)), (.int (0 : Int32)), (.int (0 : Int32)), (.int (0 : Int32)), (.int (0 : Int32)), (.int (0 : Int32)), (.int (0 : Int32)), (.int (0 : Int32)), (.int (0 : Int32)), (.int (0 : Int32)), (.int (0 : Int32)), (.int (0 : Int32)), (.int (0 : Int32)), (.int (0 : Int32)), (.int (0 : Int32)), (.int (0 : Int32)), (.int (0 : Int32)), (.int (0 : Int32))] (.int (0 : Int32)) := V_ba
  show Go p e below _ (T.setTop (mkF m 40 #[.val (.long p0), .second, .val (.long p1), .second, .val (.int p2), .val (.ref ba), .unset, .unset, .unset, .unset, .unset, .unset] [(.int vq3), (.int ((vq0 + vq1) + vq2))]))
  refine Go.st (fun _ k => XS.iadd X.here hx rfl (hb hby at_40) rfl k) ?_
  show Go p e below _ (T.setTop (mkF m 41 #[.val (.long p0), .second, .val (.long p1), .second, .val (.int p2), .val (.ref ba), .unset, .unset, .unset, .unset, .unset, .unset] [(.int (((vq0 + vq1) + vq2) + vq3))]))
  refine Go.st (fun _ k => XS.aload X.here hx rfl (hb hby at_41) rfl rfl k) ?_
  show Go p e below _ (T.setTop (mkF m 43 #[.val (.long p0), .second, .val (.long p1), .second, .val (.int p2), .val (.ref ba), .unset, .unset, .unset, .unset, .unset, .unset] [(.ref ba), (.int (((vq0 + vq1) + vq2) + vq3))]))
  refine Go.st (fun _ k => XS.iconst X.here hx rfl (hb hby at_43) k) ?_
  show Go p e below _ (T.setTop (mkF m 44 #[.val (.long p0), .second, .val (.long p1), .second, .val (.int p2), .val (.ref ba), .unset, .unset, .unset, .unset, .unset, .unset] [(.int (4 : Int32)), (.ref ba), (.int (((vq0 + vq1) + vq2) + vq3))]))
  refine Go.st (fun _ k => XS.lloadN X.here hx rfl (hb hby at_44) rfl k) ?_
  show Go p e below _ (T.setTop (mkF m 45 #[.val (.long p0), .second, .val (.long p1), .second, .val (.int p2), .val (.ref ba), .unset, .unset, .unset, .unset, .unset, .unset] [(.long p0), (.int (4 : Int32)), (.ref ba), (.int (((vq0 + vq1) + vq2) + vq3))]))
  refine Go.st (fun _ k => XS.lloadN X.here hx rfl (hb hby at_45) rfl k) ?_
  show Go p e below _ (T.setTop (mkF m 46 #[.val (.long p0), .second, .val (.long p1), .second, .val (.int p2), .val (.ref ba), .unset, .unset, .unset, .unset, .unset, .unset] [(.long p1), (.long p0), (.int (4 : Int32)), (.ref ba), (.int (((vq0 + vq1) + vq2) + vq3))]))
  have Sa := Safe.arv (EL := EL0) hZ.alike V_ba (by decide)
  refine Go.callP (argsL := [(.ref ba), (.int (4 : Int32)), (.long p0), (.long p1)]) (rest := [(.int (((vq0 + vq1) + vq2) + vq3))]) (W := 1) (ck := 0) (sk := 0) X hx hZ hown (hml.trans rfl) hT (hw _ (List.mem_of_getElem? (i := 1) rfl)) (hw _ (List.mem_of_getElem? (i := 2) rfl)) (hw _ (List.mem_of_getElem? (i := 3) rfl)) (hw _ (List.mem_of_getElem? (i := 4) rfl)) (by decide) pd_19 rfl rfl (Nat.le_of_ble_eq_true rfl) (hb hby at_46) (backOf (W := 1) (met_slot l Z a0 hw [] n0 ba k_ba _ 4 p0 p1 _ ge_ba V_ba (by decide) rfl) hZ (hw _ (List.mem_of_getElem? (i := 4) rfl)) (hw _ (List.mem_of_getElem? (i := 3) rfl)) (by decide) (by decide)) (by decide) (by decide) ?_
  intro v T h6 L hT hQ X
  obtain ⟨rfl, N0, K0, V_ba⟩ := hQ
  have N := Fr.app N N0
  have H := H.keep K0 (sfS Sa sf0)
  have KB := (KB).trans K0 (allS (Or.inr gk_ba) all0)
  obtain ⟨va4, hva4⟩ : ∃ z, z = sA p0 p1 4 := ⟨_, rfl⟩
  obtain ⟨vb4, hvb4⟩ : ∃ z, z = sB p0 p1 4 := ⟨_, rfl⟩
  obtain ⟨vq4, hvq4⟩ : ∃ z, z = sP p0 4 := ⟨_, rfl⟩
  rw [← hva4, ← hvb4] at V_ba
  rw [← hvq4]
  have V_ba : Arv Z h6 ba k_ba .char (40 : Int32) [(.int va0), (.int vb0), (.int va1), (.int vb1), (.int va2), (.int vb2), (.int va3), (.int vb3), (.int va4), (.int vb4), (.int (0 : Int32)), (.int (0 : Int32)), (.int (0 : Int32)), (.int (0 : Int32)), (.int (0 : Int32)), (.int (0 : Int32)), (.int (0 : Int32)), (.int (0 : Int32)), (.int (0 : Int32)), (.int (0 : Int32)), (.int (0 : Int32)), (.int (0 : Int32)), (.int (0 : Int32)), (.int (0 : Int32)), (.int (0 : Int32)), (.int (0 : Int32)), (.int (0 : Int32)), (.int (0 : Int32)), (.int (0 : Int32)), (.int (0 : Int32)), (.int (0 : Int32)), (.int (0 : Int32)), (.int (0 : Int32)), (.int (0 : Int32)), (.int (0 : Int32)), (.int (0 : Int32)), (.int (0 : Int32)), (.int (0 : Int32)), (.int (0 : Int32)), (.int (0 : Int32))] (.int (0 : Int32)) := V_ba
  show Go p e below _ (T.setTop (mkF m 49 #[.val (.long p0), .second, .val (.long p1), .second, .val (.int p2), .val (.ref ba), .unset, .unset, .unset, .unset, .unset, .unset] [(.int vq4), (.int (((vq0 + vq1) + vq2) + vq3))]))
  refine Go.st (fun _ k => XS.iadd X.here hx rfl (hb hby at_49) rfl k) ?_
  show Go p e below _ (T.setTop (mkF m 50 #[.val (.long p0), .second, .val (.long p1), .second, .val (.int p2), .val (.ref ba), .unset, .unset, .unset, .unset, .unset, .unset] [(.int ((((vq0 + vq1) + vq2) + vq3) + vq4))]))
  refine Go.st (fun _ k => XS.aload X.here hx rfl (hb hby at_50) rfl rfl k) ?_
  show Go p e below _ (T.setTop (mkF m 52 #[.val (.long p0), .second, .val (.long p1), .second, .val (.int p2), .val (.ref ba), .unset, .unset, .unset, .unset, .unset, .unset] [(.ref ba), (.int ((((vq0 + vq1) + vq2) + vq3) + vq4))]))
  refine Go.st (fun _ k => XS.iconst X.here hx rfl (hb hby at_52) k) ?_
  show Go p e below _ (T.setTop (mkF m 53 #[.val (.long p0), .second, .val (.long p1), .second, .val (.int p2), .val (.ref ba), .unset, .unset, .unset, .unset, .unset, .unset] [(.int (5 : Int32)), (.ref ba), (.int ((((vq0 + vq1) + vq2) + vq3) + vq4))]))
  refine Go.st (fun _ k => XS.lloadN X.here hx rfl (hb hby at_53) rfl k) ?_
  show Go p e below _ (T.setTop (mkF m 54 #[.val (.long p0), .second, .val (.long p1), .second, .val (.int p2), .val (.ref ba), .unset, .unset, .unset, .unset, .unset, .unset] [(.long p0), (.int (5 : Int32)), (.ref ba), (.int ((((vq0 + vq1) + vq2) + vq3) + vq4))]))
  refine Go.st (fun _ k => XS.lloadN X.here hx rfl (hb hby at_54) rfl k) ?_
  show Go p e below _ (T.setTop (mkF m 55 #[.val (.long p0), .second, .val (.long p1), .second, .val (.int p2), .val (.ref ba), .unset, .unset, .unset, .unset, .unset, .unset] [(.long p1), (.long p0), (.int (5 : Int32)), (.ref ba), (.int ((((vq0 + vq1) + vq2) + vq3) + vq4))]))
  have Sa := Safe.arv (EL := EL0) hZ.alike V_ba (by decide)
  refine Go.callP (argsL := [(.ref ba), (.int (5 : Int32)), (.long p0), (.long p1)]) (rest := [(.int ((((vq0 + vq1) + vq2) + vq3) + vq4))]) (W := 1) (ck := 0) (sk := 0) X hx hZ hown (hml.trans rfl) hT (hw _ (List.mem_of_getElem? (i := 1) rfl)) (hw _ (List.mem_of_getElem? (i := 2) rfl)) (hw _ (List.mem_of_getElem? (i := 3) rfl)) (hw _ (List.mem_of_getElem? (i := 4) rfl)) (by decide) pd_19 rfl rfl (Nat.le_of_ble_eq_true rfl) (hb hby at_55) (backOf (W := 1) (met_slot l Z a0 hw [] n0 ba k_ba _ 5 p0 p1 _ ge_ba V_ba (by decide) rfl) hZ (hw _ (List.mem_of_getElem? (i := 4) rfl)) (hw _ (List.mem_of_getElem? (i := 3) rfl)) (by decide) (by decide)) (by decide) (by decide) ?_
  intro v T h7 L hT hQ X
  obtain ⟨rfl, N0, K0, V_ba⟩ := hQ
  have N := Fr.app N N0
  have H := H.keep K0 (sfS Sa sf0)
  have KB := (KB).trans K0 (allS (Or.inr gk_ba) all0)
  obtain ⟨va5, hva5⟩ : ∃ z, z = sA p0 p1 5 := ⟨_, rfl⟩
  obtain ⟨vb5, hvb5⟩ : ∃ z, z = sB p0 p1 5 := ⟨_, rfl⟩
  obtain ⟨vq5, hvq5⟩ : ∃ z, z = sP p0 5 := ⟨_, rfl⟩
  rw [← hva5, ← hvb5] at V_ba
  rw [← hvq5]
  have V_ba : Arv Z h7 ba k_ba .char (40 : Int32) [(.int va0), (.int vb0), (.int va1), (.int vb1), (.int va2), (.int vb2), (.int va3), (.int vb3), (.int va4), (.int vb4), (.int va5), (.int vb5), (.int (0 : Int32)), (.int (0 : Int32)), (.int (0 : Int32)), (.int (0 : Int32)), (.int (0 : Int32)), (.int (0 : Int32)), (.int (0 : Int32)), (.int (0 : Int32)), (.int (0 : Int32)), (.int (0 : Int32)), (.int (0 : Int32)), (.int (0 : Int32)), (.int (0 : Int32)), (.int (0 : Int32)), (.int (0 : Int32)), (.int (0 : Int32)), (.int (0 : Int32)), (.int (0 : Int32)), (.int (0 : Int32)), (.int (0 : Int32)), (.int (0 : Int32)), (.int (0 : Int32)), (.int (0 : Int32)), (.int (0 : Int32)), (.int (0 : Int32)), (.int (0 : Int32)), (.int (0 : Int32)), (.int (0 : Int32))] (.int (0 : Int32)) := V_ba
  show Go p e below _ (T.setTop (mkF m 58 #[.val (.long p0), .second, .val (.long p1), .second, .val (.int p2), .val (.ref ba), .unset, .unset, .unset, .unset, .unset, .unset] [(.int vq5), (.int ((((vq0 + vq1) + vq2) + vq3) + vq4))]))
  refine Go.st (fun _ k => XS.iadd X.here hx rfl (hb hby at_58) rfl k) ?_
  show Go p e below _ (T.setTop (mkF m 59 #[.val (.long p0), .second, .val (.long p1), .second, .val (.int p2), .val (.ref ba), .unset, .unset, .unset, .unset, .unset, .unset] [(.int (((((vq0 + vq1) + vq2) + vq3) + vq4) + vq5))]))
  refine Go.st (fun _ k => XS.aload X.here hx rfl (hb hby at_59) rfl rfl k) ?_
  show Go p e below _ (T.setTop (mkF m 61 #[.val (.long p0), .second, .val (.long p1), .second, .val (.int p2), .val (.ref ba), .unset, .unset, .unset, .unset, .unset, .unset] [(.ref ba), (.int (((((vq0 + vq1) + vq2) + vq3) + vq4) + vq5))]))
  refine Go.st (fun _ k => XS.bipush X.here hx rfl (hb hby at_61) k) ?_
  show Go p e below _ (T.setTop (mkF m 63 #[.val (.long p0), .second, .val (.long p1), .second, .val (.int p2), .val (.ref ba), .unset, .unset, .unset, .unset, .unset, .unset] [(.int (6 : Int32)), (.ref ba), (.int (((((vq0 + vq1) + vq2) + vq3) + vq4) + vq5))]))
  refine Go.st (fun _ k => XS.lloadN X.here hx rfl (hb hby at_63) rfl k) ?_
  show Go p e below _ (T.setTop (mkF m 64 #[.val (.long p0), .second, .val (.long p1), .second, .val (.int p2), .val (.ref ba), .unset, .unset, .unset, .unset, .unset, .unset] [(.long p0), (.int (6 : Int32)), (.ref ba), (.int (((((vq0 + vq1) + vq2) + vq3) + vq4) + vq5))]))
  refine Go.st (fun _ k => XS.lloadN X.here hx rfl (hb hby at_64) rfl k) ?_
  show Go p e below _ (T.setTop (mkF m 65 #[.val (.long p0), .second, .val (.long p1), .second, .val (.int p2), .val (.ref ba), .unset, .unset, .unset, .unset, .unset, .unset] [(.long p1), (.long p0), (.int (6 : Int32)), (.ref ba), (.int (((((vq0 + vq1) + vq2) + vq3) + vq4) + vq5))]))
  have Sa := Safe.arv (EL := EL0) hZ.alike V_ba (by decide)
  refine Go.callP (argsL := [(.ref ba), (.int (6 : Int32)), (.long p0), (.long p1)]) (rest := [(.int (((((vq0 + vq1) + vq2) + vq3) + vq4) + vq5))]) (W := 1) (ck := 0) (sk := 0) X hx hZ hown (hml.trans rfl) hT (hw _ (List.mem_of_getElem? (i := 1) rfl)) (hw _ (List.mem_of_getElem? (i := 2) rfl)) (hw _ (List.mem_of_getElem? (i := 3) rfl)) (hw _ (List.mem_of_getElem? (i := 4) rfl)) (by decide) pd_19 rfl rfl (Nat.le_of_ble_eq_true rfl) (hb hby at_65) (backOf (W := 1) (met_slot l Z a0 hw [] n0 ba k_ba _ 6 p0 p1 _ ge_ba V_ba (by decide) rfl) hZ (hw _ (List.mem_of_getElem? (i := 4) rfl)) (hw _ (List.mem_of_getElem? (i := 3) rfl)) (by decide) (by decide)) (by decide) (by decide) ?_
  intro v T h8 L hT hQ X
  obtain ⟨rfl, N0, K0, V_ba⟩ := hQ
  have N := Fr.app N N0
  have H := H.keep K0 (sfS Sa sf0)
  have KB := (KB).trans K0 (allS (Or.inr gk_ba) all0)
  obtain ⟨va6, hva6⟩ : ∃ z, z = sA p0 p1 6 := ⟨_, rfl⟩
  obtain ⟨vb6, hvb6⟩ : ∃ z, z = sB p0 p1 6 := ⟨_, rfl⟩
  obtain ⟨vq6, hvq6⟩ : ∃ z, z = sP p0 6 := ⟨_, rfl⟩
  rw [← hva6, ← hvb6] at V_ba
  rw [← hvq6]
  have V_ba : Arv Z h8 ba k_ba .char (40 : Int32) [(.int va0), (.int vb0), (.int va1), (.int vb1), (.int va2), (.int vb2), (.int va3), (.int vb3), (.int va4), (.int vb4), (.int va5), (.int vb5), (.int va6), (.int vb6), (.int (0 : Int32)), (.int (0 : Int32)), (.int (0 : Int32)), (.int (0 : Int32)), (.int (0 : Int32)), (.int (0 : Int32)), (.int (0 : Int32)), (.int (0 : Int32)), (.int (0 : Int32)), (.int (0 : Int32)), (.int (0 : Int32)), (.int (0 : Int32)), (.int (0 : Int32)), (.int (0 : Int32)), (.int (0 : Int32)), (.int (0 : Int32)), (.int (0 : Int32)), (.int (0 : Int32)), (.int (0 : Int32)), (.int (0 : Int32)), (.int (0 : Int32)), (.int (0 : Int32)), (.int (0 : Int32)), (.int (0 : Int32)), (.int (0 : Int32)), (.int (0 : Int32))] (.int (0 : Int32)) := V_ba
  show Go p e below _ (T.setTop (mkF m 68 #[.val (.long p0), .second, .val (.long p1), .second, .val (.int p2), .val (.ref ba), .unset, .unset, .unset, .unset, .unset, .unset] [(.int vq6), (.int (((((vq0 + vq1) + vq2) + vq3) + vq4) + vq5))]))
  refine Go.st (fun _ k => XS.iadd X.here hx rfl (hb hby at_68) rfl k) ?_
  show Go p e below _ (T.setTop (mkF m 69 #[.val (.long p0), .second, .val (.long p1), .second, .val (.int p2), .val (.ref ba), .unset, .unset, .unset, .unset, .unset, .unset] [(.int ((((((vq0 + vq1) + vq2) + vq3) + vq4) + vq5) + vq6))]))
  refine Go.st (fun _ k => XS.aload X.here hx rfl (hb hby at_69) rfl rfl k) ?_
  show Go p e below _ (T.setTop (mkF m 71 #[.val (.long p0), .second, .val (.long p1), .second, .val (.int p2), .val (.ref ba), .unset, .unset, .unset, .unset, .unset, .unset] [(.ref ba), (.int ((((((vq0 + vq1) + vq2) + vq3) + vq4) + vq5) + vq6))]))
  refine Go.st (fun _ k => XS.bipush X.here hx rfl (hb hby at_71) k) ?_
  show Go p e below _ (T.setTop (mkF m 73 #[.val (.long p0), .second, .val (.long p1), .second, .val (.int p2), .val (.ref ba), .unset, .unset, .unset, .unset, .unset, .unset] [(.int (7 : Int32)), (.ref ba), (.int ((((((vq0 + vq1) + vq2) + vq3) + vq4) + vq5) + vq6))]))
  refine Go.st (fun _ k => XS.lloadN X.here hx rfl (hb hby at_73) rfl k) ?_
  show Go p e below _ (T.setTop (mkF m 74 #[.val (.long p0), .second, .val (.long p1), .second, .val (.int p2), .val (.ref ba), .unset, .unset, .unset, .unset, .unset, .unset] [(.long p0), (.int (7 : Int32)), (.ref ba), (.int ((((((vq0 + vq1) + vq2) + vq3) + vq4) + vq5) + vq6))]))
  refine Go.st (fun _ k => XS.lloadN X.here hx rfl (hb hby at_74) rfl k) ?_
  show Go p e below _ (T.setTop (mkF m 75 #[.val (.long p0), .second, .val (.long p1), .second, .val (.int p2), .val (.ref ba), .unset, .unset, .unset, .unset, .unset, .unset] [(.long p1), (.long p0), (.int (7 : Int32)), (.ref ba), (.int ((((((vq0 + vq1) + vq2) + vq3) + vq4) + vq5) + vq6))]))
  have Sa := Safe.arv (EL := EL0) hZ.alike V_ba (by decide)
  refine Go.callP (argsL := [(.ref ba), (.int (7 : Int32)), (.long p0), (.long p1)]) (rest := [(.int ((((((vq0 + vq1) + vq2) + vq3) + vq4) + vq5) + vq6))]) (W := 1) (ck := 0) (sk := 0) X hx hZ hown (hml.trans rfl) hT (hw _ (List.mem_of_getElem? (i := 1) rfl)) (hw _ (List.mem_of_getElem? (i := 2) rfl)) (hw _ (List.mem_of_getElem? (i := 3) rfl)) (hw _ (List.mem_of_getElem? (i := 4) rfl)) (by decide) pd_19 rfl rfl (Nat.le_of_ble_eq_true rfl) (hb hby at_75) (backOf (W := 1) (met_slot l Z a0 hw [] n0 ba k_ba _ 7 p0 p1 _ ge_ba V_ba (by decide) rfl) hZ (hw _ (List.mem_of_getElem? (i := 4) rfl)) (hw _ (List.mem_of_getElem? (i := 3) rfl)) (by decide) (by decide)) (by decide) (by decide) ?_
  intro v T h9 L hT hQ X
  obtain ⟨rfl, N0, K0, V_ba⟩ := hQ
  have N := Fr.app N N0
  have H := H.keep K0 (sfS Sa sf0)
  have KB := (KB).trans K0 (allS (Or.inr gk_ba) all0)
  obtain ⟨va7, hva7⟩ : ∃ z, z = sA p0 p1 7 := ⟨_, rfl⟩
  obtain ⟨vb7, hvb7⟩ : ∃ z, z = sB p0 p1 7 := ⟨_, rfl⟩
  obtain ⟨vq7, hvq7⟩ : ∃ z, z = sP p0 7 := ⟨_, rfl⟩
  rw [← hva7, ← hvb7] at V_ba
  rw [← hvq7]
  have V_ba : Arv Z h9 ba k_ba .char (40 : Int32) [(.int va0), (.int vb0), (.int va1), (.int vb1), (.int va2), (.int vb2), (.int va3), (.int vb3), (.int va4), (.int vb4), (.int va5), (.int vb5), (.int va6), (.int vb6), (.int va7), (.int vb7), (.int (0 : Int32)), (.int (0 : Int32)), (.int (0 : Int32)), (.int (0 : Int32)), (.int (0 : Int32)), (.int (0 : Int32)), (.int (0 : Int32)), (.int (0 : Int32)), (.int (0 : Int32)), (.int (0 : Int32)), (.int (0 : Int32)), (.int (0 : Int32)), (.int (0 : Int32)), (.int (0 : Int32)), (.int (0 : Int32)), (.int (0 : Int32)), (.int (0 : Int32)), (.int (0 : Int32)), (.int (0 : Int32)), (.int (0 : Int32)), (.int (0 : Int32)), (.int (0 : Int32)), (.int (0 : Int32)), (.int (0 : Int32))] (.int (0 : Int32)) := V_ba
  show Go p e below _ (T.setTop (mkF m 78 #[.val (.long p0), .second, .val (.long p1), .second, .val (.int p2), .val (.ref ba), .unset, .unset, .unset, .unset, .unset, .unset] [(.int vq7), (.int ((((((vq0 + vq1) + vq2) + vq3) + vq4) + vq5) + vq6))]))
  refine Go.st (fun _ k => XS.iadd X.here hx rfl (hb hby at_78) rfl k) ?_
  show Go p e below _ (T.setTop (mkF m 79 #[.val (.long p0), .second, .val (.long p1), .second, .val (.int p2), .val (.ref ba), .unset, .unset, .unset, .unset, .unset, .unset] [(.int (((((((vq0 + vq1) + vq2) + vq3) + vq4) + vq5) + vq6) + vq7))]))
  refine Go.st (fun _ k => XS.aload X.here hx rfl (hb hby at_79) rfl rfl k) ?_
  show Go p e below _ (T.setTop (mkF m 81 #[.val (.long p0), .second, .val (.long p1), .second, .val (.int p2), .val (.ref ba), .unset, .unset, .unset, .unset, .unset, .unset] [(.ref ba), (.int (((((((vq0 + vq1) + vq2) + vq3) + vq4) + vq5) + vq6) + vq7))]))
  refine Go.st (fun _ k => XS.bipush X.here hx rfl (hb hby at_81) k) ?_
  show Go p e below _ (T.setTop (mkF m 83 #[.val (.long p0), .second, .val (.long p1), .second, .val (.int p2), .val (.ref ba), .unset, .unset, .unset, .unset, .unset, .unset] [(.int (8 : Int32)), (.ref ba), (.int (((((((vq0 + vq1) + vq2) + vq3) + vq4) + vq5) + vq6) + vq7))]))
  refine Go.st (fun _ k => XS.lloadN X.here hx rfl (hb hby at_83) rfl k) ?_
  show Go p e below _ (T.setTop (mkF m 84 #[.val (.long p0), .second, .val (.long p1), .second, .val (.int p2), .val (.ref ba), .unset, .unset, .unset, .unset, .unset, .unset] [(.long p0), (.int (8 : Int32)), (.ref ba), (.int (((((((vq0 + vq1) + vq2) + vq3) + vq4) + vq5) + vq6) + vq7))]))
  refine Go.st (fun _ k => XS.lloadN X.here hx rfl (hb hby at_84) rfl k) ?_
  show Go p e below _ (T.setTop (mkF m 85 #[.val (.long p0), .second, .val (.long p1), .second, .val (.int p2), .val (.ref ba), .unset, .unset, .unset, .unset, .unset, .unset] [(.long p1), (.long p0), (.int (8 : Int32)), (.ref ba), (.int (((((((vq0 + vq1) + vq2) + vq3) + vq4) + vq5) + vq6) + vq7))]))
  have Sa := Safe.arv (EL := EL0) hZ.alike V_ba (by decide)
  refine Go.callP (argsL := [(.ref ba), (.int (8 : Int32)), (.long p0), (.long p1)]) (rest := [(.int (((((((vq0 + vq1) + vq2) + vq3) + vq4) + vq5) + vq6) + vq7))]) (W := 1) (ck := 0) (sk := 0) X hx hZ hown (hml.trans rfl) hT (hw _ (List.mem_of_getElem? (i := 1) rfl)) (hw _ (List.mem_of_getElem? (i := 2) rfl)) (hw _ (List.mem_of_getElem? (i := 3) rfl)) (hw _ (List.mem_of_getElem? (i := 4) rfl)) (by decide) pd_19 rfl rfl (Nat.le_of_ble_eq_true rfl) (hb hby at_85) (backOf (W := 1) (met_slot l Z a0 hw [] n0 ba k_ba _ 8 p0 p1 _ ge_ba V_ba (by decide) rfl) hZ (hw _ (List.mem_of_getElem? (i := 4) rfl)) (hw _ (List.mem_of_getElem? (i := 3) rfl)) (by decide) (by decide)) (by decide) (by decide) ?_
  intro v T h10 L hT hQ X
  obtain ⟨rfl, N0, K0, V_ba⟩ := hQ
  have N := Fr.app N N0
  have H := H.keep K0 (sfS Sa sf0)
  have KB := (KB).trans K0 (allS (Or.inr gk_ba) all0)
  obtain ⟨va8, hva8⟩ : ∃ z, z = sA p0 p1 8 := ⟨_, rfl⟩
  obtain ⟨vb8, hvb8⟩ : ∃ z, z = sB p0 p1 8 := ⟨_, rfl⟩
  obtain ⟨vq8, hvq8⟩ : ∃ z, z = sP p0 8 := ⟨_, rfl⟩
  rw [← hva8, ← hvb8] at V_ba
  rw [← hvq8]
  have V_ba : Arv Z h10 ba k_ba .char (40 : Int32) [(.int va0), (.int vb0), (.int va1), (.int vb1), (.int va2), (.int vb2), (.int va3), (.int vb3), (.int va4), (.int vb4), (.int va5), (.int vb5), (.int va6), (.int vb6), (.int va7), (.int vb7), (.int va8), (.int vb8), (.int (0 : Int32)), (.int (0 : Int32)), (.int (0 : Int32)), (.int (0 : Int32)), (.int (0 : Int32)), (.int (0 : Int32)), (.int (0 : Int32)), (.int (0 : Int32)), (.int (0 : Int32)), (.int (0 : Int32)), (.int (0 : Int32)), (.int (0 : Int32)), (.int (0 : Int32)), (.int (0 : Int32)), (.int (0 : Int32)), (.int (0 : Int32)), (.int (0 : Int32)), (.int (0 : Int32)), (.int (0 : Int32)), (.int (0 : Int32)), (.int (0 : Int32)), (.int (0 : Int32))] (.int (0 : Int32)) := V_ba
  show Go p e below _ (T.setTop (mkF m 88 #[.val (.long p0), .second, .val (.long p1), .second, .val (.int p2), .val (.ref ba), .unset, .unset, .unset, .unset, .unset, .unset] [(.int vq8), (.int (((((((vq0 + vq1) + vq2) + vq3) + vq4) + vq5) + vq6) + vq7))]))
  refine Go.st (fun _ k => XS.iadd X.here hx rfl (hb hby at_88) rfl k) ?_
  show Go p e below _ (T.setTop (mkF m 89 #[.val (.long p0), .second, .val (.long p1), .second, .val (.int p2), .val (.ref ba), .unset, .unset, .unset, .unset, .unset, .unset] [(.int ((((((((vq0 + vq1) + vq2) + vq3) + vq4) + vq5) + vq6) + vq7) + vq8))]))
  refine Go.st (fun _ k => XS.aload X.here hx rfl (hb hby at_89) rfl rfl k) ?_
  show Go p e below _ (T.setTop (mkF m 91 #[.val (.long p0), .second, .val (.long p1), .second, .val (.int p2), .val (.ref ba), .unset, .unset, .unset, .unset, .unset, .unset] [(.ref ba), (.int ((((((((vq0 + vq1) + vq2) + vq3) + vq4) + vq5) + vq6) + vq7) + vq8))]))
  refine Go.st (fun _ k => XS.bipush X.here hx rfl (hb hby at_91) k) ?_
  show Go p e below _ (T.setTop (mkF m 93 #[.val (.long p0), .second, .val (.long p1), .second, .val (.int p2), .val (.ref ba), .unset, .unset, .unset, .unset, .unset, .unset] [(.int (9 : Int32)), (.ref ba), (.int ((((((((vq0 + vq1) + vq2) + vq3) + vq4) + vq5) + vq6) + vq7) + vq8))]))
  refine Go.st (fun _ k => XS.lloadN X.here hx rfl (hb hby at_93) rfl k) ?_
  show Go p e below _ (T.setTop (mkF m 94 #[.val (.long p0), .second, .val (.long p1), .second, .val (.int p2), .val (.ref ba), .unset, .unset, .unset, .unset, .unset, .unset] [(.long p0), (.int (9 : Int32)), (.ref ba), (.int ((((((((vq0 + vq1) + vq2) + vq3) + vq4) + vq5) + vq6) + vq7) + vq8))]))
  refine Go.st (fun _ k => XS.lloadN X.here hx rfl (hb hby at_94) rfl k) ?_
  show Go p e below _ (T.setTop (mkF m 95 #[.val (.long p0), .second, .val (.long p1), .second, .val (.int p2), .val (.ref ba), .unset, .unset, .unset, .unset, .unset, .unset] [(.long p1), (.long p0), (.int (9 : Int32)), (.ref ba), (.int ((((((((vq0 + vq1) + vq2) + vq3) + vq4) + vq5) + vq6) + vq7) + vq8))]))
  have Sa := Safe.arv (EL := EL0) hZ.alike V_ba (by decide)
  refine Go.callP (argsL := [(.ref ba), (.int (9 : Int32)), (.long p0), (.long p1)]) (rest := [(.int ((((((((vq0 + vq1) + vq2) + vq3) + vq4) + vq5) + vq6) + vq7) + vq8))]) (W := 1) (ck := 0) (sk := 0) X hx hZ hown (hml.trans rfl) hT (hw _ (List.mem_of_getElem? (i := 1) rfl)) (hw _ (List.mem_of_getElem? (i := 2) rfl)) (hw _ (List.mem_of_getElem? (i := 3) rfl)) (hw _ (List.mem_of_getElem? (i := 4) rfl)) (by decide) pd_19 rfl rfl (Nat.le_of_ble_eq_true rfl) (hb hby at_95) (backOf (W := 1) (met_slot l Z a0 hw [] n0 ba k_ba _ 9 p0 p1 _ ge_ba V_ba (by decide) rfl) hZ (hw _ (List.mem_of_getElem? (i := 4) rfl)) (hw _ (List.mem_of_getElem? (i := 3) rfl)) (by decide) (by decide)) (by decide) (by decide) ?_
  intro v T h11 L hT hQ X
  obtain ⟨rfl, N0, K0, V_ba⟩ := hQ
  have N := Fr.app N N0
  have H := H.keep K0 (sfS Sa sf0)
  have KB := (KB).trans K0 (allS (Or.inr gk_ba) all0)
  obtain ⟨va9, hva9⟩ : ∃ z, z = sA p0 p1 9 := ⟨_, rfl⟩
  obtain ⟨vb9, hvb9⟩ : ∃ z, z = sB p0 p1 9 := ⟨_, rfl⟩
  obtain ⟨vq9, hvq9⟩ : ∃ z, z = sP p0 9 := ⟨_, rfl⟩
  rw [← hva9, ← hvb9] at V_ba
  rw [← hvq9]
  have V_ba : Arv Z h11 ba k_ba .char (40 : Int32) [(.int va0), (.int vb0), (.int va1), (.int vb1), (.int va2), (.int vb2), (.int va3), (.int vb3), (.int va4), (.int vb4), (.int va5), (.int vb5), (.int va6), (.int vb6), (.int va7), (.int vb7), (.int va8), (.int vb8), (.int va9), (.int vb9), (.int (0 : Int32)), (.int (0 : Int32)), (.int (0 : Int32)), (.int (0 : Int32)), (.int (0 : Int32)), (.int (0 : Int32)), (.int (0 : Int32)), (.int (0 : Int32)), (.int (0 : Int32)), (.int (0 : Int32)), (.int (0 : Int32)), (.int (0 : Int32)), (.int (0 : Int32)), (.int (0 : Int32)), (.int (0 : Int32)), (.int (0 : Int32)), (.int (0 : Int32)), (.int (0 : Int32)), (.int (0 : Int32)), (.int (0 : Int32))] (.int (0 : Int32)) := V_ba
  show Go p e below _ (T.setTop (mkF m 98 #[.val (.long p0), .second, .val (.long p1), .second, .val (.int p2), .val (.ref ba), .unset, .unset, .unset, .unset, .unset, .unset] [(.int vq9), (.int ((((((((vq0 + vq1) + vq2) + vq3) + vq4) + vq5) + vq6) + vq7) + vq8))]))
  refine Go.st (fun _ k => XS.iadd X.here hx rfl (hb hby at_98) rfl k) ?_
  show Go p e below _ (T.setTop (mkF m 99 #[.val (.long p0), .second, .val (.long p1), .second, .val (.int p2), .val (.ref ba), .unset, .unset, .unset, .unset, .unset, .unset] [(.int (((((((((vq0 + vq1) + vq2) + vq3) + vq4) + vq5) + vq6) + vq7) + vq8) + vq9))]))
  refine Go.st (fun _ k => XS.aload X.here hx rfl (hb hby at_99) rfl rfl k) ?_
  show Go p e below _ (T.setTop (mkF m 101 #[.val (.long p0), .second, .val (.long p1), .second, .val (.int p2), .val (.ref ba), .unset, .unset, .unset, .unset, .unset, .unset] [(.ref ba), (.int (((((((((vq0 + vq1) + vq2) + vq3) + vq4) + vq5) + vq6) + vq7) + vq8) + vq9))]))
  refine Go.st (fun _ k => XS.bipush X.here hx rfl (hb hby at_101) k) ?_
  show Go p e below _ (T.setTop (mkF m 103 #[.val (.long p0), .second, .val (.long p1), .second, .val (.int p2), .val (.ref ba), .unset, .unset, .unset, .unset, .unset, .unset] [(.int (10 : Int32)), (.ref ba), (.int (((((((((vq0 + vq1) + vq2) + vq3) + vq4) + vq5) + vq6) + vq7) + vq8) + vq9))]))
  refine Go.st (fun _ k => XS.lloadN X.here hx rfl (hb hby at_103) rfl k) ?_
  show Go p e below _ (T.setTop (mkF m 104 #[.val (.long p0), .second, .val (.long p1), .second, .val (.int p2), .val (.ref ba), .unset, .unset, .unset, .unset, .unset, .unset] [(.long p0), (.int (10 : Int32)), (.ref ba), (.int (((((((((vq0 + vq1) + vq2) + vq3) + vq4) + vq5) + vq6) + vq7) + vq8) + vq9))]))
  refine Go.st (fun _ k => XS.lloadN X.here hx rfl (hb hby at_104) rfl k) ?_
  show Go p e below _ (T.setTop (mkF m 105 #[.val (.long p0), .second, .val (.long p1), .second, .val (.int p2), .val (.ref ba), .unset, .unset, .unset, .unset, .unset, .unset] [(.long p1), (.long p0), (.int (10 : Int32)), (.ref ba), (.int (((((((((vq0 + vq1) + vq2) + vq3) + vq4) + vq5) + vq6) + vq7) + vq8) + vq9))]))
  have Sa := Safe.arv (EL := EL0) hZ.alike V_ba (by decide)
  refine Go.callP (argsL := [(.ref ba), (.int (10 : Int32)), (.long p0), (.long p1)]) (rest := [(.int (((((((((vq0 + vq1) + vq2) + vq3) + vq4) + vq5) + vq6) + vq7) + vq8) + vq9))]) (W := 1) (ck := 0) (sk := 0) X hx hZ hown (hml.trans rfl) hT (hw _ (List.mem_of_getElem? (i := 1) rfl)) (hw _ (List.mem_of_getElem? (i := 2) rfl)) (hw _ (List.mem_of_getElem? (i := 3) rfl)) (hw _ (List.mem_of_getElem? (i := 4) rfl)) (by decide) pd_19 rfl rfl (Nat.le_of_ble_eq_true rfl) (hb hby at_105) (backOf (W := 1) (met_slot l Z a0 hw [] n0 ba k_ba _ 10 p0 p1 _ ge_ba V_ba (by decide) rfl) hZ (hw _ (List.mem_of_getElem? (i := 4) rfl)) (hw _ (List.mem_of_getElem? (i := 3) rfl)) (by decide) (by decide)) (by decide) (by decide) ?_
  intro v T h12 L hT hQ X
  obtain ⟨rfl, N0, K0, V_ba⟩ := hQ
  have N := Fr.app N N0
  have H := H.keep K0 (sfS Sa sf0)
  have KB := (KB).trans K0 (allS (Or.inr gk_ba) all0)
  obtain ⟨va10, hva10⟩ : ∃ z, z = sA p0 p1 10 := ⟨_, rfl⟩
  obtain ⟨vb10, hvb10⟩ : ∃ z, z = sB p0 p1 10 := ⟨_, rfl⟩
  obtain ⟨vq10, hvq10⟩ : ∃ z, z = sP p0 10 := ⟨_, rfl⟩
  rw [← hva10, ← hvb10] at V_ba
  rw [← hvq10]
  have V_ba : Arv Z h12 ba k_ba .char (40 : Int32) [(.int va0), (.int vb0), (.int va1), (.int vb1), (.int va2), (.int vb2), (.int va3), (.int vb3), (.int va4), (.int vb4), (.int va5), (.int vb5), (.int va6), (.int vb6), (.int va7), (.int vb7), (.int va8), (.int vb8), (.int va9), (.int vb9), (.int va10), (.int vb10), (.int (0 : Int32)), (.int (0 : Int32)), (.int (0 : Int32)), (.int (0 : Int32)), (.int (0 : Int32)), (.int (0 : Int32)), (.int (0 : Int32)), (.int (0 : Int32)), (.int (0 : Int32)), (.int (0 : Int32)), (.int (0 : Int32)), (.int (0 : Int32)), (.int (0 : Int32)), (.int (0 : Int32)), (.int (0 : Int32)), (.int (0 : Int32)), (.int (0 : Int32)), (.int (0 : Int32))] (.int (0 : Int32)) := V_ba
  show Go p e below _ (T.setTop (mkF m 108 #[.val (.long p0), .second, .val (.long p1), .second, .val (.int p2), .val (.ref ba), .unset, .unset, .unset, .unset, .unset, .unset] [(.int vq10), (.int (((((((((vq0 + vq1) + vq2) + vq3) + vq4) + vq5) + vq6) + vq7) + vq8) + vq9))]))
  refine Go.st (fun _ k => XS.iadd X.here hx rfl (hb hby at_108) rfl k) ?_
  show Go p e below _ (T.setTop (mkF m 109 #[.val (.long p0), .second, .val (.long p1), .second, .val (.int p2), .val (.ref ba), .unset, .unset, .unset, .unset, .unset, .unset] [(.int ((((((((((vq0 + vq1) + vq2) + vq3) + vq4) + vq5) + vq6) + vq7) + vq8) + vq9) + vq10))]))
  refine Go.st (fun _ k => XS.aload X.here hx rfl (hb hby at_109) rfl rfl k) ?_
  show Go p e below _ (T.setTop (mkF m 111 #[.val (.long p0), .second, .val (.long p1), .second, .val (.int p2), .val (.ref ba), .unset, .unset, .unset, .unset, .unset, .unset] [(.ref ba), (.int ((((((((((vq0 + vq1) + vq2) + vq3) + vq4) + vq5) + vq6) + vq7) + vq8) + vq9) + vq10))]))
  refine Go.st (fun _ k => XS.bipush X.here hx rfl (hb hby at_111) k) ?_
  show Go p e below _ (T.setTop (mkF m 113 #[.val (.long p0), .second, .val (.long p1), .second, .val (.int p2), .val (.ref ba), .unset, .unset, .unset, .unset, .unset, .unset] [(.int (11 : Int32)), (.ref ba), (.int ((((((((((vq0 + vq1) + vq2) + vq3) + vq4) + vq5) + vq6) + vq7) + vq8) + vq9) + vq10))]))
  refine Go.st (fun _ k => XS.lloadN X.here hx rfl (hb hby at_113) rfl k) ?_
  show Go p e below _ (T.setTop (mkF m 114 #[.val (.long p0), .second, .val (.long p1), .second, .val (.int p2), .val (.ref ba), .unset, .unset, .unset, .unset, .unset, .unset] [(.long p0), (.int (11 : Int32)), (.ref ba), (.int ((((((((((vq0 + vq1) + vq2) + vq3) + vq4) + vq5) + vq6) + vq7) + vq8) + vq9) + vq10))]))
  refine Go.st (fun _ k => XS.lloadN X.here hx rfl (hb hby at_114) rfl k) ?_
  show Go p e below _ (T.setTop (mkF m 115 #[.val (.long p0), .second, .val (.long p1), .second, .val (.int p2), .val (.ref ba), .unset, .unset, .unset, .unset, .unset, .unset] [(.long p1), (.long p0), (.int (11 : Int32)), (.ref ba), (.int ((((((((((vq0 + vq1) + vq2) + vq3) + vq4) + vq5) + vq6) + vq7) + vq8) + vq9) + vq10))]))
  have Sa := Safe.arv (EL := EL0) hZ.alike V_ba (by decide)
  refine Go.callP (argsL := [(.ref ba), (.int (11 : Int32)), (.long p0), (.long p1)]) (rest := [(.int ((((((((((vq0 + vq1) + vq2) + vq3) + vq4) + vq5) + vq6) + vq7) + vq8) + vq9) + vq10))]) (W := 1) (ck := 0) (sk := 0) X hx hZ hown (hml.trans rfl) hT (hw _ (List.mem_of_getElem? (i := 1) rfl)) (hw _ (List.mem_of_getElem? (i := 2) rfl)) (hw _ (List.mem_of_getElem? (i := 3) rfl)) (hw _ (List.mem_of_getElem? (i := 4) rfl)) (by decide) pd_19 rfl rfl (Nat.le_of_ble_eq_true rfl) (hb hby at_115) (backOf (W := 1) (met_slot l Z a0 hw [] n0 ba k_ba _ 11 p0 p1 _ ge_ba V_ba (by decide) rfl) hZ (hw _ (List.mem_of_getElem? (i := 4) rfl)) (hw _ (List.mem_of_getElem? (i := 3) rfl)) (by decide) (by decide)) (by decide) (by decide) ?_
  intro v T h13 L hT hQ X
  obtain ⟨rfl, N0, K0, V_ba⟩ := hQ
  have N := Fr.app N N0
  have H := H.keep K0 (sfS Sa sf0)
  have KB := (KB).trans K0 (allS (Or.inr gk_ba) all0)
  obtain ⟨va11, hva11⟩ : ∃ z, z = sA p0 p1 11 := ⟨_, rfl⟩
  obtain ⟨vb11, hvb11⟩ : ∃ z, z = sB p0 p1 11 := ⟨_, rfl⟩
  obtain ⟨vq11, hvq11⟩ : ∃ z, z = sP p0 11 := ⟨_, rfl⟩
  rw [← hva11, ← hvb11] at V_ba
  rw [← hvq11]
  have V_ba : Arv Z h13 ba k_ba .char (40 : Int32) [(.int va0), (.int vb0), (.int va1), (.int vb1), (.int va2), (.int vb2), (.int va3), (.int vb3), (.int va4), (.int vb4), (.int va5), (.int vb5), (.int va6), (.int vb6), (.int va7), (.int vb7), (.int va8), (.int vb8), (.int va9), (.int vb9), (.int va10), (.int vb10), (.int va11), (.int vb11), (.int (0 : Int32)), (.int (0 : Int32)), (.int (0 : Int32)), (.int (0 : Int32)), (.int (0 : Int32)), (.int (0 : Int32)), (.int (0 : Int32)), (.int (0 : Int32)), (.int (0 : Int32)), (.int (0 : Int32)), (.int (0 : Int32)), (.int (0 : Int32)), (.int (0 : Int32)), (.int (0 : Int32)), (.int (0 : Int32)), (.int (0 : Int32))] (.int (0 : Int32)) := V_ba
  show Go p e below _ (T.setTop (mkF m 118 #[.val (.long p0), .second, .val (.long p1), .second, .val (.int p2), .val (.ref ba), .unset, .unset, .unset, .unset, .unset, .unset] [(.int vq11), (.int ((((((((((vq0 + vq1) + vq2) + vq3) + vq4) + vq5) + vq6) + vq7) + vq8) + vq9) + vq10))]))
  refine Go.st (fun _ k => XS.iadd X.here hx rfl (hb hby at_118) rfl k) ?_
  show Go p e below _ (T.setTop (mkF m 119 #[.val (.long p0), .second, .val (.long p1), .second, .val (.int p2), .val (.ref ba), .unset, .unset, .unset, .unset, .unset, .unset] [(.int (((((((((((vq0 + vq1) + vq2) + vq3) + vq4) + vq5) + vq6) + vq7) + vq8) + vq9) + vq10) + vq11))]))
  refine Go.st (fun _ k => XS.aload X.here hx rfl (hb hby at_119) rfl rfl k) ?_
  show Go p e below _ (T.setTop (mkF m 121 #[.val (.long p0), .second, .val (.long p1), .second, .val (.int p2), .val (.ref ba), .unset, .unset, .unset, .unset, .unset, .unset] [(.ref ba), (.int (((((((((((vq0 + vq1) + vq2) + vq3) + vq4) + vq5) + vq6) + vq7) + vq8) + vq9) + vq10) + vq11))]))
  refine Go.st (fun _ k => XS.bipush X.here hx rfl (hb hby at_121) k) ?_
  show Go p e below _ (T.setTop (mkF m 123 #[.val (.long p0), .second, .val (.long p1), .second, .val (.int p2), .val (.ref ba), .unset, .unset, .unset, .unset, .unset, .unset] [(.int (12 : Int32)), (.ref ba), (.int (((((((((((vq0 + vq1) + vq2) + vq3) + vq4) + vq5) + vq6) + vq7) + vq8) + vq9) + vq10) + vq11))]))
  refine Go.st (fun _ k => XS.lloadN X.here hx rfl (hb hby at_123) rfl k) ?_
  show Go p e below _ (T.setTop (mkF m 124 #[.val (.long p0), .second, .val (.long p1), .second, .val (.int p2), .val (.ref ba), .unset, .unset, .unset, .unset, .unset, .unset] [(.long p0), (.int (12 : Int32)), (.ref ba), (.int (((((((((((vq0 + vq1) + vq2) + vq3) + vq4) + vq5) + vq6) + vq7) + vq8) + vq9) + vq10) + vq11))]))
  refine Go.st (fun _ k => XS.lloadN X.here hx rfl (hb hby at_124) rfl k) ?_
  show Go p e below _ (T.setTop (mkF m 125 #[.val (.long p0), .second, .val (.long p1), .second, .val (.int p2), .val (.ref ba), .unset, .unset, .unset, .unset, .unset, .unset] [(.long p1), (.long p0), (.int (12 : Int32)), (.ref ba), (.int (((((((((((vq0 + vq1) + vq2) + vq3) + vq4) + vq5) + vq6) + vq7) + vq8) + vq9) + vq10) + vq11))]))
  have Sa := Safe.arv (EL := EL0) hZ.alike V_ba (by decide)
  refine Go.callP (argsL := [(.ref ba), (.int (12 : Int32)), (.long p0), (.long p1)]) (rest := [(.int (((((((((((vq0 + vq1) + vq2) + vq3) + vq4) + vq5) + vq6) + vq7) + vq8) + vq9) + vq10) + vq11))]) (W := 1) (ck := 0) (sk := 0) X hx hZ hown (hml.trans rfl) hT (hw _ (List.mem_of_getElem? (i := 1) rfl)) (hw _ (List.mem_of_getElem? (i := 2) rfl)) (hw _ (List.mem_of_getElem? (i := 3) rfl)) (hw _ (List.mem_of_getElem? (i := 4) rfl)) (by decide) pd_19 rfl rfl (Nat.le_of_ble_eq_true rfl) (hb hby at_125) (backOf (W := 1) (met_slot l Z a0 hw [] n0 ba k_ba _ 12 p0 p1 _ ge_ba V_ba (by decide) rfl) hZ (hw _ (List.mem_of_getElem? (i := 4) rfl)) (hw _ (List.mem_of_getElem? (i := 3) rfl)) (by decide) (by decide)) (by decide) (by decide) ?_
  intro v T h14 L hT hQ X
  obtain ⟨rfl, N0, K0, V_ba⟩ := hQ
  have N := Fr.app N N0
  have H := H.keep K0 (sfS Sa sf0)
  have KB := (KB).trans K0 (allS (Or.inr gk_ba) all0)
  obtain ⟨va12, hva12⟩ : ∃ z, z = sA p0 p1 12 := ⟨_, rfl⟩
  obtain ⟨vb12, hvb12⟩ : ∃ z, z = sB p0 p1 12 := ⟨_, rfl⟩
  obtain ⟨vq12, hvq12⟩ : ∃ z, z = sP p0 12 := ⟨_, rfl⟩
  rw [← hva12, ← hvb12] at V_ba
  rw [← hvq12]
  have V_ba : Arv Z h14 ba k_ba .char (40 : Int32) [(.int va0), (.int vb0), (.int va1), (.int vb1), (.int va2), (.int vb2), (.int va3), (.int vb3), (.int va4), (.int vb4), (.int va5), (.int vb5), (.int va6), (.int vb6), (.int va7), (.int vb7), (.int va8), (.int vb8), (.int va9), (.int vb9), (.int va10), (.int vb10), (.int va11), (.int vb11), (.int va12), (.int vb12), (.int (0 : Int32)), (.int (0 : Int32)), (.int (0 : Int32)), (.int (0 : Int32)), (.int (0 : Int32)), (.int (0 : Int32)), (.int (0 : Int32)), (.int (0 : Int32)), (.int (0 : Int32)), (.int (0 : Int32)), (.int (0 : Int32)), (.int (0 : Int32)), (.int (0 : Int32)), (.int (0 : Int32))] (.int (0 : Int32)) := V_ba
  show Go p e below _ (T.setTop (mkF m 128 #[.val (.long p0), .second, .val (.long p1), .second, .val (.int p2), .val (.ref ba), .unset, .unset, .unset, .unset, .unset, .unset] [(.int vq12), (.int (((((((((((vq0 + vq1) + vq2) + vq3) + vq4) + vq5) + vq6) + vq7) + vq8) + vq9) + vq10) + vq11))]))
  refine Go.st (fun _ k => XS.iadd X.here hx rfl (hb hby at_128) rfl k) ?_
  show Go p e below _ (T.setTop (mkF m 129 #[.val (.long p0), .second, .val (.long p1), .second, .val (.int p2), .val (.ref ba), .unset, .unset, .unset, .unset, .unset, .unset] [(.int ((((((((((((vq0 + vq1) + vq2) + vq3) + vq4) + vq5) + vq6) + vq7) + vq8) + vq9) + vq10) + vq11) + vq12))]))
  refine Go.st (fun _ k => XS.aload X.here hx rfl (hb hby at_129) rfl rfl k) ?_
  show Go p e below _ (T.setTop (mkF m 131 #[.val (.long p0), .second, .val (.long p1), .second, .val (.int p2), .val (.ref ba), .unset, .unset, .unset, .unset, .unset, .unset] [(.ref ba), (.int ((((((((((((vq0 + vq1) + vq2) + vq3) + vq4) + vq5) + vq6) + vq7) + vq8) + vq9) + vq10) + vq11) + vq12))]))
  refine Go.st (fun _ k => XS.bipush X.here hx rfl (hb hby at_131) k) ?_
  show Go p e below _ (T.setTop (mkF m 133 #[.val (.long p0), .second, .val (.long p1), .second, .val (.int p2), .val (.ref ba), .unset, .unset, .unset, .unset, .unset, .unset] [(.int (13 : Int32)), (.ref ba), (.int ((((((((((((vq0 + vq1) + vq2) + vq3) + vq4) + vq5) + vq6) + vq7) + vq8) + vq9) + vq10) + vq11) + vq12))]))
  refine Go.st (fun _ k => XS.lloadN X.here hx rfl (hb hby at_133) rfl k) ?_
  show Go p e below _ (T.setTop (mkF m 134 #[.val (.long p0), .second, .val (.long p1), .second, .val (.int p2), .val (.ref ba), .unset, .unset, .unset, .unset, .unset, .unset] [(.long p0), (.int (13 : Int32)), (.ref ba), (.int ((((((((((((vq0 + vq1) + vq2) + vq3) + vq4) + vq5) + vq6) + vq7) + vq8) + vq9) + vq10) + vq11) + vq12))]))
  refine Go.st (fun _ k => XS.lloadN X.here hx rfl (hb hby at_134) rfl k) ?_
  show Go p e below _ (T.setTop (mkF m 135 #[.val (.long p0), .second, .val (.long p1), .second, .val (.int p2), .val (.ref ba), .unset, .unset, .unset, .unset, .unset, .unset] [(.long p1), (.long p0), (.int (13 : Int32)), (.ref ba), (.int ((((((((((((vq0 + vq1) + vq2) + vq3) + vq4) + vq5) + vq6) + vq7) + vq8) + vq9) + vq10) + vq11) + vq12))]))
  have Sa := Safe.arv (EL := EL0) hZ.alike V_ba (by decide)
  refine Go.callP (argsL := [(.ref ba), (.int (13 : Int32)), (.long p0), (.long p1)]) (rest := [(.int ((((((((((((vq0 + vq1) + vq2) + vq3) + vq4) + vq5) + vq6) + vq7) + vq8) + vq9) + vq10) + vq11) + vq12))]) (W := 1) (ck := 0) (sk := 0) X hx hZ hown (hml.trans rfl) hT (hw _ (List.mem_of_getElem? (i := 1) rfl)) (hw _ (List.mem_of_getElem? (i := 2) rfl)) (hw _ (List.mem_of_getElem? (i := 3) rfl)) (hw _ (List.mem_of_getElem? (i := 4) rfl)) (by decide) pd_19 rfl rfl (Nat.le_of_ble_eq_true rfl) (hb hby at_135) (backOf (W := 1) (met_slot l Z a0 hw [] n0 ba k_ba _ 13 p0 p1 _ ge_ba V_ba (by decide) rfl) hZ (hw _ (List.mem_of_getElem? (i := 4) rfl)) (hw _ (List.mem_of_getElem? (i := 3) rfl)) (by decide) (by decide)) (by decide) (by decide) ?_
  intro v T h15 L hT hQ X
  obtain ⟨rfl, N0, K0, V_ba⟩ := hQ
  have N := Fr.app N N0
  have H := H.keep K0 (sfS Sa sf0)
  have KB := (KB).trans K0 (allS (Or.inr gk_ba) all0)
  obtain ⟨va13, hva13⟩ : ∃ z, z = sA p0 p1 13 := ⟨_, rfl⟩
  obtain ⟨vb13, hvb13⟩ : ∃ z, z = sB p0 p1 13 := ⟨_, rfl⟩
  obtain ⟨vq13, hvq13⟩ : ∃ z, z = sP p0 13 := ⟨_, rfl⟩
  rw [← hva13, ← hvb13] at V_ba
  rw [← hvq13]
  have V_ba : Arv Z h15 ba k_ba .char (40 : Int32) [(.int va0), (.int vb0), (.int va1), (.int vb1), (.int va2), (.int vb2), (.int va3), (.int vb3), (.int va4), (.int vb4), (.int va5), (.int vb5), (.int va6), (.int vb6), (.int va7), (.int vb7), (.int va8), (.int vb8), (.int va9), (.int vb9), (.int va10), (.int vb10), (.int va11), (.int vb11), (.int va12), (.int vb12), (.int va13), (.int vb13), (.int (0 : Int32)), (.int (0 : Int32)), (.int (0 : Int32)), (.int (0 : Int32)), (.int (0 : Int32)), (.int (0 : Int32)), (.int (0 : Int32)), (.int (0 : Int32)), (.int (0 : Int32)), (.int (0 : Int32)), (.int (0 : Int32)), (.int (0 : Int32))] (.int (0 : Int32)) := V_ba
  show Go p e below _ (T.setTop (mkF m 138 #[.val (.long p0), .second, .val (.long p1), .second, .val (.int p2), .val (.ref ba), .unset, .unset, .unset, .unset, .unset, .unset] [(.int vq13), (.int ((((((((((((vq0 + vq1) + vq2) + vq3) + vq4) + vq5) + vq6) + vq7) + vq8) + vq9) + vq10) + vq11) + vq12))]))
  refine Go.st (fun _ k => XS.iadd X.here hx rfl (hb hby at_138) rfl k) ?_
  show Go p e below _ (T.setTop (mkF m 139 #[.val (.long p0), .second, .val (.long p1), .second, .val (.int p2), .val (.ref ba), .unset, .unset, .unset, .unset, .unset, .unset] [(.int (((((((((((((vq0 + vq1) + vq2) + vq3) + vq4) + vq5) + vq6) + vq7) + vq8) + vq9) + vq10) + vq11) + vq12) + vq13))]))
  refine Go.st (fun _ k => XS.aload X.here hx rfl (hb hby at_139) rfl rfl k) ?_
  show Go p e below _ (T.setTop (mkF m 141 #[.val (.long p0), .second, .val (.long p1), .second, .val (.int p2), .val (.ref ba), .unset, .unset, .unset, .unset, .unset, .unset] [(.ref ba), (.int (((((((((((((vq0 + vq1) + vq2) + vq3) + vq4) + vq5) + vq6) + vq7) + vq8) + vq9) + vq10) + vq11) + vq12) + vq13))]))
  refine Go.st (fun _ k => XS.bipush X.here hx rfl (hb hby at_141) k) ?_
  show Go p e below _ (T.setTop (mkF m 143 #[.val (.long p0), .second, .val (.long p1), .second, .val (.int p2), .val (.ref ba), .unset, .unset, .unset, .unset, .unset, .unset] [(.int (14 : Int32)), (.ref ba), (.int (((((((((((((vq0 + vq1) + vq2) + vq3) + vq4) + vq5) + vq6) + vq7) + vq8) + vq9) + vq10) + vq11) + vq12) + vq13))]))
  refine Go.st (fun _ k => XS.lloadN X.here hx rfl (hb hby at_143) rfl k) ?_
  show Go p e below _ (T.setTop (mkF m 144 #[.val (.long p0), .second, .val (.long p1), .second, .val (.int p2), .val (.ref ba), .unset, .unset, .unset, .unset, .unset, .unset] [(.long p0), (.int (14 : Int32)), (.ref ba), (.int (((((((((((((vq0 + vq1) + vq2) + vq3) + vq4) + vq5) + vq6) + vq7) + vq8) + vq9) + vq10) + vq11) + vq12) + vq13))]))
  refine Go.st (fun _ k => XS.lloadN X.here hx rfl (hb hby at_144) rfl k) ?_
  show Go p e below _ (T.setTop (mkF m 145 #[.val (.long p0), .second, .val (.long p1), .second, .val (.int p2), .val (.ref ba), .unset, .unset, .unset, .unset, .unset, .unset] [(.long p1), (.long p0), (.int (14 : Int32)), (.ref ba), (.int (((((((((((((vq0 + vq1) + vq2) + vq3) + vq4) + vq5) + vq6) + vq7) + vq8) + vq9) + vq10) + vq11) + vq12) + vq13))]))
  have Sa := Safe.arv (EL := EL0) hZ.alike V_ba (by decide)
  refine Go.callP (argsL := [(.ref ba), (.int (14 : Int32)), (.long p0), (.long p1)]) (rest := [(.int (((((((((((((vq0 + vq1) + vq2) + vq3) + vq4) + vq5) + vq6) + vq7) + vq8) + vq9) + vq10) + vq11) + vq12) + vq13))]) (W := 1) (ck := 0) (sk := 0) X hx hZ hown (hml.trans rfl) hT (hw _ (List.mem_of_getElem? (i := 1) rfl)) (hw _ (List.mem_of_getElem? (i := 2) rfl)) (hw _ (List.mem_of_getElem? (i := 3) rfl)) (hw _ (List.mem_of_getElem? (i := 4) rfl)) (by decide) pd_19 rfl rfl (Nat.le_of_ble_eq_true rfl) (hb hby at_145) (backOf (W := 1) (met_slot l Z a0 hw [] n0 ba k_ba _ 14 p0 p1 _ ge_ba V_ba (by decide) rfl) hZ (hw _ (List.mem_of_getElem? (i := 4) rfl)) (hw _ (List.mem_of_getElem? (i := 3) rfl)) (by decide) (by decide)) (by decide) (by decide) ?_
  intro v T h16 L hT hQ X
  obtain ⟨rfl, N0, K0, V_ba⟩ := hQ
  have N := Fr.app N N0
  have H := H.keep K0 (sfS Sa sf0)
  have KB := (KB).trans K0 (allS (Or.inr gk_ba) all0)
  obtain ⟨va14, hva14⟩ : ∃ z, z = sA p0 p1 14 := ⟨_, rfl⟩
  obtain ⟨vb14, hvb14⟩ : ∃ z, z = sB p0 p1 14 := ⟨_, rfl⟩
  obtain ⟨vq14, hvq14⟩ : ∃ z, z = sP p0 14 := ⟨_, rfl⟩
  rw [← hva14, ← hvb14] at V_ba
  rw [← hvq14]
  have V_ba : Arv Z h16 ba k_ba .char (40 : Int32) [(.int va0), (.int vb0), (.int va1), (.int vb1), (.int va2), (.int vb2), (.int va3), (.int vb3), (.int va4), (.int vb4), (.int va5), (.int vb5), (.int va6), (.int vb6), (.int va7), (.int vb7), (.int va8), (.int vb8), (.int va9), (.int vb9), (.int va10), (.int vb10), (.int va11), (.int vb11), (.int va12), (.int vb12), (.int va13), (.int vb13), (.int va14), (.int vb14), (.int (0 : Int32)), (.int (0 : Int32)), (.int (0 : Int32)), (.int (0 : Int32)), (.int (0 : Int32)), (.int (0 : Int32)), (.int (0 : Int32)), (.int (0 : Int32)), (.int (0 : Int32)), (.int (0 : Int32))] (.int (0 : Int32)) := V_ba
  show Go p e below _ (T.setTop (mkF m 148 #[.val (.long p0), .second, .val (.long p1), .second, .val (.int p2), .val (.ref ba), .unset, .unset, .unset, .unset, .unset, .unset] [(.int vq14), (.int (((((((((((((vq0 + vq1) + vq2) + vq3) + vq4) + vq5) + vq6) + vq7) + vq8) + vq9) + vq10) + vq11) + vq12) + vq13))]))
  refine Go.st (fun _ k => XS.iadd X.here hx rfl (hb hby at_148) rfl k) ?_
  show Go p e below _ (T.setTop (mkF m 149 #[.val (.long p0), .second, .val (.long p1), .second, .val (.int p2), .val (.ref ba), .unset, .unset, .unset, .unset, .unset, .unset] [(.int ((((((((((((((vq0 + vq1) + vq2) + vq3) + vq4) + vq5) + vq6) + vq7) + vq8) + vq9) + vq10) + vq11) + vq12) + vq13) + vq14))]))
  refine Go.st (fun _ k => XS.aload X.here hx rfl (hb hby at_149) rfl rfl k) ?_
  show Go p e below _ (T.setTop (mkF m 151 #[.val (.long p0), .second, .val (.long p1), .second, .val (.int p2), .val (.ref ba), .unset, .unset, .unset, .unset, .unset, .unset] [(.ref ba), (.int ((((((((((((((vq0 + vq1) + vq2) + vq3) + vq4) + vq5) + vq6) + vq7) + vq8) + vq9) + vq10) + vq11) + vq12) + vq13) + vq14))]))
  refine Go.st (fun _ k => XS.bipush X.here hx rfl (hb hby at_151) k) ?_
  show Go p e below _ (T.setTop (mkF m 153 #[.val (.long p0), .second, .val (.long p1), .second, .val (.int p2), .val (.ref ba), .unset, .unset, .unset, .unset, .unset, .unset] [(.int (15 : Int32)), (.ref ba), (.int ((((((((((((((vq0 + vq1) + vq2) + vq3) + vq4) + vq5) + vq6) + vq7) + vq8) + vq9) + vq10) + vq11) + vq12) + vq13) + vq14))]))
  refine Go.st (fun _ k => XS.lloadN X.here hx rfl (hb hby at_153) rfl k) ?_
  show Go p e below _ (T.setTop (mkF m 154 #[.val (.long p0), .second, .val (.long p1), .second, .val (.int p2), .val (.ref ba), .unset, .unset, .unset, .unset, .unset, .unset] [(.long p0), (.int (15 : Int32)), (.ref ba), (.int ((((((((((((((vq0 + vq1) + vq2) + vq3) + vq4) + vq5) + vq6) + vq7) + vq8) + vq9) + vq10) + vq11) + vq12) + vq13) + vq14))]))
  refine Go.st (fun _ k => XS.lloadN X.here hx rfl (hb hby at_154) rfl k) ?_
  show Go p e below _ (T.setTop (mkF m 155 #[.val (.long p0), .second, .val (.long p1), .second, .val (.int p2), .val (.ref ba), .unset, .unset, .unset, .unset, .unset, .unset] [(.long p1), (.long p0), (.int (15 : Int32)), (.ref ba), (.int ((((((((((((((vq0 + vq1) + vq2) + vq3) + vq4) + vq5) + vq6) + vq7) + vq8) + vq9) + vq10) + vq11) + vq12) + vq13) + vq14))]))
  have Sa := Safe.arv (EL := EL0) hZ.alike V_ba (by decide)
  refine Go.callP (argsL := [(.ref ba), (.int (15 : Int32)), (.long p0), (.long p1)]) (rest := [(.int ((((((((((((((vq0 + vq1) + vq2) + vq3) + vq4) + vq5) + vq6) + vq7) + vq8) + vq9) + vq10) + vq11) + vq12) + vq13) + vq14))]) (W := 1) (ck := 0) (sk := 0) X hx hZ hown (hml.trans rfl) hT (hw _ (List.mem_of_getElem? (i := 1) rfl)) (hw _ (List.mem_of_getElem? (i := 2) rfl)) (hw _ (List.mem_of_getElem? (i := 3) rfl)) (hw _ (List.mem_of_getElem? (i := 4) rfl)) (by decide) pd_19 rfl rfl (Nat.le_of_ble_eq_true rfl) (hb hby at_155) (backOf (W := 1) (met_slot l Z a0 hw [] n0 ba k_ba _ 15 p0 p1 _ ge_ba V_ba (by decide) rfl) hZ (hw _ (List.mem_of_getElem? (i := 4) rfl)) (hw _ (List.mem_of_getElem? (i := 3) rfl)) (by decide) (by decide)) (by decide) (by decide) ?_
  intro v T h17 L hT hQ X
  obtain ⟨rfl, N0, K0, V_ba⟩ := hQ
  have N := Fr.app N N0
  have H := H.keep K0 (sfS Sa sf0)
  have KB := (KB).trans K0 (allS (Or.inr gk_ba) all0)
  obtain ⟨va15, hva15⟩ : ∃ z, z = sA p0 p1 15 := ⟨_, rfl⟩
  obtain ⟨vb15, hvb15⟩ : ∃ z, z = sB p0 p1 15 := ⟨_, rfl⟩
  obtain ⟨vq15, hvq15⟩ : ∃ z, z = sP p0 15 := ⟨_, rfl⟩
  rw [← hva15, ← hvb15] at V_ba
  rw [← hvq15]
  have V_ba : Arv Z h17 ba k_ba .char (40 : Int32) [(.int va0), (.int vb0), (.int va1), (.int vb1), (.int va2), (.int vb2), (.int va3), (.int vb3), (.int va4), (.int vb4), (.int va5), (.int vb5), (.int va6), (.int vb6), (.int va7), (.int vb7), (.int va8), (.int vb8), (.int va9), (.int vb9), (.int va10), (.int vb10), (.int va11), (.int vb11), (.int va12), (.int vb12), (.int va13), (.int vb13), (.int va14), (.int vb14), (.int va15), (.int vb15), (.int (0 : Int32)), (.int (0 : Int32)), (.int (0 : Int32)), (.int (0 : Int32)), (.int (0 : Int32)), (.int (0 : Int32)), (.int (0 : Int32)), (.int (0 : Int32))] (.int (0 : Int32)) := V_ba
  show Go p e below _ (T.setTop (mkF m 158 #[.val (.long p0), .second, .val (.long p1), .second, .val (.int p2), .val (.ref ba), .unset, .unset, .unset, .unset, .unset, .unset] [(.int vq15), (.int ((((((((((((((vq0 + vq1) + vq2) + vq3) + vq4) + vq5) + vq6) + vq7) + vq8) + vq9) + vq10) + vq11) + vq12) + vq13) + vq14))]))
  refine Go.st (fun _ k => XS.iadd X.here hx rfl (hb hby at_158) rfl k) ?_
  show Go p e below _ (T.setTop (mkF m 159 #[.val (.long p0), .second, .val (.long p1), .second, .val (.int p2), .val (.ref ba), .unset, .unset, .unset, .unset, .unset, .unset] [(.int (((((((((((((((vq0 + vq1) + vq2) + vq3) + vq4) + vq5) + vq6) + vq7) + vq8) + vq9) + vq10) + vq11) + vq12) + vq13) + vq14) + vq15))]))
  refine Go.st (fun _ k => XS.aload X.here hx rfl (hb hby at_159) rfl rfl k) ?_
  show Go p e below _ (T.setTop (mkF m 161 #[.val (.long p0), .second, .val (.long p1), .second, .val (.int p2), .val (.ref ba), .unset, .unset, .unset, .unset, .unset, .unset] [(.ref ba), (.int (((((((((((((((vq0 + vq1) + vq2) + vq3) + vq4) + vq5) + vq6) + vq7) + vq8) + vq9) + vq10) + vq11) + vq12) + vq13) + vq14) + vq15))]))
  refine Go.st (fun _ k => XS.bipush X.here hx rfl (hb hby at_161) k) ?_
  show Go p e below _ (T.setTop (mkF m 163 #[.val (.long p0), .second, .val (.long p1), .second, .val (.int p2), .val (.ref ba), .unset, .unset, .unset, .unset, .unset, .unset] [(.int (16 : Int32)), (.ref ba), (.int (((((((((((((((vq0 + vq1) + vq2) + vq3) + vq4) + vq5) + vq6) + vq7) + vq8) + vq9) + vq10) + vq11) + vq12) + vq13) + vq14) + vq15))]))
  refine Go.st (fun _ k => XS.lloadN X.here hx rfl (hb hby at_163) rfl k) ?_
  show Go p e below _ (T.setTop (mkF m 164 #[.val (.long p0), .second, .val (.long p1), .second, .val (.int p2), .val (.ref ba), .unset, .unset, .unset, .unset, .unset, .unset] [(.long p0), (.int (16 : Int32)), (.ref ba), (.int (((((((((((((((vq0 + vq1) + vq2) + vq3) + vq4) + vq5) + vq6) + vq7) + vq8) + vq9) + vq10) + vq11) + vq12) + vq13) + vq14) + vq15))]))
  refine Go.st (fun _ k => XS.lloadN X.here hx rfl (hb hby at_164) rfl k) ?_
  show Go p e below _ (T.setTop (mkF m 165 #[.val (.long p0), .second, .val (.long p1), .second, .val (.int p2), .val (.ref ba), .unset, .unset, .unset, .unset, .unset, .unset] [(.long p1), (.long p0), (.int (16 : Int32)), (.ref ba), (.int (((((((((((((((vq0 + vq1) + vq2) + vq3) + vq4) + vq5) + vq6) + vq7) + vq8) + vq9) + vq10) + vq11) + vq12) + vq13) + vq14) + vq15))]))
  have Sa := Safe.arv (EL := EL0) hZ.alike V_ba (by decide)
  refine Go.callP (argsL := [(.ref ba), (.int (16 : Int32)), (.long p0), (.long p1)]) (rest := [(.int (((((((((((((((vq0 + vq1) + vq2) + vq3) + vq4) + vq5) + vq6) + vq7) + vq8) + vq9) + vq10) + vq11) + vq12) + vq13) + vq14) + vq15))]) (W := 1) (ck := 0) (sk := 0) X hx hZ hown (hml.trans rfl) hT (hw _ (List.mem_of_getElem? (i := 1) rfl)) (hw _ (List.mem_of_getElem? (i := 2) rfl)) (hw _ (List.mem_of_getElem? (i := 3) rfl)) (hw _ (List.mem_of_getElem? (i := 4) rfl)) (by decide) pd_19 rfl rfl (Nat.le_of_ble_eq_true rfl) (hb hby at_165) (backOf (W := 1) (met_slot l Z a0 hw [] n0 ba k_ba _ 16 p0 p1 _ ge_ba V_ba (by decide) rfl) hZ (hw _ (List.mem_of_getElem? (i := 4) rfl)) (hw _ (List.mem_of_getElem? (i := 3) rfl)) (by decide) (by decide)) (by decide) (by decide) ?_
  intro v T h18 L hT hQ X
  obtain ⟨rfl, N0, K0, V_ba⟩ := hQ
  have N := Fr.app N N0
  have H := H.keep K0 (sfS Sa sf0)
  have KB := (KB).trans K0 (allS (Or.inr gk_ba) all0)
  obtain ⟨va16, hva16⟩ : ∃ z, z = sA p0 p1 16 := ⟨_, rfl⟩
  obtain ⟨vb16, hvb16⟩ : ∃ z, z = sB p0 p1 16 := ⟨_, rfl⟩
  obtain ⟨vq16, hvq16⟩ : ∃ z, z = sP p0 16 := ⟨_, rfl⟩
  rw [← hva16, ← hvb16] at V_ba
  rw [← hvq16]
  have V_ba : Arv Z h18 ba k_ba .char (40 : Int32) [(.int va0), (.int vb0), (.int va1), (.int vb1), (.int va2), (.int vb2), (.int va3), (.int vb3), (.int va4), (.int vb4), (.int va5), (.int vb5), (.int va6), (.int vb6), (.int va7), (.int vb7), (.int va8), (.int vb8), (.int va9), (.int vb9), (.int va10), (.int vb10), (.int va11), (.int vb11), (.int va12), (.int vb12), (.int va13), (.int vb13), (.int va14), (.int vb14), (.int va15), (.int vb15), (.int va16), (.int vb16), (.int (0 : Int32)), (.int (0 : Int32)), (.int (0 : Int32)), (.int (0 : Int32)), (.int (0 : Int32)), (.int (0 : Int32))] (.int (0 : Int32)) := V_ba
  show Go p e below _ (T.setTop (mkF m 168 #[.val (.long p0), .second, .val (.long p1), .second, .val (.int p2), .val (.ref ba), .unset, .unset, .unset, .unset, .unset, .unset] [(.int vq16), (.int (((((((((((((((vq0 + vq1) + vq2) + vq3) + vq4) + vq5) + vq6) + vq7) + vq8) + vq9) + vq10) + vq11) + vq12) + vq13) + vq14) + vq15))]))
  refine Go.st (fun _ k => XS.iadd X.here hx rfl (hb hby at_168) rfl k) ?_
  show Go p e below _ (T.setTop (mkF m 169 #[.val (.long p0), .second, .val (.long p1), .second, .val (.int p2), .val (.ref ba), .unset, .unset, .unset, .unset, .unset, .unset] [(.int ((((((((((((((((vq0 + vq1) + vq2) + vq3) + vq4) + vq5) + vq6) + vq7) + vq8) + vq9) + vq10) + vq11) + vq12) + vq13) + vq14) + vq15) + vq16))]))
  refine Go.st (fun _ k => XS.aload X.here hx rfl (hb hby at_169) rfl rfl k) ?_
  show Go p e below _ (T.setTop (mkF m 171 #[.val (.long p0), .second, .val (.long p1), .second, .val (.int p2), .val (.ref ba), .unset, .unset, .unset, .unset, .unset, .unset] [(.ref ba), (.int ((((((((((((((((vq0 + vq1) + vq2) + vq3) + vq4) + vq5) + vq6) + vq7) + vq8) + vq9) + vq10) + vq11) + vq12) + vq13) + vq14) + vq15) + vq16))]))
  refine Go.st (fun _ k => XS.bipush X.here hx rfl (hb hby at_171) k) ?_
  show Go p e below _ (T.setTop (mkF m 173 #[.val (.long p0), .second, .val (.long p1), .second, .val (.int p2), .val (.ref ba), .unset, .unset, .unset, .unset, .unset, .unset] [(.int (17 : Int32)), (.ref ba), (.int ((((((((((((((((vq0 + vq1) + vq2) + vq3) + vq4) + vq5) + vq6) + vq7) + vq8) + vq9) + vq10) + vq11) + vq12) + vq13) + vq14) + vq15) + vq16))]))
  refine Go.st (fun _ k => XS.lloadN X.here hx rfl (hb hby at_173) rfl k) ?_
  show Go p e below _ (T.setTop (mkF m 174 #[.val (.long p0), .second, .val (.long p1), .second, .val (.int p2), .val (.ref ba), .unset, .unset, .unset, .unset, .unset, .unset] [(.long p0), (.int (17 : Int32)), (.ref ba), (.int ((((((((((((((((vq0 + vq1) + vq2) + vq3) + vq4) + vq5) + vq6) + vq7) + vq8) + vq9) + vq10) + vq11) + vq12) + vq13) + vq14) + vq15) + vq16))]))
  refine Go.st (fun _ k => XS.lloadN X.here hx rfl (hb hby at_174) rfl k) ?_
  show Go p e below _ (T.setTop (mkF m 175 #[.val (.long p0), .second, .val (.long p1), .second, .val (.int p2), .val (.ref ba), .unset, .unset, .unset, .unset, .unset, .unset] [(.long p1), (.long p0), (.int (17 : Int32)), (.ref ba), (.int ((((((((((((((((vq0 + vq1) + vq2) + vq3) + vq4) + vq5) + vq6) + vq7) + vq8) + vq9) + vq10) + vq11) + vq12) + vq13) + vq14) + vq15) + vq16))]))
  have Sa := Safe.arv (EL := EL0) hZ.alike V_ba (by decide)
  refine Go.callP (argsL := [(.ref ba), (.int (17 : Int32)), (.long p0), (.long p1)]) (rest := [(.int ((((((((((((((((vq0 + vq1) + vq2) + vq3) + vq4) + vq5) + vq6) + vq7) + vq8) + vq9) + vq10) + vq11) + vq12) + vq13) + vq14) + vq15) + vq16))]) (W := 1) (ck := 0) (sk := 0) X hx hZ hown (hml.trans rfl) hT (hw _ (List.mem_of_getElem? (i := 1) rfl)) (hw _ (List.mem_of_getElem? (i := 2) rfl)) (hw _ (List.mem_of_getElem? (i := 3) rfl)) (hw _ (List.mem_of_getElem? (i := 4) rfl)) (by decide) pd_19 rfl rfl (Nat.le_of_ble_eq_true rfl) (hb hby at_175) (backOf (W := 1) (met_slot l Z a0 hw [] n0 ba k_ba _ 17 p0 p1 _ ge_ba V_ba (by decide) rfl) hZ (hw _ (List.mem_of_getElem? (i := 4) rfl)) (hw _ (List.mem_of_getElem? (i := 3) rfl)) (by decide) (by decide)) (by decide) (by decide) ?_
  intro v T h19 L hT hQ X
  obtain ⟨rfl, N0, K0, V_ba⟩ := hQ
  have N := Fr.app N N0
  have H := H.keep K0 (sfS Sa sf0)
  have KB := (KB).trans K0 (allS (Or.inr gk_ba) all0)
  obtain ⟨va17, hva17⟩ : ∃ z, z = sA p0 p1 17 := ⟨_, rfl⟩
  obtain ⟨vb17, hvb17⟩ : ∃ z, z = sB p0 p1 17 := ⟨_, rfl⟩
  obtain ⟨vq17, hvq17⟩ : ∃ z, z = sP p0 17 := ⟨_, rfl⟩
  rw [← hva17, ← hvb17] at V_ba
  rw [← hvq17]
  have V_ba : Arv Z h19 ba k_ba .char (40 : Int32) [(.int va0), (.int vb0), (.int va1), (.int vb1), (.int va2), (.int vb2), (.int va3), (.int vb3), (.int va4), (.int vb4), (.int va5), (.int vb5), (.int va6), (.int vb6), (.int va7), (.int vb7), (.int va8), (.int vb8), (.int va9), (.int vb9), (.int va10), (.int vb10), (.int va11), (.int vb11), (.int va12), (.int vb12), (.int va13), (.int vb13), (.int va14), (.int vb14), (.int va15), (.int vb15), (.int va16), (.int vb16), (.int va17), (.int vb17), (.int (0 : Int32)), (.int (0 : Int32)), (.int (0 : Int32)), (.int (0 : Int32))] (.int (0 : Int32)) := V_ba
  show Go p e below _ (T.setTop (mkF m 178 #[.val (.long p0), .second, .val (.long p1), .second, .val (.int p2), .val (.ref ba), .unset, .unset, .unset, .unset, .unset, .unset] [(.int vq17), (.int ((((((((((((((((vq0 + vq1) + vq2) + vq3) + vq4) + vq5) + vq6) + vq7) + vq8) + vq9) + vq10) + vq11) + vq12) + vq13) + vq14) + vq15) + vq16))]))
  refine Go.st (fun _ k => XS.iadd X.here hx rfl (hb hby at_178) rfl k) ?_
  show Go p e below _ (T.setTop (mkF m 179 #[.val (.long p0), .second, .val (.long p1), .second, .val (.int p2), .val (.ref ba), .unset, .unset, .unset, .unset, .unset, .unset] [(.int (((((((((((((((((vq0 + vq1) + vq2) + vq3) + vq4) + vq5) + vq6) + vq7) + vq8) + vq9) + vq10) + vq11) + vq12) + vq13) + vq14) + vq15) + vq16) + vq17))]))
  refine Go.st (fun _ k => XS.aload X.here hx rfl (hb hby at_179) rfl rfl k) ?_
  show Go p e below _ (T.setTop (mkF m 181 #[.val (.long p0), .second, .val (.long p1), .second, .val (.int p2), .val (.ref ba), .unset, .unset, .unset, .unset, .unset, .unset] [(.ref ba), (.int (((((((((((((((((vq0 + vq1) + vq2) + vq3) + vq4) + vq5) + vq6) + vq7) + vq8) + vq9) + vq10) + vq11) + vq12) + vq13) + vq14) + vq15) + vq16) + vq17))]))
  refine Go.st (fun _ k => XS.bipush X.here hx rfl (hb hby at_181) k) ?_
  show Go p e below _ (T.setTop (mkF m 183 #[.val (.long p0), .second, .val (.long p1), .second, .val (.int p2), .val (.ref ba), .unset, .unset, .unset, .unset, .unset, .unset] [(.int (18 : Int32)), (.ref ba), (.int (((((((((((((((((vq0 + vq1) + vq2) + vq3) + vq4) + vq5) + vq6) + vq7) + vq8) + vq9) + vq10) + vq11) + vq12) + vq13) + vq14) + vq15) + vq16) + vq17))]))
  refine Go.st (fun _ k => XS.lloadN X.here hx rfl (hb hby at_183) rfl k) ?_
  show Go p e below _ (T.setTop (mkF m 184 #[.val (.long p0), .second, .val (.long p1), .second, .val (.int p2), .val (.ref ba), .unset, .unset, .unset, .unset, .unset, .unset] [(.long p0), (.int (18 : Int32)), (.ref ba), (.int (((((((((((((((((vq0 + vq1) + vq2) + vq3) + vq4) + vq5) + vq6) + vq7) + vq8) + vq9) + vq10) + vq11) + vq12) + vq13) + vq14) + vq15) + vq16) + vq17))]))
  refine Go.st (fun _ k => XS.lloadN X.here hx rfl (hb hby at_184) rfl k) ?_
  show Go p e below _ (T.setTop (mkF m 185 #[.val (.long p0), .second, .val (.long p1), .second, .val (.int p2), .val (.ref ba), .unset, .unset, .unset, .unset, .unset, .unset] [(.long p1), (.long p0), (.int (18 : Int32)), (.ref ba), (.int (((((((((((((((((vq0 + vq1) + vq2) + vq3) + vq4) + vq5) + vq6) + vq7) + vq8) + vq9) + vq10) + vq11) + vq12) + vq13) + vq14) + vq15) + vq16) + vq17))]))
  have Sa := Safe.arv (EL := EL0) hZ.alike V_ba (by decide)
  refine Go.callP (argsL := [(.ref ba), (.int (18 : Int32)), (.long p0), (.long p1)]) (rest := [(.int (((((((((((((((((vq0 + vq1) + vq2) + vq3) + vq4) + vq5) + vq6) + vq7) + vq8) + vq9) + vq10) + vq11) + vq12) + vq13) + vq14) + vq15) + vq16) + vq17))]) (W := 1) (ck := 0) (sk := 0) X hx hZ hown (hml.trans rfl) hT (hw _ (List.mem_of_getElem? (i := 1) rfl)) (hw _ (List.mem_of_getElem? (i := 2) rfl)) (hw _ (List.mem_of_getElem? (i := 3) rfl)) (hw _ (List.mem_of_getElem? (i := 4) rfl)) (by decide) pd_19 rfl rfl (Nat.le_of_ble_eq_true rfl) (hb hby at_185) (backOf (W := 1) (met_slot l Z a0 hw [] n0 ba k_ba _ 18 p0 p1 _ ge_ba V_ba (by decide) rfl) hZ (hw _ (List.mem_of_getElem? (i := 4) rfl)) (hw _ (List.mem_of_getElem? (i := 3) rfl)) (by decide) (by decide)) (by decide) (by decide) ?_
  intro v T h20 L hT hQ X
  obtain ⟨rfl, N0, K0, V_ba⟩ := hQ
  have N := Fr.app N N0
  have H := H.keep K0 (sfS Sa sf0)
  have KB := (KB).trans K0 (allS (Or.inr gk_ba) all0)
  obtain ⟨va18, hva18⟩ : ∃ z, z = sA p0 p1 18 := ⟨_, rfl⟩
  obtain ⟨vb18, hvb18⟩ : ∃ z, z = sB p0 p1 18 := ⟨_, rfl⟩
  obtain ⟨vq18, hvq18⟩ : ∃ z, z = sP p0 18 := ⟨_, rfl⟩
  rw [← hva18, ← hvb18] at V_ba
  rw [← hvq18]
  have V_ba : Arv Z h20 ba k_ba .char (40 : Int32) [(.int va0), (.int vb0), (.int va1), (.int vb1), (.int va2), (.int vb2), (.int va3), (.int vb3), (.int va4), (.int vb4), (.int va5), (.int vb5), (.int va6), (.int vb6), (.int va7), (.int vb7), (.int va8), (.int vb8), (.int va9), (.int vb9), (.int va10), (.int vb10), (.int va11), (.int vb11), (.int va12), (.int vb12), (.int va13), (.int vb13), (.int va14), (.int vb14), (.int va15), (.int vb15), (.int va16), (.int vb16), (.int va17), (.int vb17), (.int va18), (.int vb18), (.int (0 : Int32)), (.int (0 : Int32))] (.int (0 : Int32)) := V_ba
  show Go p e below _ (T.setTop (mkF m 188 #[.val (.long p0), .second, .val (.long p1), .second, .val (.int p2), .val (.ref ba), .unset, .unset, .unset, .unset, .unset, .unset] [(.int vq18), (.int (((((((((((((((((vq0 + vq1) + vq2) + vq3) + vq4) + vq5) + vq6) + vq7) + vq8) + vq9) + vq10) + vq11) + vq12) + vq13) + vq14) + vq15) + vq16) + vq17))]))
  refine Go.st (fun _ k => XS.iadd X.here hx rfl (hb hby at_188) rfl k) ?_
  show Go p e below _ (T.setTop (mkF m 189 #[.val (.long p0), .second, .val (.long p1), .second, .val (.int p2), .val (.ref ba), .unset, .unset, .unset, .unset, .unset, .unset] [(.int ((((((((((((((((((vq0 + vq1) + vq2) + vq3) + vq4) + vq5) + vq6) + vq7) + vq8) + vq9) + vq10) + vq11) + vq12) + vq13) + vq14) + vq15) + vq16) + vq17) + vq18))]))
  refine Go.st (fun _ k => XS.aload X.here hx rfl (hb hby at_189) rfl rfl k) ?_
  show Go p e below _ (T.setTop (mkF m 191 #[.val (.long p0), .second, .val (.long p1), .second, .val (.int p2), .val (.ref ba), .unset, .unset, .unset, .unset, .unset, .unset] [(.ref ba), (.int ((((((((((((((((((vq0 + vq1) + vq2) + vq3) + vq4) + vq5) + vq6) + vq7) + vq8) + vq9) + vq10) + vq11) + vq12) + vq13) + vq14) + vq15) + vq16) + vq17) + vq18))]))
  refine Go.st (fun _ k => XS.bipush X.here hx rfl (hb hby at_191) k) ?_
  show Go p e below _ (T.setTop (mkF m 193 #[.val (.long p0), .second, .val (.long p1), .second, .val (.int p2), .val (.ref ba), .unset, .unset, .unset, .unset, .unset, .unset] [(.int (19 : Int32)), (.ref ba), (.int ((((((((((((((((((vq0 + vq1) + vq2) + vq3) + vq4) + vq5) + vq6) + vq7) + vq8) + vq9) + vq10) + vq11) + vq12) + vq13) + vq14) + vq15) + vq16) + vq17) + vq18))]))
  refine Go.st (fun _ k => XS.lloadN X.here hx rfl (hb hby at_193) rfl k) ?_
  show Go p e below _ (T.setTop (mkF m 194 #[.val (.long p0), .second, .val (.long p1), .second, .val (.int p2), .val (.ref ba), .unset, .unset, .unset, .unset, .unset, .unset] [(.long p0), (.int (19 : Int32)), (.ref ba), (.int ((((((((((((((((((vq0 + vq1) + vq2) + vq3) + vq4) + vq5) + vq6) + vq7) + vq8) + vq9) + vq10) + vq11) + vq12) + vq13) + vq14) + vq15) + vq16) + vq17) + vq18))]))
  refine Go.st (fun _ k => XS.lloadN X.here hx rfl (hb hby at_194) rfl k) ?_
  show Go p e below _ (T.setTop (mkF m 195 #[.val (.long p0), .second, .val (.long p1), .second, .val (.int p2), .val (.ref ba), .unset, .unset, .unset, .unset, .unset, .unset] [(.long p1), (.long p0), (.int (19 : Int32)), (.ref ba), (.int ((((((((((((((((((vq0 + vq1) + vq2) + vq3) + vq4) + vq5) + vq6) + vq7) + vq8) + vq9) + vq10) + vq11) + vq12) + vq13) + vq14) + vq15) + vq16) + vq17) + vq18))]))
  have Sa := Safe.arv (EL := EL0) hZ.alike V_ba (by decide)
  refine Go.callP (argsL := [(.ref ba), (.int (19 : Int32)), (.long p0), (.long p1)]) (rest := [(.int ((((((((((((((((((vq0 + vq1) + vq2) + vq3) + vq4) + vq5) + vq6) + vq7) + vq8) + vq9) + vq10) + vq11) + vq12) + vq13) + vq14) + vq15) + vq16) + vq17) + vq18))]) (W := 1) (ck := 0) (sk := 0) X hx hZ hown (hml.trans rfl) hT (hw _ (List.mem_of_getElem? (i := 1) rfl)) (hw _ (List.mem_of_getElem? (i := 2) rfl)) (hw _ (List.mem_of_getElem? (i := 3) rfl)) (hw _ (List.mem_of_getElem? (i := 4) rfl)) (by decide) pd_19 rfl rfl (Nat.le_of_ble_eq_true rfl) (hb hby at_195) (backOf (W := 1) (met_slot l Z a0 hw [] n0 ba k_ba _ 19 p0 p1 _ ge_ba V_ba (by decide) rfl) hZ (hw _ (List.mem_of_getElem? (i := 4) rfl)) (hw _ (List.mem_of_getElem? (i := 3) rfl)) (by decide) (by decide)) (by decide) (by decide) ?_
  intro v T h21 L hT hQ X
  obtain ⟨rfl, N0, K0, V_ba⟩ := hQ
  have N := Fr.app N N0
  have H := H.keep K0 (sfS Sa sf0)
  have KB := (KB).trans K0 (allS (Or.inr gk_ba) all0)
  obtain ⟨va19, hva19⟩ : ∃ z, z = sA p0 p1 19 := ⟨_, rfl⟩
  obtain ⟨vb19, hvb19⟩ : ∃ z, z = sB p0 p1 19 := ⟨_, rfl⟩
  obtain ⟨vq19, hvq19⟩ : ∃ z, z = sP p0 19 := ⟨_, rfl⟩
  rw [← hva19, ← hvb19] at V_ba
  rw [← hvq19]
  have V_ba : Arv Z h21 ba k_ba .char (40 : Int32) [(.int va0), (.int vb0), (.int va1), (.int vb1), (.int va2), (.int vb2), (.int va3), (.int vb3), (.int va4), (.int vb4), (.int va5), (.int vb5), (.int va6), (.int vb6), (.int va7), (.int vb7), (.int va8), (.int vb8), (.int va9), (.int vb9), (.int va10), (.int vb10), (.int va11), (.int vb11), (.int va12), (.int vb12), (.int va13), (.int vb13), (.int va14), (.int vb14), (.int va15), (.int vb15), (.int va16), (.int vb16), (.int va17), (.int vb17), (.int va18), (.int vb18), (.int va19), (.int vb19)] (.int (0 : Int32)) := V_ba
  show Go p e below _ (T.setTop (mkF m 198 #[.val (.long p0), .second, .val (.long p1), .second, .val (.int p2), .val (.ref ba), .unset, .unset, .unset, .unset, .unset, .unset] [(.int vq19), (.int ((((((((((((((((((vq0 + vq1) + vq2) + vq3) + vq4) + vq5) + vq6) + vq7) + vq8) + vq9) + vq10) + vq11) + vq12) + vq13) + vq14) + vq15) + vq16) + vq17) + vq18))]))
  refine Go.st (fun _ k => XS.iadd X.here hx rfl (hb hby at_198) rfl k) ?_
  show Go p e below _ (T.setTop (mkF m 199 #[.val (.long p0), .second, .val (.long p1), .second, .val (.int p2), .val (.ref ba), .unset, .unset, .unset, .unset, .unset, .unset] [(.int (((((((((((((((((((vq0 + vq1) + vq2) + vq3) + vq4) + vq5) + vq6) + vq7) + vq8) + vq9) + vq10) + vq11) + vq12) + vq13) + vq14) + vq15) + vq16) + vq17) + vq18) + vq19))]))
  obtain ⟨prn, hprn⟩ : ∃ z, z = (((((((((((((((((((vq0 + vq1) + vq2) + vq3) + vq4) + vq5) + vq6) + vq7) + vq8) + vq9) + vq10) + vq11) + vq12) + vq13) + vq14) + vq15) + vq16) + vq17) + vq18) + vq19) := ⟨_, rfl⟩
  rw [← hprn]
  show Go p e below _ (T.setTop (mkF m 199 #[.val (.long p0), .second, .val (.long p1), .second, .val (.int p2), .val (.ref ba), .unset, .unset, .unset, .unset, .unset, .unset] [(.int prn)]))
  have hpr : prn = Int32.ofNat (pps p0 0 20) := hprn.trans (own_sum p0 hvq0 hvq1 hvq2 hvq3 hvq4 hvq5 hvq6 hvq7 hvq8 hvq9 hvq10 hvq11 hvq12 hvq13 hvq14 hvq15 hvq16 hvq17 hvq18 hvq19)
  refine Go.st (fun _ k => XS.istore X.here hx rfl (hb hby at_199) rfl (l' := #[.val (.long p0), .second, .val (.long p1), .second, .val (.int p2), .val (.ref ba), .val (.int prn), .unset, .unset, .unset, .unset, .unset]) rfl k) ?_
  show Go p e below _ (T.setTop (mkF m 201 #[.val (.long p0), .second, .val (.long p1), .second, .val (.int p2), .val (.ref ba), .val (.int prn), .unset, .unset, .unset, .unset, .unset] []))
  refine Go.st (fun _ k => XS.iconst X.here hx rfl (hb hby at_201) k) ?_
  show Go p e below _ (T.setTop (mkF m 202 #[.val (.long p0), .second, .val (.long p1), .second, .val (.int p2), .val (.ref ba), .val (.int prn), .unset, .unset, .unset, .unset, .unset] [(.int (2 : Int32))]))
  obtain ⟨T, h22, k_bt, X, hT, Ex0, A_bt, st⟩ := newP X hx hZ (hw _ (List.mem_of_getElem? (i := 0) rfl)) hT (g := (mkF m 202 #[.val (.long p0), .second, .val (.long p1), .second, .val (.int p2), .val (.ref ba), .val (.int prn), .unset, .unset, .unset, .unset, .unset] [(.int (2 : Int32))])) rfl (hb hby at_202) rfl (by decide : ¬ ((2 : Int32) < (0 : Int32))) (cap := 2) (by decide) (by decide) (by decide) (by decide)
  obtain ⟨bt, g_bt⟩ : ∃ z, z = h21.size := ⟨_, rfl⟩
  rw [← g_bt] at A_bt st
  refine Go.st st ?_
  have ge_bt : n0 ≤ bt := Nat.le_trans (own_le (O.keep KB all0)) (Nat.le_of_eq g_bt.symm)
  have gk_bt : h0.size ≤ bt := Nat.le_trans (KB).1 (Nat.le_of_eq g_bt.symm)
  have ne_ba_bt : ba ≠ bt := Nat.ne_of_lt (Nat.lt_of_lt_of_le V_ba.lt (Nat.le_of_eq g_bt.symm))
  have H := H.ext Ex0
  have V_ba := V_ba.ext Ex0
  have KB := (KB).ext Ex0
  have V_bt : Arv Z _ bt k_bt .char (2 : Int32) [(.int (0 : Int32)), (.int (0 : Int32))] (.int (0 : Int32)) := (Arv.new A_bt (by decide)).pad (pad_rep [] (.int (0 : Int32)) 2)
  show Go p e below _ (T.setTop (mkF m 204 #[.val (.long p0), .second, .val (.long p1), .second, .val (.int p2), .val (.ref ba), .val (.int prn), .unset, .unset, .unset, .unset, .unset] [(.ref bt)]))
  refine Go.st (fun _ k => XS.astore X.here hx rfl (hb hby at_204) rfl rfl (l' := #[.val (.long p0), .second, .val (.long p1), .second, .val (.int p2), .val (.ref ba), .val (.int prn), .val (.ref bt), .unset, .unset, .unset, .unset]) rfl k) ?_
  show Go p e below _ (T.setTop (mkF m 206 #[.val (.long p0), .second, .val (.long p1), .second, .val (.int p2), .val (.ref ba), .val (.int prn), .val (.ref bt), .unset, .unset, .unset, .unset] []))
  refine Go.st (fun _ k => XS.aload X.here hx rfl (hb hby at_206) rfl rfl k) ?_
  show Go p e below _ (T.setTop (mkF m 208 #[.val (.long p0), .second, .val (.long p1), .second, .val (.int p2), .val (.ref ba), .val (.int prn), .val (.ref bt), .unset, .unset, .unset, .unset] [(.ref bt)]))
  refine Go.st (fun _ k => XS.iconst X.here hx rfl (hb hby at_208) k) ?_
  show Go p e below _ (T.setTop (mkF m 209 #[.val (.long p0), .second, .val (.long p1), .second, .val (.int p2), .val (.ref ba), .val (.int prn), .val (.ref bt), .unset, .unset, .unset, .unset] [(.int (0 : Int32)), (.ref bt)]))
  refine Go.st (fun _ k => XS.aload X.here hx rfl (hb hby at_209) rfl rfl k) ?_
  show Go p e below _ (T.setTop (mkF m 211 #[.val (.long p0), .second, .val (.long p1), .second, .val (.int p2), .val (.ref ba), .val (.int prn), .val (.ref bt), .unset, .unset, .unset, .unset] [(.ref ba), (.int (0 : Int32)), (.ref bt)]))
  refine Go.st (fun _ k => XS.iconst X.here hx rfl (hb hby at_211) k) ?_
  show Go p e below _ (T.setTop (mkF m 212 #[.val (.long p0), .second, .val (.long p1), .second, .val (.int p2), .val (.ref ba), .val (.int prn), .val (.ref bt), .unset, .unset, .unset, .unset] [(.int (0 : Int32)), (.ref ba), (.int (0 : Int32)), (.ref bt)]))
  refine Go.caloadN (i := 0) X hx hZ hT V_ba (by decide) (by decide) rfl (hb hby at_212) ?_
  show Go p e below _ (T.setTop (mkF m 213 #[.val (.long p0), .second, .val (.long p1), .second, .val (.int p2), .val (.ref ba), .val (.int prn), .val (.ref bt), .unset, .unset, .unset, .unset] [(.int va0), (.int (0 : Int32)), (.ref bt)]))
  obtain ⟨cl0, Ar0, q0, S0, M0, H0, U0⟩ := id V_bt
  obtain ⟨T, h23, X, hT, Wr0, st⟩ := stC X hx hZ hT Ar0 (j := (0 : Int32)) (inb_of S0 ⟨(by decide : ¬ ((0 : Int32) < (0 : Int32))), (by decide : (0 : Int32) < (2 : Int32))⟩) (g := (mkF m 213 #[.val (.long p0), .second, .val (.long p1), .second, .val (.int p2), .val (.ref ba), .val (.int prn), .val (.ref bt), .unset, .unset, .unset, .unset] [(.int va0), (.int (0 : Int32)), (.ref bt)])) rfl rfl (hb hby at_213)
  refine Go.st st ?_
  have N := Fr.snoc X N ge_bt
  have H := H.wr Wr0 (Safe.arr hZ.alike Ar0 (by decide))
  have V_ba := V_ba.other Wr0 ne_ba_bt
  have KB := (KB).wr Wr0 (Or.inr gk_bt)
  have V_bt : Arv Z _ bt k_bt .char (2 : Int32) [(.int (nar .char va0)), (.int (0 : Int32))] (.int (0 : Int32)) := Arv.set Ar0 q0 S0 M0 H0 U0 (fits_nar_char _) Wr0 0 rfl (Nat.le_of_ble_eq_true rfl)
  show Go p e below _ (T.setTop (mkF m 214 #[.val (.long p0), .second, .val (.long p1), .second, .val (.int p2), .val (.ref ba), .val (.int prn), .val (.ref bt), .unset, .unset, .unset, .unset] []))
  refine Go.st (fun _ k => XS.aload X.here hx rfl (hb hby at_214) rfl rfl k) ?_
  show Go p e below _ (T.setTop (mkF m 216 #[.val (.long p0), .second, .val (.long p1), .second, .val (.int p2), .val (.ref ba), .val (.int prn), .val (.ref bt), .unset, .unset, .unset, .unset] [(.ref bt)]))
  refine Go.st (fun _ k => XS.iconst X.here hx rfl (hb hby at_216) k) ?_
  show Go p e below _ (T.setTop (mkF m 217 #[.val (.long p0), .second, .val (.long p1), .second, .val (.int p2), .val (.ref ba), .val (.int prn), .val (.ref bt), .unset, .unset, .unset, .unset] [(.int (1 : Int32)), (.ref bt)]))
  refine Go.st (fun _ k => XS.aload X.here hx rfl (hb hby at_217) rfl rfl k) ?_
  show Go p e below _ (T.setTop (mkF m 219 #[.val (.long p0), .second, .val (.long p1), .second, .val (.int p2), .val (.ref ba), .val (.int prn), .val (.ref bt), .unset, .unset, .unset, .unset] [(.ref ba), (.int (1 : Int32)), (.ref bt)]))
  refine Go.st (fun _ k => XS.iconst X.here hx rfl (hb hby at_219) k) ?_
  show Go p e below _ (T.setTop (mkF m 220 #[.val (.long p0), .second, .val (.long p1), .second, .val (.int p2), .val (.ref ba), .val (.int prn), .val (.ref bt), .unset, .unset, .unset, .unset] [(.int (1 : Int32)), (.ref ba), (.int (1 : Int32)), (.ref bt)]))
  refine Go.caloadN (i := 1) X hx hZ hT V_ba (by decide) (by decide) rfl (hb hby at_220) ?_
  show Go p e below _ (T.setTop (mkF m 221 #[.val (.long p0), .second, .val (.long p1), .second, .val (.int p2), .val (.ref ba), .val (.int prn), .val (.ref bt), .unset, .unset, .unset, .unset] [(.int vb0), (.int (1 : Int32)), (.ref bt)]))
  obtain ⟨cl0, Ar0, q0, S0, M0, H0, U0⟩ := id V_bt
  obtain ⟨T, h24, X, hT, Wr0, st⟩ := stC X hx hZ hT Ar0 (j := (1 : Int32)) (inb_of S0 ⟨(by decide : ¬ ((1 : Int32) < (0 : Int32))), (by decide : (1 : Int32) < (2 : Int32))⟩) (g := (mkF m 221 #[.val (.long p0), .second, .val (.long p1), .second, .val (.int p2), .val (.ref ba), .val (.int prn), .val (.ref bt), .unset, .unset, .unset, .unset] [(.int vb0), (.int (1 : Int32)), (.ref bt)])) rfl rfl (hb hby at_221)
  refine Go.st st ?_
  have N := Fr.snoc X N ge_bt
  have H := H.wr Wr0 (Safe.arr hZ.alike Ar0 (by decide))
  have V_ba := V_ba.other Wr0 ne_ba_bt
  have KB := (KB).wr Wr0 (Or.inr gk_bt)
  have V_bt : Arv Z _ bt k_bt .char (2 : Int32) [(.int (nar .char va0)), (.int (nar .char vb0))] (.int (0 : Int32)) := Arv.set Ar0 q0 S0 M0 H0 U0 (fits_nar_char _) Wr0 1 rfl (Nat.le_of_ble_eq_true rfl)
  show Go p e below _ (T.setTop (mkF m 222 #[.val (.long p0), .second, .val (.long p1), .second, .val (.int p2), .val (.ref ba), .val (.int prn), .val (.ref bt), .unset, .unset, .unset, .unset] []))
  refine Go.st (fun _ k => XS.iload X.here hx rfl (hb hby at_222) rfl k) ?_
  show Go p e below _ (T.setTop (mkF m 224 #[.val (.long p0), .second, .val (.long p1), .second, .val (.int p2), .val (.ref ba), .val (.int prn), .val (.ref bt), .unset, .unset, .unset, .unset] [(.int p2)]))
  refine Go.st (fun _ k => XS.iconst X.here hx rfl (hb hby at_224) k) ?_
  show Go p e below _ (T.setTop (mkF m 225 #[.val (.long p0), .second, .val (.long p1), .second, .val (.int p2), .val (.ref ba), .val (.int prn), .val (.ref bt), .unset, .unset, .unset, .unset] [(.int (3 : Int32)), (.int p2)]))
  refine Go.st (fun _ k => XS.iand X.here hx rfl (hb hby at_225) rfl k) ?_
  show Go p e below _ (T.setTop (mkF m 226 #[.val (.long p0), .second, .val (.long p1), .second, .val (.int p2), .val (.ref ba), .val (.int prn), .val (.ref bt), .unset, .unset, .unset, .unset] [(.int (p2 &&& (3 : Int32)))]))
  rcases own_and3 p2 with hs0 | hs1 | hs2 | hs3
  · rw [hs0]
    show Go p e below _ (T.setTop (mkF m 226 #[.val (.long p0), .second, .val (.long p1), .second, .val (.int p2), .val (.ref ba), .val (.int prn), .val (.ref bt), .unset, .unset, .unset, .unset] [(.int (0 : Int32))]))
    refine Go.st (fun _ k => XS.istore X.here hx rfl (hb hby at_226) rfl (l' := #[.val (.long p0), .second, .val (.long p1), .second, .val (.int p2), .val (.ref ba), .val (.int prn), .val (.ref bt), .val (.int (0 : Int32)), .unset, .unset, .unset]) rfl k) ?_
    show Go p e below _ (T.setTop (mkF m 228 #[.val (.long p0), .second, .val (.long p1), .second, .val (.int p2), .val (.ref ba), .val (.int prn), .val (.ref bt), .val (.int (0 : Int32)), .unset, .unset, .unset] []))
    refine Go.st (fun _ k => XS.iload X.here hx rfl (hb hby at_228) rfl k) ?_
    show Go p e below _ (T.setTop (mkF m 230 #[.val (.long p0), .second, .val (.long p1), .second, .val (.int p2), .val (.ref ba), .val (.int prn), .val (.ref bt), .val (.int (0 : Int32)), .unset, .unset, .unset] [(.int (0 : Int32))]))
    refine Go.st (fun _ k => XS.ifNo X.here hx rfl (hb hby at_230) rfl (Jvm.Free.XT.i0_ne_f (by decide : (0 : Int32) = (0 : Int32))) k) ?_
    show Go p e below _ (T.setTop (mkF m 233 #[.val (.long p0), .second, .val (.long p1), .second, .val (.int p2), .val (.ref ba), .val (.int prn), .val (.ref bt), .val (.int (0 : Int32)), .unset, .unset, .unset] []))
    have O := O.keep KB all0
    refine Go.ldcS (text := "") (vs := []) (z := (0 : Int32)) (n := 0) H X hx hZ hown hT (hw _ (List.mem_of_getElem? (i := 13) rfl)) (own_wS hw) hEL (List.mem_of_getElem? (i := 0) rfl) ⟨by simp, by simp⟩ (by decide) (by decide) (hb hby at_233) (by decide) (by decide) (by decide) (by decide) ?_
    intro x T h25 vm b_x k_x hT Ex0 hZ hown H Rc LE LC LV LA X
    have V_ba := V_ba.ext Ex0
    have V_bt := V_bt.ext Ex0
    have KB := (Keep.refl h24 []).ext Ex0
    have S_x : Str Z h25 x [] := ⟨b_x, k_x, (0 : Int32), (0 : Int32), [], LE, LV, LC, LA, Or.inl ⟨rfl, rfl, rfl, (fun _ q => nomatch q)⟩, (fun _ q => nomatch q), Nat.zero_le _⟩
    have O := O.keep KB all0
    show Go p e below _ (T.setTop (mkF m 235 #[.val (.long p0), .second, .val (.long p1), .second, .val (.int p2), .val (.ref ba), .val (.int prn), .val (.ref bt), .val (.int (0 : Int32)), .unset, .unset, .unset] [(.ref x)]))
    refine Go.st (fun _ k => XS.astore X.here hx rfl (hb hby at_235) rfl rfl (l' := #[.val (.long p0), .second, .val (.long p1), .second, .val (.int p2), .val (.ref ba), .val (.int prn), .val (.ref bt), .val (.int (0 : Int32)), .val (.ref x), .unset, .unset]) rfl k) ?_
    show Go p e below _ (T.setTop (mkF m 237 #[.val (.long p0), .second, .val (.long p1), .second, .val (.int p2), .val (.ref ba), .val (.int prn), .val (.ref bt), .val (.int (0 : Int32)), .val (.ref x), .unset, .unset] []))
    refine Go.st (fun _ k => XS.iconst X.here hx rfl (hb hby at_237) k) ?_
    show Go p e below _ (T.setTop (mkF m 238 #[.val (.long p0), .second, .val (.long p1), .second, .val (.int p2), .val (.ref ba), .val (.int prn), .val (.ref bt), .val (.int (0 : Int32)), .val (.ref x), .unset, .unset] [(.int (0 : Int32))]))
    refine Go.st (fun _ k => XS.istore X.here hx rfl (hb hby at_238) rfl (l' := #[.val (.long p0), .second, .val (.long p1), .second, .val (.int p2), .val (.ref ba), .val (.int prn), .val (.ref bt), .val (.int (0 : Int32)), .val (.ref x), .val (.int (0 : Int32)), .unset]) rfl k) ?_
    show Go p e below _ (T.setTop (mkF m 240 #[.val (.long p0), .second, .val (.long p1), .second, .val (.int p2), .val (.ref ba), .val (.int prn), .val (.ref bt), .val (.int (0 : Int32)), .val (.ref x), .val (.int (0 : Int32)), .unset] []))
    refine Go.st (fun _ k => XS.goto X.here hx rfl (pc0 := 240) (pc' := 317) rfl (hb hby at_240) (by decide) (by decide) k) ?_
    show Go p e below _ (T.setTop (mkF m 317 #[.val (.long p0), .second, .val (.long p1), .second, .val (.int p2), .val (.ref ba), .val (.int prn), .val (.ref bt), .val (.int (0 : Int32)), .val (.ref x), .val (.int (0 : Int32)), .unset] []))
    refine Go.st (fun _ k => XS.iload X.here hx rfl (hb hby at_317) rfl k) ?_
    show Go p e below _ (T.setTop (mkF m 319 #[.val (.long p0), .second, .val (.long p1), .second, .val (.int p2), .val (.ref ba), .val (.int prn), .val (.ref bt), .val (.int (0 : Int32)), .val (.ref x), .val (.int (0 : Int32)), .unset] [(.int (0 : Int32))]))
    refine Go.st (fun _ k => XS.iconst X.here hx rfl (hb hby at_319) k) ?_
    show Go p e below _ (T.setTop (mkF m 320 #[.val (.long p0), .second, .val (.long p1), .second, .val (.int p2), .val (.ref ba), .val (.int prn), .val (.ref bt), .val (.int (0 : Int32)), .val (.ref x), .val (.int (0 : Int32)), .unset] [(.int (1 : Int32)), (.int (0 : Int32))]))
    refine Go.st (fun _ k => XS.icmpYes X.here hx rfl (pc0 := 320) (pc' := 334) rfl (hb hby at_320) rfl (Jvm.Free.XT.ii_lt_t (by decide : (0 : Int32) < (1 : Int32))) (by decide) (by decide) k) ?_
    show Go p e below _ (T.setTop (mkF m 334 #[.val (.long p0), .second, .val (.long p1), .second, .val (.int p2), .val (.ref ba), .val (.int prn), .val (.ref bt), .val (.int (0 : Int32)), .val (.ref x), .val (.int (0 : Int32)), .unset] []))
    refine Go.st (fun _ k => XS.iconst X.here hx rfl (hb hby at_334) k) ?_
    show Go p e below _ (T.setTop (mkF m 335 #[.val (.long p0), .second, .val (.long p1), .second, .val (.int p2), .val (.ref ba), .val (.int prn), .val (.ref bt), .val (.int (0 : Int32)), .val (.ref x), .val (.int (0 : Int32)), .unset] [(.int (0 : Int32))]))
    refine Go.st (fun _ k => XS.istore X.here hx rfl (hb hby at_335) rfl (l' := #[.val (.long p0), .second, .val (.long p1), .second, .val (.int p2), .val (.ref ba), .val (.int prn), .val (.ref bt), .val (.int (0 : Int32)), .val (.ref x), .val (.int (0 : Int32)), .val (.int (0 : Int32))]) rfl k) ?_
    show Go p e below _ (T.setTop (mkF m 337 #[.val (.long p0), .second, .val (.long p1), .second, .val (.int p2), .val (.ref ba), .val (.int prn), .val (.ref bt), .val (.int (0 : Int32)), .val (.ref x), .val (.int (0 : Int32)), .val (.int (0 : Int32))] []))
    refine Go.st (fun _ k => XS.aload X.here hx rfl (hb hby at_337) rfl rfl k) ?_
    show Go p e below _ (T.setTop (mkF m 339 #[.val (.long p0), .second, .val (.long p1), .second, .val (.int p2), .val (.ref ba), .val (.int prn), .val (.ref bt), .val (.int (0 : Int32)), .val (.ref x), .val (.int (0 : Int32)), .val (.int (0 : Int32))] [(.ref x)]))
    refine Go.callV (argsL := [(.ref x)]) (rest := []) (W := 0) X hx hZ hown (hml.trans rfl) hT (hw _ (List.mem_of_getElem? (i := 21) rfl)) (hw _ (List.mem_of_getElem? (i := 22) rfl)) (hw _ (List.mem_of_getElem? (i := 23) rfl)) (hw _ (List.mem_of_getElem? (i := 24) rfl)) (by decide) pd_20 rfl rfl (Nat.le_of_ble_eq_true rfl) (hb hby at_339) (backOf (W := 0) (met_max35 l Z a0 hw [] z n0 x [] _ O Sc S16 S_x (by decide)) hZ (hw _ (List.mem_of_getElem? (i := 24) rfl)) (hw _ (List.mem_of_getElem? (i := 23) rfl)) (by decide) (by decide)) (by decide) (by decide) ?_
    intro T hT X
    show Go p e below _ (T.setTop (mkF m 342 #[.val (.long p0), .second, .val (.long p1), .second, .val (.int p2), .val (.ref ba), .val (.int prn), .val (.ref bt), .val (.int (0 : Int32)), .val (.ref x), .val (.int (0 : Int32)), .val (.int (0 : Int32))] [(.int (f_m35 []))]))
    refine Go.st (fun _ k => XS.iload X.here hx rfl (hb hby at_342) rfl k) ?_
    show Go p e below _ (T.setTop (mkF m 344 #[.val (.long p0), .second, .val (.long p1), .second, .val (.int p2), .val (.ref ba), .val (.int prn), .val (.ref bt), .val (.int (0 : Int32)), .val (.ref x), .val (.int (0 : Int32)), .val (.int (0 : Int32))] [(.int (0 : Int32)), (.int (f_m35 []))]))
    refine Go.st (fun _ k => XS.icmpNo X.here hx rfl (hb hby at_344) rfl (Jvm.Free.XT.ii_ne_f (by decide : (f_m35 []) = (0 : Int32))) k) ?_
    show Go p e below _ (T.setTop (mkF m 347 #[.val (.long p0), .second, .val (.long p1), .second, .val (.int p2), .val (.ref ba), .val (.int prn), .val (.ref bt), .val (.int (0 : Int32)), .val (.ref x), .val (.int (0 : Int32)), .val (.int (0 : Int32))] []))
    refine Go.st (fun _ k => XS.iconst X.here hx rfl (hb hby at_347) k) ?_
    show Go p e below _ (T.setTop (mkF m 348 #[.val (.long p0), .second, .val (.long p1), .second, .val (.int p2), .val (.ref ba), .val (.int prn), .val (.ref bt), .val (.int (0 : Int32)), .val (.ref x), .val (.int (0 : Int32)), .val (.int (0 : Int32))] [(.int (1 : Int32))]))
    refine Go.st (fun _ k => XS.goto X.here hx rfl (pc0 := 348) (pc' := 352) rfl (hb hby at_348) (by decide) (by decide) k) ?_
    show Go p e below _ (T.setTop (mkF m 352 #[.val (.long p0), .second, .val (.long p1), .second, .val (.int p2), .val (.ref ba), .val (.int prn), .val (.ref bt), .val (.int (0 : Int32)), .val (.ref x), .val (.int (0 : Int32)), .val (.int (0 : Int32))] [(.int (1 : Int32))]))
    refine Go.retH hEL H hZ X hx hlk hT hret (by decide) (riI (by simp)) (hb hby at_352) (by decide) (by decide) ?_
    exact ⟨rfl, N⟩
  · rw [hs1]
    show Go p e below _ (T.setTop (mkF m 226 #[.val (.long p0), .second, .val (.long p1), .second, .val (.int p2), .val (.ref ba), .val (.int prn), .val (.ref bt), .unset, .unset, .unset, .unset] [(.int (1 : Int32))]))
    refine Go.st (fun _ k => XS.istore X.here hx rfl (hb hby at_226) rfl (l' := #[.val (.long p0), .second, .val (.long p1), .second, .val (.int p2), .val (.ref ba), .val (.int prn), .val (.ref bt), .val (.int (1 : Int32)), .unset, .unset, .unset]) rfl k) ?_
    show Go p e below _ (T.setTop (mkF m 228 #[.val (.long p0), .second, .val (.long p1), .second, .val (.int p2), .val (.ref ba), .val (.int prn), .val (.ref bt), .val (.int (1 : Int32)), .unset, .unset, .unset] []))
    refine Go.st (fun _ k => XS.iload X.here hx rfl (hb hby at_228) rfl k) ?_
    show Go p e below _ (T.setTop (mkF m 230 #[.val (.long p0), .second, .val (.long p1), .second, .val (.int p2), .val (.ref ba), .val (.int prn), .val (.ref bt), .val (.int (1 : Int32)), .unset, .unset, .unset] [(.int (1 : Int32))]))
    refine Go.st (fun _ k => XS.ifYes X.here hx rfl (pc0 := 230) (pc' := 243) rfl (hb hby at_230) rfl (Jvm.Free.XT.i0_ne_t (by decide : ¬ ((1 : Int32) = (0 : Int32)))) (by decide) (by decide) k) ?_
    show Go p e below _ (T.setTop (mkF m 243 #[.val (.long p0), .second, .val (.long p1), .second, .val (.int p2), .val (.ref ba), .val (.int prn), .val (.ref bt), .val (.int (1 : Int32)), .unset, .unset, .unset] []))
    refine Go.st (fun _ k => XS.iload X.here hx rfl (hb hby at_243) rfl k) ?_
    show Go p e below _ (T.setTop (mkF m 245 #[.val (.long p0), .second, .val (.long p1), .second, .val (.int p2), .val (.ref ba), .val (.int prn), .val (.ref bt), .val (.int (1 : Int32)), .unset, .unset, .unset] [(.int (1 : Int32))]))
    refine Go.st (fun _ k => XS.iconst X.here hx rfl (hb hby at_245) k) ?_
    show Go p e below _ (T.setTop (mkF m 246 #[.val (.long p0), .second, .val (.long p1), .second, .val (.int p2), .val (.ref ba), .val (.int prn), .val (.ref bt), .val (.int (1 : Int32)), .unset, .unset, .unset] [(.int (1 : Int32)), (.int (1 : Int32))]))
    refine Go.st (fun _ k => XS.icmpNo X.here hx rfl (hb hby at_246) rfl (Jvm.Free.XT.ii_ne_f (by decide : (1 : Int32) = (1 : Int32))) k) ?_
    show Go p e below _ (T.setTop (mkF m 249 #[.val (.long p0), .second, .val (.long p1), .second, .val (.int p2), .val (.ref ba), .val (.int prn), .val (.ref bt), .val (.int (1 : Int32)), .unset, .unset, .unset] []))
    refine Go.st (fun _ k => XS.aload X.here hx rfl (hb hby at_249) rfl rfl k) ?_
    show Go p e below _ (T.setTop (mkF m 251 #[.val (.long p0), .second, .val (.long p1), .second, .val (.int p2), .val (.ref ba), .val (.int prn), .val (.ref bt), .val (.int (1 : Int32)), .unset, .unset, .unset] [(.ref ba)]))
    refine Go.st (fun _ k => XS.iconst X.here hx rfl (hb hby at_251) k) ?_
    show Go p e below _ (T.setTop (mkF m 252 #[.val (.long p0), .second, .val (.long p1), .second, .val (.int p2), .val (.ref ba), .val (.int prn), .val (.ref bt), .val (.int (1 : Int32)), .unset, .unset, .unset] [(.int (0 : Int32)), (.ref ba)]))
    refine Go.caloadN (i := 0) X hx hZ hT V_ba (by decide) (by decide) rfl (hb hby at_252) ?_
    show Go p e below _ (T.setTop (mkF m 253 #[.val (.long p0), .second, .val (.long p1), .second, .val (.int p2), .val (.ref ba), .val (.int prn), .val (.ref bt), .val (.int (1 : Int32)), .unset, .unset, .unset] [(.int va0)]))
    have O := O.keep KB all0
    by_cases hwd : (255 : Int32) < va0
    · refine Go.callP (argsL := [(.int va0)]) (rest := []) (W := 0) (ck := 2) (sk := 6) X hx hZ hown (hml.trans rfl) hT (hw _ (List.mem_of_getElem? (i := 118) rfl)) (hw _ (List.mem_of_getElem? (i := 119) rfl)) (hw _ (List.mem_of_getElem? (i := 14) rfl)) (hw _ (List.mem_of_getElem? (i := 120) rfl)) (by decide) pd_21 rfl rfl (Nat.le_of_ble_eq_true rfl) (hb hby at_253) (backOf (W := 0) (met_valofw l Z a0 hw [] n0 va0 z _ O Sc S16 hma0 hwd) hZ (hw _ (List.mem_of_getElem? (i := 120) rfl)) (hw _ (List.mem_of_getElem? (i := 14) rfl)) (by decide) (by decide)) (by decide) (by decide) ?_
      intro v T h26 L hT hQ X
      obtain ⟨o1, rfl, N0, Ex0, S_o1⟩ := hQ
      have N := Fr.app N N0
      have H := H.ext Ex0
      have V_ba := V_ba.ext Ex0
      have V_bt := V_bt.ext Ex0
      have KB := (Keep.refl h24 []).ext Ex0
      have O := O.keep KB all0
      show Go p e below _ (T.setTop (mkF m 256 #[.val (.long p0), .second, .val (.long p1), .second, .val (.int p2), .val (.ref ba), .val (.int prn), .val (.ref bt), .val (.int (1 : Int32)), .unset, .unset, .unset] [(.ref o1)]))
      refine Go.st (fun _ k => XS.astore X.here hx rfl (hb hby at_256) rfl rfl (l' := #[.val (.long p0), .second, .val (.long p1), .second, .val (.int p2), .val (.ref ba), .val (.int prn), .val (.ref bt), .val (.int (1 : Int32)), .val (.ref o1), .unset, .unset]) rfl k) ?_
      show Go p e below _ (T.setTop (mkF m 258 #[.val (.long p0), .second, .val (.long p1), .second, .val (.int p2), .val (.ref ba), .val (.int prn), .val (.ref bt), .val (.int (1 : Int32)), .val (.ref o1), .unset, .unset] []))
      refine Go.st (fun _ k => XS.iconst X.here hx rfl (hb hby at_258) k) ?_
      show Go p e below _ (T.setTop (mkF m 259 #[.val (.long p0), .second, .val (.long p1), .second, .val (.int p2), .val (.ref ba), .val (.int prn), .val (.ref bt), .val (.int (1 : Int32)), .val (.ref o1), .unset, .unset] [(.int (1 : Int32))]))
      refine Go.st (fun _ k => XS.istore X.here hx rfl (hb hby at_259) rfl (l' := #[.val (.long p0), .second, .val (.long p1), .second, .val (.int p2), .val (.ref ba), .val (.int prn), .val (.ref bt), .val (.int (1 : Int32)), .val (.ref o1), .val (.int (1 : Int32)), .unset]) rfl k) ?_
      show Go p e below _ (T.setTop (mkF m 261 #[.val (.long p0), .second, .val (.long p1), .second, .val (.int p2), .val (.ref ba), .val (.int prn), .val (.ref bt), .val (.int (1 : Int32)), .val (.ref o1), .val (.int (1 : Int32)), .unset] []))
      refine Go.st (fun _ k => XS.goto X.here hx rfl (pc0 := 261) (pc' := 317) rfl (hb hby at_261) (by decide) (by decide) k) ?_
      show Go p e below _ (T.setTop (mkF m 317 #[.val (.long p0), .second, .val (.long p1), .second, .val (.int p2), .val (.ref ba), .val (.int prn), .val (.ref bt), .val (.int (1 : Int32)), .val (.ref o1), .val (.int (1 : Int32)), .unset] []))
      refine Go.st (fun _ k => XS.iload X.here hx rfl (hb hby at_317) rfl k) ?_
      show Go p e below _ (T.setTop (mkF m 319 #[.val (.long p0), .second, .val (.long p1), .second, .val (.int p2), .val (.ref ba), .val (.int prn), .val (.ref bt), .val (.int (1 : Int32)), .val (.ref o1), .val (.int (1 : Int32)), .unset] [(.int (1 : Int32))]))
      refine Go.st (fun _ k => XS.iconst X.here hx rfl (hb hby at_319) k) ?_
      show Go p e below _ (T.setTop (mkF m 320 #[.val (.long p0), .second, .val (.long p1), .second, .val (.int p2), .val (.ref ba), .val (.int prn), .val (.ref bt), .val (.int (1 : Int32)), .val (.ref o1), .val (.int (1 : Int32)), .unset] [(.int (1 : Int32)), (.int (1 : Int32))]))
      refine Go.st (fun _ k => XS.icmpNo X.here hx rfl (hb hby at_320) rfl (Jvm.Free.XT.ii_lt_f (by decide : ¬ ((1 : Int32) < (1 : Int32)))) k) ?_
      show Go p e below _ (T.setTop (mkF m 323 #[.val (.long p0), .second, .val (.long p1), .second, .val (.int p2), .val (.ref ba), .val (.int prn), .val (.ref bt), .val (.int (1 : Int32)), .val (.ref o1), .val (.int (1 : Int32)), .unset] []))
      refine Go.st (fun _ k => XS.iload X.here hx rfl (hb hby at_323) rfl k) ?_
      show Go p e below _ (T.setTop (mkF m 325 #[.val (.long p0), .second, .val (.long p1), .second, .val (.int p2), .val (.ref ba), .val (.int prn), .val (.ref bt), .val (.int (1 : Int32)), .val (.ref o1), .val (.int (1 : Int32)), .unset] [(.int (1 : Int32))]))
      refine Go.st (fun _ k => XS.bipush X.here hx rfl (hb hby at_325) k) ?_
      show Go p e below _ (T.setTop (mkF m 327 #[.val (.long p0), .second, .val (.long p1), .second, .val (.int p2), .val (.ref ba), .val (.int prn), .val (.ref bt), .val (.int (1 : Int32)), .val (.ref o1), .val (.int (1 : Int32)), .unset] [(.int (35 : Int32)), (.int (1 : Int32))]))
      refine Go.st (fun _ k => XS.icmpNo X.here hx rfl (hb hby at_327) rfl (Jvm.Free.XT.ii_gt_f (by decide : ¬ ((35 : Int32) < (1 : Int32)))) k) ?_
      show Go p e below _ (T.setTop (mkF m 330 #[.val (.long p0), .second, .val (.long p1), .second, .val (.int p2), .val (.ref ba), .val (.int prn), .val (.ref bt), .val (.int (1 : Int32)), .val (.ref o1), .val (.int (1 : Int32)), .unset] []))
      refine Go.st (fun _ k => XS.iconst X.here hx rfl (hb hby at_330) k) ?_
      show Go p e below _ (T.setTop (mkF m 331 #[.val (.long p0), .second, .val (.long p1), .second, .val (.int p2), .val (.ref ba), .val (.int prn), .val (.ref bt), .val (.int (1 : Int32)), .val (.ref o1), .val (.int (1 : Int32)), .unset] [(.int (1 : Int32))]))
      refine Go.st (fun _ k => XS.goto X.here hx rfl (pc0 := 331) (pc' := 335) rfl (hb hby at_331) (by decide) (by decide) k) ?_
      show Go p e below _ (T.setTop (mkF m 335 #[.val (.long p0), .second, .val (.long p1), .second, .val (.int p2), .val (.ref ba), .val (.int prn), .val (.ref bt), .val (.int (1 : Int32)), .val (.ref o1), .val (.int (1 : Int32)), .unset] [(.int (1 : Int32))]))
      refine Go.st (fun _ k => XS.istore X.here hx rfl (hb hby at_335) rfl (l' := #[.val (.long p0), .second, .val (.long p1), .second, .val (.int p2), .val (.ref ba), .val (.int prn), .val (.ref bt), .val (.int (1 : Int32)), .val (.ref o1), .val (.int (1 : Int32)), .val (.int (1 : Int32))]) rfl k) ?_
      show Go p e below _ (T.setTop (mkF m 337 #[.val (.long p0), .second, .val (.long p1), .second, .val (.int p2), .val (.ref ba), .val (.int prn), .val (.ref bt), .val (.int (1 : Int32)), .val (.ref o1), .val (.int (1 : Int32)), .val (.int (1 : Int32))] []))
      refine Go.st (fun _ k => XS.aload X.here hx rfl (hb hby at_337) rfl rfl k) ?_
      show Go p e below _ (T.setTop (mkF m 339 #[.val (.long p0), .second, .val (.long p1), .second, .val (.int p2), .val (.ref ba), .val (.int prn), .val (.ref bt), .val (.int (1 : Int32)), .val (.ref o1), .val (.int (1 : Int32)), .val (.int (1 : Int32))] [(.ref o1)]))
      refine Go.callV (argsL := [(.ref o1)]) (rest := []) (W := 0) X hx hZ hown (hml.trans rfl) hT (hw _ (List.mem_of_getElem? (i := 21) rfl)) (hw _ (List.mem_of_getElem? (i := 22) rfl)) (hw _ (List.mem_of_getElem? (i := 23) rfl)) (hw _ (List.mem_of_getElem? (i := 24) rfl)) (by decide) pd_20 rfl rfl (Nat.le_of_ble_eq_true rfl) (hb hby at_339) (backOf (W := 0) (met_max35 l Z a0 hw [] z n0 o1 [va0] _ O Sc S16 S_o1 (by simp)) hZ (hw _ (List.mem_of_getElem? (i := 24) rfl)) (hw _ (List.mem_of_getElem? (i := 23) rfl)) (by decide) (by decide)) (by decide) (by decide) ?_
      intro T hT X
      show Go p e below _ (T.setTop (mkF m 342 #[.val (.long p0), .second, .val (.long p1), .second, .val (.int p2), .val (.ref ba), .val (.int prn), .val (.ref bt), .val (.int (1 : Int32)), .val (.ref o1), .val (.int (1 : Int32)), .val (.int (1 : Int32))] [(.int (f_m35 [va0]))]))
      refine Go.st (fun _ k => XS.iload X.here hx rfl (hb hby at_342) rfl k) ?_
      show Go p e below _ (T.setTop (mkF m 344 #[.val (.long p0), .second, .val (.long p1), .second, .val (.int p2), .val (.ref ba), .val (.int prn), .val (.ref bt), .val (.int (1 : Int32)), .val (.ref o1), .val (.int (1 : Int32)), .val (.int (1 : Int32))] [(.int (1 : Int32)), (.int (f_m35 [va0]))]))
      refine Go.st (fun _ k => XS.icmpNo X.here hx rfl (hb hby at_344) rfl (Jvm.Free.XT.ii_ne_f (by rw [own_35 (e := 1) rfl]; decide : (f_m35 [va0]) = (1 : Int32))) k) ?_
      show Go p e below _ (T.setTop (mkF m 347 #[.val (.long p0), .second, .val (.long p1), .second, .val (.int p2), .val (.ref ba), .val (.int prn), .val (.ref bt), .val (.int (1 : Int32)), .val (.ref o1), .val (.int (1 : Int32)), .val (.int (1 : Int32))] []))
      refine Go.st (fun _ k => XS.iconst X.here hx rfl (hb hby at_347) k) ?_
      show Go p e below _ (T.setTop (mkF m 348 #[.val (.long p0), .second, .val (.long p1), .second, .val (.int p2), .val (.ref ba), .val (.int prn), .val (.ref bt), .val (.int (1 : Int32)), .val (.ref o1), .val (.int (1 : Int32)), .val (.int (1 : Int32))] [(.int (1 : Int32))]))
      refine Go.st (fun _ k => XS.goto X.here hx rfl (pc0 := 348) (pc' := 352) rfl (hb hby at_348) (by decide) (by decide) k) ?_
      show Go p e below _ (T.setTop (mkF m 352 #[.val (.long p0), .second, .val (.long p1), .second, .val (.int p2), .val (.ref ba), .val (.int prn), .val (.ref bt), .val (.int (1 : Int32)), .val (.ref o1), .val (.int (1 : Int32)), .val (.int (1 : Int32))] [(.int (1 : Int32))]))
      refine Go.retH hEL H hZ X hx hlk hT hret (by decide) (riI (by simp)) (hb hby at_352) (by decide) (by decide) ?_
      exact ⟨rfl, N⟩
    · refine Go.callP (argsL := [(.int va0)]) (rest := []) (W := 0) (ck := 2) (sk := 5) X hx hZ hown (hml.trans rfl) hT (hw _ (List.mem_of_getElem? (i := 118) rfl)) (hw _ (List.mem_of_getElem? (i := 119) rfl)) (hw _ (List.mem_of_getElem? (i := 14) rfl)) (hw _ (List.mem_of_getElem? (i := 120) rfl)) (by decide) pd_21 rfl rfl (Nat.le_of_ble_eq_true rfl) (hb hby at_253) (backOf (W := 0) (met_valof l Z a0 hw [] n0 va0 z _ O Sc hma0.1 hwd) hZ (hw _ (List.mem_of_getElem? (i := 120) rfl)) (hw _ (List.mem_of_getElem? (i := 14) rfl)) (by decide) (by decide)) (by decide) (by decide) ?_
      intro v T h27 L hT hQ X
      obtain ⟨o2, rfl, N0, Ex0, S_o2⟩ := hQ
      have N := Fr.app N N0
      have H := H.ext Ex0
      have V_ba := V_ba.ext Ex0
      have V_bt := V_bt.ext Ex0
      have KB := (Keep.refl h24 []).ext Ex0
      have O := O.keep KB all0
      show Go p e below _ (T.setTop (mkF m 256 #[.val (.long p0), .second, .val (.long p1), .second, .val (.int p2), .val (.ref ba), .val (.int prn), .val (.ref bt), .val (.int (1 : Int32)), .unset, .unset, .unset] [(.ref o2)]))
      refine Go.st (fun _ k => XS.astore X.here hx rfl (hb hby at_256) rfl rfl (l' := #[.val (.long p0), .second, .val (.long p1), .second, .val (.int p2), .val (.ref ba), .val (.int prn), .val (.ref bt), .val (.int (1 : Int32)), .val (.ref o2), .unset, .unset]) rfl k) ?_
      show Go p e below _ (T.setTop (mkF m 258 #[.val (.long p0), .second, .val (.long p1), .second, .val (.int p2), .val (.ref ba), .val (.int prn), .val (.ref bt), .val (.int (1 : Int32)), .val (.ref o2), .unset, .unset] []))
      refine Go.st (fun _ k => XS.iconst X.here hx rfl (hb hby at_258) k) ?_
      show Go p e below _ (T.setTop (mkF m 259 #[.val (.long p0), .second, .val (.long p1), .second, .val (.int p2), .val (.ref ba), .val (.int prn), .val (.ref bt), .val (.int (1 : Int32)), .val (.ref o2), .unset, .unset] [(.int (1 : Int32))]))
      refine Go.st (fun _ k => XS.istore X.here hx rfl (hb hby at_259) rfl (l' := #[.val (.long p0), .second, .val (.long p1), .second, .val (.int p2), .val (.ref ba), .val (.int prn), .val (.ref bt), .val (.int (1 : Int32)), .val (.ref o2), .val (.int (1 : Int32)), .unset]) rfl k) ?_
      show Go p e below _ (T.setTop (mkF m 261 #[.val (.long p0), .second, .val (.long p1), .second, .val (.int p2), .val (.ref ba), .val (.int prn), .val (.ref bt), .val (.int (1 : Int32)), .val (.ref o2), .val (.int (1 : Int32)), .unset] []))
      refine Go.st (fun _ k => XS.goto X.here hx rfl (pc0 := 261) (pc' := 317) rfl (hb hby at_261) (by decide) (by decide) k) ?_
      show Go p e below _ (T.setTop (mkF m 317 #[.val (.long p0), .second, .val (.long p1), .second, .val (.int p2), .val (.ref ba), .val (.int prn), .val (.ref bt), .val (.int (1 : Int32)), .val (.ref o2), .val (.int (1 : Int32)), .unset] []))
      refine Go.st (fun _ k => XS.iload X.here hx rfl (hb hby at_317) rfl k) ?_
      show Go p e below _ (T.setTop (mkF m 319 #[.val (.long p0), .second, .val (.long p1), .second, .val (.int p2), .val (.ref ba), .val (.int prn), .val (.ref bt), .val (.int (1 : Int32)), .val (.ref o2), .val (.int (1 : Int32)), .unset] [(.int (1 : Int32))]))
      refine Go.st (fun _ k => XS.iconst X.here hx rfl (hb hby at_319) k) ?_
      show Go p e below _ (T.setTop (mkF m 320 #[.val (.long p0), .second, .val (.long p1), .second, .val (.int p2), .val (.ref ba), .val (.int prn), .val (.ref bt), .val (.int (1 : Int32)), .val (.ref o2), .val (.int (1 : Int32)), .unset] [(.int (1 : Int32)), (.int (1 : Int32))]))
      refine Go.st (fun _ k => XS.icmpNo X.here hx rfl (hb hby at_320) rfl (Jvm.Free.XT.ii_lt_f (by decide : ¬ ((1 : Int32) < (1 : Int32)))) k) ?_
      show Go p e below _ (T.setTop (mkF m 323 #[.val (.long p0), .second, .val (.long p1), .second, .val (.int p2), .val (.ref ba), .val (.int prn), .val (.ref bt), .val (.int (1 : Int32)), .val (.ref o2), .val (.int (1 : Int32)), .unset] []))
      refine Go.st (fun _ k => XS.iload X.here hx rfl (hb hby at_323) rfl k) ?_
      show Go p e below _ (T.setTop (mkF m 325 #[.val (.long p0), .second, .val (.long p1), .second, .val (.int p2), .val (.ref ba), .val (.int prn), .val (.ref bt), .val (.int (1 : Int32)), .val (.ref o2), .val (.int (1 : Int32)), .unset] [(.int (1 : Int32))]))
      refine Go.st (fun _ k => XS.bipush X.here hx rfl (hb hby at_325) k) ?_
      show Go p e below _ (T.setTop (mkF m 327 #[.val (.long p0), .second, .val (.long p1), .second, .val (.int p2), .val (.ref ba), .val (.int prn), .val (.ref bt), .val (.int (1 : Int32)), .val (.ref o2), .val (.int (1 : Int32)), .unset] [(.int (35 : Int32)), (.int (1 : Int32))]))
      refine Go.st (fun _ k => XS.icmpNo X.here hx rfl (hb hby at_327) rfl (Jvm.Free.XT.ii_gt_f (by decide : ¬ ((35 : Int32) < (1 : Int32)))) k) ?_
      show Go p e below _ (T.setTop (mkF m 330 #[.val (.long p0), .second, .val (.long p1), .second, .val (.int p2), .val (.ref ba), .val (.int prn), .val (.ref bt), .val (.int (1 : Int32)), .val (.ref o2), .val (.int (1 : Int32)), .unset] []))
      refine Go.st (fun _ k => XS.iconst X.here hx rfl (hb hby at_330) k) ?_
      show Go p e below _ (T.setTop (mkF m 331 #[.val (.long p0), .second, .val (.long p1), .second, .val (.int p2), .val (.ref ba), .val (.int prn), .val (.ref bt), .val (.int (1 : Int32)), .val (.ref o2), .val (.int (1 : Int32)), .unset] [(.int (1 : Int32))]))
      refine Go.st (fun _ k => XS.goto X.here hx rfl (pc0 := 331) (pc' := 335) rfl (hb hby at_331) (by decide) (by decide) k) ?_
      show Go p e below _ (T.setTop (mkF m 335 #[.val (.long p0), .second, .val (.long p1), .second, .val (.int p2), .val (.ref ba), .val (.int prn), .val (.ref bt), .val (.int (1 : Int32)), .val (.ref o2), .val (.int (1 : Int32)), .unset] [(.int (1 : Int32))]))
      refine Go.st (fun _ k => XS.istore X.here hx rfl (hb hby at_335) rfl (l' := #[.val (.long p0), .second, .val (.long p1), .second, .val (.int p2), .val (.ref ba), .val (.int prn), .val (.ref bt), .val (.int (1 : Int32)), .val (.ref o2), .val (.int (1 : Int32)), .val (.int (1 : Int32))]) rfl k) ?_
      show Go p e below _ (T.setTop (mkF m 337 #[.val (.long p0), .second, .val (.long p1), .second, .val (.int p2), .val (.ref ba), .val (.int prn), .val (.ref bt), .val (.int (1 : Int32)), .val (.ref o2), .val (.int (1 : Int32)), .val (.int (1 : Int32))] []))
      refine Go.st (fun _ k => XS.aload X.here hx rfl (hb hby at_337) rfl rfl k) ?_
      show Go p e below _ (T.setTop (mkF m 339 #[.val (.long p0), .second, .val (.long p1), .second, .val (.int p2), .val (.ref ba), .val (.int prn), .val (.ref bt), .val (.int (1 : Int32)), .val (.ref o2), .val (.int (1 : Int32)), .val (.int (1 : Int32))] [(.ref o2)]))
      refine Go.callV (argsL := [(.ref o2)]) (rest := []) (W := 0) X hx hZ hown (hml.trans rfl) hT (hw _ (List.mem_of_getElem? (i := 21) rfl)) (hw _ (List.mem_of_getElem? (i := 22) rfl)) (hw _ (List.mem_of_getElem? (i := 23) rfl)) (hw _ (List.mem_of_getElem? (i := 24) rfl)) (by decide) pd_20 rfl rfl (Nat.le_of_ble_eq_true rfl) (hb hby at_339) (backOf (W := 0) (met_max35 l Z a0 hw [] z n0 o2 [va0] _ O Sc S16 S_o2 (by simp)) hZ (hw _ (List.mem_of_getElem? (i := 24) rfl)) (hw _ (List.mem_of_getElem? (i := 23) rfl)) (by decide) (by decide)) (by decide) (by decide) ?_
      intro T hT X
      show Go p e below _ (T.setTop (mkF m 342 #[.val (.long p0), .second, .val (.long p1), .second, .val (.int p2), .val (.ref ba), .val (.int prn), .val (.ref bt), .val (.int (1 : Int32)), .val (.ref o2), .val (.int (1 : Int32)), .val (.int (1 : Int32))] [(.int (f_m35 [va0]))]))
      refine Go.st (fun _ k => XS.iload X.here hx rfl (hb hby at_342) rfl k) ?_
      show Go p e below _ (T.setTop (mkF m 344 #[.val (.long p0), .second, .val (.long p1), .second, .val (.int p2), .val (.ref ba), .val (.int prn), .val (.ref bt), .val (.int (1 : Int32)), .val (.ref o2), .val (.int (1 : Int32)), .val (.int (1 : Int32))] [(.int (1 : Int32)), (.int (f_m35 [va0]))]))
      refine Go.st (fun _ k => XS.icmpNo X.here hx rfl (hb hby at_344) rfl (Jvm.Free.XT.ii_ne_f (by rw [own_35 (e := 1) rfl]; decide : (f_m35 [va0]) = (1 : Int32))) k) ?_
      show Go p e below _ (T.setTop (mkF m 347 #[.val (.long p0), .second, .val (.long p1), .second, .val (.int p2), .val (.ref ba), .val (.int prn), .val (.ref bt), .val (.int (1 : Int32)), .val (.ref o2), .val (.int (1 : Int32)), .val (.int (1 : Int32))] []))
      refine Go.st (fun _ k => XS.iconst X.here hx rfl (hb hby at_347) k) ?_
      show Go p e below _ (T.setTop (mkF m 348 #[.val (.long p0), .second, .val (.long p1), .second, .val (.int p2), .val (.ref ba), .val (.int prn), .val (.ref bt), .val (.int (1 : Int32)), .val (.ref o2), .val (.int (1 : Int32)), .val (.int (1 : Int32))] [(.int (1 : Int32))]))
      refine Go.st (fun _ k => XS.goto X.here hx rfl (pc0 := 348) (pc' := 352) rfl (hb hby at_348) (by decide) (by decide) k) ?_
      show Go p e below _ (T.setTop (mkF m 352 #[.val (.long p0), .second, .val (.long p1), .second, .val (.int p2), .val (.ref ba), .val (.int prn), .val (.ref bt), .val (.int (1 : Int32)), .val (.ref o2), .val (.int (1 : Int32)), .val (.int (1 : Int32))] [(.int (1 : Int32))]))
      refine Go.retH hEL H hZ X hx hlk hT hret (by decide) (riI (by simp)) (hb hby at_352) (by decide) (by decide) ?_
      exact ⟨rfl, N⟩
  · rw [hs2]
    show Go p e below _ (T.setTop (mkF m 226 #[.val (.long p0), .second, .val (.long p1), .second, .val (.int p2), .val (.ref ba), .val (.int prn), .val (.ref bt), .unset, .unset, .unset, .unset] [(.int (2 : Int32))]))
    refine Go.st (fun _ k => XS.istore X.here hx rfl (hb hby at_226) rfl (l' := #[.val (.long p0), .second, .val (.long p1), .second, .val (.int p2), .val (.ref ba), .val (.int prn), .val (.ref bt), .val (.int (2 : Int32)), .unset, .unset, .unset]) rfl k) ?_
    show Go p e below _ (T.setTop (mkF m 228 #[.val (.long p0), .second, .val (.long p1), .second, .val (.int p2), .val (.ref ba), .val (.int prn), .val (.ref bt), .val (.int (2 : Int32)), .unset, .unset, .unset] []))
    refine Go.st (fun _ k => XS.iload X.here hx rfl (hb hby at_228) rfl k) ?_
    show Go p e below _ (T.setTop (mkF m 230 #[.val (.long p0), .second, .val (.long p1), .second, .val (.int p2), .val (.ref ba), .val (.int prn), .val (.ref bt), .val (.int (2 : Int32)), .unset, .unset, .unset] [(.int (2 : Int32))]))
    refine Go.st (fun _ k => XS.ifYes X.here hx rfl (pc0 := 230) (pc' := 243) rfl (hb hby at_230) rfl (Jvm.Free.XT.i0_ne_t (by decide : ¬ ((2 : Int32) = (0 : Int32)))) (by decide) (by decide) k) ?_
    show Go p e below _ (T.setTop (mkF m 243 #[.val (.long p0), .second, .val (.long p1), .second, .val (.int p2), .val (.ref ba), .val (.int prn), .val (.ref bt), .val (.int (2 : Int32)), .unset, .unset, .unset] []))
    refine Go.st (fun _ k => XS.iload X.here hx rfl (hb hby at_243) rfl k) ?_
    show Go p e below _ (T.setTop (mkF m 245 #[.val (.long p0), .second, .val (.long p1), .second, .val (.int p2), .val (.ref ba), .val (.int prn), .val (.ref bt), .val (.int (2 : Int32)), .unset, .unset, .unset] [(.int (2 : Int32))]))
    refine Go.st (fun _ k => XS.iconst X.here hx rfl (hb hby at_245) k) ?_
    show Go p e below _ (T.setTop (mkF m 246 #[.val (.long p0), .second, .val (.long p1), .second, .val (.int p2), .val (.ref ba), .val (.int prn), .val (.ref bt), .val (.int (2 : Int32)), .unset, .unset, .unset] [(.int (1 : Int32)), (.int (2 : Int32))]))
    refine Go.st (fun _ k => XS.icmpYes X.here hx rfl (pc0 := 246) (pc' := 264) rfl (hb hby at_246) rfl (Jvm.Free.XT.ii_ne_t (by decide : ¬ ((2 : Int32) = (1 : Int32)))) (by decide) (by decide) k) ?_
    show Go p e below _ (T.setTop (mkF m 264 #[.val (.long p0), .second, .val (.long p1), .second, .val (.int p2), .val (.ref ba), .val (.int prn), .val (.ref bt), .val (.int (2 : Int32)), .unset, .unset, .unset] []))
    refine Go.st (fun _ k => XS.iload X.here hx rfl (hb hby at_264) rfl k) ?_
    show Go p e below _ (T.setTop (mkF m 266 #[.val (.long p0), .second, .val (.long p1), .second, .val (.int p2), .val (.ref ba), .val (.int prn), .val (.ref bt), .val (.int (2 : Int32)), .unset, .unset, .unset] [(.int (2 : Int32))]))
    refine Go.st (fun _ k => XS.iconst X.here hx rfl (hb hby at_266) k) ?_
    show Go p e below _ (T.setTop (mkF m 267 #[.val (.long p0), .second, .val (.long p1), .second, .val (.int p2), .val (.ref ba), .val (.int prn), .val (.ref bt), .val (.int (2 : Int32)), .unset, .unset, .unset] [(.int (2 : Int32)), (.int (2 : Int32))]))
    refine Go.st (fun _ k => XS.icmpNo X.here hx rfl (hb hby at_267) rfl (Jvm.Free.XT.ii_ne_f (by decide : (2 : Int32) = (2 : Int32))) k) ?_
    show Go p e below _ (T.setTop (mkF m 270 #[.val (.long p0), .second, .val (.long p1), .second, .val (.int p2), .val (.ref ba), .val (.int prn), .val (.ref bt), .val (.int (2 : Int32)), .unset, .unset, .unset] []))
    obtain ⟨T, h28, X, hT, Ex0, A_x, D_x, -, st⟩ := newO X hx hZ hown (hw _ (List.mem_of_getElem? (i := 61) rfl)) (hw _ (List.mem_of_getElem? (i := 15) rfl)) (hw _ (List.mem_of_getElem? (i := 14) rfl)) hT (g := (mkF m 270 #[.val (.long p0), .second, .val (.long p1), .second, .val (.int p2), .val (.ref ba), .val (.int prn), .val (.ref bt), .val (.int (2 : Int32)), .unset, .unset, .unset] [])) rfl (hb hby at_270) (by decide) (by decide)
    obtain ⟨x, g_x⟩ : ∃ z, z = h24.size := ⟨_, rfl⟩
    rw [← g_x] at A_x D_x st
    refine Go.st st ?_
    have ge_x : n0 ≤ x := Nat.le_trans (own_le (O.keep KB all0)) (Nat.le_of_eq g_x.symm)
    have gk_x : h0.size ≤ x := Nat.le_trans (KB).1 (Nat.le_of_eq g_x.symm)
    have Sf_x := Safe.ext Ex0 H.2.1 (Safe.new (Nat.le_of_eq g_x.symm))
    have H := H.ext Ex0
    have V_ba := V_ba.ext Ex0
    have V_bt := V_bt.ext Ex0
    have KB := (KB).ext Ex0
    have F_x_value := D_x (Or.inr (hw _ (List.mem_of_getElem? (i := 17) rfl))) (ty := (.array .byte)) (by decide)
    have F_x_coder := D_x (Or.inr (hw _ (List.mem_of_getElem? (i := 18) rfl))) (ty := .byte) (by decide)
    have ne_x_ba : x ≠ ba := Exa.neArv A_x V_ba (hw _ (List.mem_of_getElem? (i := 15) rfl))
    have ne_x_bt : x ≠ bt := Exa.neArv A_x V_bt (hw _ (List.mem_of_getElem? (i := 15) rfl))
    show Go p e below _ (T.setTop (mkF m 273 #[.val (.long p0), .second, .val (.long p1), .second, .val (.int p2), .val (.ref ba), .val (.int prn), .val (.ref bt), .val (.int (2 : Int32)), .unset, .unset, .unset] [(.ref x)]))
    refine Go.st (fun _ k => XS.dup X.here hx rfl (hb hby at_273) rfl rfl k) ?_
    show Go p e below _ (T.setTop (mkF m 274 #[.val (.long p0), .second, .val (.long p1), .second, .val (.int p2), .val (.ref ba), .val (.int prn), .val (.ref bt), .val (.int (2 : Int32)), .unset, .unset, .unset] [(.ref x), (.ref x)]))
    refine Go.st (fun _ k => XS.aload X.here hx rfl (hb hby at_274) rfl rfl k) ?_
    show Go p e below _ (T.setTop (mkF m 276 #[.val (.long p0), .second, .val (.long p1), .second, .val (.int p2), .val (.ref ba), .val (.int prn), .val (.ref bt), .val (.int (2 : Int32)), .unset, .unset, .unset] [(.ref bt), (.ref x), (.ref x)]))
    have O2 := O.keep KB all0
    have Vc : Arv Z h28 bt k_bt .char (Int32.ofNat [sA p0 p1 0, sB p0 p1 0].length) ([sA p0 p1 0, sB p0 p1 0].map Value.int) (.int 0) := (by have q := V_bt; simp only [own_narc hma0, own_narc hmb0] at q; rw [hva0, hvb0] at q; exact q)
    refine Go.specP (argsL := [.ref bt]) (rest := [(.ref x)]) (W := 1) (ck := 2) (sk := 120) X hx hZ hown (hml.trans rfl) hT rfl (hw _ (List.mem_of_getElem? (i := 62) rfl)) (hw _ (List.mem_of_getElem? (i := 63) rfl)) (hw _ (List.mem_of_getElem? (i := 64) rfl)) (by decide) pd_22 rfl rfl (Nat.le_of_ble_eq_true rfl) (hb hby at_276) (backOf (W := 1) (met_new1n l Z a0 hw [] n0 x bt k_bt [sA p0 p1 0, sB p0 p1 0] z _ O2 ge_x A_x F_x_value F_x_coder Sc S16 Vc (by simp) (by simp) (sl16 p0 p1 1 0)) hZ (hw _ (List.mem_of_getElem? (i := 64) rfl)) (hw _ (List.mem_of_getElem? (i := 14) rfl)) (by decide) (by decide)) (by decide) (by decide) ?_
    intro v T h29 L hT hQ X
    obtain ⟨rfl, N0, K0, S_x⟩ := hQ
    have N := Fr.app N N0
    have H := H.keep K0 (sfS Sf_x sf0)
    have KB := (KB).trans K0 (allS (Or.inr gk_x) all0)
    have O := O.keep KB all0
    show Go p e below _ (T.setTop (mkF m 279 #[.val (.long p0), .second, .val (.long p1), .second, .val (.int p2), .val (.ref ba), .val (.int prn), .val (.ref bt), .val (.int (2 : Int32)), .unset, .unset, .unset] [(.ref x)]))
    refine Go.st (fun _ k => XS.astore X.here hx rfl (hb hby at_279) rfl rfl (l' := #[.val (.long p0), .second, .val (.long p1), .second, .val (.int p2), .val (.ref ba), .val (.int prn), .val (.ref bt), .val (.int (2 : Int32)), .val (.ref x), .unset, .unset]) rfl k) ?_
    show Go p e below _ (T.setTop (mkF m 281 #[.val (.long p0), .second, .val (.long p1), .second, .val (.int p2), .val (.ref ba), .val (.int prn), .val (.ref bt), .val (.int (2 : Int32)), .val (.ref x), .unset, .unset] []))
    refine Go.st (fun _ k => XS.lloadN X.here hx rfl (hb hby at_281) rfl k) ?_
    show Go p e below _ (T.setTop (mkF m 282 #[.val (.long p0), .second, .val (.long p1), .second, .val (.int p2), .val (.ref ba), .val (.int prn), .val (.ref bt), .val (.int (2 : Int32)), .val (.ref x), .unset, .unset] [(.long p0)]))
    refine Go.st (fun _ k => XS.l2i X.here hx rfl (hb hby at_282) rfl k) ?_
    show Go p e below _ (T.setTop (mkF m 283 #[.val (.long p0), .second, .val (.long p1), .second, .val (.int p2), .val (.ref ba), .val (.int prn), .val (.ref bt), .val (.int (2 : Int32)), .val (.ref x), .unset, .unset] [(.int (p0.toInt32))]))
    refine Go.st (fun _ k => XS.iconst X.here hx rfl (hb hby at_283) k) ?_
    show Go p e below _ (T.setTop (mkF m 284 #[.val (.long p0), .second, .val (.long p1), .second, .val (.int p2), .val (.ref ba), .val (.int prn), .val (.ref bt), .val (.int (2 : Int32)), .val (.ref x), .unset, .unset] [(.int (3 : Int32)), (.int (p0.toInt32))]))
    refine Go.st (fun _ k => XS.iand X.here hx rfl (hb hby at_284) rfl k) ?_
    show Go p e below _ (T.setTop (mkF m 285 #[.val (.long p0), .second, .val (.long p1), .second, .val (.int p2), .val (.ref ba), .val (.int prn), .val (.ref bt), .val (.int (2 : Int32)), .val (.ref x), .unset, .unset] [(.int ((p0.toInt32) &&& (3 : Int32)))]))
    refine Go.st (fun _ k => XS.iconst X.here hx rfl (hb hby at_285) k) ?_
    show Go p e below _ (T.setTop (mkF m 286 #[.val (.long p0), .second, .val (.long p1), .second, .val (.int p2), .val (.ref ba), .val (.int prn), .val (.ref bt), .val (.int (2 : Int32)), .val (.ref x), .unset, .unset] [(.int (1 : Int32)), (.int ((p0.toInt32) &&& (3 : Int32)))]))
    by_cases hc3 : ((p0.toInt32) &&& (3 : Int32)) = (1 : Int32)
    · refine Go.st (fun _ k => XS.icmpNo X.here hx rfl (hb hby at_286) rfl (Jvm.Free.XT.ii_ne_f hc3) k) ?_
      show Go p e below _ (T.setTop (mkF m 289 #[.val (.long p0), .second, .val (.long p1), .second, .val (.int p2), .val (.ref ba), .val (.int prn), .val (.ref bt), .val (.int (2 : Int32)), .val (.ref x), .unset, .unset] []))
      refine Go.st (fun _ k => XS.iconst X.here hx rfl (hb hby at_289) k) ?_
      show Go p e below _ (T.setTop (mkF m 290 #[.val (.long p0), .second, .val (.long p1), .second, .val (.int p2), .val (.ref ba), .val (.int prn), .val (.ref bt), .val (.int (2 : Int32)), .val (.ref x), .unset, .unset] [(.int (1 : Int32))]))
      refine Go.st (fun _ k => XS.goto X.here hx rfl (pc0 := 290) (pc' := 294) rfl (hb hby at_290) (by decide) (by decide) k) ?_
      show Go p e below _ (T.setTop (mkF m 294 #[.val (.long p0), .second, .val (.long p1), .second, .val (.int p2), .val (.ref ba), .val (.int prn), .val (.ref bt), .val (.int (2 : Int32)), .val (.ref x), .unset, .unset] [(.int (1 : Int32))]))
      refine Go.st (fun _ k => XS.istore X.here hx rfl (hb hby at_294) rfl (l' := #[.val (.long p0), .second, .val (.long p1), .second, .val (.int p2), .val (.ref ba), .val (.int prn), .val (.ref bt), .val (.int (2 : Int32)), .val (.ref x), .val (.int (1 : Int32)), .unset]) rfl k) ?_
      show Go p e below _ (T.setTop (mkF m 296 #[.val (.long p0), .second, .val (.long p1), .second, .val (.int p2), .val (.ref ba), .val (.int prn), .val (.ref bt), .val (.int (2 : Int32)), .val (.ref x), .val (.int (1 : Int32)), .unset] []))
      refine Go.st (fun _ k => XS.goto X.here hx rfl (pc0 := 296) (pc' := 317) rfl (hb hby at_296) (by decide) (by decide) k) ?_
      show Go p e below _ (T.setTop (mkF m 317 #[.val (.long p0), .second, .val (.long p1), .second, .val (.int p2), .val (.ref ba), .val (.int prn), .val (.ref bt), .val (.int (2 : Int32)), .val (.ref x), .val (.int (1 : Int32)), .unset] []))
      refine Go.st (fun _ k => XS.iload X.here hx rfl (hb hby at_317) rfl k) ?_
      show Go p e below _ (T.setTop (mkF m 319 #[.val (.long p0), .second, .val (.long p1), .second, .val (.int p2), .val (.ref ba), .val (.int prn), .val (.ref bt), .val (.int (2 : Int32)), .val (.ref x), .val (.int (1 : Int32)), .unset] [(.int (1 : Int32))]))
      refine Go.st (fun _ k => XS.iconst X.here hx rfl (hb hby at_319) k) ?_
      show Go p e below _ (T.setTop (mkF m 320 #[.val (.long p0), .second, .val (.long p1), .second, .val (.int p2), .val (.ref ba), .val (.int prn), .val (.ref bt), .val (.int (2 : Int32)), .val (.ref x), .val (.int (1 : Int32)), .unset] [(.int (1 : Int32)), (.int (1 : Int32))]))
      refine Go.st (fun _ k => XS.icmpNo X.here hx rfl (hb hby at_320) rfl (Jvm.Free.XT.ii_lt_f (by decide : ¬ ((1 : Int32) < (1 : Int32)))) k) ?_
      show Go p e below _ (T.setTop (mkF m 323 #[.val (.long p0), .second, .val (.long p1), .second, .val (.int p2), .val (.ref ba), .val (.int prn), .val (.ref bt), .val (.int (2 : Int32)), .val (.ref x), .val (.int (1 : Int32)), .unset] []))
      refine Go.st (fun _ k => XS.iload X.here hx rfl (hb hby at_323) rfl k) ?_
      show Go p e below _ (T.setTop (mkF m 325 #[.val (.long p0), .second, .val (.long p1), .second, .val (.int p2), .val (.ref ba), .val (.int prn), .val (.ref bt), .val (.int (2 : Int32)), .val (.ref x), .val (.int (1 : Int32)), .unset] [(.int (1 : Int32))]))
      refine Go.st (fun _ k => XS.bipush X.here hx rfl (hb hby at_325) k) ?_
      show Go p e below _ (T.setTop (mkF m 327 #[.val (.long p0), .second, .val (.long p1), .second, .val (.int p2), .val (.ref ba), .val (.int prn), .val (.ref bt), .val (.int (2 : Int32)), .val (.ref x), .val (.int (1 : Int32)), .unset] [(.int (35 : Int32)), (.int (1 : Int32))]))
      refine Go.st (fun _ k => XS.icmpNo X.here hx rfl (hb hby at_327) rfl (Jvm.Free.XT.ii_gt_f (by decide : ¬ ((35 : Int32) < (1 : Int32)))) k) ?_
      show Go p e below _ (T.setTop (mkF m 330 #[.val (.long p0), .second, .val (.long p1), .second, .val (.int p2), .val (.ref ba), .val (.int prn), .val (.ref bt), .val (.int (2 : Int32)), .val (.ref x), .val (.int (1 : Int32)), .unset] []))
      refine Go.st (fun _ k => XS.iconst X.here hx rfl (hb hby at_330) k) ?_
      show Go p e below _ (T.setTop (mkF m 331 #[.val (.long p0), .second, .val (.long p1), .second, .val (.int p2), .val (.ref ba), .val (.int prn), .val (.ref bt), .val (.int (2 : Int32)), .val (.ref x), .val (.int (1 : Int32)), .unset] [(.int (1 : Int32))]))
      refine Go.st (fun _ k => XS.goto X.here hx rfl (pc0 := 331) (pc' := 335) rfl (hb hby at_331) (by decide) (by decide) k) ?_
      show Go p e below _ (T.setTop (mkF m 335 #[.val (.long p0), .second, .val (.long p1), .second, .val (.int p2), .val (.ref ba), .val (.int prn), .val (.ref bt), .val (.int (2 : Int32)), .val (.ref x), .val (.int (1 : Int32)), .unset] [(.int (1 : Int32))]))
      refine Go.st (fun _ k => XS.istore X.here hx rfl (hb hby at_335) rfl (l' := #[.val (.long p0), .second, .val (.long p1), .second, .val (.int p2), .val (.ref ba), .val (.int prn), .val (.ref bt), .val (.int (2 : Int32)), .val (.ref x), .val (.int (1 : Int32)), .val (.int (1 : Int32))]) rfl k) ?_
      show Go p e below _ (T.setTop (mkF m 337 #[.val (.long p0), .second, .val (.long p1), .second, .val (.int p2), .val (.ref ba), .val (.int prn), .val (.ref bt), .val (.int (2 : Int32)), .val (.ref x), .val (.int (1 : Int32)), .val (.int (1 : Int32))] []))
      refine Go.st (fun _ k => XS.aload X.here hx rfl (hb hby at_337) rfl rfl k) ?_
      show Go p e below _ (T.setTop (mkF m 339 #[.val (.long p0), .second, .val (.long p1), .second, .val (.int p2), .val (.ref ba), .val (.int prn), .val (.ref bt), .val (.int (2 : Int32)), .val (.ref x), .val (.int (1 : Int32)), .val (.int (1 : Int32))] [(.ref x)]))
      refine Go.callV (argsL := [(.ref x)]) (rest := []) (W := 0) X hx hZ hown (hml.trans rfl) hT (hw _ (List.mem_of_getElem? (i := 21) rfl)) (hw _ (List.mem_of_getElem? (i := 22) rfl)) (hw _ (List.mem_of_getElem? (i := 23) rfl)) (hw _ (List.mem_of_getElem? (i := 24) rfl)) (by decide) pd_20 rfl rfl (Nat.le_of_ble_eq_true rfl) (hb hby at_339) (backOf (W := 0) (met_max35 l Z a0 hw [] z n0 x [sA p0 p1 0, sB p0 p1 0] _ O Sc S16 S_x (by simp)) hZ (hw _ (List.mem_of_getElem? (i := 24) rfl)) (hw _ (List.mem_of_getElem? (i := 23) rfl)) (by decide) (by decide)) (by decide) (by decide) ?_
      intro T hT X
      show Go p e below _ (T.setTop (mkF m 342 #[.val (.long p0), .second, .val (.long p1), .second, .val (.int p2), .val (.ref ba), .val (.int prn), .val (.ref bt), .val (.int (2 : Int32)), .val (.ref x), .val (.int (1 : Int32)), .val (.int (1 : Int32))] [(.int (f_m35 [sA p0 p1 0, sB p0 p1 0]))]))
      refine Go.st (fun _ k => XS.iload X.here hx rfl (hb hby at_342) rfl k) ?_
      show Go p e below _ (T.setTop (mkF m 344 #[.val (.long p0), .second, .val (.long p1), .second, .val (.int p2), .val (.ref ba), .val (.int prn), .val (.ref bt), .val (.int (2 : Int32)), .val (.ref x), .val (.int (1 : Int32)), .val (.int (1 : Int32))] [(.int (1 : Int32)), (.int (f_m35 [sA p0 p1 0, sB p0 p1 0]))]))
      refine Go.st (fun _ k => XS.icmpNo X.here hx rfl (hb hby at_344) rfl (Jvm.Free.XT.ii_ne_f (by rw [own_35 (e := 1) (by rw [own_two, pp, own_kin0, if_pos hc3]; rfl)]; decide : (f_m35 [sA p0 p1 0, sB p0 p1 0]) = (1 : Int32))) k) ?_
      show Go p e below _ (T.setTop (mkF m 347 #[.val (.long p0), .second, .val (.long p1), .second, .val (.int p2), .val (.ref ba), .val (.int prn), .val (.ref bt), .val (.int (2 : Int32)), .val (.ref x), .val (.int (1 : Int32)), .val (.int (1 : Int32))] []))
      refine Go.st (fun _ k => XS.iconst X.here hx rfl (hb hby at_347) k) ?_
      show Go p e below _ (T.setTop (mkF m 348 #[.val (.long p0), .second, .val (.long p1), .second, .val (.int p2), .val (.ref ba), .val (.int prn), .val (.ref bt), .val (.int (2 : Int32)), .val (.ref x), .val (.int (1 : Int32)), .val (.int (1 : Int32))] [(.int (1 : Int32))]))
      refine Go.st (fun _ k => XS.goto X.here hx rfl (pc0 := 348) (pc' := 352) rfl (hb hby at_348) (by decide) (by decide) k) ?_
      show Go p e below _ (T.setTop (mkF m 352 #[.val (.long p0), .second, .val (.long p1), .second, .val (.int p2), .val (.ref ba), .val (.int prn), .val (.ref bt), .val (.int (2 : Int32)), .val (.ref x), .val (.int (1 : Int32)), .val (.int (1 : Int32))] [(.int (1 : Int32))]))
      refine Go.retH hEL H hZ X hx hlk hT hret (by decide) (riI (by simp)) (hb hby at_352) (by decide) (by decide) ?_
      exact ⟨rfl, N⟩
    · refine Go.st (fun _ k => XS.icmpYes X.here hx rfl (pc0 := 286) (pc' := 293) rfl (hb hby at_286) rfl (Jvm.Free.XT.ii_ne_t hc3) (by decide) (by decide) k) ?_
      show Go p e below _ (T.setTop (mkF m 293 #[.val (.long p0), .second, .val (.long p1), .second, .val (.int p2), .val (.ref ba), .val (.int prn), .val (.ref bt), .val (.int (2 : Int32)), .val (.ref x), .unset, .unset] []))
      refine Go.st (fun _ k => XS.iconst X.here hx rfl (hb hby at_293) k) ?_
      show Go p e below _ (T.setTop (mkF m 294 #[.val (.long p0), .second, .val (.long p1), .second, .val (.int p2), .val (.ref ba), .val (.int prn), .val (.ref bt), .val (.int (2 : Int32)), .val (.ref x), .unset, .unset] [(.int (2 : Int32))]))
      refine Go.st (fun _ k => XS.istore X.here hx rfl (hb hby at_294) rfl (l' := #[.val (.long p0), .second, .val (.long p1), .second, .val (.int p2), .val (.ref ba), .val (.int prn), .val (.ref bt), .val (.int (2 : Int32)), .val (.ref x), .val (.int (2 : Int32)), .unset]) rfl k) ?_
      show Go p e below _ (T.setTop (mkF m 296 #[.val (.long p0), .second, .val (.long p1), .second, .val (.int p2), .val (.ref ba), .val (.int prn), .val (.ref bt), .val (.int (2 : Int32)), .val (.ref x), .val (.int (2 : Int32)), .unset] []))
      refine Go.st (fun _ k => XS.goto X.here hx rfl (pc0 := 296) (pc' := 317) rfl (hb hby at_296) (by decide) (by decide) k) ?_
      show Go p e below _ (T.setTop (mkF m 317 #[.val (.long p0), .second, .val (.long p1), .second, .val (.int p2), .val (.ref ba), .val (.int prn), .val (.ref bt), .val (.int (2 : Int32)), .val (.ref x), .val (.int (2 : Int32)), .unset] []))
      refine Go.st (fun _ k => XS.iload X.here hx rfl (hb hby at_317) rfl k) ?_
      show Go p e below _ (T.setTop (mkF m 319 #[.val (.long p0), .second, .val (.long p1), .second, .val (.int p2), .val (.ref ba), .val (.int prn), .val (.ref bt), .val (.int (2 : Int32)), .val (.ref x), .val (.int (2 : Int32)), .unset] [(.int (2 : Int32))]))
      refine Go.st (fun _ k => XS.iconst X.here hx rfl (hb hby at_319) k) ?_
      show Go p e below _ (T.setTop (mkF m 320 #[.val (.long p0), .second, .val (.long p1), .second, .val (.int p2), .val (.ref ba), .val (.int prn), .val (.ref bt), .val (.int (2 : Int32)), .val (.ref x), .val (.int (2 : Int32)), .unset] [(.int (1 : Int32)), (.int (2 : Int32))]))
      refine Go.st (fun _ k => XS.icmpNo X.here hx rfl (hb hby at_320) rfl (Jvm.Free.XT.ii_lt_f (by decide : ¬ ((2 : Int32) < (1 : Int32)))) k) ?_
      show Go p e below _ (T.setTop (mkF m 323 #[.val (.long p0), .second, .val (.long p1), .second, .val (.int p2), .val (.ref ba), .val (.int prn), .val (.ref bt), .val (.int (2 : Int32)), .val (.ref x), .val (.int (2 : Int32)), .unset] []))
      refine Go.st (fun _ k => XS.iload X.here hx rfl (hb hby at_323) rfl k) ?_
      show Go p e below _ (T.setTop (mkF m 325 #[.val (.long p0), .second, .val (.long p1), .second, .val (.int p2), .val (.ref ba), .val (.int prn), .val (.ref bt), .val (.int (2 : Int32)), .val (.ref x), .val (.int (2 : Int32)), .unset] [(.int (2 : Int32))]))
      refine Go.st (fun _ k => XS.bipush X.here hx rfl (hb hby at_325) k) ?_
      show Go p e below _ (T.setTop (mkF m 327 #[.val (.long p0), .second, .val (.long p1), .second, .val (.int p2), .val (.ref ba), .val (.int prn), .val (.ref bt), .val (.int (2 : Int32)), .val (.ref x), .val (.int (2 : Int32)), .unset] [(.int (35 : Int32)), (.int (2 : Int32))]))
      refine Go.st (fun _ k => XS.icmpNo X.here hx rfl (hb hby at_327) rfl (Jvm.Free.XT.ii_gt_f (by decide : ¬ ((35 : Int32) < (2 : Int32)))) k) ?_
      show Go p e below _ (T.setTop (mkF m 330 #[.val (.long p0), .second, .val (.long p1), .second, .val (.int p2), .val (.ref ba), .val (.int prn), .val (.ref bt), .val (.int (2 : Int32)), .val (.ref x), .val (.int (2 : Int32)), .unset] []))
      refine Go.st (fun _ k => XS.iconst X.here hx rfl (hb hby at_330) k) ?_
      show Go p e below _ (T.setTop (mkF m 331 #[.val (.long p0), .second, .val (.long p1), .second, .val (.int p2), .val (.ref ba), .val (.int prn), .val (.ref bt), .val (.int (2 : Int32)), .val (.ref x), .val (.int (2 : Int32)), .unset] [(.int (1 : Int32))]))
      refine Go.st (fun _ k => XS.goto X.here hx rfl (pc0 := 331) (pc' := 335) rfl (hb hby at_331) (by decide) (by decide) k) ?_
      show Go p e below _ (T.setTop (mkF m 335 #[.val (.long p0), .second, .val (.long p1), .second, .val (.int p2), .val (.ref ba), .val (.int prn), .val (.ref bt), .val (.int (2 : Int32)), .val (.ref x), .val (.int (2 : Int32)), .unset] [(.int (1 : Int32))]))
      refine Go.st (fun _ k => XS.istore X.here hx rfl (hb hby at_335) rfl (l' := #[.val (.long p0), .second, .val (.long p1), .second, .val (.int p2), .val (.ref ba), .val (.int prn), .val (.ref bt), .val (.int (2 : Int32)), .val (.ref x), .val (.int (2 : Int32)), .val (.int (1 : Int32))]) rfl k) ?_
      show Go p e below _ (T.setTop (mkF m 337 #[.val (.long p0), .second, .val (.long p1), .second, .val (.int p2), .val (.ref ba), .val (.int prn), .val (.ref bt), .val (.int (2 : Int32)), .val (.ref x), .val (.int (2 : Int32)), .val (.int (1 : Int32))] []))
      refine Go.st (fun _ k => XS.aload X.here hx rfl (hb hby at_337) rfl rfl k) ?_
      show Go p e below _ (T.setTop (mkF m 339 #[.val (.long p0), .second, .val (.long p1), .second, .val (.int p2), .val (.ref ba), .val (.int prn), .val (.ref bt), .val (.int (2 : Int32)), .val (.ref x), .val (.int (2 : Int32)), .val (.int (1 : Int32))] [(.ref x)]))
      refine Go.callV (argsL := [(.ref x)]) (rest := []) (W := 0) X hx hZ hown (hml.trans rfl) hT (hw _ (List.mem_of_getElem? (i := 21) rfl)) (hw _ (List.mem_of_getElem? (i := 22) rfl)) (hw _ (List.mem_of_getElem? (i := 23) rfl)) (hw _ (List.mem_of_getElem? (i := 24) rfl)) (by decide) pd_20 rfl rfl (Nat.le_of_ble_eq_true rfl) (hb hby at_339) (backOf (W := 0) (met_max35 l Z a0 hw [] z n0 x [sA p0 p1 0, sB p0 p1 0] _ O Sc S16 S_x (by simp)) hZ (hw _ (List.mem_of_getElem? (i := 24) rfl)) (hw _ (List.mem_of_getElem? (i := 23) rfl)) (by decide) (by decide)) (by decide) (by decide) ?_
      intro T hT X
      show Go p e below _ (T.setTop (mkF m 342 #[.val (.long p0), .second, .val (.long p1), .second, .val (.int p2), .val (.ref ba), .val (.int prn), .val (.ref bt), .val (.int (2 : Int32)), .val (.ref x), .val (.int (2 : Int32)), .val (.int (1 : Int32))] [(.int (f_m35 [sA p0 p1 0, sB p0 p1 0]))]))
      refine Go.st (fun _ k => XS.iload X.here hx rfl (hb hby at_342) rfl k) ?_
      show Go p e below _ (T.setTop (mkF m 344 #[.val (.long p0), .second, .val (.long p1), .second, .val (.int p2), .val (.ref ba), .val (.int prn), .val (.ref bt), .val (.int (2 : Int32)), .val (.ref x), .val (.int (2 : Int32)), .val (.int (1 : Int32))] [(.int (1 : Int32)), (.int (f_m35 [sA p0 p1 0, sB p0 p1 0]))]))
      refine Go.st (fun _ k => XS.icmpNo X.here hx rfl (hb hby at_344) rfl (Jvm.Free.XT.ii_ne_f (by rw [own_35 (e := 2) (by rw [own_two, pp, own_kin0, if_neg hc3]; rfl)]; decide : (f_m35 [sA p0 p1 0, sB p0 p1 0]) = (1 : Int32))) k) ?_
      show Go p e below _ (T.setTop (mkF m 347 #[.val (.long p0), .second, .val (.long p1), .second, .val (.int p2), .val (.ref ba), .val (.int prn), .val (.ref bt), .val (.int (2 : Int32)), .val (.ref x), .val (.int (2 : Int32)), .val (.int (1 : Int32))] []))
      refine Go.st (fun _ k => XS.iconst X.here hx rfl (hb hby at_347) k) ?_
      show Go p e below _ (T.setTop (mkF m 348 #[.val (.long p0), .second, .val (.long p1), .second, .val (.int p2), .val (.ref ba), .val (.int prn), .val (.ref bt), .val (.int (2 : Int32)), .val (.ref x), .val (.int (2 : Int32)), .val (.int (1 : Int32))] [(.int (1 : Int32))]))
      refine Go.st (fun _ k => XS.goto X.here hx rfl (pc0 := 348) (pc' := 352) rfl (hb hby at_348) (by decide) (by decide) k) ?_
      show Go p e below _ (T.setTop (mkF m 352 #[.val (.long p0), .second, .val (.long p1), .second, .val (.int p2), .val (.ref ba), .val (.int prn), .val (.ref bt), .val (.int (2 : Int32)), .val (.ref x), .val (.int (2 : Int32)), .val (.int (1 : Int32))] [(.int (1 : Int32))]))
      refine Go.retH hEL H hZ X hx hlk hT hret (by decide) (riI (by simp)) (hb hby at_352) (by decide) (by decide) ?_
      exact ⟨rfl, N⟩
  · rw [hs3]
    show Go p e below _ (T.setTop (mkF m 226 #[.val (.long p0), .second, .val (.long p1), .second, .val (.int p2), .val (.ref ba), .val (.int prn), .val (.ref bt), .unset, .unset, .unset, .unset] [(.int (3 : Int32))]))
    refine Go.st (fun _ k => XS.istore X.here hx rfl (hb hby at_226) rfl (l' := #[.val (.long p0), .second, .val (.long p1), .second, .val (.int p2), .val (.ref ba), .val (.int prn), .val (.ref bt), .val (.int (3 : Int32)), .unset, .unset, .unset]) rfl k) ?_
    show Go p e below _ (T.setTop (mkF m 228 #[.val (.long p0), .second, .val (.long p1), .second, .val (.int p2), .val (.ref ba), .val (.int prn), .val (.ref bt), .val (.int (3 : Int32)), .unset, .unset, .unset] []))
    refine Go.st (fun _ k => XS.iload X.here hx rfl (hb hby at_228) rfl k) ?_
    show Go p e below _ (T.setTop (mkF m 230 #[.val (.long p0), .second, .val (.long p1), .second, .val (.int p2), .val (.ref ba), .val (.int prn), .val (.ref bt), .val (.int (3 : Int32)), .unset, .unset, .unset] [(.int (3 : Int32))]))
    refine Go.st (fun _ k => XS.ifYes X.here hx rfl (pc0 := 230) (pc' := 243) rfl (hb hby at_230) rfl (Jvm.Free.XT.i0_ne_t (by decide : ¬ ((3 : Int32) = (0 : Int32)))) (by decide) (by decide) k) ?_
    show Go p e below _ (T.setTop (mkF m 243 #[.val (.long p0), .second, .val (.long p1), .second, .val (.int p2), .val (.ref ba), .val (.int prn), .val (.ref bt), .val (.int (3 : Int32)), .unset, .unset, .unset] []))
    refine Go.st (fun _ k => XS.iload X.here hx rfl (hb hby at_243) rfl k) ?_
    show Go p e below _ (T.setTop (mkF m 245 #[.val (.long p0), .second, .val (.long p1), .second, .val (.int p2), .val (.ref ba), .val (.int prn), .val (.ref bt), .val (.int (3 : Int32)), .unset, .unset, .unset] [(.int (3 : Int32))]))
    refine Go.st (fun _ k => XS.iconst X.here hx rfl (hb hby at_245) k) ?_
    show Go p e below _ (T.setTop (mkF m 246 #[.val (.long p0), .second, .val (.long p1), .second, .val (.int p2), .val (.ref ba), .val (.int prn), .val (.ref bt), .val (.int (3 : Int32)), .unset, .unset, .unset] [(.int (1 : Int32)), (.int (3 : Int32))]))
    refine Go.st (fun _ k => XS.icmpYes X.here hx rfl (pc0 := 246) (pc' := 264) rfl (hb hby at_246) rfl (Jvm.Free.XT.ii_ne_t (by decide : ¬ ((3 : Int32) = (1 : Int32)))) (by decide) (by decide) k) ?_
    show Go p e below _ (T.setTop (mkF m 264 #[.val (.long p0), .second, .val (.long p1), .second, .val (.int p2), .val (.ref ba), .val (.int prn), .val (.ref bt), .val (.int (3 : Int32)), .unset, .unset, .unset] []))
    refine Go.st (fun _ k => XS.iload X.here hx rfl (hb hby at_264) rfl k) ?_
    show Go p e below _ (T.setTop (mkF m 266 #[.val (.long p0), .second, .val (.long p1), .second, .val (.int p2), .val (.ref ba), .val (.int prn), .val (.ref bt), .val (.int (3 : Int32)), .unset, .unset, .unset] [(.int (3 : Int32))]))
    refine Go.st (fun _ k => XS.iconst X.here hx rfl (hb hby at_266) k) ?_
    show Go p e below _ (T.setTop (mkF m 267 #[.val (.long p0), .second, .val (.long p1), .second, .val (.int p2), .val (.ref ba), .val (.int prn), .val (.ref bt), .val (.int (3 : Int32)), .unset, .unset, .unset] [(.int (2 : Int32)), (.int (3 : Int32))]))
    refine Go.st (fun _ k => XS.icmpYes X.here hx rfl (pc0 := 267) (pc' := 299) rfl (hb hby at_267) rfl (Jvm.Free.XT.ii_ne_t (by decide : ¬ ((3 : Int32) = (2 : Int32)))) (by decide) (by decide) k) ?_
    show Go p e below _ (T.setTop (mkF m 299 #[.val (.long p0), .second, .val (.long p1), .second, .val (.int p2), .val (.ref ba), .val (.int prn), .val (.ref bt), .val (.int (3 : Int32)), .unset, .unset, .unset] []))
    obtain ⟨T, h30, X, hT, Ex0, A_x, D_x, -, st⟩ := newO X hx hZ hown (hw _ (List.mem_of_getElem? (i := 61) rfl)) (hw _ (List.mem_of_getElem? (i := 15) rfl)) (hw _ (List.mem_of_getElem? (i := 14) rfl)) hT (g := (mkF m 299 #[.val (.long p0), .second, .val (.long p1), .second, .val (.int p2), .val (.ref ba), .val (.int prn), .val (.ref bt), .val (.int (3 : Int32)), .unset, .unset, .unset] [])) rfl (hb hby at_299) (by decide) (by decide)
    obtain ⟨x, g_x⟩ : ∃ z, z = h24.size := ⟨_, rfl⟩
    rw [← g_x] at A_x D_x st
    refine Go.st st ?_
    have ge_x : n0 ≤ x := Nat.le_trans (own_le (O.keep KB all0)) (Nat.le_of_eq g_x.symm)
    have gk_x : h0.size ≤ x := Nat.le_trans (KB).1 (Nat.le_of_eq g_x.symm)
    have Sf_x := Safe.ext Ex0 H.2.1 (Safe.new (Nat.le_of_eq g_x.symm))
    have H := H.ext Ex0
    have V_ba := V_ba.ext Ex0
    have V_bt := V_bt.ext Ex0
    have KB := (KB).ext Ex0
    have F_x_value := D_x (Or.inr (hw _ (List.mem_of_getElem? (i := 17) rfl))) (ty := (.array .byte)) (by decide)
    have F_x_coder := D_x (Or.inr (hw _ (List.mem_of_getElem? (i := 18) rfl))) (ty := .byte) (by decide)
    have ne_x_ba : x ≠ ba := Exa.neArv A_x V_ba (hw _ (List.mem_of_getElem? (i := 15) rfl))
    have ne_x_bt : x ≠ bt := Exa.neArv A_x V_bt (hw _ (List.mem_of_getElem? (i := 15) rfl))
    show Go p e below _ (T.setTop (mkF m 302 #[.val (.long p0), .second, .val (.long p1), .second, .val (.int p2), .val (.ref ba), .val (.int prn), .val (.ref bt), .val (.int (3 : Int32)), .unset, .unset, .unset] [(.ref x)]))
    refine Go.st (fun _ k => XS.dup X.here hx rfl (hb hby at_302) rfl rfl k) ?_
    show Go p e below _ (T.setTop (mkF m 303 #[.val (.long p0), .second, .val (.long p1), .second, .val (.int p2), .val (.ref ba), .val (.int prn), .val (.ref bt), .val (.int (3 : Int32)), .unset, .unset, .unset] [(.ref x), (.ref x)]))
    refine Go.st (fun _ k => XS.aload X.here hx rfl (hb hby at_303) rfl rfl k) ?_
    show Go p e below _ (T.setTop (mkF m 305 #[.val (.long p0), .second, .val (.long p1), .second, .val (.int p2), .val (.ref ba), .val (.int prn), .val (.ref bt), .val (.int (3 : Int32)), .unset, .unset, .unset] [(.ref ba), (.ref x), (.ref x)]))
    have O2 := O.keep KB all0
    have Vc : Arv Z h30 ba k_ba .char (Int32.ofNat (sl p0 p1 0 20).length) ((sl p0 p1 0 20).map Value.int) (.int 0) := (by have q := V_ba; rw [hva0, hvb0, hva1, hvb1, hva2, hvb2, hva3, hvb3, hva4, hvb4, hva5, hvb5, hva6, hvb6, hva7, hvb7, hva8, hvb8, hva9, hvb9, hva10, hvb10, hva11, hvb11, hva12, hvb12, hva13, hvb13, hva14, hvb14, hva15, hvb15, hva16, hvb16, hva17, hvb17, hva18, hvb18, hva19, hvb19] at q; exact q)
    refine Go.specP (argsL := [.ref ba]) (rest := [(.ref x)]) (W := 1) (ck := 2) (sk := 120) X hx hZ hown (hml.trans rfl) hT rfl (hw _ (List.mem_of_getElem? (i := 62) rfl)) (hw _ (List.mem_of_getElem? (i := 63) rfl)) (hw _ (List.mem_of_getElem? (i := 64) rfl)) (by decide) pd_22 rfl rfl (Nat.le_of_ble_eq_true rfl) (hb hby at_305) (backOf (W := 1) (met_new1n l Z a0 hw [] n0 x ba k_ba (sl p0 p1 0 20) z _ O2 ge_x A_x F_x_value F_x_coder Sc S16 Vc (by rw [sl_len]; decide) (by rw [sl_len]; decide) (sl16 p0 p1 20 0)) hZ (hw _ (List.mem_of_getElem? (i := 64) rfl)) (hw _ (List.mem_of_getElem? (i := 14) rfl)) (by decide) (by decide)) (by decide) (by decide) ?_
    intro v T h31 L hT hQ X
    obtain ⟨rfl, N0, K0, S_x⟩ := hQ
    have N := Fr.app N N0
    have H := H.keep K0 (sfS Sf_x sf0)
    have KB := (KB).trans K0 (allS (Or.inr gk_x) all0)
    have O := O.keep KB all0
    show Go p e below _ (T.setTop (mkF m 308 #[.val (.long p0), .second, .val (.long p1), .second, .val (.int p2), .val (.ref ba), .val (.int prn), .val (.ref bt), .val (.int (3 : Int32)), .unset, .unset, .unset] [(.ref x)]))
    refine Go.st (fun _ k => XS.astore X.here hx rfl (hb hby at_308) rfl rfl (l' := #[.val (.long p0), .second, .val (.long p1), .second, .val (.int p2), .val (.ref ba), .val (.int prn), .val (.ref bt), .val (.int (3 : Int32)), .val (.ref x), .unset, .unset]) rfl k) ?_
    show Go p e below _ (T.setTop (mkF m 310 #[.val (.long p0), .second, .val (.long p1), .second, .val (.int p2), .val (.ref ba), .val (.int prn), .val (.ref bt), .val (.int (3 : Int32)), .val (.ref x), .unset, .unset] []))
    refine Go.st (fun _ k => XS.bipush X.here hx rfl (hb hby at_310) k) ?_
    show Go p e below _ (T.setTop (mkF m 312 #[.val (.long p0), .second, .val (.long p1), .second, .val (.int p2), .val (.ref ba), .val (.int prn), .val (.ref bt), .val (.int (3 : Int32)), .val (.ref x), .unset, .unset] [(.int (40 : Int32))]))
    refine Go.st (fun _ k => XS.iload X.here hx rfl (hb hby at_312) rfl k) ?_
    show Go p e below _ (T.setTop (mkF m 314 #[.val (.long p0), .second, .val (.long p1), .second, .val (.int p2), .val (.ref ba), .val (.int prn), .val (.ref bt), .val (.int (3 : Int32)), .val (.ref x), .unset, .unset] [(.int prn), (.int (40 : Int32))]))
    refine Go.st (fun _ k => XS.isub X.here hx rfl (hb hby at_314) rfl k) ?_
    show Go p e below _ (T.setTop (mkF m 315 #[.val (.long p0), .second, .val (.long p1), .second, .val (.int p2), .val (.ref ba), .val (.int prn), .val (.ref bt), .val (.int (3 : Int32)), .val (.ref x), .unset, .unset] [(.int ((40 : Int32) - prn))]))
    refine Go.st (fun _ k => XS.istore X.here hx rfl (hb hby at_315) rfl (l' := #[.val (.long p0), .second, .val (.long p1), .second, .val (.int p2), .val (.ref ba), .val (.int prn), .val (.ref bt), .val (.int (3 : Int32)), .val (.ref x), .val (.int ((40 : Int32) - prn)), .unset]) rfl k) ?_
    show Go p e below _ (T.setTop (mkF m 317 #[.val (.long p0), .second, .val (.long p1), .second, .val (.int p2), .val (.ref ba), .val (.int prn), .val (.ref bt), .val (.int (3 : Int32)), .val (.ref x), .val (.int ((40 : Int32) - prn)), .unset] []))
    refine Go.st (fun _ k => XS.iload X.here hx rfl (hb hby at_317) rfl k) ?_
    show Go p e below _ (T.setTop (mkF m 319 #[.val (.long p0), .second, .val (.long p1), .second, .val (.int p2), .val (.ref ba), .val (.int prn), .val (.ref bt), .val (.int (3 : Int32)), .val (.ref x), .val (.int ((40 : Int32) - prn)), .unset] [(.int ((40 : Int32) - prn))]))
    refine Go.st (fun _ k => XS.iconst X.here hx rfl (hb hby at_319) k) ?_
    show Go p e below _ (T.setTop (mkF m 320 #[.val (.long p0), .second, .val (.long p1), .second, .val (.int p2), .val (.ref ba), .val (.int prn), .val (.ref bt), .val (.int (3 : Int32)), .val (.ref x), .val (.int ((40 : Int32) - prn)), .unset] [(.int (1 : Int32)), (.int ((40 : Int32) - prn))]))
    by_cases hc4 : ((40 : Int32) - prn) < (1 : Int32)
    · refine Go.st (fun _ k => XS.icmpYes X.here hx rfl (pc0 := 320) (pc' := 334) rfl (hb hby at_320) rfl (Jvm.Free.XT.ii_lt_t hc4) (by decide) (by decide) k) ?_
      show Go p e below _ (T.setTop (mkF m 334 #[.val (.long p0), .second, .val (.long p1), .second, .val (.int p2), .val (.ref ba), .val (.int prn), .val (.ref bt), .val (.int (3 : Int32)), .val (.ref x), .val (.int ((40 : Int32) - prn)), .unset] []))
      refine Go.st (fun _ k => XS.iconst X.here hx rfl (hb hby at_334) k) ?_
      show Go p e below _ (T.setTop (mkF m 335 #[.val (.long p0), .second, .val (.long p1), .second, .val (.int p2), .val (.ref ba), .val (.int prn), .val (.ref bt), .val (.int (3 : Int32)), .val (.ref x), .val (.int ((40 : Int32) - prn)), .unset] [(.int (0 : Int32))]))
      refine Go.st (fun _ k => XS.istore X.here hx rfl (hb hby at_335) rfl (l' := #[.val (.long p0), .second, .val (.long p1), .second, .val (.int p2), .val (.ref ba), .val (.int prn), .val (.ref bt), .val (.int (3 : Int32)), .val (.ref x), .val (.int ((40 : Int32) - prn)), .val (.int (0 : Int32))]) rfl k) ?_
      show Go p e below _ (T.setTop (mkF m 337 #[.val (.long p0), .second, .val (.long p1), .second, .val (.int p2), .val (.ref ba), .val (.int prn), .val (.ref bt), .val (.int (3 : Int32)), .val (.ref x), .val (.int ((40 : Int32) - prn)), .val (.int (0 : Int32))] []))
      refine Go.st (fun _ k => XS.aload X.here hx rfl (hb hby at_337) rfl rfl k) ?_
      show Go p e below _ (T.setTop (mkF m 339 #[.val (.long p0), .second, .val (.long p1), .second, .val (.int p2), .val (.ref ba), .val (.int prn), .val (.ref bt), .val (.int (3 : Int32)), .val (.ref x), .val (.int ((40 : Int32) - prn)), .val (.int (0 : Int32))] [(.ref x)]))
      refine Go.callV (argsL := [(.ref x)]) (rest := []) (W := 0) X hx hZ hown (hml.trans rfl) hT (hw _ (List.mem_of_getElem? (i := 21) rfl)) (hw _ (List.mem_of_getElem? (i := 22) rfl)) (hw _ (List.mem_of_getElem? (i := 23) rfl)) (hw _ (List.mem_of_getElem? (i := 24) rfl)) (by decide) pd_20 rfl rfl (Nat.le_of_ble_eq_true rfl) (hb hby at_339) (backOf (W := 0) (met_max35 l Z a0 hw [] z n0 x (sl p0 p1 0 20) _ O Sc S16 S_x (by rw [sl_len]; decide)) hZ (hw _ (List.mem_of_getElem? (i := 24) rfl)) (hw _ (List.mem_of_getElem? (i := 23) rfl)) (by decide) (by decide)) (by decide) (by decide) ?_
      intro T hT X
      show Go p e below _ (T.setTop (mkF m 342 #[.val (.long p0), .second, .val (.long p1), .second, .val (.int p2), .val (.ref ba), .val (.int prn), .val (.ref bt), .val (.int (3 : Int32)), .val (.ref x), .val (.int ((40 : Int32) - prn)), .val (.int (0 : Int32))] [(.int (f_m35 (sl p0 p1 0 20)))]))
      refine Go.st (fun _ k => XS.iload X.here hx rfl (hb hby at_342) rfl k) ?_
      show Go p e below _ (T.setTop (mkF m 344 #[.val (.long p0), .second, .val (.long p1), .second, .val (.int p2), .val (.ref ba), .val (.int prn), .val (.ref bt), .val (.int (3 : Int32)), .val (.ref x), .val (.int ((40 : Int32) - prn)), .val (.int (0 : Int32))] [(.int (0 : Int32)), (.int (f_m35 (sl p0 p1 0 20)))]))
      refine Go.st (fun _ k => XS.icmpNo X.here hx rfl (hb hby at_344) rfl (Jvm.Free.XT.ii_ne_f (by rw [own_35 (e := (40 : Int32) - prn) (by rw [hpr, prs_sl, sl_len]; have := pps_le p0 20 0; exact own_sub (n := 40) (by omega) (by omega)), if_pos hc4] : (f_m35 (sl p0 p1 0 20)) = (0 : Int32))) k) ?_
      show Go p e below _ (T.setTop (mkF m 347 #[.val (.long p0), .second, .val (.long p1), .second, .val (.int p2), .val (.ref ba), .val (.int prn), .val (.ref bt), .val (.int (3 : Int32)), .val (.ref x), .val (.int ((40 : Int32) - prn)), .val (.int (0 : Int32))] []))
      refine Go.st (fun _ k => XS.iconst X.here hx rfl (hb hby at_347) k) ?_
      show Go p e below _ (T.setTop (mkF m 348 #[.val (.long p0), .second, .val (.long p1), .second, .val (.int p2), .val (.ref ba), .val (.int prn), .val (.ref bt), .val (.int (3 : Int32)), .val (.ref x), .val (.int ((40 : Int32) - prn)), .val (.int (0 : Int32))] [(.int (1 : Int32))]))
      refine Go.st (fun _ k => XS.goto X.here hx rfl (pc0 := 348) (pc' := 352) rfl (hb hby at_348) (by decide) (by decide) k) ?_
      show Go p e below _ (T.setTop (mkF m 352 #[.val (.long p0), .second, .val (.long p1), .second, .val (.int p2), .val (.ref ba), .val (.int prn), .val (.ref bt), .val (.int (3 : Int32)), .val (.ref x), .val (.int ((40 : Int32) - prn)), .val (.int (0 : Int32))] [(.int (1 : Int32))]))
      refine Go.retH hEL H hZ X hx hlk hT hret (by decide) (riI (by simp)) (hb hby at_352) (by decide) (by decide) ?_
      exact ⟨rfl, N⟩
    · refine Go.st (fun _ k => XS.icmpNo X.here hx rfl (hb hby at_320) rfl (Jvm.Free.XT.ii_lt_f hc4) k) ?_
      show Go p e below _ (T.setTop (mkF m 323 #[.val (.long p0), .second, .val (.long p1), .second, .val (.int p2), .val (.ref ba), .val (.int prn), .val (.ref bt), .val (.int (3 : Int32)), .val (.ref x), .val (.int ((40 : Int32) - prn)), .unset] []))
      refine Go.st (fun _ k => XS.iload X.here hx rfl (hb hby at_323) rfl k) ?_
      show Go p e below _ (T.setTop (mkF m 325 #[.val (.long p0), .second, .val (.long p1), .second, .val (.int p2), .val (.ref ba), .val (.int prn), .val (.ref bt), .val (.int (3 : Int32)), .val (.ref x), .val (.int ((40 : Int32) - prn)), .unset] [(.int ((40 : Int32) - prn))]))
      refine Go.st (fun _ k => XS.bipush X.here hx rfl (hb hby at_325) k) ?_
      show Go p e below _ (T.setTop (mkF m 327 #[.val (.long p0), .second, .val (.long p1), .second, .val (.int p2), .val (.ref ba), .val (.int prn), .val (.ref bt), .val (.int (3 : Int32)), .val (.ref x), .val (.int ((40 : Int32) - prn)), .unset] [(.int (35 : Int32)), (.int ((40 : Int32) - prn))]))
      by_cases hc5 : (35 : Int32) < ((40 : Int32) - prn)
      · refine Go.st (fun _ k => XS.icmpYes X.here hx rfl (pc0 := 327) (pc' := 334) rfl (hb hby at_327) rfl (Jvm.Free.XT.ii_gt_t hc5) (by decide) (by decide) k) ?_
        show Go p e below _ (T.setTop (mkF m 334 #[.val (.long p0), .second, .val (.long p1), .second, .val (.int p2), .val (.ref ba), .val (.int prn), .val (.ref bt), .val (.int (3 : Int32)), .val (.ref x), .val (.int ((40 : Int32) - prn)), .unset] []))
        refine Go.st (fun _ k => XS.iconst X.here hx rfl (hb hby at_334) k) ?_
        show Go p e below _ (T.setTop (mkF m 335 #[.val (.long p0), .second, .val (.long p1), .second, .val (.int p2), .val (.ref ba), .val (.int prn), .val (.ref bt), .val (.int (3 : Int32)), .val (.ref x), .val (.int ((40 : Int32) - prn)), .unset] [(.int (0 : Int32))]))
        refine Go.st (fun _ k => XS.istore X.here hx rfl (hb hby at_335) rfl (l' := #[.val (.long p0), .second, .val (.long p1), .second, .val (.int p2), .val (.ref ba), .val (.int prn), .val (.ref bt), .val (.int (3 : Int32)), .val (.ref x), .val (.int ((40 : Int32) - prn)), .val (.int (0 : Int32))]) rfl k) ?_
        show Go p e below _ (T.setTop (mkF m 337 #[.val (.long p0), .second, .val (.long p1), .second, .val (.int p2), .val (.ref ba), .val (.int prn), .val (.ref bt), .val (.int (3 : Int32)), .val (.ref x), .val (.int ((40 : Int32) - prn)), .val (.int (0 : Int32))] []))
        refine Go.st (fun _ k => XS.aload X.here hx rfl (hb hby at_337) rfl rfl k) ?_
        show Go p e below _ (T.setTop (mkF m 339 #[.val (.long p0), .second, .val (.long p1), .second, .val (.int p2), .val (.ref ba), .val (.int prn), .val (.ref bt), .val (.int (3 : Int32)), .val (.ref x), .val (.int ((40 : Int32) - prn)), .val (.int (0 : Int32))] [(.ref x)]))
        refine Go.callV (argsL := [(.ref x)]) (rest := []) (W := 0) X hx hZ hown (hml.trans rfl) hT (hw _ (List.mem_of_getElem? (i := 21) rfl)) (hw _ (List.mem_of_getElem? (i := 22) rfl)) (hw _ (List.mem_of_getElem? (i := 23) rfl)) (hw _ (List.mem_of_getElem? (i := 24) rfl)) (by decide) pd_20 rfl rfl (Nat.le_of_ble_eq_true rfl) (hb hby at_339) (backOf (W := 0) (met_max35 l Z a0 hw [] z n0 x (sl p0 p1 0 20) _ O Sc S16 S_x (by rw [sl_len]; decide)) hZ (hw _ (List.mem_of_getElem? (i := 24) rfl)) (hw _ (List.mem_of_getElem? (i := 23) rfl)) (by decide) (by decide)) (by decide) (by decide) ?_
        intro T hT X
        show Go p e below _ (T.setTop (mkF m 342 #[.val (.long p0), .second, .val (.long p1), .second, .val (.int p2), .val (.ref ba), .val (.int prn), .val (.ref bt), .val (.int (3 : Int32)), .val (.ref x), .val (.int ((40 : Int32) - prn)), .val (.int (0 : Int32))] [(.int (f_m35 (sl p0 p1 0 20)))]))
        refine Go.st (fun _ k => XS.iload X.here hx rfl (hb hby at_342) rfl k) ?_
        show Go p e below _ (T.setTop (mkF m 344 #[.val (.long p0), .second, .val (.long p1), .second, .val (.int p2), .val (.ref ba), .val (.int prn), .val (.ref bt), .val (.int (3 : Int32)), .val (.ref x), .val (.int ((40 : Int32) - prn)), .val (.int (0 : Int32))] [(.int (0 : Int32)), (.int (f_m35 (sl p0 p1 0 20)))]))
        refine Go.st (fun _ k => XS.icmpNo X.here hx rfl (hb hby at_344) rfl (Jvm.Free.XT.ii_ne_f (by rw [own_35 (e := (40 : Int32) - prn) (by rw [hpr, prs_sl, sl_len]; have := pps_le p0 20 0; exact own_sub (n := 40) (by omega) (by omega)), if_neg hc4, if_pos hc5] : (f_m35 (sl p0 p1 0 20)) = (0 : Int32))) k) ?_
        show Go p e below _ (T.setTop (mkF m 347 #[.val (.long p0), .second, .val (.long p1), .second, .val (.int p2), .val (.ref ba), .val (.int prn), .val (.ref bt), .val (.int (3 : Int32)), .val (.ref x), .val (.int ((40 : Int32) - prn)), .val (.int (0 : Int32))] []))
        refine Go.st (fun _ k => XS.iconst X.here hx rfl (hb hby at_347) k) ?_
        show Go p e below _ (T.setTop (mkF m 348 #[.val (.long p0), .second, .val (.long p1), .second, .val (.int p2), .val (.ref ba), .val (.int prn), .val (.ref bt), .val (.int (3 : Int32)), .val (.ref x), .val (.int ((40 : Int32) - prn)), .val (.int (0 : Int32))] [(.int (1 : Int32))]))
        refine Go.st (fun _ k => XS.goto X.here hx rfl (pc0 := 348) (pc' := 352) rfl (hb hby at_348) (by decide) (by decide) k) ?_
        show Go p e below _ (T.setTop (mkF m 352 #[.val (.long p0), .second, .val (.long p1), .second, .val (.int p2), .val (.ref ba), .val (.int prn), .val (.ref bt), .val (.int (3 : Int32)), .val (.ref x), .val (.int ((40 : Int32) - prn)), .val (.int (0 : Int32))] [(.int (1 : Int32))]))
        refine Go.retH hEL H hZ X hx hlk hT hret (by decide) (riI (by simp)) (hb hby at_352) (by decide) (by decide) ?_
        exact ⟨rfl, N⟩
      · refine Go.st (fun _ k => XS.icmpNo X.here hx rfl (hb hby at_327) rfl (Jvm.Free.XT.ii_gt_f hc5) k) ?_
        show Go p e below _ (T.setTop (mkF m 330 #[.val (.long p0), .second, .val (.long p1), .second, .val (.int p2), .val (.ref ba), .val (.int prn), .val (.ref bt), .val (.int (3 : Int32)), .val (.ref x), .val (.int ((40 : Int32) - prn)), .unset] []))
        refine Go.st (fun _ k => XS.iconst X.here hx rfl (hb hby at_330) k) ?_
        show Go p e below _ (T.setTop (mkF m 331 #[.val (.long p0), .second, .val (.long p1), .second, .val (.int p2), .val (.ref ba), .val (.int prn), .val (.ref bt), .val (.int (3 : Int32)), .val (.ref x), .val (.int ((40 : Int32) - prn)), .unset] [(.int (1 : Int32))]))
        refine Go.st (fun _ k => XS.goto X.here hx rfl (pc0 := 331) (pc' := 335) rfl (hb hby at_331) (by decide) (by decide) k) ?_
        show Go p e below _ (T.setTop (mkF m 335 #[.val (.long p0), .second, .val (.long p1), .second, .val (.int p2), .val (.ref ba), .val (.int prn), .val (.ref bt), .val (.int (3 : Int32)), .val (.ref x), .val (.int ((40 : Int32) - prn)), .unset] [(.int (1 : Int32))]))
        refine Go.st (fun _ k => XS.istore X.here hx rfl (hb hby at_335) rfl (l' := #[.val (.long p0), .second, .val (.long p1), .second, .val (.int p2), .val (.ref ba), .val (.int prn), .val (.ref bt), .val (.int (3 : Int32)), .val (.ref x), .val (.int ((40 : Int32) - prn)), .val (.int (1 : Int32))]) rfl k) ?_
        show Go p e below _ (T.setTop (mkF m 337 #[.val (.long p0), .second, .val (.long p1), .second, .val (.int p2), .val (.ref ba), .val (.int prn), .val (.ref bt), .val (.int (3 : Int32)), .val (.ref x), .val (.int ((40 : Int32) - prn)), .val (.int (1 : Int32))] []))
        refine Go.st (fun _ k => XS.aload X.here hx rfl (hb hby at_337) rfl rfl k) ?_
        show Go p e below _ (T.setTop (mkF m 339 #[.val (.long p0), .second, .val (.long p1), .second, .val (.int p2), .val (.ref ba), .val (.int prn), .val (.ref bt), .val (.int (3 : Int32)), .val (.ref x), .val (.int ((40 : Int32) - prn)), .val (.int (1 : Int32))] [(.ref x)]))
        refine Go.callV (argsL := [(.ref x)]) (rest := []) (W := 0) X hx hZ hown (hml.trans rfl) hT (hw _ (List.mem_of_getElem? (i := 21) rfl)) (hw _ (List.mem_of_getElem? (i := 22) rfl)) (hw _ (List.mem_of_getElem? (i := 23) rfl)) (hw _ (List.mem_of_getElem? (i := 24) rfl)) (by decide) pd_20 rfl rfl (Nat.le_of_ble_eq_true rfl) (hb hby at_339) (backOf (W := 0) (met_max35 l Z a0 hw [] z n0 x (sl p0 p1 0 20) _ O Sc S16 S_x (by rw [sl_len]; decide)) hZ (hw _ (List.mem_of_getElem? (i := 24) rfl)) (hw _ (List.mem_of_getElem? (i := 23) rfl)) (by decide) (by decide)) (by decide) (by decide) ?_
        intro T hT X
        show Go p e below _ (T.setTop (mkF m 342 #[.val (.long p0), .second, .val (.long p1), .second, .val (.int p2), .val (.ref ba), .val (.int prn), .val (.ref bt), .val (.int (3 : Int32)), .val (.ref x), .val (.int ((40 : Int32) - prn)), .val (.int (1 : Int32))] [(.int (f_m35 (sl p0 p1 0 20)))]))
        refine Go.st (fun _ k => XS.iload X.here hx rfl (hb hby at_342) rfl k) ?_
        show Go p e below _ (T.setTop (mkF m 344 #[.val (.long p0), .second, .val (.long p1), .second, .val (.int p2), .val (.ref ba), .val (.int prn), .val (.ref bt), .val (.int (3 : Int32)), .val (.ref x), .val (.int ((40 : Int32) - prn)), .val (.int (1 : Int32))] [(.int (1 : Int32)), (.int (f_m35 (sl p0 p1 0 20)))]))
        refine Go.st (fun _ k => XS.icmpNo X.here hx rfl (hb hby at_344) rfl (Jvm.Free.XT.ii_ne_f (by rw [own_35 (e := (40 : Int32) - prn) (by rw [hpr, prs_sl, sl_len]; have := pps_le p0 20 0; exact own_sub (n := 40) (by omega) (by omega)), if_neg hc4, if_neg hc5] : (f_m35 (sl p0 p1 0 20)) = (1 : Int32))) k) ?_
        show Go p e below _ (T.setTop (mkF m 347 #[.val (.long p0), .second, .val (.long p1), .second, .val (.int p2), .val (.ref ba), .val (.int prn), .val (.ref bt), .val (.int (3 : Int32)), .val (.ref x), .val (.int ((40 : Int32) - prn)), .val (.int (1 : Int32))] []))
        refine Go.st (fun _ k => XS.iconst X.here hx rfl (hb hby at_347) k) ?_
        show Go p e below _ (T.setTop (mkF m 348 #[.val (.long p0), .second, .val (.long p1), .second, .val (.int p2), .val (.ref ba), .val (.int prn), .val (.ref bt), .val (.int (3 : Int32)), .val (.ref x), .val (.int ((40 : Int32) - prn)), .val (.int (1 : Int32))] [(.int (1 : Int32))]))
        refine Go.st (fun _ k => XS.goto X.here hx rfl (pc0 := 348) (pc' := 352) rfl (hb hby at_348) (by decide) (by decide) k) ?_
        show Go p e below _ (T.setTop (mkF m 352 #[.val (.long p0), .second, .val (.long p1), .second, .val (.int p2), .val (.ref ba), .val (.int prn), .val (.ref bt), .val (.int (3 : Int32)), .val (.ref x), .val (.int ((40 : Int32) - prn)), .val (.int (1 : Int32))] [(.int (1 : Int32))]))
        refine Go.retH hEL H hZ X hx hlk hT hret (by decide) (riI (by simp)) (hb hby at_352) (by decide) (by decide) ?_
        exact ⟨rfl, N⟩
set_option maxRecDepth 65536 in
set_option maxHeartbeats 40000000 in
theorem comes_1 {Post : Tables → Env → Array Value → State → Outcome → State → Prop} (hpost : ∀ tb e args s v u, (limb_1_1.after args s (.returned v) u = true ∧ limb_1_2.after args s (.returned v) u = true) → ReturnedEndW s (.returned v) u (Jvm.fieldLocs frame_1_writes args s ++ Jvm.arrayLocs frame_1_arrays args s ++ Jvm.staticLocs frame_1_statics s) 24 1472 → Post tb e args s (.returned v) u) :
    ArmFor flags0 classFile x code maxLocals ret World_1 tables_1 room_1 Calls_1 rest_1 Pre_1 Post := by
  intro l hfl _ _ p e ha hc hk s m args below hf hA hF happ hP
  obtain ⟨hcalls, hrest, hpre⟩ := hP
  obtain ⟨-, -, -, hnamed, -, -, -, hat⟩ := (Spec.applies_iff hf).mp happ
  obtain ⟨hg, hn⟩ := and_e (Cond.before_iff.mp (show (Jvm.Cond.and given_1 narrow_1).before args s = true from hpre))
  obtain ⟨hcnt, hg⟩ := and_e hg
  obtain ⟨ha0, hg⟩ := and_e hg
  obtain ⟨ha1, hg⟩ := and_e hg
  have ha2 := hg
  obtain ⟨w0, w1, w2, rfl⟩ : ∃ w0 w1 w2 : Value, args = #[w0, w1, w2] := by
    have hs : args.size = 3 := by simpa [Cond.value, given_1] using hcnt
    obtain ⟨L⟩ := args
    match L, hs with
    | [w0, w1, w2], _ => exact ⟨w0, w1, w2, rfl⟩
  have hw := fun d (hd : d ∈ tables_1) => atoms_spec (ws := Jvm.Cond.code x code maxLocals ret :: tables_1) hat d (List.mem_cons_of_mem _ hd)
  obtain ⟨hsets, hown0⟩ := atoms_of _ (rest_1_c_eq ▸ (show rest_1_c.before _ s = true from hrest))
  obtain ⟨i0, e0⟩ := isL_v ha0
  obtain rfl : w0 = (.long i0) := Option.some.inj e0
  obtain ⟨i1, e1⟩ := isL_v ha1
  obtain rfl : w1 = (.long i1) := Option.some.inj e1
  obtain ⟨i2, e2⟩ := is_v ha2
  obtain rfl : w2 = (.int i2) := Option.some.inj e2
  obtain ⟨iz, ez⟩ := is_v (Cond.before_iff.mp (hsets _ (List.mem_of_getElem? (i := 1) rfl)))
  have Sz : Sta s s.heap "java/lang/String" "COMPACT_STRINGS" "Z" (.int iz) := Sta.start ez (Or.inl (hsets _ (List.mem_of_getElem? (i := 0) rfl)))
  have nz : ¬ (iz = (0 : Int32)) := gotF (Cond.eq_ints ez (Term.int_eval (0))) (not_v (Cond.before_iff.mp (hsets _ (List.mem_of_getElem? (i := 2) rfl))))
  have Sc : Stat s iz := ⟨Sz, nz⟩
  have S16a : Sta s s.heap "java/lang/StringUTF16" "$assertionsDisabled" "Z" (.int 1) := Sta.start (eqv_i (Term.int_eval (1)) (Cond.before_iff.mp (hsets _ (List.mem_of_getElem? (i := 12) rfl)))) (Or.inl (hsets _ (List.mem_of_getElem? (i := 11) rfl)))
  have S16b : Sta s s.heap "java/lang/StringUTF16" "HI_BYTE_SHIFT" "I" (.int 0) := Sta.start (eqv_i (Term.int_eval (0)) (Cond.before_iff.mp (hsets _ (List.mem_of_getElem? (i := 15) rfl)))) (Or.inl (hsets _ (List.mem_of_getElem? (i := 14) rfl)))
  have S16c : Sta s s.heap "java/lang/StringUTF16" "LO_BYTE_SHIFT" "I" (.int 8) := Sta.start (eqv_i (Term.int_eval (8)) (Cond.before_iff.mp (hsets _ (List.mem_of_getElem? (i := 18) rfl)))) (Or.inl (hsets _ (List.mem_of_getElem? (i := 17) rfl)))
  have S16 : St16 s := ⟨S16a, S16b, S16c⟩
  have hCH : CHv s EL0 s.vm s.heap := CHv.start (own_EW hw) (fun q hq => hcalls.1 q hq) (hsets _ (List.mem_of_getElem? (i := 2) rfl)) (hw _ (List.mem_of_getElem? (i := 16) rfl)) (hw _ (List.mem_of_getElem? (i := 15) rfl))
  obtain ⟨n, o, h1, h2, h3, _, L, rfl, ⟨rfl, N⟩, -, hq⟩ := met_law l s _ hw tables_1 i0 i1 i2 iz s.heap.size s.heap (Old.start s) Sc S16 p e ha hc hk s m _ below hf ((Spec.applies_iff_loose hf).mp happ).1 ⟨rfl, State.Warmed39.refl s, rfl, hCH⟩ trivial
  refine ⟨n, _, h1, h2, h3, hpost _ _ _ _ _ _ ⟨Cond.after_iff.mpr rfl, Cond.after_iff.mpr (eq_i res_at (Term.int_eval (1)) rfl)⟩ ⟨hq.1, hq.2.1, hq.2.2.1, (hq.2.2.2.sift fun y hy => Or.inr (N y hy)).mono (by decide) (by decide)⟩⟩
theorem main_1_1 : Claimed_1_1 := comes_1 fun _ _ _ _ _ _ h hF => ⟨h.1, hF⟩
theorem main_1_2 : Claimed_1_2 := comes_1 fun _ _ _ _ _ _ h hF => ⟨h.2, hF⟩
end Jvm.Pilot.@@N@@
namespace Jvm.Pilot.@@N@@
open Jvm Jvm.ClassFile Sem Op Lib Jvm.Free Jvm.Stand Jvm.Pilot.@@N@@.Jvm.D
/-! MADE BY PROGRAM (witnessworld.py) out of the Statement's table words and the real class files: 22 classes; the members and pool entries that the words name. The judged class is class 1, her method 5. -/
namespace start1
open Jvm.ClassFile
def u (s : String) : CpInfo := .utf8 (stringToUtf16 s)
/-- a pool by its gaps: so many unusable entries, then the entry; so many at the end -/
def gap : Nat → List CpInfo → List CpInfo
  | 0, r => r
  | n + 1, r => .unusable :: gap n r
def poolList (es : List (Nat × CpInfo)) (last : Nat) : List CpInfo := es.foldr (fun e r => gap e.1 (e.2 :: r)) (gap last [])
def pool (es : List (Nat × CpInfo)) (last : Nat) : Array CpInfo := ⟨poolList es last⟩
def fileOf (pool : Array CpInfo) (this : Nat) (attrs : Array Attribute := #[]) (ms : Array MethodInfo := #[]) (fl : Nat := 33) (sup : Nat := 0) (ifs : Array Nat := #[]) (fds : Array FieldInfo := #[]) : ClassFile where
  minorVersion := 0
  majorVersion := 65
  constantPool := pool
  accessFlags := fl
  thisClass := this
  superClass := sup
  interfaces := ifs
  fields := fds
  methods := ms
  attributes := attrs
def plain (name : String) (sup : Option ClassId) : Class where
  name := name
  kind := .ordinary
  loader := none
  accessFlags := 33
  super := sup
  interfaces := #[]
  cf := none
  fields := #[]
  methods := #[]
  instanceTypes := #[]
  staticTypes := #[]
  resolved := #[]
  callSites := []
  init := .initialized
  statics := none
  mirror := none

def pool0 : Array CpInfo := pool [(5, u "<init>"), (0, u "()V"), (1, .class_ 10), (1, u "java/lang/Object")] 113

def k0c0 : Code := { maxStack := 0, maxLocals := 1, code := object_method_1_code, exceptionTable := #[], attributes := #[] }
def k0m0 : Method := { name := "<init>", desc := "()V", sig := { parameters := [], returnType := none }, accessFlags := 1, code := some k0c0 }
/-- java/lang/Object -/
def k0 : Class := { plain "java/lang/Object" none with
  accessFlags := 33
  interfaces := #[]
  cf := some (fileOf pool0 8 #[] #[{ accessFlags := 1, nameIndex := 5, descriptorIndex := 6, attributes := #[] }] 33 0 #[] #[])
  fields := #[]
  methods := #[k0m0]
  instanceTypes := #[]
  staticTypes := #[]
  resolved := Array.replicate 124 none
  statics := none }

def pool1 : Array CpInfo := pool [(2, .class_ 4), (1, u "java/lang/Object"), (0, u "<init>"), (0, u "()V"), (0, .integer 65535), (0, .integer 55296), (0, .integer 57343), (0, .integer 56320), (0, .methodref 12 13), (0, .class_ 14), (0, .nameAndType 15 16), (0, u "com/example/daugava/daugava/iso20022/Iso20022IsMax35TextPinLaw"), (0, u "plain"), (0, u "(I)C"), (0, .methodref 12 18), (0, .nameAndType 19 16), (0, u "high"), (0, .methodref 12 21), (0, .nameAndType 22 16), (0, u "low"), (0, .methodref 12 24), (0, .nameAndType 25 26), (0, u "slot"), (0, u "([CIJJ)I"), (0, .string 28), (0, u ""), (0, .methodref 30 31), (0, .class_ 32), (0, .nameAndType 33 34), (0, u "java/lang/String"), (0, u "valueOf"), (0, u "(C)Ljava/lang/String;"), (0, .methodref 30 36), (0, .nameAndType 5 37), (0, u "([C)V"), (0, .methodref 39 40), (0, .class_ 41), (0, .nameAndType 42 43), (0, u "com/example/daugava/daugava/iso20022/Iso20022"), (0, u "isMax35Text"), (0, u "(Ljava/lang/String;)Z"), (3, u "law"), (0, u "(JJI)Z")] 4

def k1m0 : Method := { name := "<init>", desc := "()V", sig := { parameters := [], returnType := none }, accessFlags := 2, code := none }
def k1c1 : Code := { maxStack := 2, maxLocals := 2, code := method_2_code, exceptionTable := #[], attributes := #[] }
def k1m1 : Method := { name := "plain", desc := "(I)C", sig := { parameters := [.int], returnType := some .char }, accessFlags := 10, code := some k1c1 }
def k1c2 : Code := { maxStack := 3, maxLocals := 1, code := method_3_code, exceptionTable := #[], attributes := #[] }
def k1m2 : Method := { name := "high", desc := "(I)C", sig := { parameters := [.int], returnType := some .char }, accessFlags := 10, code := some k1c2 }
def k1c3 : Code := { maxStack := 3, maxLocals := 1, code := method_4_code, exceptionTable := #[], attributes := #[] }
def k1m3 : Method := { name := "low", desc := "(I)C", sig := { parameters := [.int], returnType := some .char }, accessFlags := 10, code := some k1c3 }
def k1c4 : Code := { maxStack := 4, maxLocals := 9, code := method_5_code, exceptionTable := #[], attributes := #[] }
def k1m4 : Method := { name := "slot", desc := "([CIJJ)I", sig := { parameters := [(.array .char), .int, .long, .long], returnType := some .int }, accessFlags := 10, code := some k1c4 }
def k1c5 : Code := { maxStack := 7, maxLocals := 12, code := code, exceptionTable := #[], attributes := #[] }
def k1m5 : Method := { name := "law", desc := "(JJI)Z", sig := { parameters := [.long, .long, .int], returnType := some .boolean }, accessFlags := 9, code := some k1c5 }
/-- com/example/daugava/daugava/iso20022/Iso20022IsMax35TextPinLaw -/
def k1 : Class := { plain "com/example/daugava/daugava/iso20022/Iso20022IsMax35TextPinLaw" (some 0) with
  accessFlags := 49
  interfaces := #[]
  cf := some (fileOf pool1 12 #[] #[{ accessFlags := 2, nameIndex := 5, descriptorIndex := 6, attributes := #[] }, { accessFlags := 10, nameIndex := 15, descriptorIndex := 16, attributes := #[] }, { accessFlags := 10, nameIndex := 19, descriptorIndex := 16, attributes := #[] }, { accessFlags := 10, nameIndex := 22, descriptorIndex := 16, attributes := #[] }, { accessFlags := 10, nameIndex := 25, descriptorIndex := 26, attributes := #[] }, { accessFlags := 9, nameIndex := 47, descriptorIndex := 48, attributes := #[] }] 49 2 #[] #[])
  fields := #[]
  methods := #[k1m0, k1m1, k1m2, k1m3, k1m4, k1m5]
  instanceTypes := #[]
  staticTypes := #[]
  resolved := Array.replicate 53 none
  statics := none }

def pool2 : Array CpInfo := pool [(1, .class_ 2), (0, u "java/io/Serializable"), (0, .class_ 4), (0, u "java/lang/Object")] 2

/-- java/io/Serializable -/
def k2 : Class := { plain "java/io/Serializable" (some 0) with
  accessFlags := 1537
  interfaces := #[]
  cf := some (fileOf pool2 1 #[] #[] 1537 3 #[] #[])
  fields := #[]
  methods := #[]
  instanceTypes := #[]
  staticTypes := #[]
  resolved := Array.replicate 7 none
  statics := none }

def pool3 : Array CpInfo := pool [(1, .class_ 2), (0, u "java/lang/Comparable"), (0, .class_ 4), (0, u "java/lang/Object")] 7

/-- java/lang/Comparable -/
def k3 : Class := { plain "java/lang/Comparable" (some 0) with
  accessFlags := 1537
  interfaces := #[]
  cf := some (fileOf pool3 1 #[] #[] 1537 3 #[] #[])
  fields := #[]
  methods := #[]
  instanceTypes := #[]
  staticTypes := #[]
  resolved := Array.replicate 12 none
  statics := none }

def pool4 : Array CpInfo := pool [(2, .class_ 4), (1, u "java/lang/CharSequence"), (42, .class_ 48), (0, u "java/lang/CharSequence$1CodePointIterator"), (10, .class_ 60), (0, u "java/lang/CharSequence$1CharIterator"), (5, .class_ 67), (0, u "java/lang/Object")] 63

/-- java/lang/CharSequence -/
def k4 : Class := { plain "java/lang/CharSequence" (some 0) with
  accessFlags := 1537
  interfaces := #[]
  cf := some (fileOf pool4 2 #[.nestMembers #[47, 59]] #[] 1537 66 #[] #[])
  fields := #[]
  methods := #[]
  instanceTypes := #[]
  staticTypes := #[]
  resolved := Array.replicate 131 none
  statics := none }

def pool5 : Array CpInfo := pool [(1, .class_ 2), (0, u "java/lang/constant/Constable"), (0, .class_ 4), (0, u "java/lang/Object")] 6

/-- java/lang/constant/Constable -/
def k5 : Class := { plain "java/lang/constant/Constable" (some 0) with
  accessFlags := 1537
  interfaces := #[]
  cf := some (fileOf pool5 1 #[] #[] 1537 3 #[] #[])
  fields := #[]
  methods := #[]
  instanceTypes := #[]
  staticTypes := #[]
  resolved := Array.replicate 11 none
  statics := none }

def pool6 : Array CpInfo := pool [(1, .class_ 2), (0, u "java/lang/constant/ConstantDesc"), (0, .class_ 4), (0, u "java/lang/Object")] 32

/-- java/lang/constant/ConstantDesc -/
def k6 : Class := { plain "java/lang/constant/ConstantDesc" (some 0) with
  accessFlags := 1537
  interfaces := #[]
  cf := some (fileOf pool6 1 #[] #[] 1537 3 #[] #[])
  fields := #[]
  methods := #[]
  instanceTypes := #[]
  staticTypes := #[]
  resolved := Array.replicate 37 none
  statics := none }

def pool7 : Array CpInfo := pool [(1, .methodref 2 3), (0, .class_ 4), (0, .nameAndType 5 6), (0, u "java/lang/Object"), (0, u "<init>"), (0, u "()V"), (2, .fieldref 10 11), (0, .class_ 12), (0, .nameAndType 13 14), (0, u "java/lang/String"), (0, u "value"), (0, u "[B"), (0, .fieldref 10 16), (0, .nameAndType 17 18), (0, u "coder"), (0, u "B"), (2, u "hash"), (0, u "I"), (2, u "hashIsZero"), (0, u "Z"), (0, .methodref 10 28), (0, .nameAndType 5 29), (0, u "([CIILjava/lang/Void;)V"), (7, u "(III)I"), (0, .fieldref 10 39), (0, .nameAndType 40 26), (0, u "COMPACT_STRINGS"), (1, .class_ 44), (1, u "java/lang/StringUTF16"), (0, u "compress"), (1, .methodref 42 48), (0, .nameAndType 49 50), (0, u "coderFromArrayLen"), (0, u "([BI)B"), (2, u "toBytes"), (25, .class_ 81), (1, u "java/util/Objects"), (15, u "([BII)I"), (9, .class_ 109), (1, u "java/lang/StringLatin1"), (32, u "()Z"), (34, .methodref 42 178), (0, .nameAndType 45 179), (0, u "([CII)[B"), (29, .methodref 10 210), (0, .nameAndType 5 211), (0, u "([BB)V"), (122, u "()I"), (0, .methodref 10 336), (0, .nameAndType 17 337), (0, u "()B"), (31, u "(C)Z"), (122, .methodref 10 493), (0, .nameAndType 494 142), (0, u "isLatin1"), (10, .methodref 10 506), (0, .nameAndType 507 334), (0, u "length"), (3, .methodref 79 512), (0, .nameAndType 513 37), (0, u "checkFromToIndex"), (0, .methodref 42 515), (0, .nameAndType 516 97), (0, u "codePointCount"), (58, .class_ 576), (0, u "java/lang/CharSequence"), (22, u "CASE_INSENSITIVE_ORDER"), (0, u "Ljava/util/Comparator;"), (35, u "(II)I"), (145, u "valueOf"), (0, u "(C)Ljava/lang/String;"), (226, u "([C)V"), (4, .methodref 107 1016), (0, .nameAndType 1017 369), (0, u "canEncode"), (0, .methodref 107 1019), (0, .nameAndType 53 1020), (0, u "(C)[B"), (0, .methodref 42 1019), (79, u "serialPersistentFields"), (0, u "[Ljava/io/ObjectStreamField;"), (0, .class_ 1104), (0, u "java/lang/String$CaseInsensitiveComparator"), (1, .class_ 1107), (0, u "java/io/Serializable"), (0, .class_ 1109), (0, u "java/lang/Comparable"), (0, .class_ 1111), (0, u "java/lang/constant/Constable"), (0, .class_ 1113), (0, u "java/lang/constant/ConstantDesc"), (2, u "serialVersionUID"), (0, u "J"), (3, u "REPL"), (0, u "C"), (2, u "LATIN1"), (1, u "UTF16")] 323

def k7m0 : Method := { name := "<init>", desc := "()V", sig := { parameters := [], returnType := none }, accessFlags := 1, code := none }
def k7c1 : Code := { maxStack := 5, maxLocals := 2, code := jdk_42_method_3_code, exceptionTable := #[], attributes := #[] }
def k7m1 : Method := { name := "<init>", desc := "([C)V", sig := { parameters := [(.array .char)], returnType := none }, accessFlags := 1, code := some k7c1 }
def k7c2 : Code := { maxStack := 2, maxLocals := 1, code := jdk_42_method_54_code, exceptionTable := #[], attributes := #[] }
def k7m2 : Method := { name := "length", desc := "()I", sig := { parameters := [], returnType := some .int }, accessFlags := 1, code := some k7c2 }
def k7c3 : Code := { maxStack := 3, maxLocals := 3, code := jdk_42_method_59_code, exceptionTable := #[], attributes := #[] }
def k7m3 : Method := { name := "codePointCount", desc := "(II)I", sig := { parameters := [.int, .int], returnType := some .int }, accessFlags := 1, code := some k7c3 }
def k7c4 : Code := { maxStack := 4, maxLocals := 1, code := jdk_42_method_139_code, exceptionTable := #[], attributes := #[] }
def k7m4 : Method := { name := "valueOf", desc := "(C)Ljava/lang/String;", sig := { parameters := [.char], returnType := some (.object "java/lang/String") }, accessFlags := 9, code := some k7c4 }
def k7c5 : Code := { maxStack := 4, maxLocals := 6, code := jdk_42_method_149_code, exceptionTable := #[], attributes := #[] }
def k7m5 : Method := { name := "<init>", desc := "([CIILjava/lang/Void;)V", sig := { parameters := [(.array .char), .int, .int, (.object "java/lang/Void")], returnType := none }, accessFlags := 2, code := some k7c5 }
def k7c6 : Code := { maxStack := 2, maxLocals := 3, code := jdk_42_method_151_code, exceptionTable := #[], attributes := #[] }
def k7m6 : Method := { name := "<init>", desc := "([BB)V", sig := { parameters := [(.array .byte), .byte], returnType := none }, accessFlags := 0, code := some k7c6 }
def k7c7 : Code := { maxStack := 1, maxLocals := 1, code := jdk_42_method_152_code, exceptionTable := #[], attributes := #[] }
def k7m7 : Method := { name := "coder", desc := "()B", sig := { parameters := [], returnType := some .byte }, accessFlags := 0, code := some k7c7 }
def k7c8 : Code := { maxStack := 1, maxLocals := 1, code := jdk_42_method_154_code, exceptionTable := #[], attributes := #[] }
def k7m8 : Method := { name := "isLatin1", desc := "()Z", sig := { parameters := [], returnType := some .boolean }, accessFlags := 0, code := some k7c8 }
/-- java/lang/String -/
def k7 : Class := { plain "java/lang/String" (some 0) with
  accessFlags := 49
  interfaces := #[2, 3, 4, 5, 6]
  cf := some (fileOf pool7 10 #[.nestMembers #[1103]] #[{ accessFlags := 1, nameIndex := 5, descriptorIndex := 6, attributes := #[] }, { accessFlags := 1, nameIndex := 5, descriptorIndex := 1010, attributes := #[] }, { accessFlags := 1, nameIndex := 507, descriptorIndex := 334, attributes := #[] }, { accessFlags := 1, nameIndex := 516, descriptorIndex := 636, attributes := #[] }, { accessFlags := 9, nameIndex := 782, descriptorIndex := 783, attributes := #[] }, { accessFlags := 2, nameIndex := 5, descriptorIndex := 29, attributes := #[] }, { accessFlags := 0, nameIndex := 5, descriptorIndex := 211, attributes := #[] }, { accessFlags := 0, nameIndex := 17, descriptorIndex := 337, attributes := #[] }, { accessFlags := 0, nameIndex := 494, descriptorIndex := 142, attributes := #[] }] 49 2 #[1106, 1108, 575, 1110, 1112] #[{ accessFlags := 18, nameIndex := 13, descriptorIndex := 14, attributes := #[] }, { accessFlags := 18, nameIndex := 17, descriptorIndex := 18, attributes := #[] }, { accessFlags := 2, nameIndex := 21, descriptorIndex := 22, attributes := #[] }, { accessFlags := 2, nameIndex := 25, descriptorIndex := 26, attributes := #[] }, { accessFlags := 26, nameIndex := 1116, descriptorIndex := 1117, attributes := #[] }, { accessFlags := 24, nameIndex := 40, descriptorIndex := 26, attributes := #[] }, { accessFlags := 26, nameIndex := 1101, descriptorIndex := 1102, attributes := #[] }, { accessFlags := 26, nameIndex := 1121, descriptorIndex := 1122, attributes := #[] }, { accessFlags := 25, nameIndex := 599, descriptorIndex := 600, attributes := #[] }, { accessFlags := 24, nameIndex := 1125, descriptorIndex := 18, attributes := #[] }, { accessFlags := 24, nameIndex := 1127, descriptorIndex := 18, attributes := #[] }])
  fields := #[{ name := "value", type := (.array .byte), accessFlags := 18, slot := 0, constantValue := 0 }, { name := "coder", type := .byte, accessFlags := 18, slot := 1, constantValue := 0 }, { name := "hash", type := .int, accessFlags := 2, slot := 2, constantValue := 0 }, { name := "hashIsZero", type := .boolean, accessFlags := 2, slot := 3, constantValue := 0 }, { name := "serialVersionUID", type := .long, accessFlags := 26, slot := 0, constantValue := 0 }, { name := "COMPACT_STRINGS", type := .boolean, accessFlags := 24, slot := 1, constantValue := 0 }, { name := "serialPersistentFields", type := (.array (.object "java/io/ObjectStreamField")), accessFlags := 26, slot := 2, constantValue := 0 }, { name := "REPL", type := .char, accessFlags := 26, slot := 3, constantValue := 0 }, { name := "CASE_INSENSITIVE_ORDER", type := (.object "java/util/Comparator"), accessFlags := 25, slot := 4, constantValue := 0 }, { name := "LATIN1", type := .byte, accessFlags := 24, slot := 5, constantValue := 0 }, { name := "UTF16", type := .byte, accessFlags := 24, slot := 6, constantValue := 0 }]
  methods := #[k7m0, k7m1, k7m2, k7m3, k7m4, k7m5, k7m6, k7m7, k7m8]
  instanceTypes := #[(.array .byte), .byte, .int, .boolean]
  staticTypes := #[.long, .boolean, (.array (.object "java/io/ObjectStreamField")), .char, (.object "java/util/Comparator"), .byte, .byte]
  resolved := Array.replicate 1451 none
  statics := some 0 }

def pool8 : Array CpInfo := pool [(2, .class_ 4), (1, u "java/lang/Object"), (0, u "<init>"), (0, u "()V"), (0, .methodref 8 9), (0, .class_ 10), (0, .nameAndType 11 12), (0, u "java/lang/String"), (0, u "length"), (0, u "()I"), (0, .methodref 8 14), (0, .nameAndType 15 16), (0, u "codePointCount"), (0, u "(II)I"), (0, .class_ 18), (0, u "com/example/daugava/daugava/iso20022/Iso20022"), (264, u "BIC"), (108, u "NOT_PROVIDED"), (0, u "Ljava/lang/String;"), (3, u "MAX_TEXT"), (0, u "I"), (1, u "BICFI"), (3, u "isMax35Text"), (0, u "(Ljava/lang/String;)Z")] 116

def k8m0 : Method := { name := "<init>", desc := "()V", sig := { parameters := [], returnType := none }, accessFlags := 2, code := none }
def k8c1 : Code := { maxStack := 3, maxLocals := 2, code := prog_52_method_2_code, exceptionTable := #[], attributes := #[] }
def k8m1 : Method := { name := "isMax35Text", desc := "(Ljava/lang/String;)Z", sig := { parameters := [(.object "java/lang/String")], returnType := some .boolean }, accessFlags := 9, code := some k8c1 }
/-- com/example/daugava/daugava/iso20022/Iso20022 -/
def k8 : Class := { plain "com/example/daugava/daugava/iso20022/Iso20022" (some 0) with
  accessFlags := 49
  interfaces := #[]
  cf := some (fileOf pool8 17 #[] #[{ accessFlags := 2, nameIndex := 5, descriptorIndex := 6, attributes := #[] }, { accessFlags := 9, nameIndex := 404, descriptorIndex := 405, attributes := #[] }] 49 2 #[] #[{ accessFlags := 25, nameIndex := 392, descriptorIndex := 393, attributes := #[] }, { accessFlags := 25, nameIndex := 397, descriptorIndex := 398, attributes := #[] }, { accessFlags := 25, nameIndex := 283, descriptorIndex := 393, attributes := #[] }, { accessFlags := 25, nameIndex := 400, descriptorIndex := 393, attributes := #[] }])
  fields := #[{ name := "NOT_PROVIDED", type := (.object "java/lang/String"), accessFlags := 25, slot := 0, constantValue := 0 }, { name := "MAX_TEXT", type := .int, accessFlags := 25, slot := 1, constantValue := 0 }, { name := "BIC", type := (.object "java/lang/String"), accessFlags := 25, slot := 2, constantValue := 0 }, { name := "BICFI", type := (.object "java/lang/String"), accessFlags := 25, slot := 3, constantValue := 0 }]
  methods := #[k8m0, k8m1]
  instanceTypes := #[]
  staticTypes := #[(.object "java/lang/String"), .int, (.object "java/lang/String"), (.object "java/lang/String")]
  resolved := Array.replicate 522 none
  statics := none }

def pool9 : Array CpInfo := pool [(2, .class_ 4), (1, u "java/lang/Object"), (0, u "<init>"), (0, u "()V"), (35, .class_ 44), (1, u "java/util/Objects"), (61, .class_ 108), (1, u "jdk/internal/util/Preconditions"), (2, .methodref 106 112), (0, .nameAndType 113 114), (0, u "checkFromToIndex"), (0, u "(IIILjava/util/function/BiFunction;)I"), (60, u "(III)I")] 8

def k9m0 : Method := { name := "<init>", desc := "()V", sig := { parameters := [], returnType := none }, accessFlags := 2, code := none }
def k9c1 : Code := { maxStack := 4, maxLocals := 3, code := jdk_31_method_18_code, exceptionTable := #[], attributes := #[] }
def k9m1 : Method := { name := "checkFromToIndex", desc := "(III)I", sig := { parameters := [.int, .int, .int], returnType := some .int }, accessFlags := 9, code := some k9c1 }
/-- java/util/Objects -/
def k9 : Class := { plain "java/util/Objects" (some 0) with
  accessFlags := 49
  interfaces := #[]
  cf := some (fileOf pool9 42 #[] #[{ accessFlags := 2, nameIndex := 5, descriptorIndex := 6, attributes := #[] }, { accessFlags := 9, nameIndex := 113, descriptorIndex := 175, attributes := #[] }] 49 2 #[] #[])
  fields := #[]
  methods := #[k9m0, k9m1]
  instanceTypes := #[]
  staticTypes := #[]
  resolved := Array.replicate 184 none
  statics := none }

def pool10 : Array CpInfo := pool [(2, .class_ 4), (1, u "java/lang/Object"), (0, u "<init>"), (0, u "()V"), (17, .class_ 26), (1, u "jdk/internal/util/Preconditions"), (20, u "checkFromToIndex"), (7, .class_ 56), (0, u "jdk/internal/util/Preconditions$4"), (57, .class_ 115), (0, u "jdk/internal/util/Preconditions$1"), (7, u "SIOOBE_FORMATTER"), (0, u "Ljava/util/function/BiFunction;"), (0, .class_ 126), (0, u "jdk/internal/util/Preconditions$2"), (3, u "AIOOBE_FORMATTER"), (0, .class_ 132), (0, u "jdk/internal/util/Preconditions$3"), (3, u "IOOBE_FORMATTER"), (46, u "(IIILjava/util/function/BiFunction;)I")] 10

def k10m0 : Method := { name := "<init>", desc := "()V", sig := { parameters := [], returnType := none }, accessFlags := 1, code := none }
def k10c1 : Code := { maxStack := 4, maxLocals := 4, code := jdk_41_method_12_code, exceptionTable := #[], attributes := #[] }
def k10m1 : Method := { name := "checkFromToIndex", desc := "(IIILjava/util/function/BiFunction;)I", sig := { parameters := [.int, .int, .int, (.object "java/util/function/BiFunction")], returnType := some .int }, accessFlags := 9, code := some k10c1 }
/-- jdk/internal/util/Preconditions -/
def k10 : Class := { plain "jdk/internal/util/Preconditions" (some 0) with
  accessFlags := 33
  interfaces := #[]
  cf := some (fileOf pool10 24 #[.nestMembers #[55, 131, 125, 114]] #[{ accessFlags := 1, nameIndex := 5, descriptorIndex := 6, attributes := #[] }, { accessFlags := 9, nameIndex := 47, descriptorIndex := 183, attributes := #[] }] 33 2 #[] #[{ accessFlags := 25, nameIndex := 123, descriptorIndex := 124, attributes := #[] }, { accessFlags := 25, nameIndex := 130, descriptorIndex := 124, attributes := #[] }, { accessFlags := 25, nameIndex := 136, descriptorIndex := 124, attributes := #[] }])
  fields := #[{ name := "SIOOBE_FORMATTER", type := (.object "java/util/function/BiFunction"), accessFlags := 25, slot := 0, constantValue := 0 }, { name := "AIOOBE_FORMATTER", type := (.object "java/util/function/BiFunction"), accessFlags := 25, slot := 1, constantValue := 0 }, { name := "IOOBE_FORMATTER", type := (.object "java/util/function/BiFunction"), accessFlags := 25, slot := 2, constantValue := 0 }]
  methods := #[k10m0, k10m1]
  instanceTypes := #[]
  staticTypes := #[(.object "java/util/function/BiFunction"), (.object "java/util/function/BiFunction"), (.object "java/util/function/BiFunction")]
  resolved := Array.replicate 194 none
  statics := some 1 }

def pool11 : Array CpInfo := pool [(6, .class_ 8), (1, u "java/lang/Object"), (0, u "<init>"), (0, u "()V"), (0, .methodref 12 13), (0, .class_ 14), (0, .nameAndType 15 16), (0, u "java/lang/StringUTF16"), (0, u "newBytesLength"), (0, u "(I)I"), (3, .integer 1073741823), (23, .fieldref 12 45), (0, .nameAndType 46 47), (0, u "$assertionsDisabled"), (0, u "Z"), (11, .fieldref 12 60), (0, .nameAndType 61 62), (0, u "HI_BYTE_SHIFT"), (0, u "I"), (0, .fieldref 12 64), (0, .nameAndType 65 62), (0, u "LO_BYTE_SHIFT"), (5, .methodref 12 72), (0, .nameAndType 73 74), (0, u "getChar"), (0, u "([BI)C"), (0, .methodref 76 77), (0, .class_ 78), (0, .nameAndType 79 80), (0, u "java/lang/Character"), (0, u "isHighSurrogate"), (0, u "(C)Z"), (0, .methodref 76 82), (0, .nameAndType 83 80), (0, u "isLowSurrogate"), (7, u "([BIIZ)I"), (8, .methodref 12 101), (0, .nameAndType 102 91), (0, u "codePointCount"), (4, .methodref 12 108), (0, .nameAndType 109 110), (0, u "newBytesFor"), (0, u "(I)[B"), (0, .methodref 12 112), (0, .nameAndType 113 114), (0, u "putChar"), (0, u "([BII)V"), (0, .methodref 12 116), (0, .nameAndType 117 118), (0, u "compress"), (0, u "([CI[BII)I"), (0, .methodref 12 120), (0, .nameAndType 121 122), (0, u "toBytes"), (0, u "([CII)[B"), (127, u "([BII)I"), (10, u "coderFromArrayLen"), (0, u "([BI)B"), (106, .class_ 371), (1, u "java/lang/StringUTF16$LinesSpliterator"), (58, u "MAX_LENGTH"), (44, u "(C)[B"), (151, .class_ 628), (0, u "java/lang/StringUTF16$CodePointsSpliterator"), (0, .class_ 630), (0, u "java/lang/StringUTF16$CharsSpliterator")] 4

def k11m0 : Method := { name := "<init>", desc := "()V", sig := { parameters := [], returnType := none }, accessFlags := 0, code := none }
def k11c1 : Code := { maxStack := 1, maxLocals := 1, code := jdk_52_method_2_code, exceptionTable := #[], attributes := #[] }
def k11m1 : Method := { name := "newBytesFor", desc := "(I)[B", sig := { parameters := [.int], returnType := some (.array .byte) }, accessFlags := 9, code := some k11c1 }
def k11c2 : Code := { maxStack := 4, maxLocals := 1, code := jdk_52_method_3_code, exceptionTable := #[], attributes := #[] }
def k11m2 : Method := { name := "newBytesLength", desc := "(I)I", sig := { parameters := [.int], returnType := some .int }, accessFlags := 9, code := some k11c2 }
def k11c3 : Code := { maxStack := 4, maxLocals := 3, code := jdk_52_method_4_code, exceptionTable := #[], attributes := #[] }
def k11m3 : Method := { name := "putChar", desc := "([BII)V", sig := { parameters := [(.array .byte), .int, .int], returnType := none }, accessFlags := 8, code := some k11c3 }
def k11c4 : Code := { maxStack := 3, maxLocals := 2, code := jdk_52_method_5_code, exceptionTable := #[], attributes := #[] }
def k11m4 : Method := { name := "getChar", desc := "([BI)C", sig := { parameters := [(.array .byte), .int], returnType := some .char }, accessFlags := 8, code := some k11c4 }
def k11c5 : Code := { maxStack := 3, maxLocals := 6, code := jdk_52_method_11_code, exceptionTable := #[], attributes := #[] }
def k11m5 : Method := { name := "codePointCount", desc := "([BIIZ)I", sig := { parameters := [(.array .byte), .int, .int, .boolean], returnType := some .int }, accessFlags := 10, code := some k11c5 }
def k11c6 : Code := { maxStack := 4, maxLocals := 3, code := jdk_52_method_12_code, exceptionTable := #[], attributes := #[] }
def k11m6 : Method := { name := "codePointCount", desc := "([BII)I", sig := { parameters := [(.array .byte), .int, .int], returnType := some .int }, accessFlags := 9, code := some k11c6 }
def k11c7 : Code := { maxStack := 4, maxLocals := 5, code := jdk_52_method_14_code, exceptionTable := #[], attributes := #[] }
def k11m7 : Method := { name := "toBytes", desc := "([CII)[B", sig := { parameters := [(.array .char), .int, .int], returnType := some (.array .byte) }, accessFlags := 9, code := some k11c7 }
def k11c8 : Code := { maxStack := 2, maxLocals := 2, code := jdk_52_method_15_code, exceptionTable := #[], attributes := #[] }
def k11m8 : Method := { name := "coderFromArrayLen", desc := "([BI)B", sig := { parameters := [(.array .byte), .int], returnType := some .byte }, accessFlags := 8, code := some k11c8 }
def k11c9 : Code := { maxStack := 5, maxLocals := 6, code := jdk_52_method_16_code, exceptionTable := #[], attributes := #[] }
def k11m9 : Method := { name := "compress", desc := "([CII)[B", sig := { parameters := [(.array .char), .int, .int], returnType := some (.array .byte) }, accessFlags := 9, code := some k11c9 }
def k11c10 : Code := { maxStack := 3, maxLocals := 7, code := jdk_52_method_21_code, exceptionTable := #[], attributes := #[] }
def k11m10 : Method := { name := "compress", desc := "([CI[BII)I", sig := { parameters := [(.array .char), .int, (.array .byte), .int, .int], returnType := some .int }, accessFlags := 9, code := some k11c10 }
def k11c11 : Code := { maxStack := 3, maxLocals := 2, code := jdk_52_method_24_code, exceptionTable := #[], attributes := #[] }
def k11m11 : Method := { name := "toBytes", desc := "(C)[B", sig := { parameters := [.char], returnType := some (.array .byte) }, accessFlags := 9, code := some k11c11 }
/-- java/lang/StringUTF16 -/
def k11 : Class := { plain "java/lang/StringUTF16" (some 0) with
  accessFlags := 48
  interfaces := #[]
  cf := some (fileOf pool11 12 #[.nestMembers #[627, 629, 369]] #[{ accessFlags := 0, nameIndex := 9, descriptorIndex := 10, attributes := #[] }, { accessFlags := 9, nameIndex := 109, descriptorIndex := 110, attributes := #[] }, { accessFlags := 9, nameIndex := 15, descriptorIndex := 16, attributes := #[] }, { accessFlags := 8, nameIndex := 113, descriptorIndex := 114, attributes := #[] }, { accessFlags := 8, nameIndex := 73, descriptorIndex := 74, attributes := #[] }, { accessFlags := 10, nameIndex := 102, descriptorIndex := 91, attributes := #[] }, { accessFlags := 9, nameIndex := 102, descriptorIndex := 250, attributes := #[] }, { accessFlags := 9, nameIndex := 121, descriptorIndex := 122, attributes := #[] }, { accessFlags := 8, nameIndex := 261, descriptorIndex := 262, attributes := #[] }, { accessFlags := 9, nameIndex := 117, descriptorIndex := 122, attributes := #[] }, { accessFlags := 9, nameIndex := 117, descriptorIndex := 118, attributes := #[] }, { accessFlags := 9, nameIndex := 121, descriptorIndex := 475, attributes := #[] }] 48 6 #[] #[{ accessFlags := 26, nameIndex := 61, descriptorIndex := 62, attributes := #[] }, { accessFlags := 26, nameIndex := 65, descriptorIndex := 62, attributes := #[] }, { accessFlags := 24, nameIndex := 430, descriptorIndex := 62, attributes := #[] }, { accessFlags := 4120, nameIndex := 46, descriptorIndex := 47, attributes := #[] }])
  fields := #[{ name := "HI_BYTE_SHIFT", type := .int, accessFlags := 26, slot := 0, constantValue := 0 }, { name := "LO_BYTE_SHIFT", type := .int, accessFlags := 26, slot := 1, constantValue := 0 }, { name := "MAX_LENGTH", type := .int, accessFlags := 24, slot := 2, constantValue := 0 }, { name := "$assertionsDisabled", type := .boolean, accessFlags := 4120, slot := 3, constantValue := 0 }]
  methods := #[k11m0, k11m1, k11m2, k11m3, k11m4, k11m5, k11m6, k11m7, k11m8, k11m9, k11m10, k11m11]
  instanceTypes := #[]
  staticTypes := #[.int, .int, .int, .boolean]
  resolved := Array.replicate 635 none
  statics := some 2 }

def pool12 : Array CpInfo := pool [(1, .class_ 2), (0, u "java/lang/Character"), (18, u "value"), (0, u "C"), (19, .class_ 44), (1, u "java/lang/Object"), (3, .class_ 50), (1, u "java/lang/Character$CharacterCache"), (24, .integer 55296), (0, .integer 56320), (0, .integer 57344), (2, u "isHighSurrogate"), (0, u "(C)Z"), (2, u "isLowSurrogate"), (199, u "$assertionsDisabled"), (0, u "Z"), (21, .class_ 309), (1, u "java/lang/Character$UnicodeBlock"), (73, u "TYPE"), (0, u "Ljava/lang/Class;"), (0, .class_ 386), (0, u "java/io/Serializable"), (0, .class_ 388), (0, u "java/lang/Comparable"), (0, .class_ 390), (0, u "java/lang/constant/Constable"), (0, u "MIN_RADIX"), (0, u "I"), (2, u "MAX_RADIX"), (1, u "MIN_VALUE"), (1, u "MAX_VALUE"), (3, u "UNASSIGNED"), (0, u "B"), (0, u "UPPERCASE_LETTER"), (1, u "LOWERCASE_LETTER"), (0, u "TITLECASE_LETTER"), (1, u "MODIFIER_LETTER"), (1, u "OTHER_LETTER"), (1, u "NON_SPACING_MARK"), (1, u "ENCLOSING_MARK"), (1, u "COMBINING_SPACING_MARK"), (1, u "DECIMAL_DIGIT_NUMBER"), (1, u "LETTER_NUMBER"), (1, u "OTHER_NUMBER"), (1, u "SPACE_SEPARATOR"), (1, u "LINE_SEPARATOR"), (1, u "PARAGRAPH_SEPARATOR"), (1, u "CONTROL"), (1, u "FORMAT"), (1, u "PRIVATE_USE"), (1, u "SURROGATE"), (1, u "DASH_PUNCTUATION"), (1, u "START_PUNCTUATION"), (1, u "END_PUNCTUATION"), (1, u "CONNECTOR_PUNCTUATION"), (1, u "OTHER_PUNCTUATION"), (1, u "MATH_SYMBOL"), (1, u "CURRENCY_SYMBOL"), (1, u "MODIFIER_SYMBOL"), (1, u "OTHER_SYMBOL"), (1, u "INITIAL_QUOTE_PUNCTUATION"), (1, u "FINAL_QUOTE_PUNCTUATION"), (1, u "ERROR"), (1, u "DIRECTIONALITY_UNDEFINED"), (0, u "DIRECTIONALITY_LEFT_TO_RIGHT"), (0, u "DIRECTIONALITY_RIGHT_TO_LEFT"), (0, u "DIRECTIONALITY_RIGHT_TO_LEFT_ARABIC"), (0, u "DIRECTIONALITY_EUROPEAN_NUMBER"), (0, u "DIRECTIONALITY_EUROPEAN_NUMBER_SEPARATOR"), (0, u "DIRECTIONALITY_EUROPEAN_NUMBER_TERMINATOR"), (0, u "DIRECTIONALITY_ARABIC_NUMBER"), (0, u "DIRECTIONALITY_COMMON_NUMBER_SEPARATOR"), (0, u "DIRECTIONALITY_NONSPACING_MARK"), (0, u "DIRECTIONALITY_BOUNDARY_NEUTRAL"), (0, u "DIRECTIONALITY_PARAGRAPH_SEPARATOR"), (0, u "DIRECTIONALITY_SEGMENT_SEPARATOR"), (0, u "DIRECTIONALITY_WHITESPACE"), (0, u "DIRECTIONALITY_OTHER_NEUTRALS"), (0, u "DIRECTIONALITY_LEFT_TO_RIGHT_EMBEDDING"), (0, u "DIRECTIONALITY_LEFT_TO_RIGHT_OVERRIDE"), (0, u "DIRECTIONALITY_RIGHT_TO_LEFT_EMBEDDING"), (0, u "DIRECTIONALITY_RIGHT_TO_LEFT_OVERRIDE"), (1, u "DIRECTIONALITY_POP_DIRECTIONAL_FORMAT"), (0, u "DIRECTIONALITY_LEFT_TO_RIGHT_ISOLATE"), (0, u "DIRECTIONALITY_RIGHT_TO_LEFT_ISOLATE"), (0, u "DIRECTIONALITY_FIRST_STRONG_ISOLATE"), (0, u "DIRECTIONALITY_POP_DIRECTIONAL_ISOLATE"), (0, u "MIN_HIGH_SURROGATE"), (0, u "MAX_HIGH_SURROGATE"), (1, u "MIN_LOW_SURROGATE"), (0, u "MAX_LOW_SURROGATE"), (1, u "MIN_SURROGATE"), (0, u "MAX_SURROGATE"), (0, u "MIN_SUPPLEMENTARY_CODE_POINT"), (0, u "MIN_CODE_POINT"), (0, u "MAX_CODE_POINT"), (1, u "serialVersionUID"), (0, u "J"), (2, u "SIZE"), (0, u "BYTES"), (88, .class_ 596), (0, u "java/lang/Character$UnicodeScript"), (0, .class_ 598), (0, u "java/lang/Character$Subset")] 5

def k12c0 : Code := { maxStack := 2, maxLocals := 1, code := jdk_89_method_14_code, exceptionTable := #[], attributes := #[] }
def k12m0 : Method := { name := "isHighSurrogate", desc := "(C)Z", sig := { parameters := [.char], returnType := some .boolean }, accessFlags := 9, code := some k12c0 }
def k12c1 : Code := { maxStack := 2, maxLocals := 1, code := jdk_89_method_15_code, exceptionTable := #[], attributes := #[] }
def k12m1 : Method := { name := "isLowSurrogate", desc := "(C)Z", sig := { parameters := [.char], returnType := some .boolean }, accessFlags := 9, code := some k12c1 }
/-- java/lang/Character -/
def k12 : Class := { plain "java/lang/Character" (some 0) with
  accessFlags := 49
  interfaces := #[2, 3, 5]
  cf := some (fileOf pool12 1 #[.nestMembers #[48, 595, 307, 597]] #[{ accessFlags := 9, nameIndex := 80, descriptorIndex := 81, attributes := #[] }, { accessFlags := 9, nameIndex := 84, descriptorIndex := 81, attributes := #[] }] 49 42 #[385, 387, 389] #[{ accessFlags := 25, nameIndex := 391, descriptorIndex := 392, attributes := #[] }, { accessFlags := 25, nameIndex := 395, descriptorIndex := 392, attributes := #[] }, { accessFlags := 25, nameIndex := 397, descriptorIndex := 22, attributes := #[] }, { accessFlags := 25, nameIndex := 399, descriptorIndex := 22, attributes := #[] }, { accessFlags := 25, nameIndex := 383, descriptorIndex := 384, attributes := #[] }, { accessFlags := 25, nameIndex := 403, descriptorIndex := 404, attributes := #[] }, { accessFlags := 25, nameIndex := 405, descriptorIndex := 404, attributes := #[] }, { accessFlags := 25, nameIndex := 407, descriptorIndex := 404, attributes := #[] }, { accessFlags := 25, nameIndex := 408, descriptorIndex := 404, attributes := #[] }, { accessFlags := 25, nameIndex := 410, descriptorIndex := 404, attributes := #[] }, { accessFlags := 25, nameIndex := 412, descriptorIndex := 404, attributes := #[] }, { accessFlags := 25, nameIndex := 414, descriptorIndex := 404, attributes := #[] }, { accessFlags := 25, nameIndex := 416, descriptorIndex := 404, attributes := #[] }, { accessFlags := 25, nameIndex := 418, descriptorIndex := 404, attributes := #[] }, { accessFlags := 25, nameIndex := 420, descriptorIndex := 404, attributes := #[] }, { accessFlags := 25, nameIndex := 422, descriptorIndex := 404, attributes := #[] }, { accessFlags := 25, nameIndex := 424, descriptorIndex := 404, attributes := #[] }, { accessFlags := 25, nameIndex := 426, descriptorIndex := 404, attributes := #[] }, { accessFlags := 25, nameIndex := 428, descriptorIndex := 404, attributes := #[] }, { accessFlags := 25, nameIndex := 430, descriptorIndex := 404, attributes := #[] }, { accessFlags := 25, nameIndex := 432, descriptorIndex := 404, attributes := #[] }, { accessFlags := 25, nameIndex := 434, descriptorIndex := 404, attributes := #[] }, { accessFlags := 25, nameIndex := 436, descriptorIndex := 404, attributes := #[] }, { accessFlags := 25, nameIndex := 438, descriptorIndex := 404, attributes := #[] }, { accessFlags := 25, nameIndex := 440, descriptorIndex := 404, attributes := #[] }, { accessFlags := 25, nameIndex := 442, descriptorIndex := 404, attributes := #[] }, { accessFlags := 25, nameIndex := 444, descriptorIndex := 404, attributes := #[] }, { accessFlags := 25, nameIndex := 446, descriptorIndex := 404, attributes := #[] }, { accessFlags := 25, nameIndex := 448, descriptorIndex := 404, attributes := #[] }, { accessFlags := 25, nameIndex := 450, descriptorIndex := 404, attributes := #[] }, { accessFlags := 25, nameIndex := 452, descriptorIndex := 404, attributes := #[] }, { accessFlags := 25, nameIndex := 454, descriptorIndex := 404, attributes := #[] }, { accessFlags := 25, nameIndex := 456, descriptorIndex := 404, attributes := #[] }, { accessFlags := 25, nameIndex := 458, descriptorIndex := 404, attributes := #[] }, { accessFlags := 25, nameIndex := 460, descriptorIndex := 404, attributes := #[] }, { accessFlags := 24, nameIndex := 462, descriptorIndex := 392, attributes := #[] }, { accessFlags := 25, nameIndex := 464, descriptorIndex := 404, attributes := #[] }, { accessFlags := 25, nameIndex := 465, descriptorIndex := 404, attributes := #[] }, { accessFlags := 25, nameIndex := 466, descriptorIndex := 404, attributes := #[] }, { accessFlags := 25, nameIndex := 467, descriptorIndex := 404, attributes := #[] }, { accessFlags := 25, nameIndex := 468, descriptorIndex := 404, attributes := #[] }, { accessFlags := 25, nameIndex := 469, descriptorIndex := 404, attributes := #[] }, { accessFlags := 25, nameIndex := 470, descriptorIndex := 404, attributes := #[] }, { accessFlags := 25, nameIndex := 471, descriptorIndex := 404, attributes := #[] }, { accessFlags := 25, nameIndex := 472, descriptorIndex := 404, attributes := #[] }, { accessFlags := 25, nameIndex := 473, descriptorIndex := 404, attributes := #[] }, { accessFlags := 25, nameIndex := 474, descriptorIndex := 404, attributes := #[] }, { accessFlags := 25, nameIndex := 475, descriptorIndex := 404, attributes := #[] }, { accessFlags := 25, nameIndex := 476, descriptorIndex := 404, attributes := #[] }, { accessFlags := 25, nameIndex := 477, descriptorIndex := 404, attributes := #[] }, { accessFlags := 25, nameIndex := 478, descriptorIndex := 404, attributes := #[] }, { accessFlags := 25, nameIndex := 479, descriptorIndex := 404, attributes := #[] }, { accessFlags := 25, nameIndex := 480, descriptorIndex := 404, attributes := #[] }, { accessFlags := 25, nameIndex := 481, descriptorIndex := 404, attributes := #[] }, { accessFlags := 25, nameIndex := 482, descriptorIndex := 404, attributes := #[] }, { accessFlags := 25, nameIndex := 484, descriptorIndex := 404, attributes := #[] }, { accessFlags := 25, nameIndex := 485, descriptorIndex := 404, attributes := #[] }, { accessFlags := 25, nameIndex := 486, descriptorIndex := 404, attributes := #[] }, { accessFlags := 25, nameIndex := 487, descriptorIndex := 404, attributes := #[] }, { accessFlags := 25, nameIndex := 488, descriptorIndex := 404, attributes := #[] }, { accessFlags := 25, nameIndex := 489, descriptorIndex := 22, attributes := #[] }, { accessFlags := 25, nameIndex := 490, descriptorIndex := 22, attributes := #[] }, { accessFlags := 25, nameIndex := 492, descriptorIndex := 22, attributes := #[] }, { accessFlags := 25, nameIndex := 493, descriptorIndex := 22, attributes := #[] }, { accessFlags := 25, nameIndex := 495, descriptorIndex := 22, attributes := #[] }, { accessFlags := 25, nameIndex := 496, descriptorIndex := 22, attributes := #[] }, { accessFlags := 25, nameIndex := 497, descriptorIndex := 392, attributes := #[] }, { accessFlags := 25, nameIndex := 498, descriptorIndex := 392, attributes := #[] }, { accessFlags := 25, nameIndex := 499, descriptorIndex := 392, attributes := #[] }, { accessFlags := 18, nameIndex := 21, descriptorIndex := 22, attributes := #[] }, { accessFlags := 26, nameIndex := 501, descriptorIndex := 502, attributes := #[] }, { accessFlags := 25, nameIndex := 505, descriptorIndex := 392, attributes := #[] }, { accessFlags := 25, nameIndex := 506, descriptorIndex := 392, attributes := #[] }, { accessFlags := 4120, nameIndex := 284, descriptorIndex := 285, attributes := #[] }])
  fields := #[{ name := "MIN_RADIX", type := .int, accessFlags := 25, slot := 0, constantValue := 0 }, { name := "MAX_RADIX", type := .int, accessFlags := 25, slot := 1, constantValue := 0 }, { name := "MIN_VALUE", type := .char, accessFlags := 25, slot := 2, constantValue := 0 }, { name := "MAX_VALUE", type := .char, accessFlags := 25, slot := 3, constantValue := 0 }, { name := "TYPE", type := (.object "java/lang/Class"), accessFlags := 25, slot := 4, constantValue := 0 }, { name := "UNASSIGNED", type := .byte, accessFlags := 25, slot := 5, constantValue := 0 }, { name := "UPPERCASE_LETTER", type := .byte, accessFlags := 25, slot := 6, constantValue := 0 }, { name := "LOWERCASE_LETTER", type := .byte, accessFlags := 25, slot := 7, constantValue := 0 }, { name := "TITLECASE_LETTER", type := .byte, accessFlags := 25, slot := 8, constantValue := 0 }, { name := "MODIFIER_LETTER", type := .byte, accessFlags := 25, slot := 9, constantValue := 0 }, { name := "OTHER_LETTER", type := .byte, accessFlags := 25, slot := 10, constantValue := 0 }, { name := "NON_SPACING_MARK", type := .byte, accessFlags := 25, slot := 11, constantValue := 0 }, { name := "ENCLOSING_MARK", type := .byte, accessFlags := 25, slot := 12, constantValue := 0 }, { name := "COMBINING_SPACING_MARK", type := .byte, accessFlags := 25, slot := 13, constantValue := 0 }, { name := "DECIMAL_DIGIT_NUMBER", type := .byte, accessFlags := 25, slot := 14, constantValue := 0 }, { name := "LETTER_NUMBER", type := .byte, accessFlags := 25, slot := 15, constantValue := 0 }, { name := "OTHER_NUMBER", type := .byte, accessFlags := 25, slot := 16, constantValue := 0 }, { name := "SPACE_SEPARATOR", type := .byte, accessFlags := 25, slot := 17, constantValue := 0 }, { name := "LINE_SEPARATOR", type := .byte, accessFlags := 25, slot := 18, constantValue := 0 }, { name := "PARAGRAPH_SEPARATOR", type := .byte, accessFlags := 25, slot := 19, constantValue := 0 }, { name := "CONTROL", type := .byte, accessFlags := 25, slot := 20, constantValue := 0 }, { name := "FORMAT", type := .byte, accessFlags := 25, slot := 21, constantValue := 0 }, { name := "PRIVATE_USE", type := .byte, accessFlags := 25, slot := 22, constantValue := 0 }, { name := "SURROGATE", type := .byte, accessFlags := 25, slot := 23, constantValue := 0 }, { name := "DASH_PUNCTUATION", type := .byte, accessFlags := 25, slot := 24, constantValue := 0 }, { name := "START_PUNCTUATION", type := .byte, accessFlags := 25, slot := 25, constantValue := 0 }, { name := "END_PUNCTUATION", type := .byte, accessFlags := 25, slot := 26, constantValue := 0 }, { name := "CONNECTOR_PUNCTUATION", type := .byte, accessFlags := 25, slot := 27, constantValue := 0 }, { name := "OTHER_PUNCTUATION", type := .byte, accessFlags := 25, slot := 28, constantValue := 0 }, { name := "MATH_SYMBOL", type := .byte, accessFlags := 25, slot := 29, constantValue := 0 }, { name := "CURRENCY_SYMBOL", type := .byte, accessFlags := 25, slot := 30, constantValue := 0 }, { name := "MODIFIER_SYMBOL", type := .byte, accessFlags := 25, slot := 31, constantValue := 0 }, { name := "OTHER_SYMBOL", type := .byte, accessFlags := 25, slot := 32, constantValue := 0 }, { name := "INITIAL_QUOTE_PUNCTUATION", type := .byte, accessFlags := 25, slot := 33, constantValue := 0 }, { name := "FINAL_QUOTE_PUNCTUATION", type := .byte, accessFlags := 25, slot := 34, constantValue := 0 }, { name := "ERROR", type := .int, accessFlags := 24, slot := 35, constantValue := 0 }, { name := "DIRECTIONALITY_UNDEFINED", type := .byte, accessFlags := 25, slot := 36, constantValue := 0 }, { name := "DIRECTIONALITY_LEFT_TO_RIGHT", type := .byte, accessFlags := 25, slot := 37, constantValue := 0 }, { name := "DIRECTIONALITY_RIGHT_TO_LEFT", type := .byte, accessFlags := 25, slot := 38, constantValue := 0 }, { name := "DIRECTIONALITY_RIGHT_TO_LEFT_ARABIC", type := .byte, accessFlags := 25, slot := 39, constantValue := 0 }, { name := "DIRECTIONALITY_EUROPEAN_NUMBER", type := .byte, accessFlags := 25, slot := 40, constantValue := 0 }, { name := "DIRECTIONALITY_EUROPEAN_NUMBER_SEPARATOR", type := .byte, accessFlags := 25, slot := 41, constantValue := 0 }, { name := "DIRECTIONALITY_EUROPEAN_NUMBER_TERMINATOR", type := .byte, accessFlags := 25, slot := 42, constantValue := 0 }, { name := "DIRECTIONALITY_ARABIC_NUMBER", type := .byte, accessFlags := 25, slot := 43, constantValue := 0 }, { name := "DIRECTIONALITY_COMMON_NUMBER_SEPARATOR", type := .byte, accessFlags := 25, slot := 44, constantValue := 0 }, { name := "DIRECTIONALITY_NONSPACING_MARK", type := .byte, accessFlags := 25, slot := 45, constantValue := 0 }, { name := "DIRECTIONALITY_BOUNDARY_NEUTRAL", type := .byte, accessFlags := 25, slot := 46, constantValue := 0 }, { name := "DIRECTIONALITY_PARAGRAPH_SEPARATOR", type := .byte, accessFlags := 25, slot := 47, constantValue := 0 }, { name := "DIRECTIONALITY_SEGMENT_SEPARATOR", type := .byte, accessFlags := 25, slot := 48, constantValue := 0 }, { name := "DIRECTIONALITY_WHITESPACE", type := .byte, accessFlags := 25, slot := 49, constantValue := 0 }, { name := "DIRECTIONALITY_OTHER_NEUTRALS", type := .byte, accessFlags := 25, slot := 50, constantValue := 0 }, { name := "DIRECTIONALITY_LEFT_TO_RIGHT_EMBEDDING", type := .byte, accessFlags := 25, slot := 51, constantValue := 0 }, { name := "DIRECTIONALITY_LEFT_TO_RIGHT_OVERRIDE", type := .byte, accessFlags := 25, slot := 52, constantValue := 0 }, { name := "DIRECTIONALITY_RIGHT_TO_LEFT_EMBEDDING", type := .byte, accessFlags := 25, slot := 53, constantValue := 0 }, { name := "DIRECTIONALITY_RIGHT_TO_LEFT_OVERRIDE", type := .byte, accessFlags := 25, slot := 54, constantValue := 0 }, { name := "DIRECTIONALITY_POP_DIRECTIONAL_FORMAT", type := .byte, accessFlags := 25, slot := 55, constantValue := 0 }, { name := "DIRECTIONALITY_LEFT_TO_RIGHT_ISOLATE", type := .byte, accessFlags := 25, slot := 56, constantValue := 0 }, { name := "DIRECTIONALITY_RIGHT_TO_LEFT_ISOLATE", type := .byte, accessFlags := 25, slot := 57, constantValue := 0 }, { name := "DIRECTIONALITY_FIRST_STRONG_ISOLATE", type := .byte, accessFlags := 25, slot := 58, constantValue := 0 }, { name := "DIRECTIONALITY_POP_DIRECTIONAL_ISOLATE", type := .byte, accessFlags := 25, slot := 59, constantValue := 0 }, { name := "MIN_HIGH_SURROGATE", type := .char, accessFlags := 25, slot := 60, constantValue := 0 }, { name := "MAX_HIGH_SURROGATE", type := .char, accessFlags := 25, slot := 61, constantValue := 0 }, { name := "MIN_LOW_SURROGATE", type := .char, accessFlags := 25, slot := 62, constantValue := 0 }, { name := "MAX_LOW_SURROGATE", type := .char, accessFlags := 25, slot := 63, constantValue := 0 }, { name := "MIN_SURROGATE", type := .char, accessFlags := 25, slot := 64, constantValue := 0 }, { name := "MAX_SURROGATE", type := .char, accessFlags := 25, slot := 65, constantValue := 0 }, { name := "MIN_SUPPLEMENTARY_CODE_POINT", type := .int, accessFlags := 25, slot := 66, constantValue := 0 }, { name := "MIN_CODE_POINT", type := .int, accessFlags := 25, slot := 67, constantValue := 0 }, { name := "MAX_CODE_POINT", type := .int, accessFlags := 25, slot := 68, constantValue := 0 }, { name := "value", type := .char, accessFlags := 18, slot := 0, constantValue := 0 }, { name := "serialVersionUID", type := .long, accessFlags := 26, slot := 69, constantValue := 0 }, { name := "SIZE", type := .int, accessFlags := 25, slot := 70, constantValue := 0 }, { name := "BYTES", type := .int, accessFlags := 25, slot := 71, constantValue := 0 }, { name := "$assertionsDisabled", type := .boolean, accessFlags := 4120, slot := 72, constantValue := 0 }]
  methods := #[k12m0, k12m1]
  instanceTypes := #[.char]
  staticTypes := #[.int, .int, .char, .char, (.object "java/lang/Class"), .byte, .byte, .byte, .byte, .byte, .byte, .byte, .byte, .byte, .byte, .byte, .byte, .byte, .byte, .byte, .byte, .byte, .byte, .byte, .byte, .byte, .byte, .byte, .byte, .byte, .byte, .byte, .byte, .byte, .byte, .int, .byte, .byte, .byte, .byte, .byte, .byte, .byte, .byte, .byte, .byte, .byte, .byte, .byte, .byte, .byte, .byte, .byte, .byte, .byte, .byte, .byte, .byte, .byte, .byte, .char, .char, .char, .char, .char, .char, .int, .int, .int, .long, .int, .int, .boolean]
  resolved := Array.replicate 604 none
  statics := none }

def pool13 : Array CpInfo := pool [(4, .class_ 6), (1, u "java/lang/Object"), (0, u "<init>"), (0, u "()V"), (5, .class_ 16), (1, u "java/lang/StringLatin1"), (73, u "canEncode"), (14, u "(C)Z"), (15, u "$assertionsDisabled"), (0, u "Z"), (98, .class_ 223), (1, u "java/lang/StringLatin1$LinesSpliterator"), (156, u "toBytes"), (1, u "(C)[B"), (7, .class_ 391), (0, u "java/lang/StringLatin1$CharsSpliterator")] 3

def k13m0 : Method := { name := "<init>", desc := "()V", sig := { parameters := [], returnType := none }, accessFlags := 0, code := none }
def k13c1 : Code := { maxStack := 2, maxLocals := 1, code := jdk_43_method_3_code, exceptionTable := #[], attributes := #[] }
def k13m1 : Method := { name := "canEncode", desc := "(C)Z", sig := { parameters := [.char], returnType := some .boolean }, accessFlags := 9, code := some k13c1 }
def k13c2 : Code := { maxStack := 4, maxLocals := 1, code := jdk_43_method_46_code, exceptionTable := #[], attributes := #[] }
def k13m2 : Method := { name := "toBytes", desc := "(C)[B", sig := { parameters := [.char], returnType := some (.array .byte) }, accessFlags := 9, code := some k13c2 }
/-- java/lang/StringLatin1 -/
def k13 : Class := { plain "java/lang/StringLatin1" (some 0) with
  accessFlags := 48
  interfaces := #[]
  cf := some (fileOf pool13 14 #[.nestMembers #[390, 221]] #[{ accessFlags := 0, nameIndex := 7, descriptorIndex := 8, attributes := #[] }, { accessFlags := 9, nameIndex := 90, descriptorIndex := 105, attributes := #[] }, { accessFlags := 9, nameIndex := 380, descriptorIndex := 382, attributes := #[] }] 48 4 #[] #[{ accessFlags := 4120, nameIndex := 121, descriptorIndex := 122, attributes := #[] }])
  fields := #[{ name := "$assertionsDisabled", type := .boolean, accessFlags := 4120, slot := 0, constantValue := 0 }]
  methods := #[k13m0, k13m1, k13m2]
  instanceTypes := #[]
  staticTypes := #[.boolean]
  resolved := Array.replicate 395 none
  statics := none }

def pool14 : Array CpInfo := pool [(9, u "<init>"), (6, .class_ 18), (1, u "java/lang/Object"), (0, u "()V"), (1, .class_ 23), (1, u "jdk/internal/util/ArraysSupport"), (0, u "LOG2_ARRAY_LONG_INDEX_SCALE"), (0, u "I"), (2, u "U"), (0, u "Ljdk/internal/misc/Unsafe;"), (8, u "BIG_ENDIAN"), (0, u "Z"), (8, u "LOG2_BYTE_BIT_SIZE"), (4, u "LOG2_ARRAY_INT_INDEX_SCALE"), (54, u "JLA"), (0, u "Ljdk/internal/access/JavaLangAccess;"), (11, u "LOG2_ARRAY_BOOLEAN_INDEX_SCALE"), (9, u "LOG2_ARRAY_BYTE_INDEX_SCALE"), (5, u "LOG2_ARRAY_CHAR_INDEX_SCALE"), (5, u "LOG2_ARRAY_SHORT_INDEX_SCALE"), (18, u "LOG2_ARRAY_FLOAT_INDEX_SCALE"), (24, u "LOG2_ARRAY_DOUBLE_INDEX_SCALE"), (89, u "T_BOOLEAN"), (2, u "T_CHAR"), (1, u "T_FLOAT"), (1, u "T_DOUBLE"), (1, u "T_BYTE"), (1, u "T_SHORT"), (1, u "T_INT"), (1, u "T_LONG"), (1, u "SOFT_MAX_ARRAY_LENGTH")] 83

def k14m0 : Method := { name := "<init>", desc := "()V", sig := { parameters := [], returnType := none }, accessFlags := 2, code := none }
/-- jdk/internal/util/ArraysSupport -/
def k14 : Class := { plain "jdk/internal/util/ArraysSupport" (some 0) with
  accessFlags := 33
  interfaces := #[]
  cf := some (fileOf pool14 21 #[] #[{ accessFlags := 2, nameIndex := 9, descriptorIndex := 19, attributes := #[] }] 33 16 #[] #[{ accessFlags := 24, nameIndex := 28, descriptorIndex := 29, attributes := #[] }, { accessFlags := 26, nameIndex := 38, descriptorIndex := 39, attributes := #[] }, { accessFlags := 25, nameIndex := 121, descriptorIndex := 25, attributes := #[] }, { accessFlags := 25, nameIndex := 131, descriptorIndex := 25, attributes := #[] }, { accessFlags := 25, nameIndex := 137, descriptorIndex := 25, attributes := #[] }, { accessFlags := 25, nameIndex := 143, descriptorIndex := 25, attributes := #[] }, { accessFlags := 25, nameIndex := 53, descriptorIndex := 25, attributes := #[] }, { accessFlags := 25, nameIndex := 24, descriptorIndex := 25, attributes := #[] }, { accessFlags := 25, nameIndex := 162, descriptorIndex := 25, attributes := #[] }, { accessFlags := 25, nameIndex := 187, descriptorIndex := 25, attributes := #[] }, { accessFlags := 26, nameIndex := 48, descriptorIndex := 25, attributes := #[] }, { accessFlags := 25, nameIndex := 277, descriptorIndex := 25, attributes := #[] }, { accessFlags := 25, nameIndex := 280, descriptorIndex := 25, attributes := #[] }, { accessFlags := 25, nameIndex := 282, descriptorIndex := 25, attributes := #[] }, { accessFlags := 25, nameIndex := 284, descriptorIndex := 25, attributes := #[] }, { accessFlags := 25, nameIndex := 286, descriptorIndex := 25, attributes := #[] }, { accessFlags := 25, nameIndex := 288, descriptorIndex := 25, attributes := #[] }, { accessFlags := 25, nameIndex := 290, descriptorIndex := 25, attributes := #[] }, { accessFlags := 25, nameIndex := 292, descriptorIndex := 25, attributes := #[] }, { accessFlags := 26, nameIndex := 108, descriptorIndex := 109, attributes := #[] }, { accessFlags := 25, nameIndex := 294, descriptorIndex := 25, attributes := #[] }])
  fields := #[{ name := "U", type := (.object "jdk/internal/misc/Unsafe"), accessFlags := 24, slot := 0, constantValue := 0 }, { name := "BIG_ENDIAN", type := .boolean, accessFlags := 26, slot := 1, constantValue := 0 }, { name := "LOG2_ARRAY_BOOLEAN_INDEX_SCALE", type := .int, accessFlags := 25, slot := 2, constantValue := 0 }, { name := "LOG2_ARRAY_BYTE_INDEX_SCALE", type := .int, accessFlags := 25, slot := 3, constantValue := 0 }, { name := "LOG2_ARRAY_CHAR_INDEX_SCALE", type := .int, accessFlags := 25, slot := 4, constantValue := 0 }, { name := "LOG2_ARRAY_SHORT_INDEX_SCALE", type := .int, accessFlags := 25, slot := 5, constantValue := 0 }, { name := "LOG2_ARRAY_INT_INDEX_SCALE", type := .int, accessFlags := 25, slot := 6, constantValue := 0 }, { name := "LOG2_ARRAY_LONG_INDEX_SCALE", type := .int, accessFlags := 25, slot := 7, constantValue := 0 }, { name := "LOG2_ARRAY_FLOAT_INDEX_SCALE", type := .int, accessFlags := 25, slot := 8, constantValue := 0 }, { name := "LOG2_ARRAY_DOUBLE_INDEX_SCALE", type := .int, accessFlags := 25, slot := 9, constantValue := 0 }, { name := "LOG2_BYTE_BIT_SIZE", type := .int, accessFlags := 26, slot := 10, constantValue := 0 }, { name := "T_BOOLEAN", type := .int, accessFlags := 25, slot := 11, constantValue := 0 }, { name := "T_CHAR", type := .int, accessFlags := 25, slot := 12, constantValue := 0 }, { name := "T_FLOAT", type := .int, accessFlags := 25, slot := 13, constantValue := 0 }, { name := "T_DOUBLE", type := .int, accessFlags := 25, slot := 14, constantValue := 0 }, { name := "T_BYTE", type := .int, accessFlags := 25, slot := 15, constantValue := 0 }, { name := "T_SHORT", type := .int, accessFlags := 25, slot := 16, constantValue := 0 }, { name := "T_INT", type := .int, accessFlags := 25, slot := 17, constantValue := 0 }, { name := "T_LONG", type := .int, accessFlags := 25, slot := 18, constantValue := 0 }, { name := "JLA", type := (.object "jdk/internal/access/JavaLangAccess"), accessFlags := 26, slot := 19, constantValue := 0 }, { name := "SOFT_MAX_ARRAY_LENGTH", type := .int, accessFlags := 25, slot := 20, constantValue := 0 }]
  methods := #[k14m0]
  instanceTypes := #[]
  staticTypes := #[(.object "jdk/internal/misc/Unsafe"), .boolean, .int, .int, .int, .int, .int, .int, .int, .int, .int, .int, .int, .int, .int, .int, .int, .int, .int, (.object "jdk/internal/access/JavaLangAccess"), .int]
  resolved := Array.replicate 378 none
  statics := none }

def pool15 : Array CpInfo := pool [(1, u "java/lang/Cloneable"), (0, .class_ 1), (0, u "java/lang/Object"), (0, .class_ 3)] 3

/-- java/lang/Cloneable -/
def k15 : Class := { plain "java/lang/Cloneable" (some 0) with
  accessFlags := 1537
  interfaces := #[]
  cf := some (fileOf pool15 2 #[] #[] 1537 4 #[] #[])
  fields := #[]
  methods := #[]
  instanceTypes := #[]
  staticTypes := #[]
  resolved := Array.replicate 8 none
  statics := none }

/-- the primitive byte -/
def k16 : Class := { plain "byte" none with kind := .primitive 'B', accessFlags := 0x411 }
/-- [B -/
def k17 : Class := { plain "[B" (some 0) with kind := .array 16 .byte, interfaces := #[15, 2], accessFlags := 1041 }

/-- the primitive char -/
def k18 : Class := { plain "char" none with kind := .primitive 'C', accessFlags := 0x411 }
/-- [C -/
def k19 : Class := { plain "[C" (some 0) with kind := .array 18 .char, interfaces := #[15, 2], accessFlags := 1041 }

/-- the primitive int -/
def k20 : Class := { plain "int" none with kind := .primitive 'I', accessFlags := 0x411 }
/-- [I -/
def k21 : Class := { plain "[I" (some 0) with kind := .array 20 .int, interfaces := #[15, 2], accessFlags := 1041 }

def heap : Heap := #[{ cls := 7, slots := #[.long 0, .int 1, .null, .int 0, .null, .int 0, .int 0], vm := .statics 7 },
  { cls := 10, slots := #[.null, .null, .null], vm := .statics 10 },
  { cls := 11, slots := #[.int 0, .int 8, .int 0, .int 1], vm := .statics 11 }]
def classes : Array Class := #[k0, k1, k2, k3, k4, k5, k6, k7, k8, k9, k10, k11, k12, k13, k14, k15, k16, k17, k18, k19, k20, k21]
def interned : List (Array UInt16 × Addr) := []
def slotsUsed : Nat := 14
def theMethod : MethodId := ⟨1, 5⟩
def args0 : Array Value := #[.long 5, .long 5, .int 5]
def aboutOver (below : List Frame) : State where
  vm := { classes := classes, interned := interned.toArray }
  heap := heap
  slotsUsed := slotsUsed
  threads := #[{ frames := .invoking theMethod args0 :: below }]
def below0 : List Frame := [.native { method := ⟨0, 0⟩, args := #[] }]
def about1 : State := aboutOver below0
def p0 : Program := .bare "" "" ""
def e0 : Env := launch0.env 0 0 0
theorem w_frames : about1.frames = Frame.invoking theMethod args0 :: below0 := rfl
set_option maxRecDepth 65536 in
theorem w_args : argsFit about1.vm theMethod args0 = true := by decide +kernel
set_option maxRecDepth 65536 in
theorem w_heap : heapFits about1 = true := by decide +kernel
set_option maxRecDepth 65536 in
theorem w_runnable : about1.curStatus? = some .runnable := by decide +kernel
set_option maxRecDepth 65536 in
theorem w_alone : about1.alone = true := by decide +kernel
set_option maxRecDepth 65536 in
theorem w_named : about1.methodNamed? x = some theMethod := by decide +kernel
set_option maxRecDepth 65536 in
theorem w_hears : about1.hears theMethod below0 = true := by decide +kernel
set_option maxRecDepth 65536 in
theorem w_ripe : about1.ripe theMethod args0 below0 = true := by decide +kernel
theorem w_running : about1.status = .running := rfl
set_option maxRecDepth 65536 in
theorem w_room : about1.hasRoom e0.platform room_1 = true :=
  launch0.hasRoom_least _ room_1 (by decide +kernel) (by decide +kernel) (by decide +kernel) (by decide +kernel) (by decide +kernel) (by decide +kernel)
theorem allAtoms_all (ts : List Jvm.Cond) (a : Array Jvm.Value) (st : Jvm.State) : (allAtoms ts).before a st = ts.all (fun c => c.before a st) := by
  induction ts with
  | nil => rfl
  | cons c t ih =>
    show (Jvm.Cond.and c (allAtoms t)).before a st = _
    rw [Jvm.Cond.before_and, ih, List.all_cons]
def words1 : List Jvm.Cond := Jvm.Cond.code x code maxLocals ret :: tables_1
/-- a 'code' word, met by the world's own term for the bytes: nothing is compared byte by byte -/
theorem code_word {y : MethodName} {bytes : ByteArray} {mx : Nat} {rt : Option FieldType} {a : Array Value} {s : State} {m : MethodId} {meth : Method} {c : Code} (h1 : s.methodNamed? y = some m) (h2 : s.vm.method? m = some meth) (h3 : meth.code = some c) (h4 : c.code = bytes)
    (h5 : (c.maxLocals == mx && c.exceptionTable.isEmpty && decide (c.maxStack ≤ mostOperands) && decide (meth.sig.returnType = rt) && !meth.locks && decide (parseMethodDescriptor y.desc = some meth.sig)) = true) : (Jvm.Cond.code y bytes mx rt).before a s = true := by
  simp only [Bool.and_eq_true, beq_iff_eq, Bool.not_eq_true', decide_eq_true_eq] at h5
  obtain ⟨⟨⟨⟨⟨g1, g2⟩, g3⟩, g4⟩, g5⟩, g6⟩ := h5
  simp [Cond.before, Cond.holds, Cond.value, h1, h2, h3, h4, g1, g2, g3, g4, g5, g6]
def isCode : Jvm.Cond → Bool
  | .code _ _ _ _ => true
  | _ => false
theorem all_split {L : List Jvm.Cond} {P : Jvm.Cond → Bool} (h1 : L.all (fun c => isCode c || P c) = true) (h2 : ∀ c ∈ L.filter isCode, P c = true) : L.all P = true := by
  refine List.all_eq_true.mpr fun c hc => ?_
  have h := List.all_eq_true.mp h1 c hc
  rcases Bool.eq_false_or_eq_true (isCode c) with hi | hi
  · exact h2 c (List.mem_filter.mpr ⟨hc, hi⟩)
  · simpa [hi] using h
set_option maxRecDepth 65536 in
theorem w_c0 : (Jvm.Cond.code x code maxLocals ret).before args0 about1 = true := code_word (m := ⟨1, 5⟩) (meth := k1m5) (c := k1c5) (by decide +kernel) rfl rfl rfl (by decide +kernel)
set_option maxRecDepth 65536 in
theorem w_c1 : (Jvm.Cond.code ({ cls := "com/example/daugava/daugava/iso20022/Iso20022IsMax35TextPinLaw", name := "slot", desc := "([CIJJ)I" } : Jvm.MethodName) method_5_code (9 : Nat) (Option.some Jvm.ClassFile.FieldType.int)).before args0 about1 = true := code_word (m := ⟨1, 4⟩) (meth := k1m4) (c := k1c4) (by decide +kernel) rfl rfl rfl (by decide +kernel)
set_option maxRecDepth 65536 in
theorem w_c2 : (Jvm.Cond.code ({ cls := "com/example/daugava/daugava/iso20022/Iso20022IsMax35TextPinLaw", name := "high", desc := "(I)C" } : Jvm.MethodName) method_3_code (1 : Nat) (Option.some Jvm.ClassFile.FieldType.char)).before args0 about1 = true := code_word (m := ⟨1, 2⟩) (meth := k1m2) (c := k1c2) (by decide +kernel) rfl rfl rfl (by decide +kernel)
set_option maxRecDepth 65536 in
theorem w_c3 : (Jvm.Cond.code ({ cls := "com/example/daugava/daugava/iso20022/Iso20022IsMax35TextPinLaw", name := "plain", desc := "(I)C" } : Jvm.MethodName) method_2_code (2 : Nat) (Option.some Jvm.ClassFile.FieldType.char)).before args0 about1 = true := code_word (m := ⟨1, 1⟩) (meth := k1m1) (c := k1c1) (by decide +kernel) rfl rfl rfl (by decide +kernel)
set_option maxRecDepth 65536 in
theorem w_c4 : (Jvm.Cond.code ({ cls := "com/example/daugava/daugava/iso20022/Iso20022", name := "isMax35Text", desc := "(Ljava/lang/String;)Z" } : Jvm.MethodName) prog_52_method_2_code (2 : Nat) (Option.some Jvm.ClassFile.FieldType.boolean)).before args0 about1 = true := code_word (m := ⟨8, 1⟩) (meth := k8m1) (c := k8c1) (by decide +kernel) rfl rfl rfl (by decide +kernel)
set_option maxRecDepth 65536 in
theorem w_c5 : (Jvm.Cond.code ({ cls := "java/lang/String", name := "length", desc := "()I" } : Jvm.MethodName) jdk_42_method_54_code (1 : Nat) (Option.some Jvm.ClassFile.FieldType.int)).before args0 about1 = true := code_word (m := ⟨7, 2⟩) (meth := k7m2) (c := k7c2) (by decide +kernel) rfl rfl rfl (by decide +kernel)
set_option maxRecDepth 65536 in
theorem w_c6 : (Jvm.Cond.code ({ cls := "java/lang/String", name := "coder", desc := "()B" } : Jvm.MethodName) jdk_42_method_152_code (1 : Nat) (Option.some Jvm.ClassFile.FieldType.byte)).before args0 about1 = true := code_word (m := ⟨7, 7⟩) (meth := k7m7) (c := k7c7) (by decide +kernel) rfl rfl rfl (by decide +kernel)
set_option maxRecDepth 65536 in
theorem w_c7 : (Jvm.Cond.code ({ cls := "java/lang/String", name := "codePointCount", desc := "(II)I" } : Jvm.MethodName) jdk_42_method_59_code (3 : Nat) (Option.some Jvm.ClassFile.FieldType.int)).before args0 about1 = true := code_word (m := ⟨7, 3⟩) (meth := k7m3) (c := k7c3) (by decide +kernel) rfl rfl rfl (by decide +kernel)
set_option maxRecDepth 65536 in
theorem w_c8 : (Jvm.Cond.code ({ cls := "java/util/Objects", name := "checkFromToIndex", desc := "(III)I" } : Jvm.MethodName) jdk_31_method_18_code (3 : Nat) (Option.some Jvm.ClassFile.FieldType.int)).before args0 about1 = true := code_word (m := ⟨9, 1⟩) (meth := k9m1) (c := k9c1) (by decide +kernel) rfl rfl rfl (by decide +kernel)
set_option maxRecDepth 65536 in
theorem w_c9 : (Jvm.Cond.code ({ cls := "jdk/internal/util/Preconditions", name := "checkFromToIndex", desc := "(IIILjava/util/function/BiFunction;)I" } : Jvm.MethodName) jdk_41_method_12_code (4 : Nat) (Option.some Jvm.ClassFile.FieldType.int)).before args0 about1 = true := code_word (m := ⟨10, 1⟩) (meth := k10m1) (c := k10c1) (by decide +kernel) rfl rfl rfl (by decide +kernel)
set_option maxRecDepth 65536 in
theorem w_c10 : (Jvm.Cond.code ({ cls := "java/lang/String", name := "isLatin1", desc := "()Z" } : Jvm.MethodName) jdk_42_method_154_code (1 : Nat) (Option.some Jvm.ClassFile.FieldType.boolean)).before args0 about1 = true := code_word (m := ⟨7, 8⟩) (meth := k7m8) (c := k7c8) (by decide +kernel) rfl rfl rfl (by decide +kernel)
set_option maxRecDepth 65536 in
theorem w_c11 : (Jvm.Cond.code ({ cls := "com/example/daugava/daugava/iso20022/Iso20022IsMax35TextPinLaw", name := "low", desc := "(I)C" } : Jvm.MethodName) method_4_code (1 : Nat) (Option.some Jvm.ClassFile.FieldType.char)).before args0 about1 = true := code_word (m := ⟨1, 3⟩) (meth := k1m3) (c := k1c3) (by decide +kernel) rfl rfl rfl (by decide +kernel)
set_option maxRecDepth 65536 in
theorem w_c12 : (Jvm.Cond.code ({ cls := "java/lang/String", name := "<init>", desc := "([C)V" } : Jvm.MethodName) jdk_42_method_3_code (2 : Nat) (Option.none : Option Jvm.ClassFile.FieldType)).before args0 about1 = true := code_word (m := ⟨7, 1⟩) (meth := k7m1) (c := k7c1) (by decide +kernel) rfl rfl rfl (by decide +kernel)
set_option maxRecDepth 65536 in
theorem w_c13 : (Jvm.Cond.code ({ cls := "java/lang/String", name := "<init>", desc := "([CIILjava/lang/Void;)V" } : Jvm.MethodName) jdk_42_method_149_code (6 : Nat) (Option.none : Option Jvm.ClassFile.FieldType)).before args0 about1 = true := code_word (m := ⟨7, 5⟩) (meth := k7m5) (c := k7c5) (by decide +kernel) rfl rfl rfl (by decide +kernel)
set_option maxRecDepth 65536 in
theorem w_c14 : (Jvm.Cond.code ({ cls := "java/lang/Object", name := "<init>", desc := "()V" } : Jvm.MethodName) object_method_1_code (1 : Nat) (Option.none : Option Jvm.ClassFile.FieldType)).before args0 about1 = true := code_word (m := ⟨0, 0⟩) (meth := k0m0) (c := k0c0) (by decide +kernel) rfl rfl rfl (by decide +kernel)
set_option maxRecDepth 65536 in
theorem w_c15 : (Jvm.Cond.code ({ cls := "java/lang/StringUTF16", name := "compress", desc := "([CII)[B" } : Jvm.MethodName) jdk_52_method_16_code (6 : Nat) (Option.some (Jvm.ClassFile.FieldType.array Jvm.ClassFile.FieldType.byte))).before args0 about1 = true := code_word (m := ⟨11, 9⟩) (meth := k11m9) (c := k11c9) (by decide +kernel) rfl rfl rfl (by decide +kernel)
set_option maxRecDepth 65536 in
theorem w_c16 : (Jvm.Cond.code ({ cls := "java/lang/StringUTF16", name := "compress", desc := "([CI[BII)I" } : Jvm.MethodName) jdk_52_method_21_code (7 : Nat) (Option.some Jvm.ClassFile.FieldType.int)).before args0 about1 = true := code_word (m := ⟨11, 10⟩) (meth := k11m10) (c := k11c10) (by decide +kernel) rfl rfl rfl (by decide +kernel)
set_option maxRecDepth 65536 in
theorem w_c17 : (Jvm.Cond.code ({ cls := "java/lang/StringUTF16", name := "toBytes", desc := "([CII)[B" } : Jvm.MethodName) jdk_52_method_14_code (5 : Nat) (Option.some (Jvm.ClassFile.FieldType.array Jvm.ClassFile.FieldType.byte))).before args0 about1 = true := code_word (m := ⟨11, 7⟩) (meth := k11m7) (c := k11c7) (by decide +kernel) rfl rfl rfl (by decide +kernel)
set_option maxRecDepth 65536 in
theorem w_c18 : (Jvm.Cond.code ({ cls := "java/lang/StringUTF16", name := "newBytesFor", desc := "(I)[B" } : Jvm.MethodName) jdk_52_method_2_code (1 : Nat) (Option.some (Jvm.ClassFile.FieldType.array Jvm.ClassFile.FieldType.byte))).before args0 about1 = true := code_word (m := ⟨11, 1⟩) (meth := k11m1) (c := k11c1) (by decide +kernel) rfl rfl rfl (by decide +kernel)
set_option maxRecDepth 65536 in
theorem w_c19 : (Jvm.Cond.code ({ cls := "java/lang/StringUTF16", name := "newBytesLength", desc := "(I)I" } : Jvm.MethodName) jdk_52_method_3_code (1 : Nat) (Option.some Jvm.ClassFile.FieldType.int)).before args0 about1 = true := code_word (m := ⟨11, 2⟩) (meth := k11m2) (c := k11c2) (by decide +kernel) rfl rfl rfl (by decide +kernel)
set_option maxRecDepth 65536 in
theorem w_c20 : (Jvm.Cond.code ({ cls := "java/lang/StringUTF16", name := "putChar", desc := "([BII)V" } : Jvm.MethodName) jdk_52_method_4_code (3 : Nat) (Option.none : Option Jvm.ClassFile.FieldType)).before args0 about1 = true := code_word (m := ⟨11, 3⟩) (meth := k11m3) (c := k11c3) (by decide +kernel) rfl rfl rfl (by decide +kernel)
set_option maxRecDepth 65536 in
theorem w_c21 : (Jvm.Cond.code ({ cls := "java/lang/StringUTF16", name := "getChar", desc := "([BI)C" } : Jvm.MethodName) jdk_52_method_5_code (2 : Nat) (Option.some Jvm.ClassFile.FieldType.char)).before args0 about1 = true := code_word (m := ⟨11, 4⟩) (meth := k11m4) (c := k11c4) (by decide +kernel) rfl rfl rfl (by decide +kernel)
set_option maxRecDepth 65536 in
theorem w_c22 : (Jvm.Cond.code ({ cls := "java/lang/StringUTF16", name := "coderFromArrayLen", desc := "([BI)B" } : Jvm.MethodName) jdk_52_method_15_code (2 : Nat) (Option.some Jvm.ClassFile.FieldType.byte)).before args0 about1 = true := code_word (m := ⟨11, 8⟩) (meth := k11m8) (c := k11c8) (by decide +kernel) rfl rfl rfl (by decide +kernel)
set_option maxRecDepth 65536 in
theorem w_c23 : (Jvm.Cond.code ({ cls := "java/lang/StringUTF16", name := "codePointCount", desc := "([BII)I" } : Jvm.MethodName) jdk_52_method_12_code (3 : Nat) (Option.some Jvm.ClassFile.FieldType.int)).before args0 about1 = true := code_word (m := ⟨11, 6⟩) (meth := k11m6) (c := k11c6) (by decide +kernel) rfl rfl rfl (by decide +kernel)
set_option maxRecDepth 65536 in
theorem w_c24 : (Jvm.Cond.code ({ cls := "java/lang/StringUTF16", name := "codePointCount", desc := "([BIIZ)I" } : Jvm.MethodName) jdk_52_method_11_code (6 : Nat) (Option.some Jvm.ClassFile.FieldType.int)).before args0 about1 = true := code_word (m := ⟨11, 5⟩) (meth := k11m5) (c := k11c5) (by decide +kernel) rfl rfl rfl (by decide +kernel)
set_option maxRecDepth 65536 in
theorem w_c25 : (Jvm.Cond.code ({ cls := "java/lang/Character", name := "isHighSurrogate", desc := "(C)Z" } : Jvm.MethodName) jdk_89_method_14_code (1 : Nat) (Option.some Jvm.ClassFile.FieldType.boolean)).before args0 about1 = true := code_word (m := ⟨12, 0⟩) (meth := k12m0) (c := k12c0) (by decide +kernel) rfl rfl rfl (by decide +kernel)
set_option maxRecDepth 65536 in
theorem w_c26 : (Jvm.Cond.code ({ cls := "java/lang/Character", name := "isLowSurrogate", desc := "(C)Z" } : Jvm.MethodName) jdk_89_method_15_code (1 : Nat) (Option.some Jvm.ClassFile.FieldType.boolean)).before args0 about1 = true := code_word (m := ⟨12, 1⟩) (meth := k12m1) (c := k12c1) (by decide +kernel) rfl rfl rfl (by decide +kernel)
set_option maxRecDepth 65536 in
theorem w_c27 : (Jvm.Cond.code ({ cls := "java/lang/String", name := "valueOf", desc := "(C)Ljava/lang/String;" } : Jvm.MethodName) jdk_42_method_139_code (1 : Nat) (Option.some (Jvm.ClassFile.FieldType.object "java/lang/String"))).before args0 about1 = true := code_word (m := ⟨7, 4⟩) (meth := k7m4) (c := k7c4) (by decide +kernel) rfl rfl rfl (by decide +kernel)
set_option maxRecDepth 65536 in
theorem w_c28 : (Jvm.Cond.code ({ cls := "java/lang/StringLatin1", name := "canEncode", desc := "(C)Z" } : Jvm.MethodName) jdk_43_method_3_code (1 : Nat) (Option.some Jvm.ClassFile.FieldType.boolean)).before args0 about1 = true := code_word (m := ⟨13, 1⟩) (meth := k13m1) (c := k13c1) (by decide +kernel) rfl rfl rfl (by decide +kernel)
set_option maxRecDepth 65536 in
theorem w_c29 : (Jvm.Cond.code ({ cls := "java/lang/StringUTF16", name := "toBytes", desc := "(C)[B" } : Jvm.MethodName) jdk_52_method_24_code (2 : Nat) (Option.some (Jvm.ClassFile.FieldType.array Jvm.ClassFile.FieldType.byte))).before args0 about1 = true := code_word (m := ⟨11, 11⟩) (meth := k11m11) (c := k11c11) (by decide +kernel) rfl rfl rfl (by decide +kernel)
set_option maxRecDepth 65536 in
theorem w_c30 : (Jvm.Cond.code ({ cls := "java/lang/String", name := "<init>", desc := "([BB)V" } : Jvm.MethodName) jdk_42_method_151_code (3 : Nat) (Option.none : Option Jvm.ClassFile.FieldType)).before args0 about1 = true := code_word (m := ⟨7, 6⟩) (meth := k7m6) (c := k7c6) (by decide +kernel) rfl rfl rfl (by decide +kernel)
set_option maxRecDepth 65536 in
theorem w_c31 : (Jvm.Cond.code ({ cls := "java/lang/StringLatin1", name := "toBytes", desc := "(C)[B" } : Jvm.MethodName) jdk_43_method_46_code (1 : Nat) (Option.some (Jvm.ClassFile.FieldType.array Jvm.ClassFile.FieldType.byte))).before args0 about1 = true := code_word (m := ⟨13, 2⟩) (meth := k13m2) (c := k13c2) (by decide +kernel) rfl rfl rfl (by decide +kernel)
def codes1 : List Jvm.Cond := [Jvm.Cond.code x code maxLocals ret, Jvm.Cond.code ({ cls := "com/example/daugava/daugava/iso20022/Iso20022IsMax35TextPinLaw", name := "slot", desc := "([CIJJ)I" } : Jvm.MethodName) method_5_code (9 : Nat) (Option.some Jvm.ClassFile.FieldType.int), Jvm.Cond.code ({ cls := "com/example/daugava/daugava/iso20022/Iso20022IsMax35TextPinLaw", name := "high", desc := "(I)C" } : Jvm.MethodName) method_3_code (1 : Nat) (Option.some Jvm.ClassFile.FieldType.char), Jvm.Cond.code ({ cls := "com/example/daugava/daugava/iso20022/Iso20022IsMax35TextPinLaw", name := "plain", desc := "(I)C" } : Jvm.MethodName) method_2_code (2 : Nat) (Option.some Jvm.ClassFile.FieldType.char), Jvm.Cond.code ({ cls := "com/example/daugava/daugava/iso20022/Iso20022", name := "isMax35Text", desc := "(Ljava/lang/String;)Z" } : Jvm.MethodName) prog_52_method_2_code (2 : Nat) (Option.some Jvm.ClassFile.FieldType.boolean), Jvm.Cond.code ({ cls := "java/lang/String", name := "length", desc := "()I" } : Jvm.MethodName) jdk_42_method_54_code (1 : Nat) (Option.some Jvm.ClassFile.FieldType.int), Jvm.Cond.code ({ cls := "java/lang/String", name := "coder", desc := "()B" } : Jvm.MethodName) jdk_42_method_152_code (1 : Nat) (Option.some Jvm.ClassFile.FieldType.byte), Jvm.Cond.code ({ cls := "java/lang/String", name := "codePointCount", desc := "(II)I" } : Jvm.MethodName) jdk_42_method_59_code (3 : Nat) (Option.some Jvm.ClassFile.FieldType.int), Jvm.Cond.code ({ cls := "java/util/Objects", name := "checkFromToIndex", desc := "(III)I" } : Jvm.MethodName) jdk_31_method_18_code (3 : Nat) (Option.some Jvm.ClassFile.FieldType.int), Jvm.Cond.code ({ cls := "jdk/internal/util/Preconditions", name := "checkFromToIndex", desc := "(IIILjava/util/function/BiFunction;)I" } : Jvm.MethodName) jdk_41_method_12_code (4 : Nat) (Option.some Jvm.ClassFile.FieldType.int), Jvm.Cond.code ({ cls := "java/lang/String", name := "isLatin1", desc := "()Z" } : Jvm.MethodName) jdk_42_method_154_code (1 : Nat) (Option.some Jvm.ClassFile.FieldType.boolean), Jvm.Cond.code ({ cls := "com/example/daugava/daugava/iso20022/Iso20022IsMax35TextPinLaw", name := "low", desc := "(I)C" } : Jvm.MethodName) method_4_code (1 : Nat) (Option.some Jvm.ClassFile.FieldType.char), Jvm.Cond.code ({ cls := "java/lang/String", name := "<init>", desc := "([C)V" } : Jvm.MethodName) jdk_42_method_3_code (2 : Nat) (Option.none : Option Jvm.ClassFile.FieldType), Jvm.Cond.code ({ cls := "java/lang/String", name := "<init>", desc := "([CIILjava/lang/Void;)V" } : Jvm.MethodName) jdk_42_method_149_code (6 : Nat) (Option.none : Option Jvm.ClassFile.FieldType), Jvm.Cond.code ({ cls := "java/lang/Object", name := "<init>", desc := "()V" } : Jvm.MethodName) object_method_1_code (1 : Nat) (Option.none : Option Jvm.ClassFile.FieldType), Jvm.Cond.code ({ cls := "java/lang/StringUTF16", name := "compress", desc := "([CII)[B" } : Jvm.MethodName) jdk_52_method_16_code (6 : Nat) (Option.some (Jvm.ClassFile.FieldType.array Jvm.ClassFile.FieldType.byte)), Jvm.Cond.code ({ cls := "java/lang/StringUTF16", name := "compress", desc := "([CI[BII)I" } : Jvm.MethodName) jdk_52_method_21_code (7 : Nat) (Option.some Jvm.ClassFile.FieldType.int), Jvm.Cond.code ({ cls := "java/lang/StringUTF16", name := "toBytes", desc := "([CII)[B" } : Jvm.MethodName) jdk_52_method_14_code (5 : Nat) (Option.some (Jvm.ClassFile.FieldType.array Jvm.ClassFile.FieldType.byte)), Jvm.Cond.code ({ cls := "java/lang/StringUTF16", name := "newBytesFor", desc := "(I)[B" } : Jvm.MethodName) jdk_52_method_2_code (1 : Nat) (Option.some (Jvm.ClassFile.FieldType.array Jvm.ClassFile.FieldType.byte)), Jvm.Cond.code ({ cls := "java/lang/StringUTF16", name := "newBytesLength", desc := "(I)I" } : Jvm.MethodName) jdk_52_method_3_code (1 : Nat) (Option.some Jvm.ClassFile.FieldType.int), Jvm.Cond.code ({ cls := "java/lang/StringUTF16", name := "putChar", desc := "([BII)V" } : Jvm.MethodName) jdk_52_method_4_code (3 : Nat) (Option.none : Option Jvm.ClassFile.FieldType), Jvm.Cond.code ({ cls := "java/lang/StringUTF16", name := "getChar", desc := "([BI)C" } : Jvm.MethodName) jdk_52_method_5_code (2 : Nat) (Option.some Jvm.ClassFile.FieldType.char), Jvm.Cond.code ({ cls := "java/lang/StringUTF16", name := "coderFromArrayLen", desc := "([BI)B" } : Jvm.MethodName) jdk_52_method_15_code (2 : Nat) (Option.some Jvm.ClassFile.FieldType.byte), Jvm.Cond.code ({ cls := "java/lang/StringUTF16", name := "codePointCount", desc := "([BII)I" } : Jvm.MethodName) jdk_52_method_12_code (3 : Nat) (Option.some Jvm.ClassFile.FieldType.int), Jvm.Cond.code ({ cls := "java/lang/StringUTF16", name := "codePointCount", desc := "([BIIZ)I" } : Jvm.MethodName) jdk_52_method_11_code (6 : Nat) (Option.some Jvm.ClassFile.FieldType.int), Jvm.Cond.code ({ cls := "java/lang/Character", name := "isHighSurrogate", desc := "(C)Z" } : Jvm.MethodName) jdk_89_method_14_code (1 : Nat) (Option.some Jvm.ClassFile.FieldType.boolean), Jvm.Cond.code ({ cls := "java/lang/Character", name := "isLowSurrogate", desc := "(C)Z" } : Jvm.MethodName) jdk_89_method_15_code (1 : Nat) (Option.some Jvm.ClassFile.FieldType.boolean), Jvm.Cond.code ({ cls := "java/lang/String", name := "valueOf", desc := "(C)Ljava/lang/String;" } : Jvm.MethodName) jdk_42_method_139_code (1 : Nat) (Option.some (Jvm.ClassFile.FieldType.object "java/lang/String")), Jvm.Cond.code ({ cls := "java/lang/StringLatin1", name := "canEncode", desc := "(C)Z" } : Jvm.MethodName) jdk_43_method_3_code (1 : Nat) (Option.some Jvm.ClassFile.FieldType.boolean), Jvm.Cond.code ({ cls := "java/lang/StringUTF16", name := "toBytes", desc := "(C)[B" } : Jvm.MethodName) jdk_52_method_24_code (2 : Nat) (Option.some (Jvm.ClassFile.FieldType.array Jvm.ClassFile.FieldType.byte)), Jvm.Cond.code ({ cls := "java/lang/String", name := "<init>", desc := "([BB)V" } : Jvm.MethodName) jdk_42_method_151_code (3 : Nat) (Option.none : Option Jvm.ClassFile.FieldType), Jvm.Cond.code ({ cls := "java/lang/StringLatin1", name := "toBytes", desc := "(C)[B" } : Jvm.MethodName) jdk_43_method_46_code (1 : Nat) (Option.some (Jvm.ClassFile.FieldType.array Jvm.ClassFile.FieldType.byte))]
set_option maxRecDepth 65536 in
theorem codes_eq : words1.filter isCode = codes1 := rfl
theorem w_codes : ∀ c ∈ words1.filter isCode, c.before args0 about1 = true := by
  rw [codes_eq]
  intro c hc
  simp only [codes1, List.mem_cons, List.not_mem_nil, or_false] at hc
  rcases hc with rfl | rfl | rfl | rfl | rfl | rfl | rfl | rfl | rfl | rfl | rfl | rfl | rfl | rfl | rfl | rfl | rfl | rfl | rfl | rfl | rfl | rfl | rfl | rfl | rfl | rfl | rfl | rfl | rfl | rfl | rfl | rfl
  · exact w_c0
  · exact w_c1
  · exact w_c2
  · exact w_c3
  · exact w_c4
  · exact w_c5
  · exact w_c6
  · exact w_c7
  · exact w_c8
  · exact w_c9
  · exact w_c10
  · exact w_c11
  · exact w_c12
  · exact w_c13
  · exact w_c14
  · exact w_c15
  · exact w_c16
  · exact w_c17
  · exact w_c18
  · exact w_c19
  · exact w_c20
  · exact w_c21
  · exact w_c22
  · exact w_c23
  · exact w_c24
  · exact w_c25
  · exact w_c26
  · exact w_c27
  · exact w_c28
  · exact w_c29
  · exact w_c30
  · exact w_c31
set_option maxRecDepth 65536 in
theorem w_t1 : (words1.take 24).all (fun c => isCode c || c.before args0 about1) = true := by decide +kernel
set_option maxRecDepth 65536 in
theorem w_t2 : ((words1.drop 24).take 24).all (fun c => isCode c || c.before args0 about1) = true := by decide +kernel
set_option maxRecDepth 65536 in
theorem w_t3 : (((words1.drop 24).drop 24).take 24).all (fun c => isCode c || c.before args0 about1) = true := by decide +kernel
set_option maxRecDepth 65536 in
theorem w_t4 : ((((words1.drop 24).drop 24).drop 24).take 24).all (fun c => isCode c || c.before args0 about1) = true := by decide +kernel
set_option maxRecDepth 65536 in
theorem w_t5 : (((((words1.drop 24).drop 24).drop 24).drop 24).take 24).all (fun c => isCode c || c.before args0 about1) = true := by decide +kernel
set_option maxRecDepth 65536 in
theorem w_t6 : (((((words1.drop 24).drop 24).drop 24).drop 24).drop 24).all (fun c => isCode c || c.before args0 about1) = true := by decide +kernel
theorem w_tables : (allAtoms (Jvm.Cond.code x code maxLocals ret :: tables_1)).before args0 about1 = true := by
  rw [allAtoms_all]
  show words1.all (fun c => c.before args0 about1) = true
  refine all_split ?_ w_codes
  rw [← List.take_append_drop 24 words1, List.all_append, w_t1, ← List.take_append_drop 24 (words1.drop 24), List.all_append, w_t2, ← List.take_append_drop 24 ((words1.drop 24).drop 24), List.all_append, w_t3, ← List.take_append_drop 24 (((words1.drop 24).drop 24).drop 24), List.all_append, w_t4, ← List.take_append_drop 24 ((((words1.drop 24).drop 24).drop 24).drop 24), List.all_append, w_t5, w_t6]
  rfl
set_option maxRecDepth 65536 in
theorem w_rest : rest_1_c.before args0 about1 = true := by decide +kernel
set_option maxRecDepth 65536 in
theorem w_case : (Jvm.Cond.and given_1 narrow_1).before args0 about1 = true := by decide +kernel
set_option maxRecDepth 65536 in
theorem w_consts : constsHeld consts_1 about1 := Jvm.Lit.constsHeldB_iff.mp (by decide +kernel)
theorem w_applies : (headSpec (Jvm.Cond.code x code maxLocals ret :: tables_1) room_1).applies x e0.platform about1 = true :=
  (Spec.applies_iff w_frames).mpr ⟨w_running, w_runnable, w_alone, w_named, w_hears, w_ripe, w_room, w_tables⟩
theorem atStart : AtStart classFile x code maxLocals ret World_1 tables_1 room_1 Calls_1 rest_1 Pre_1 launch0 p0 e0 about1 theMethod args0 below0 :=
  ⟨lists_1, trivial, launch0.admits_env _ _ _, launch0.least_env, fairChoices_fair.cas, fairChoices_fair.clock, w_frames, w_args, w_heap, w_applies, ⟨w_consts, trivial⟩, w_rest, w_case⟩
end start1
theorem witness_1 : WitnessClaimed_1 := ⟨start1.p0, start1.e0, start1.about1, start1.theMethod, start1.args0, start1.below0, start1.atStart⟩
end Jvm.Pilot.@@N@@
