import JvmDerived
import JvmDerived.Pilot.@@N@@Statement
import JvmDerived.Pilot.@@N@@Code
set_option linter.unusedVariables false
set_option linter.unusedSimpArgs false
namespace Jvm.Own
open Sem ClassFile Op Lib Bundle Jvm.Stand Jvm.Free Jvm.LawKit Jvm.RoadKit
/-- the run from V comes to an end of which Φ holds -/
def Go (p : Program) (e : Env) (below : List Frame) (Φ : Outcome → State → Prop) (V : State) : Prop :=
  ∃ s₂ o, Steps p.tables e below V s₂ ∧ s₂.status = .running ∧ Ended s₂ below o ∧ Φ o s₂
/-- the end of a walk that interns nothing -/
def EndP (s : State) (Q : Option Value → Heap → List Loc → Prop) (C S : Nat) (o : Outcome) (U : State) : Prop :=
  ∃ v L, o = .returned v ∧ Q v U.heap L ∧ FrameEnd s o U L C S
/-- the end of a walk that may intern constants of EL -/
def EndH (Z : State) (EL : List (String × Nat)) (s : State) (Q : Option Value → Heap → List Loc → Prop) (C S : Nat) (o : Outcome) (U : State) : Prop :=
  ∃ v L, o = .returned v ∧ Q v U.heap L ∧ CHr Z EL s.vm s.heap U.vm U.heap ∧ ReturnedEndW s o U L C S
/-- what such a walk bears along -/
def HW (Z : State) (EL : List (String × Nat)) (s : State) (vm : Vm) (h : Heap) : Prop :=
  (∃ k0, s.Since vm k0 ∧ k0 ≤ h.size) ∧ CHr Z EL s.vm s.heap vm h
section G
variable {p : Program} {l : Launch} {e : Env} {R : Room} {s : State} {m : MethodId} {args : Array Value} {below : List Frame} {meth : Method} {c : Code} {T : State} {locs : List Loc} {cells slots : Nat}
  {Φ : Outcome → State → Prop} {V V' : State} {Z : State} {a0 : Array Value} {h h' : Heap} {EL : List (String × Nat)} {vm : Vm} {Q : Option Value → Heap → List Loc → Prop} {C S : Nat}
theorem Go.st (k : ∀ target, Steps p.tables e below V' target → Steps p.tables e below V target) (g : Go p e below Φ V') : Go p e below Φ V := by
  obtain ⟨s₂, o, h1, h2⟩ := g
  exact ⟨s₂, o, k _ h1, h2⟩
theorem Go.tr (k : Steps p.tables e below V V') (g : Go p e below Φ V') : Go p e below Φ V := by
  obtain ⟨s₂, o, h1, h2⟩ := g
  exact ⟨s₂, o, k.trans h1, h2⟩
theorem HW.ext (H : HW Z EL s vm h) (E : Ext h h') : HW Z EL s vm h' := by
  obtain ⟨⟨k0, h1, h2⟩, h3⟩ := H
  exact ⟨⟨k0, h1, Nat.le_trans h2 E.1⟩, h3.trans (CHr.ext E h3.1)⟩
theorem HW.wr (H : HW Z EL s vm h) {a : Addr} {sl : Nat} {v : Value} (W : Wr h h' a sl v) (S : Safe Z EL vm h a) : HW Z EL s vm h' := by
  obtain ⟨⟨k0, h1, h2⟩, h3⟩ := H
  exact ⟨⟨k0, h1, by rw [W.size]; exact h2⟩, h3.trans (CHr.wr W S h3.1)⟩
theorem HW.keep (H : HW Z EL s vm h) {ws : List Addr} (K : Keep h h' ws) (S : ∀ x ∈ ws, Safe Z EL vm h x) : HW Z EL s vm h' := by
  obtain ⟨⟨k0, h1, h2⟩, h3⟩ := H
  exact ⟨⟨k0, h1, Nat.le_trans h2 K.1⟩, h3.trans (CHr.keep K S h3.1)⟩
theorem keepE (K : Keep h h' []) : Ext h h' := ⟨K.1, fun a c q => K.2.1 a c q (fun z => nomatch z)⟩
theorem extK (E : Ext h h') : Keep h h' [] := (Keep.refl h []).ext E
/-- a String under construction, its value still null, is no booked one -/
theorem Safe.blank {x : Addr} (hal : Z.vm.Alike vm) (E : Exa Z h x "java/lang/String") (F : Fld Z h x "java/lang/String" "value" "[B" .null) : Safe Z EL vm h x := by
  rintro ⟨p, hp, u, a, hb, q, hq, F0, hy⟩
  obtain ⟨cS, ⟨⟨s1, s2, s3, ⟨cv, kv, iv, s4, s4'⟩, ⟨cc, kc, ic, s5, s5'⟩, s6, s7, s8, s9, s10, s11, s12, s13, s14, s15, s16⟩, hfS, hcS⟩, ⟨kS, k1, k2, k3⟩, hB, hbyt⟩ := F0
  rcases hy with rfl | rfl
  · obtain ⟨kv', z4⟩ := ff_back (U := Wst Z vm h) hal s4
    obtain ⟨cell, cf, k, i, f, f1, f2, f3, f4, f5, f6, f7⟩ := F
    cases f2.symm.trans z4
    have s1 : h[q.sa]? = some q.sC := s1
    cases f1.symm.trans s1
    have := f7.symm.trans s8
    simp at this
  · obtain ⟨cell, k, e1, e2, e3, e4, e5⟩ := E
    have s10 : h[q.sd]? = some q.SA := s10
    cases e1.symm.trans s10
    have hB : vm.findClass "[B" = some q.SA.cls := hB
    have hBZ : Z.vm.findClass "[B" = some q.SA.cls := by rw [← hal.findClass]; exact hB
    exact absurd (ids_ne e2 hBZ (by decide) rfl) (fun z => z)
/-- the contract of a body that interns nothing, from its walk -/
theorem openP {y : MethodName} {bytes : ByteArray} {maxL : Nat} {ret : Option FieldType} {ws : List Cond} {rm : Room} {as' : Array Value} (hp : plainFor y = true)
    (body : ∀ (p : Program) (e : Env) (s : State) (m : MethodId) (below : List Frame) (meth : Method) (c : Code) (T : State), p.tables.exec = Jvm.exec → c.code = bytes → c.maxLocals = maxL → meth.sig.returnType = ret → meth.locks = false → meth.name = y.name →
      Z.Warmed39 s.vm → s.vm.findClass y.cls = some m.cls → Stand p l e rm s m as' below meth c T [] 0 0 → T.heap = h → Go p e below (EndP s Q rm.cells rm.slots) (T.setTop (entryFrame m as' maxL))) :
    MetFree l y (head1 (Cond.code y bytes maxL ret :: ws) rm) (fun a U => a = as' ∧ Z.Warmed39 U.vm ∧ U.heap = h) (fun _ _ _ _ _ => True) (fun _ U o U' => ∃ v L, o = .returned v ∧ Q v U'.heap L ∧ FrameEnd U o U' L rm.cells rm.slots) := by
  refine MetFree.of_bodySF hp hisR ?_
  intro p e s m args below meth c s₁ Bd hml0 hP hK
  obtain ⟨rfl, hZ, hh⟩ := hP
  exact body p e s m below meth c s₁ Bd.exec Bd.bytes hml0 Bd.returns (BodyLoose.notSynchronized Bd) (name_of_methodNamed Bd.named Bd.method).1 hZ (findClass_of_methodNamed Bd.named) (Stand.of_body Bd) (by rw [← hh, Bd.state]; rfl)
/-- the contract of a body that may intern -/
theorem openH {y : MethodName} {bytes : ByteArray} {maxL : Nat} {ret : Option FieldType} {ws : List Cond} {rm : Room} {as' : Array Value} (hp : plainFor y = true)
    (body : ∀ (p : Program) (e : Env) (s : State) (m : MethodId) (below : List Frame) (meth : Method) (c : Code) (T : State) (vm : Vm), p.tables.exec = Jvm.exec → c.code = bytes → c.maxLocals = maxL → meth.sig.returnType = ret → meth.locks = false → meth.name = y.name →
      Z.Warmed39 vm → vm.findClass y.cls = some m.cls → Stand p l e rm (s.setVm vm) m as' below meth c T [] 0 0 → T.heap = h → HW Z EL s vm h → Go p e below (EndH Z EL s Q rm.cells rm.slots) (T.setTop (entryFrame m as' maxL))) :
    MetFree l y (head1 (Cond.code y bytes maxL ret :: ws) rm) (fun a U => a = as' ∧ Z.Warmed39 U.vm ∧ U.heap = h ∧ CHv Z EL U.vm h) (fun _ _ _ _ _ => True)
      (fun _ U o U' => ∃ v L, o = .returned v ∧ Q v U'.heap L ∧ CHr Z EL U.vm U.heap U'.vm U'.heap ∧ ReturnedEndW U o U' L rm.cells rm.slots) := by
  refine MetFree.of_bodySF hp hisR ?_
  intro p e s m args below meth c s₁ Bd hml0 hP hK
  obtain ⟨rfl, hZ, hh, hC⟩ := hP
  have hH : HW Z EL s s.vm h := ⟨⟨0, (State.WarmedH.refl s).since 0, Nat.zero_le _⟩, by rw [hh]; exact CHr.refl hC⟩
  exact body p e s m below meth c s₁ s.vm Bd.exec Bd.bytes hml0 Bd.returns (BodyLoose.notSynchronized Bd) (name_of_methodNamed Bd.named Bd.method).1 hZ (findClass_of_methodNamed Bd.named) (Stand.of_body Bd) (by rw [← hh, Bd.state]; rfl) hH
/-- a value is returned -/
theorem Go.ret (X : Stand p l e R s m args below meth c T locs cells slots) (hx : p.tables.exec = Jvm.exec) (hlk : meth.locks = false) (hT : T.heap = h) {pc : Nat} {Ls : Array Slot} {w : Value} {t : FieldType} {i : Instr} {rest : List Value} (hret : meth.sig.returnType = some t) (hn : narrow t w = w)
    (hi : (i = .ireturn ∧ (t = .int ∨ t = .boolean ∨ t = .byte ∨ t = .char ∨ t = .short) ∧ ∃ z, w = .int z) ∨ (i = .lreturn ∧ t = .long ∧ ∃ z, w = .long z) ∨ (i = .dreturn ∧ t = .double ∧ ∃ z, w = .double z) ∨ (i = .freturn ∧ t = .float ∧ ∃ z, w = .float z) ∨ (i = .areturn ∧ t.isReference = true ∧ w.isRef = true))
    (hd : decode c.code pc = .ok (i, 1)) (hc : cells ≤ C) (hs : slots ≤ S) (hQ : Q (some w) h locs) : Go p e below (EndP s Q C S) (T.setTop (mkF m pc Ls (w :: rest))) := by
  obtain ⟨fs, hr, hrun, hended, hW, hsame⟩ := X.leave (v := some w) (fun h => by rw [hret] at h; cases h) hlk
  refine ⟨_, _, retOut X hx hret hn hi hd hr, hrun, hended, _, _, rfl, ?_, ⟨_, rfl⟩, hW, hsame.mono hc hs⟩
  show Q (some w) T.heap locs
  rw [hT]; exact hQ
theorem Go.retV (X : Stand p l e R s m args below meth c T locs cells slots) (hx : p.tables.exec = Jvm.exec) (hlk : meth.locks = false) (hT : T.heap = h) {pc : Nat} {Ls : Array Slot} (hret : meth.sig.returnType = none)
    (hd : decode c.code pc = .ok (.return_, 1)) (hc : cells ≤ C) (hs : slots ≤ S) (hQ : Q none h locs) : Go p e below (EndP s Q C S) (T.setTop (mkF m pc Ls [])) := by
  obtain ⟨fs, hr, hrun, hended, hW, hsame⟩ := X.leave (v := none) (fun _ => rfl) hlk
  refine ⟨_, _, X.returnOut hx hret hd hr, hrun, hended, _, _, rfl, ?_, ⟨_, rfl⟩, hW, hsame.mono hc hs⟩
  show Q none T.heap locs
  rw [hT]; exact hQ
theorem endW_mono {o : Outcome} {U : State} {L : List Loc} {k n : Nat} (q : ReturnedEndW s o U L k n) (hc : k ≤ C) (hs : n ≤ S) : ReturnedEndW s o U L C S := ⟨q.1, q.2.1, q.2.2.1, q.2.2.2.mono hc hs⟩
theorem Go.retH (hEL : EW Z a0 EL) (H : HW Z EL s vm h) (hZ : Z.Warmed39 vm) (X : Stand p l e R (s.setVm vm) m args below meth c T locs cells slots) (hx : p.tables.exec = Jvm.exec) (hlk : meth.locks = false) (hT : T.heap = h) {pc : Nat} {Ls : Array Slot} {w : Value} {t : FieldType} {i : Instr} {rest : List Value} (hret : meth.sig.returnType = some t) (hn : narrow t w = w)
    (hi : (i = .ireturn ∧ (t = .int ∨ t = .boolean ∨ t = .byte ∨ t = .char ∨ t = .short) ∧ ∃ z, w = .int z) ∨ (i = .lreturn ∧ t = .long ∧ ∃ z, w = .long z) ∨ (i = .dreturn ∧ t = .double ∧ ∃ z, w = .double z) ∨ (i = .freturn ∧ t = .float ∧ ∃ z, w = .float z) ∨ (i = .areturn ∧ t.isReference = true ∧ w.isRef = true))
    (hd : decode c.code pc = .ok (i, 1)) (hc : cells ≤ C) (hs : slots ≤ S) (hQ : Q (some w) h locs) : Go p e below (EndH Z EL s Q C S) (T.setTop (mkF m pc Ls (w :: rest))) := by
  obtain ⟨⟨k0, h1, h2⟩, h3⟩ := H
  obtain ⟨fs, hr, hrun, hended, hE⟩ := X.leaveW h1 (by rw [hT]; exact h2) (v := some w) (fun h => by rw [hret] at h; cases h) hlk
  refine ⟨_, _, retOut X hx hret hn hi hd hr, hrun, hended, _, _, rfl, ?_, ?_, endW_mono hE hc hs⟩
  · show Q (some w) T.heap locs
    rw [hT]; exact hQ
  · show CHr Z EL s.vm s.heap T.vm T.heap
    rw [hT]; exact h3.trans (CHv.at X hZ hEL h3.1)
theorem Go.retVH (hEL : EW Z a0 EL) (H : HW Z EL s vm h) (hZ : Z.Warmed39 vm) (X : Stand p l e R (s.setVm vm) m args below meth c T locs cells slots) (hx : p.tables.exec = Jvm.exec) (hlk : meth.locks = false) (hT : T.heap = h) {pc : Nat} {Ls : Array Slot} (hret : meth.sig.returnType = none)
    (hd : decode c.code pc = .ok (.return_, 1)) (hc : cells ≤ C) (hs : slots ≤ S) (hQ : Q none h locs) : Go p e below (EndH Z EL s Q C S) (T.setTop (mkF m pc Ls [])) := by
  obtain ⟨⟨k0, h1, h2⟩, h3⟩ := H
  obtain ⟨fs, hr, hrun, hended, hE⟩ := X.leaveW h1 (by rw [hT]; exact h2) (v := none) (fun _ => rfl) hlk
  refine ⟨_, _, X.returnOut hx hret hd hr, hrun, hended, _, _, rfl, ?_, ?_, endW_mono hE hc hs⟩
  · show Q none T.heap locs
    rw [hT]; exact hQ
  · show CHr Z EL s.vm s.heap T.vm T.heap
    rw [hT]; exact h3.trans (CHv.at X hZ hEL h3.1)
theorem riI {z : Int32} {t : FieldType} (ht : t = .int ∨ t = .boolean ∨ t = .byte ∨ t = .char ∨ t = .short) : ((Instr.ireturn = .ireturn ∧ (t = .int ∨ t = .boolean ∨ t = .byte ∨ t = .char ∨ t = .short) ∧ ∃ z', Value.int z = .int z') ∨ (Instr.ireturn = .lreturn ∧ t = .long ∧ ∃ z', Value.int z = .long z') ∨ (Instr.ireturn = .dreturn ∧ t = .double ∧ ∃ z', Value.int z = .double z') ∨ (Instr.ireturn = .freturn ∧ t = .float ∧ ∃ z', Value.int z = .float z') ∨ (Instr.ireturn = .areturn ∧ t.isReference = true ∧ (Value.int z).isRef = true)) := Or.inl ⟨rfl, ht, z, rfl⟩
theorem riA {w : Value} {t : FieldType} (ht : t.isReference = true) (hw : w.isRef = true) : ((Instr.areturn = .ireturn ∧ (t = .int ∨ t = .boolean ∨ t = .byte ∨ t = .char ∨ t = .short) ∧ ∃ z', w = .int z') ∨ (Instr.areturn = .lreturn ∧ t = .long ∧ ∃ z', w = .long z') ∨ (Instr.areturn = .dreturn ∧ t = .double ∧ ∃ z', w = .double z') ∨ (Instr.areturn = .freturn ∧ t = .float ∧ ∃ z', w = .float z') ∨ (Instr.areturn = .areturn ∧ t.isReference = true ∧ w.isRef = true)) := Or.inr (Or.inr (Or.inr (Or.inr ⟨rfl, ht, hw⟩)))
/-- the shape that every payer here has -/
abbrev PB (l : Launch) (R : Room) (p : Program) (e : Env) (below : List Frame) (s : State) (args : Array Value) (y : MethodName) (W : Nat) (as' : Array Value) (h : Heap) (ck sk : Nat) (Q : Option Value → Heap → List Loc → Prop) : Prop :=
  Back l R p e below s args y 3 W (fun A a => a = as' ∧ A.U.heap = h ∧ A.cells + ck ≤ R.cells ∧ A.slots + sk ≤ R.slots) (fun A _ v B => ∃ L, Q v B.U.heap L ∧ B.locs = A.locs ++ L ∧ B.cells = A.cells + ck ∧ B.slots = A.slots + sk)
variable {own : String} {index W ck sk pc : Nat} {y : MethodName} {bytes : ByteArray} {maxL : Nat} {ret : Option FieldType} {Ls : Array Slot} {argsL rest st : List Value} {ps : List FieldType} {rr : Option FieldType} {a : Addr}
/-- invokestatic of a callee that interns nothing -/
theorem Go.callP (X : Stand p l e R s m args below meth c T locs cells slots) (hx : p.tables.exec = Jvm.exec) (hZ : Z.Warmed39 s.vm) (hown : s.vm.findClass own = some m.cls) (hml : c.maxLocals = Ls.size) (hT : T.heap = h)
    (w1 : (Cond.methodLink own index y).before a0 Z = true) (w2 : (Cond.static y).before a0 Z = true) (w3 : (Cond.initialized y.cls).before a0 Z = true) (w4 : (Cond.code y bytes maxL ret).before a0 Z = true) (hy : y.cls ≠ "java/lang/invoke/MethodHandle" ∧ y.cls ≠ "java/lang/invoke/VarHandle")
    (hpd : parseMethodDescriptor y.desc = some ⟨ps, rr⟩) (hlen : argsL.length = ps.length) (hst : st = argsL.reverse ++ rest) (hW : (rest.map fun v => v.category).sum ≤ W) (hd : decode c.code pc = .ok (.invokestatic index, 3))
    (hB : PB l R p e below s args y W argsL.toArray h ck sk Q) (hc : cells + ck ≤ R.cells) (hs : slots + sk ≤ R.slots)
    (k : ∀ (v : Option Value) (T' : State) (h' : Heap) (L : List Loc), T'.heap = h' → Q v h' L → Stand p l e R s m args below meth c T' (locs ++ L) (cells + ck) (slots + sk) → Go p e below Φ (T'.setTop (mkF m (pc + 3) Ls (v.toList ++ rest)))) :
    Go p e below Φ (T.setTop (mkF m pc Ls st)) := by
  subst hst
  obtain ⟨v, vm₁, ⟨T', L', k', n'⟩, -, X', ⟨L, hQ, l', y', z'⟩, st⟩ := Jvm.LawKit.callS X hx (y := y) hown (mvT hZ w1) (mvT hZ w2) (mvT hZ w3) (mvT hZ w4) hy hB (g := mkF m pc Ls (argsL.reverse ++ rest)) rfl hml.symm (argsL := argsL) (rest := rest) (lenOf hpd hlen) rfl (by show 2 * 0 + _ ≤ _; omega) hd (fun _ _ => ⟨rfl, hT, hc, hs⟩)
  dsimp only [Pt.U, Pt.locs, Pt.cells, Pt.slots] at X' l' y' z' st hQ
  subst l' y' z'
  exact Go.st st (k v T' _ L rfl hQ X')
/-- invokespecial of a constructor that interns nothing -/
theorem Go.specP (X : Stand p l e R s m args below meth c T locs cells slots) (hx : p.tables.exec = Jvm.exec) (hZ : Z.Warmed39 s.vm) (hown : s.vm.findClass own = some m.cls) (hml : c.maxLocals = Ls.size) (hT : T.heap = h) (hy1 : y.name = "<init>")
    (w1 : (Cond.methodLink own index y).before a0 Z = true) (w2 : (Cond.instanceMethod y).before a0 Z = true) (w4 : (Cond.code y bytes maxL none).before a0 Z = true) (hy : y.cls ≠ "java/lang/invoke/MethodHandle" ∧ y.cls ≠ "java/lang/invoke/VarHandle")
    (hpd : parseMethodDescriptor y.desc = some ⟨ps, rr⟩) (hlen : argsL.length = ps.length) (hst : st = argsL.reverse ++ .ref a :: rest) (hW : (rest.map fun v => v.category).sum ≤ W) (hd : decode c.code pc = .ok (.invokespecial index, 3))
    (hB : PB l R p e below s args y W (.ref a :: argsL).toArray h ck sk Q) (hc : cells + ck ≤ R.cells) (hs : slots + sk ≤ R.slots)
    (k : ∀ (v : Option Value) (T' : State) (h' : Heap) (L : List Loc), T'.heap = h' → Q v h' L → Stand p l e R s m args below meth c T' (locs ++ L) (cells + ck) (slots + sk) → Go p e below Φ (T'.setTop (mkF m (pc + 3) Ls (v.toList ++ rest)))) :
    Go p e below Φ (T.setTop (mkF m pc Ls st)) := by
  subst hst
  obtain ⟨v, vm₁, ⟨T', L', k', n'⟩, -, X', ⟨L, hQ, l', y', z'⟩, st⟩ := X.specialBack hx (y := y) hy1 hown (mvT hZ w1) (mvT hZ w2) (mvT hZ w4) hy hB (g := mkF m pc Ls (argsL.reverse ++ .ref a :: rest)) rfl hml.symm (Steps.refl _) (a := a) (argsL := argsL) (rest := rest) (lenOf hpd hlen) rfl (by show 2 * 0 + _ ≤ _; omega) hd (fun _ _ => ⟨rfl, hT, hc, hs⟩)
  dsimp only [Pt.U, Pt.locs, Pt.cells, Pt.slots] at X' l' y' z' st hQ
  subst l' y' z'
  exact Go.tr st (k v T' _ L rfl hQ X')
/-- invokevirtual of a callee that interns nothing, on an object exactly of class K -/
theorem Go.virtP {K : String} {z : MethodName} (X : Stand p l e R s m args below meth c T locs cells slots) (hx : p.tables.exec = Jvm.exec) (hZ : Z.Warmed39 s.vm) (hown : s.vm.findClass own = some m.cls) (hml : c.maxLocals = Ls.size) (hT : T.heap = h) (E : Exa Z h a K)
    (w1 : (Cond.methodLink own index y).before a0 Z = true) (w2 : (Cond.declares y).before a0 Z = true) (w3 : (Cond.selects K y z).before a0 Z = true) (w4 : (Cond.instanceMethod z).before a0 Z = true) (hy : y.cls ≠ "java/lang/invoke/MethodHandle" ∧ y.cls ≠ "java/lang/invoke/VarHandle")
    (hpd : parseMethodDescriptor y.desc = some ⟨ps, rr⟩) (hlen : argsL.length = ps.length) (hst : st = argsL.reverse ++ .ref a :: rest) (hW : (rest.map fun v => v.category).sum ≤ W) (hd : decode c.code pc = .ok (.invokevirtual index, 3))
    (hnf : NotFace s y)
    (hB : PB l R p e below s args z W (.ref a :: argsL).toArray h ck sk Q) (hc : cells + ck ≤ R.cells) (hs : slots + sk ≤ R.slots)
    (k : ∀ (v : Option Value) (T' : State) (h' : Heap) (L : List Loc), T'.heap = h' → Q v h' L → Stand p l e R s m args below meth c T' (locs ++ L) (cells + ck) (slots + sk) → Go p e below Φ (T'.setTop (mkF m (pc + 3) Ls (v.toList ++ rest)))) :
    Go p e below Φ (T.setTop (mkF m pc Ls st)) := by
  subst hst
  obtain ⟨cq, kq, qa, qb, qc⟩ := isOf (s := s) (T := T) hZ hT E
  obtain ⟨v, vm₁, ⟨T', L', k', n'⟩, -, X', ⟨L, hQ, l', y', z'⟩, st⟩ := X.virtualBack hx (y := y) (z := z) hown (mvT hZ w1) (mvT hZ w2) hnf (mvT hZ w3) (mvT hZ w4) hy hB qa qc (g := mkF m pc Ls (argsL.reverse ++ .ref a :: rest)) rfl hml.symm (Steps.refl _) (argsL := argsL) (rest := rest) (lenOf hpd hlen) rfl (by show 2 * 0 + _ ≤ _; omega) hd (fun _ _ => ⟨rfl, hT, hc, hs⟩)
  dsimp only [Pt.U, Pt.locs, Pt.cells, Pt.slots] at X' l' y' z' st hQ
  subst l' y' z'
  exact Go.tr st (k v T' _ L rfl hQ X')
/-- the shape of a payer that may intern -/
abbrev PBH (Z : State) (EL : List (String × Nat)) (l : Launch) (R : Room) (p : Program) (e : Env) (below : List Frame) (s : State) (vm : Vm) (args : Array Value) (y : MethodName) (W : Nat) (as' : Array Value) (h : Heap) (ck sk : Nat) (Q : Option Value → Heap → List Loc → Prop) : Prop :=
  BackS l R p e below (s.setVm vm) args y 3 W (fun A a => a = as' ∧ A.U.heap = h ∧ A.cells + ck ≤ R.cells ∧ A.slots + sk ≤ R.slots) (fun A _ v B => ∃ L, Q v B.U.heap L ∧ B.locs = A.locs ++ L ∧ B.cells = A.cells + ck ∧ B.slots = A.slots + sk ∧ CHr Z EL vm h B.U.vm B.U.heap)
theorem HW.call (H : HW Z EL s vm h) (hT : T.heap = h) {U : State} (h1 : (s.setVm vm).Since U.vm U.heap.size) (h2 : T.heap.size ≤ U.heap.size) (h3 : CHr Z EL vm h U.vm U.heap) : HW Z EL s U.vm U.heap := by
  obtain ⟨⟨k0, g1, g2⟩, g3⟩ := H
  exact ⟨⟨_, g1.trans h1 (Nat.le_trans g2 (by rw [← hT]; exact h2)), Nat.le_refl _⟩, g3.trans h3⟩
/-- invokestatic of a callee that may intern -/
theorem Go.callH (H : HW Z EL s vm h) (X : Stand p l e R (s.setVm vm) m args below meth c T locs cells slots) (hx : p.tables.exec = Jvm.exec) (hZ : Z.Warmed39 vm) (hown : vm.findClass own = some m.cls) (hml : c.maxLocals = Ls.size) (hT : T.heap = h)
    (w1 : (Cond.methodLink own index y).before a0 Z = true) (w2 : (Cond.static y).before a0 Z = true) (w3 : (Cond.initialized y.cls).before a0 Z = true) (w4 : (Cond.code y bytes maxL ret).before a0 Z = true) (hy : y.cls ≠ "java/lang/invoke/MethodHandle" ∧ y.cls ≠ "java/lang/invoke/VarHandle")
    (hpd : parseMethodDescriptor y.desc = some ⟨ps, rr⟩) (hlen : argsL.length = ps.length) (hst : st = argsL.reverse ++ rest) (hW : (rest.map fun v => v.category).sum ≤ W) (hd : decode c.code pc = .ok (.invokestatic index, 3))
    (hB : PBH Z EL l R p e below s vm args y W argsL.toArray h ck sk Q) (hc : cells + ck ≤ R.cells) (hs : slots + sk ≤ R.slots)
    (k : ∀ (v : Option Value) (T' : State) (h' : Heap) (L : List Loc) (vm' : Vm), T'.heap = h' → Q v h' L → Z.Warmed39 vm' → vm'.findClass own = some m.cls → HW Z EL s vm' h' → CHr Z EL vm h vm' h' → Stand p l e R (s.setVm vm') m args below meth c T' (locs ++ L) (cells + ck) (slots + sk) → Go p e below Φ (T'.setTop (mkF m (pc + 3) Ls (v.toList ++ rest)))) :
    Go p e below Φ (T.setTop (mkF m pc Ls st)) := by
  subst hst
  obtain ⟨v, vm₁, ⟨T', L', k', n'⟩, -, X', hS', hG', ⟨L, hQ, l', y', z', hR⟩, st⟩ := callSS X hx (y := y) hown (mvT (s := s.setVm vm) hZ w1) (mvT (s := s.setVm vm) hZ w2) (mvT (s := s.setVm vm) hZ w3) (mvT (s := s.setVm vm) hZ w4) hy hB (g := mkF m pc Ls (argsL.reverse ++ rest)) rfl hml.symm (argsL := argsL) (rest := rest) (lenOf hpd hlen) rfl (by show 2 * 0 + _ ≤ _; omega) hd (fun _ _ => ⟨rfl, hT, hc, hs⟩)
  dsimp only [Pt.U, Pt.locs, Pt.cells, Pt.slots] at X' l' y' z' st hQ hS' hG' hR
  subst l' y' z'
  have hW' : Z.Warmed39 T'.vm := State.Warmed39.trans (t := s.setVm vm) hZ hS'.1
  exact Go.tr st (k v T' _ L T'.vm rfl hQ hW' ((hS'.1.alike.findClass _ _).trans hown) (H.call hT hS' hG' hR) hR X')
/-- invokespecial of a constructor that may intern -/
theorem Go.specH (H : HW Z EL s vm h) (X : Stand p l e R (s.setVm vm) m args below meth c T locs cells slots) (hx : p.tables.exec = Jvm.exec) (hZ : Z.Warmed39 vm) (hown : vm.findClass own = some m.cls) (hml : c.maxLocals = Ls.size) (hT : T.heap = h) (hy1 : y.name = "<init>")
    (w1 : (Cond.methodLink own index y).before a0 Z = true) (w2 : (Cond.instanceMethod y).before a0 Z = true) (w4 : (Cond.code y bytes maxL none).before a0 Z = true) (hy : y.cls ≠ "java/lang/invoke/MethodHandle" ∧ y.cls ≠ "java/lang/invoke/VarHandle")
    (hpd : parseMethodDescriptor y.desc = some ⟨ps, rr⟩) (hlen : argsL.length = ps.length) (hst : st = argsL.reverse ++ .ref a :: rest) (hW : (rest.map fun v => v.category).sum ≤ W) (hd : decode c.code pc = .ok (.invokespecial index, 3))
    (hB : PBH Z EL l R p e below s vm args y W (.ref a :: argsL).toArray h ck sk Q) (hc : cells + ck ≤ R.cells) (hs : slots + sk ≤ R.slots)
    (k : ∀ (v : Option Value) (T' : State) (h' : Heap) (L : List Loc) (vm' : Vm), T'.heap = h' → Q v h' L → Z.Warmed39 vm' → vm'.findClass own = some m.cls → HW Z EL s vm' h' → CHr Z EL vm h vm' h' → Stand p l e R (s.setVm vm') m args below meth c T' (locs ++ L) (cells + ck) (slots + sk) → Go p e below Φ (T'.setTop (mkF m (pc + 3) Ls (v.toList ++ rest)))) :
    Go p e below Φ (T.setTop (mkF m pc Ls st)) := by
  subst hst
  obtain ⟨v, vm₁, ⟨T', L', k', n'⟩, -, X', hS', hG', ⟨L, hQ, l', y', z', hR⟩, st⟩ := X.specialBackS hx (y := y) hy1 hown (mvT (s := s.setVm vm) hZ w1) (mvT (s := s.setVm vm) hZ w2) (mvT (s := s.setVm vm) hZ w4) hy hB (g := mkF m pc Ls (argsL.reverse ++ .ref a :: rest)) rfl hml.symm (Steps.refl _) (a := a) (argsL := argsL) (rest := rest) (lenOf hpd hlen) rfl (by show 2 * 0 + _ ≤ _; omega) hd (fun _ _ => ⟨rfl, hT, hc, hs⟩)
  dsimp only [Pt.U, Pt.locs, Pt.cells, Pt.slots] at X' l' y' z' st hQ hS' hG' hR
  subst l' y' z'
  have hW' : Z.Warmed39 T'.vm := State.Warmed39.trans (t := s.setVm vm) hZ hS'.1
  exact Go.tr st (k v T' _ L T'.vm rfl hQ hW' ((hS'.1.alike.findClass _ _).trans hown) (H.call hT hS' hG' hR) hR X')
/-- what a body leaves that answers w and touches nothing -/
abbrev QV (w : Value) (h0 : Heap) (v : Option Value) (h : Heap) (L : List Loc) : Prop := v = some w ∧ L = [] ∧ h = h0
/-- invokestatic of such a body -/
theorem Go.callV {w : Value} (X : Stand p l e R s m args below meth c T locs cells slots) (hx : p.tables.exec = Jvm.exec) (hZ : Z.Warmed39 s.vm) (hown : s.vm.findClass own = some m.cls) (hml : c.maxLocals = Ls.size) (hT : T.heap = h)
    (w1 : (Cond.methodLink own index y).before a0 Z = true) (w2 : (Cond.static y).before a0 Z = true) (w3 : (Cond.initialized y.cls).before a0 Z = true) (w4 : (Cond.code y bytes maxL ret).before a0 Z = true) (hy : y.cls ≠ "java/lang/invoke/MethodHandle" ∧ y.cls ≠ "java/lang/invoke/VarHandle")
    (hpd : parseMethodDescriptor y.desc = some ⟨ps, rr⟩) (hlen : argsL.length = ps.length) (hst : st = argsL.reverse ++ rest) (hW : (rest.map fun v => v.category).sum ≤ W) (hd : decode c.code pc = .ok (.invokestatic index, 3))
    (hB : PB l R p e below s args y W argsL.toArray h 0 0 (QV w h)) (hc : cells ≤ R.cells) (hs : slots ≤ R.slots)
    (k : ∀ (T' : State), T'.heap = h → Stand p l e R s m args below meth c T' locs cells slots → Go p e below Φ (T'.setTop (mkF m (pc + 3) Ls (w :: rest)))) :
    Go p e below Φ (T.setTop (mkF m pc Ls st)) := by
  refine Go.callP X hx hZ hown hml hT w1 w2 w3 w4 hy hpd hlen hst hW hd hB hc hs ?_
  rintro v T' h' L hT' ⟨rfl, rfl, rfl⟩ X'
  rw [List.append_nil] at X'
  exact k T' hT' X'
/-- invokevirtual of such a body -/
theorem Go.virtV {K : String} {z : MethodName} {w : Value} (X : Stand p l e R s m args below meth c T locs cells slots) (hx : p.tables.exec = Jvm.exec) (hZ : Z.Warmed39 s.vm) (hown : s.vm.findClass own = some m.cls) (hml : c.maxLocals = Ls.size) (hT : T.heap = h) (E : Exa Z h a K)
    (w1 : (Cond.methodLink own index y).before a0 Z = true) (w2 : (Cond.declares y).before a0 Z = true) (w3 : (Cond.selects K y z).before a0 Z = true) (w4 : (Cond.instanceMethod z).before a0 Z = true) (hy : y.cls ≠ "java/lang/invoke/MethodHandle" ∧ y.cls ≠ "java/lang/invoke/VarHandle")
    (hpd : parseMethodDescriptor y.desc = some ⟨ps, rr⟩) (hlen : argsL.length = ps.length) (hst : st = argsL.reverse ++ .ref a :: rest) (hW : (rest.map fun v => v.category).sum ≤ W) (hd : decode c.code pc = .ok (.invokevirtual index, 3))
    (hnf : NotFace s y)
    (hB : PB l R p e below s args z W (.ref a :: argsL).toArray h 0 0 (QV w h)) (hc : cells ≤ R.cells) (hs : slots ≤ R.slots)
    (k : ∀ (T' : State), T'.heap = h → Stand p l e R s m args below meth c T' locs cells slots → Go p e below Φ (T'.setTop (mkF m (pc + 3) Ls (w :: rest)))) :
    Go p e below Φ (T.setTop (mkF m pc Ls st)) := by
  refine Go.virtP X hx hZ hown hml hT E w1 w2 w3 w4 hy hpd hlen hst hW hd hnf hB hc hs ?_
  rintro v T' h' L hT' ⟨rfl, rfl, rfl⟩ X'
  rw [List.append_nil] at X'
  exact k T' hT' X'
/-- ldc of a String constant of EL, its text read -/
theorem Go.ldcS (H : HW Z EL s vm h) (X : Stand p l e R (s.setVm vm) m args below meth c T locs cells slots) (hx : p.tables.exec = Jvm.exec) (hZ : Z.Warmed39 vm) (hown : vm.findClass own = some m.cls) (hT : T.heap = h) {text : String}
    (w : (Cond.stringLink own index text).before a0 Z = true) (wS : ∀ a ∈ Bundle.stringAtoms, a.before a0 Z = true) (hEL : EW Z a0 EL) (hmem : (own, index) ∈ EL) {vs : List Value} {z : Int32}
    (ht : (∀ c ∈ text.toList, c.toNat < 256) ∧ text.toList.map (fun c => Value.int (Jvm.Lit.byteI c.toNat.toUInt16)) = vs) (hz : ¬ z < 0) (hl : z.toNatClampNeg = vs.length) (hd : decode c.code pc = .ok (.ldc index, 2)) {n : Nat} (hn : 4 * text.toList.length ≤ n) (hbig : n ≤ 536870912) (hc : cells + 2 ≤ R.cells) (hl' : slots + (n + 4) ≤ R.slots)
    (k : ∀ (a : Addr) (T' : State) (h' : Heap) (vm' : Vm) (b : Addr) (kb : ClassId), T'.heap = h' → Ext h h' → Z.Warmed39 vm' → vm'.findClass own = some m.cls → HW Z EL s vm' h' → CHr Z EL vm h vm' h' →
      Exa Z h' a "java/lang/String" → Fld Z h' a "java/lang/String" "coder" "B" (.int 0) → Fld Z h' a "java/lang/String" "value" "[B" (.ref b) → Arv Z h' b kb .byte z vs (.int 0) → Stand p l e R (s.setVm vm') m args below meth c T' locs (cells + 2) (slots + (n + 4)) → Go p e below Φ (T'.setTop (mkF m (pc + 2) Ls (.ref a :: st)))) :
    Go p e below Φ (T.setTop (mkF m pc Ls st)) := by
  obtain ⟨⟨k0, g1, g2⟩, g3⟩ := H
  obtain ⟨a, T', h', k1, b, kb, X', hT', E', hS', hk', hZ', hown', LE, LC, LV, LA, -, -, hR, -, -, st'⟩ := ldcCH X hx hZ hown w wS hT g1 g2 hEL hmem g3.1 ht hz hl (g := mkF m pc Ls st) rfl hd hn hbig hc hl'
  exact Go.st st' (k a T' h' T'.vm b kb hT' E' hZ' hown' ⟨⟨k1, hS', hk'⟩, g3.trans hR⟩ hR LE LC LV LA X')
/-- roads that meet: what differs becomes a variable -/
theorem own_cutT {h : Heap} (X : Stand p l e R s m args below meth c T locs cells slots) (hT : T.heap = h) (F : Int32 → JFrame) (a : Int32)
    (K : ∀ (v : Int32) (T' : State), v = a → T'.heap = h → Stand p l e R s m args below meth c T' locs cells slots → Go p e below Φ (T'.setTop (F v)))
    (g : (∀ (v : Int32) (T' : State), v = a → T'.heap = h → Stand p l e R s m args below meth c T' locs cells slots → Go p e below Φ (T'.setTop (F v))) → Go p e below Φ V) : Go p e below Φ V := g K
/-! arrays, by natural indices -/
theorem own_int {n : Nat} (h : n < 2147483648) : (Int32.ofNat n).toInt = n := Int32.toInt_ofNat_small h
theorem own_clamp {n : Nat} (h : n < 2147483648) : (Int32.ofNat n).toNatClampNeg = n := by
  rw [Int32.toNatClampNeg, own_int h]; rfl
theorem own_nn {n : Nat} (h : n < 2147483648) : ¬ Int32.ofNat n < 0 := by
  rw [Int32.lt_iff_toInt_lt, own_int h]; show ¬ (n : Int) < 0; omega
theorem own_lt {a b : Nat} (ha : a < 2147483648) (hb : b < 2147483648) : Int32.ofNat a < Int32.ofNat b ↔ a < b := by
  rw [Int32.lt_iff_toInt_lt, own_int ha, own_int hb]; omega
theorem own_eqN {a b : Nat} (ha : a < 2147483648) (hb : b < 2147483648) : Int32.ofNat a = Int32.ofNat b ↔ a = b := by
  rw [← Int32.toInt_inj, own_int ha, own_int hb]; omega
theorem own_succ (n : Nat) : Int32.ofNat n + (1 : Int32) = Int32.ofNat (n + 1) := by
  show _ + Int32.ofNat 1 = _
  rw [← Int32.ofNat_add]
theorem own_dbl {n : Nat} (h : 2 * n < 2147483648) : Int32.ofNat n <<< ((1 : Int32) &&& 31) = Int32.ofNat (2 * n) := by
  rw [shlm (x := Int32.ofNat n) (k := 1) (m := 2) (by decide)]
  show _ * Int32.ofNat 2 = _
  rw [← Int32.ofNat_mul, Nat.mul_comm]
variable {k : ClassId} {N : Int32} {vs : List Value} {dv : Value} {ty : FieldType} {i : Nat} {w : Value}
theorem Go.caloadN (X : Stand p l e R s m args below meth c T locs cells slots) (hx : p.tables.exec = Jvm.exec) (hZ : Z.Warmed39 s.vm) (hT : T.heap = h) (F : Arv Z h a k .char N vs dv) (hi : i < N.toNatClampNeg) (hi2 : i < 2147483648) (hv : vs.getD i dv = w) (hd : decode c.code pc = .ok (.caload, 1))
    (g : Go p e below Φ (T.setTop (mkF m (pc + 1) Ls (w :: rest)))) : Go p e below Φ (T.setTop (mkF m pc Ls (.int (Int32.ofNat i) :: .ref a :: rest))) := by
  obtain ⟨cl, A, -, S0, M0, H0, U0⟩ := F
  have hin : ¬ (Int32.ofNat i < 0 ∨ cl.slots.size ≤ (Int32.ofNat i).toNatClampNeg) := by
    rw [own_clamp hi2, S0]; rintro (q | q)
    · exact own_nn hi2 q
    · omega
  have hat : cl.slots[(Int32.ofNat i).toNatClampNeg]? = some w := H0.at hin (by rw [own_clamp hi2]; exact hv)
  exact Go.st (fun t kk => X.caload hx (j := Int32.ofNat i) (v := w) (by rw [hT]; exact A.1) (State.isArrayOf_alike hZ.alike A.2.1) A.2.2 hin hat (g := mkF m pc Ls (.int (Int32.ofNat i) :: .ref a :: rest)) rfl rfl hd t kk) g
theorem Go.baloadN (X : Stand p l e R s m args below meth c T locs cells slots) (hx : p.tables.exec = Jvm.exec) (hZ : Z.Warmed39 s.vm) (hT : T.heap = h) (F : Arv Z h a k .byte N vs dv) (hi : i < N.toNatClampNeg) (hi2 : i < 2147483648) (hv : vs.getD i dv = w) (hd : decode c.code pc = .ok (.baload, 1))
    (g : Go p e below Φ (T.setTop (mkF m (pc + 1) Ls (w :: rest)))) : Go p e below Φ (T.setTop (mkF m pc Ls (.int (Int32.ofNat i) :: .ref a :: rest))) := by
  obtain ⟨cl, A, -, S0, M0, H0, U0⟩ := F
  have hin : ¬ (Int32.ofNat i < 0 ∨ cl.slots.size ≤ (Int32.ofNat i).toNatClampNeg) := by
    rw [own_clamp hi2, S0]; rintro (q | q)
    · exact own_nn hi2 q
    · omega
  have hat : cl.slots[(Int32.ofNat i).toNatClampNeg]? = some w := H0.at hin (by rw [own_clamp hi2]; exact hv)
  exact Go.st (fun t kk => X.baloadBytes hx (j := Int32.ofNat i) (v := w) (by rw [hT]; exact A.1) (State.isArrayOf_alike hZ.alike A.2.1) A.2.2 hin hat (g := mkF m pc Ls (.int (Int32.ofNat i) :: .ref a :: rest)) rfl rfl hd t kk) g
theorem Go.alen (X : Stand p l e R s m args below meth c T locs cells slots) (hx : p.tables.exec = Jvm.exec) (hZ : Z.Warmed39 s.vm) (hT : T.heap = h) (F : Arv Z h a k ty N vs dv) (hd : decode c.code pc = .ok (.arraylength, 1))
    (g : Go p e below Φ (T.setTop (mkF m (pc + 1) Ls (.int N :: rest)))) : Go p e below Φ (T.setTop (mkF m pc Ls (.ref a :: rest))) := by
  obtain ⟨cl, A, -, S0, M0, H0, U0⟩ := F
  refine Go.st (fun t kk => X.arraylength hx (by rw [hT]; exact A.1) (State.isArrayOf_alike hZ.alike A.2.1) (g := mkF m pc Ls (.ref a :: rest)) rfl rfl hd t kk) ?_
  rw [len_of S0 M0]; exact g
theorem own_getD_set (vs : List Value) (i : Nat) (x dv : Value) (h : i < vs.length) : ∀ j, (vs.set i x).getD j dv = if j = i then x else vs.getD j dv := fun j => by
  simp only [List.getD_eq_getElem?_getD, List.getElem?_set]
  by_cases q : i = j
  · subst q; simp [h]
  · rw [if_neg q, if_neg (fun z => q z.symm)]
/-- bastore at a natural index -/
theorem Go.stBN {x : Int32} (X : Stand p l e R s m args below meth c T locs cells slots) (hx : p.tables.exec = Jvm.exec) (hZ : Z.Warmed39 s.vm) (hT : T.heap = h) (F : Arv Z h a k .byte N vs dv) (hi : i < N.toNatClampNeg) (hi2 : i < 2147483648) (hl : i < vs.length) (hd : decode c.code pc = .ok (.bastore, 1))
    (g : ∀ (T' : State) (h' : Heap), T'.heap = h' → Wr h h' a i (.int x.toInt8.toInt32) → Arv Z h' a k .byte N (vs.set i (.int x.toInt8.toInt32)) dv → Stand p l e R s m args below meth c T' (locs ++ [⟨a, i⟩]) cells slots → Go p e below Φ (T'.setTop (mkF m (pc + 1) Ls rest))) :
    Go p e below Φ (T.setTop (mkF m pc Ls (.int x :: .int (Int32.ofNat i) :: .ref a :: rest))) := by
  obtain ⟨cl, A, q0, S0, M0, H0, U0⟩ := F
  have hin : ¬ (Int32.ofNat i < 0 ∨ cl.slots.size ≤ (Int32.ofNat i).toNatClampNeg) := by
    rw [own_clamp hi2, S0]; rintro (q | q)
    · exact own_nn hi2 q
    · omega
  obtain ⟨T', h', X', hT', W', st⟩ := stB X hx hZ hT A (j := Int32.ofNat i) hin (g := mkF m pc Ls (.int x :: .int (Int32.ofNat i) :: .ref a :: rest)) rfl rfl hd
  have V' := Arv.set A q0 S0 M0 H0 U0 (fits_nar_byte x) W' i (own_clamp hi2) hl
  rw [own_clamp hi2] at W' X'
  exact Go.st st (g T' h' hT' W' V' X')
/-- castore at a natural index -/
theorem Go.stCN {x : Int32} (X : Stand p l e R s m args below meth c T locs cells slots) (hx : p.tables.exec = Jvm.exec) (hZ : Z.Warmed39 s.vm) (hT : T.heap = h) (F : Arv Z h a k .char N vs dv) (hi : i < N.toNatClampNeg) (hi2 : i < 2147483648) (hl : i < vs.length) (hd : decode c.code pc = .ok (.castore, 1))
    (g : ∀ (T' : State) (h' : Heap), T'.heap = h' → Wr h h' a i (.int (nar .char x)) → Arv Z h' a k .char N (vs.set i (.int (nar .char x))) dv → Stand p l e R s m args below meth c T' (locs ++ [⟨a, i⟩]) cells slots → Go p e below Φ (T'.setTop (mkF m (pc + 1) Ls rest))) :
    Go p e below Φ (T.setTop (mkF m pc Ls (.int x :: .int (Int32.ofNat i) :: .ref a :: rest))) := by
  obtain ⟨cl, A, q0, S0, M0, H0, U0⟩ := F
  have hin : ¬ (Int32.ofNat i < 0 ∨ cl.slots.size ≤ (Int32.ofNat i).toNatClampNeg) := by
    rw [own_clamp hi2, S0]; rintro (q | q)
    · exact own_nn hi2 q
    · omega
  obtain ⟨T', h', X', hT', W', st⟩ := stC X hx hZ hT A (j := Int32.ofNat i) hin (g := mkF m pc Ls (.int x :: .int (Int32.ofNat i) :: .ref a :: rest)) rfl rfl hd
  have V' := Arv.set A q0 S0 M0 H0 U0 (fits_nar_char x) W' i (own_clamp hi2) hl
  rw [own_clamp hi2] at W' X'
  exact Go.st st (g T' h' hT' W' V' X')
/-- newarray of n components -/
theorem Go.newA {aty : ArrayType} {n cap : Nat} (X : Stand p l e R s m args below meth c T locs cells slots) (hx : p.tables.exec = Jvm.exec) (hZ : Z.Warmed39 s.vm) (hT : T.heap = h) (w : (Cond.arrayClass (newarray.typeOf aty)).before a0 Z = true) (hd : decode c.code pc = .ok (.newarray aty, 2))
    (hn : n < 2147483648) (hcap : n ≤ cap) (hb : cap * 8 ≤ 536870912) (hc : cells + 1 ≤ R.cells) (hl : slots + cap ≤ R.slots)
    (g : ∀ (b : Addr) (T' : State) (h' : Heap) (kb : ClassId), b = h.size → T'.heap = h' → Ext h h' → Arv Z h' b kb (newarray.typeOf aty) (Int32.ofNat n) [] (defaultValue (newarray.typeOf aty)) → Stand p l e R s m args below meth c T' locs (cells + 1) (slots + cap) → Go p e below Φ (T'.setTop (mkF m (pc + 2) Ls (.ref b :: rest)))) :
    Go p e below Φ (T.setTop (mkF m pc Ls (.int (Int32.ofNat n) :: rest))) := by
  obtain ⟨T', h', kb, X', hT', E', A', st⟩ := newP X hx hZ w hT (g := mkF m pc Ls (.int (Int32.ofNat n) :: rest)) rfl hd rfl (own_nn hn) (cap := cap) (by rw [own_clamp hn]; exact hcap) hb hc hl
  exact Go.st st (g _ T' h' kb rfl hT' E' (Arv.new A' (own_nn hn)) X')
end G
end Jvm.Own
/- laws to paste: Road.backV, Road.lenW, Road.chN, Road.codOf (cut by pick.py; bodies as the Statement names them) -/
namespace Jvm.Pilot.@@N@@
namespace StrChars
open Jvm Sem ClassFile Op Lib Jvm.Stand Jvm.Free.XT Jvm.Free.ALB Jvm.Free.JM Jvm.Free
open Jvm.Lib.Cold (StaticIs)
/-- a char array whose places are chars -/
def Ch (a : Addr) (A : Cell) (U : State) : Prop := Arr .char a A U ∧ Typed .char A
theorem Ch.mv {a : Addr} {A : Cell} {U U' : State} (h : Ch a A U) (hal : U.vm.Alike U'.vm) (hh : U'.heap = U.heap) : Ch a A U' := ⟨h.1.mv hal hh, h.2⟩
theorem Ch.keep {a : Addr} {A : Cell} {U U' : State} (h : Ch a A U) (hal : U.vm.Alike U'.vm) (hk : U'.heap[a]? = some A) : Ch a A U' := ⟨h.1.keep hal hk, h.2⟩
/-- what place i of a char[]'s cell holds -/
def cv (A : Cell) (i : Nat) : Int32 := match A.slots[i]? with | some (.int x) => x | _ => 0
theorem Ch.get {a : Addr} {A : Cell} {U : State} (h : Ch a A U) {i : Nat} (hi : i < A.slots.size) : A.slots[i]? = some (.int (cv A i)) := by
  have e := Array.getElem?_eq_getElem hi
  have f := h.2 i _ e
  unfold cv; rw [e]
  generalize A.slots[i] = v at f
  cases v <;> simp [fits] at f ⊢
/-- the byte that i2b leaves of a char -/
def lo8 (x : Int32) : Int32 := x.toInt8.toInt32
theorem fits_lo8 (y : Int32) : fits .byte (.int (lo8 y)) = true := by
  have h1 := y.toInt8.le_toInt
  have h2 := y.toInt8.toInt_lt
  simp only [lo8, fits, Bool.and_eq_true, decide_eq_true_eq, Int32.le_iff_toInt_le, Int8.toInt_toInt32, show (-128 : Int32).toInt = -128 from by decide, show (127 : Int32).toInt = 127 from by decide]
  omega
/-- A' is A but that each place j of lo .. hi - 1 holds f j -/
def Laid (A A' : Cell) (lo hi : Nat) (f : Nat → Value) : Prop := A'.cls = A.cls ∧ A'.vm = A.vm ∧ A'.slots.size = A.slots.size ∧ ∀ i, A'.slots[i]? = if lo ≤ i ∧ i < hi then some (f i) else A.slots[i]?
theorem Laid.zero (A : Cell) (lo : Nat) (f : Nat → Value) : Laid A A lo (lo + 0) f := ⟨rfl, rfl, rfl, fun i => by rw [if_neg (by omega)]⟩
theorem Laid.step {A Ak : Cell} {lo k : Nat} {f : Nat → Value} {v : Value} (h : Laid A Ak lo k f) (hlo : lo ≤ k) (hk : k < Ak.slots.size) (hv : v = f k) : Laid A (Ak.setSlot k v) lo (k + 1) f := by
  refine ⟨h.1, h.2.1, by simpa [Cell.setSlot] using h.2.2.1, fun i => ?_⟩
  by_cases e : k = i
  · subst e; rw [Cell.slots_setSlot_self v hk, if_pos (by omega), hv]
  · rw [Cell.slots_setSlot_ne v e, h.2.2.2 i]
    by_cases q : lo ≤ i ∧ i < k
    · rw [if_pos q, if_pos (by omega)]
    · rw [if_neg q, if_neg (by omega)]
def U16 : String := "java/lang/StringUTF16"
namespace Cmp5
def yN : MethodName := ⟨"java/lang/StringUTF16", "compress", "([CI[BII)I"⟩
abbrev yB : ByteArray := jdk_52_method_21_code
theorem d0 : decode yB 0 = .ok (.iconst 0, 1) := by decide +kernel
theorem d1 : decode yB 1 = .ok (.istore 5, 2) := by decide +kernel
theorem d3 : decode yB 3 = .ok (.iload 5, 2) := by decide +kernel
theorem d5 : decode yB 5 = .ok (.iload 4, 2) := by decide +kernel
theorem d7 : decode yB 7 = .ok (.if_icmp (.ge) 37, 3) := by decide +kernel
theorem d10 : decode yB 10 = .ok (.aload_n 0, 1) := by decide +kernel
theorem d11 : decode yB 11 = .ok (.iload_n 1, 1) := by decide +kernel
theorem d12 : decode yB 12 = .ok (.caload, 1) := by decide +kernel
theorem d13 : decode yB 13 = .ok (.istore 6, 2) := by decide +kernel
theorem d15 : decode yB 15 = .ok (.iload 6, 2) := by decide +kernel
theorem d17 : decode yB 17 = .ok (.sipush 255, 3) := by decide +kernel
theorem d20 : decode yB 20 = .ok (.if_icmp (.le) 6, 3) := by decide +kernel
theorem d26 : decode yB 26 = .ok (.aload_n 2, 1) := by decide +kernel
theorem d27 : decode yB 27 = .ok (.iload_n 3, 1) := by decide +kernel
theorem d28 : decode yB 28 = .ok (.iload 6, 2) := by decide +kernel
theorem d30 : decode yB 30 = .ok (.i2b, 1) := by decide +kernel
theorem d31 : decode yB 31 = .ok (.bastore, 1) := by decide +kernel
theorem d32 : decode yB 32 = .ok (.iinc 1 1, 3) := by decide +kernel
theorem d35 : decode yB 35 = .ok (.iinc 3 1, 3) := by decide +kernel
theorem d38 : decode yB 38 = .ok (.iinc 5 1, 3) := by decide +kernel
theorem d41 : decode yB 41 = .ok (.goto (-38), 3) := by decide +kernel
theorem d44 : decode yB 44 = .ok (.iload 4, 2) := by decide +kernel
theorem d46 : decode yB 46 = .ok (.ireturn, 1) := by decide +kernel
def site : List Cond := []
def tab : Cond := tabOf yN yB 7 (some .int) site
def P (b : Addr) (A : Cell) (d : Addr) (B : Cell) (o q len : Nat) (args : Array Value) (s : State) : Prop := args = #[.ref b, .int (Int32.ofNat o), .ref d, .int (Int32.ofNat q), .int (Int32.ofNat len)] ∧ Ch b A s ∧ Arr .byte d B s ∧ b ≠ d ∧ o + len ≤ A.slots.size ∧ q + len ≤ B.slots.size ∧ ∀ i, i < len → ¬ 255 < cv A (o + i)
def E (b : Addr) (A : Cell) (d : Addr) (B : Cell) (o q len : Nat) (r : Option Value) (s u : State) : Prop := r = some (.int (Int32.ofNat len)) ∧ ∃ B', Put d B' s u ∧ Laid B B' q (q + len) (fun j => Value.int (lo8 (cv A (o + (j - q)))))
/-- no char of the range above 255: len; the places written hold each char's low byte -/
theorem law (l : Launch) (b : Addr) (A : Cell) (d : Addr) (B : Cell) (o q len : Nat) : Law l yN 5 5 0 0 yB 7 (some .int) site (P b A d B o q len) (E b A d B o q len) (copyLocs d q len) 0 0 := by
  refine Law.of_walk (plainFor_of_name (by decide +kernel)) (by decide +kernel) (by decide +kernel) (by decide) (fun _ _ h => by rw [h.1]; rfl) (fun _ U U' hal hh h => ⟨h.1, h.2.1.mv hal hh, h.2.2.1.mv hal hh, h.2.2.2⟩) (fun r U U' V V' h1 hal h2 h => ⟨h.1, h.2.elim fun B' q => ⟨B', q.1.mv h1 h2, q.2⟩⟩) ?_
  intro p e s m args below meth c s₁ X0 hexec hbytes hml hret hlk hnm hown hh0 W hP
  obtain ⟨rfl, hA, hB, hne, l1, l2, hp⟩ := hP
  have c1 : Steps p.tables e below (s₁.setTop (entryFrame m #[.ref b, .int (Int32.ofNat o), .ref d, .int (Int32.ofNat q), .int (Int32.ofNat len)] 7)) (s₁.setTop (mkF m 0 #[.val (.ref b), .val (.int (Int32.ofNat o)), .val (.ref d), .val (.int (Int32.ofNat q)), .val (.int (Int32.ofNat len)), .unset, .unset] [])) := entry rfl
  have hA0 := hA.1.mv X0.warmed.alike hh0
  have hB0 := hB.mv X0.warmed.alike hh0
  have a31 := hA.1.2.2.2
  have c2 : Steps p.tables e below (s₁.setTop (entryFrame m #[.ref b, .int (Int32.ofNat o), .ref d, .int (Int32.ofNat q), .int (Int32.ofNat len)] 7)) (s₁.setTop (mkF m 3 #[.val (.ref b), .val (.int (Int32.ofNat o)), .val (.ref d), .val (.int (Int32.ofNat q)), .val (.int (Int32.ofNat len)), .val (.int 0), .unset] [])) := c1.trans (by
    refine iconstV X0.here hexec rfl 0 (hb hbytes d0) (by decide) ?_
    refine XS.istore X0.here hexec rfl (hb hbytes d1) rfl rfl ?_
    exact Steps.refl _)
  have loop : ∀ (r i : Nat), i + r = len → ∀ (z : Slot), (z = .unset ∨ ∃ w, z = .val w ∧ w.category = 1) → ∀ (Tl : State) (Bk : Cell), Stand p l e { frames := 0, locals := 0, cells := 0, slots := 0 } s m #[.ref b, .int (Int32.ofNat o), .ref d, .int (Int32.ofNat q), .int (Int32.ofNat len)] below meth c Tl ([] ++ copyLocs d q i) 0 0 → Put d Bk s₁ Tl → Laid B Bk q (q + i) (fun j => Value.int (lo8 (cv A (o + (j - q))))) →
      Steps p.tables e below (s₁.setTop (entryFrame m #[.ref b, .int (Int32.ofNat o), .ref d, .int (Int32.ofNat q), .int (Int32.ofNat len)] 7)) (Tl.setTop (mkF m 3 #[.val (.ref b), .val (.int (Int32.ofNat (o + i))), .val (.ref d), .val (.int (Int32.ofNat (q + i))), .val (.int (Int32.ofNat len)), .val (.int (Int32.ofNat i)), z] [])) → ∃ (T' : State) (B' : Cell) (z' : Slot), Stand p l e { frames := 0, locals := 0, cells := 0, slots := 0 } s m #[.ref b, .int (Int32.ofNat o), .ref d, .int (Int32.ofNat q), .int (Int32.ofNat len)] below meth c T' ([] ++ copyLocs d q len) 0 0 ∧ Put d B' s₁ T' ∧ Laid B B' q (q + len) (fun j => Value.int (lo8 (cv A (o + (j - q))))) ∧
      Steps p.tables e below (s₁.setTop (entryFrame m #[.ref b, .int (Int32.ofNat o), .ref d, .int (Int32.ofNat q), .int (Int32.ofNat len)] 7)) (T'.setTop (mkF m 3 #[.val (.ref b), .val (.int (Int32.ofNat (o + len))), .val (.ref d), .val (.int (Int32.ofNat (q + len))), .val (.int (Int32.ofNat len)), .val (.int (Int32.ofNat len)), z'] [])) := by
    intro r
    induction r with
    | zero =>
      intro i hi z hz Tl Bk Xl pl fl cl
      have hil : i = len := by omega
      rw [hil] at Xl fl cl
      exact ⟨Tl, Bk, z, Xl, pl, fl, cl⟩
    | succ r ih =>
      intro i hi z hz Tl Bk Xl pl fl cl
      have all := X0.warmed.alike.symm.trans Xl.warmed.alike
      have hAl := hA0.keep all (pl.other hne hA0.1)
      have hBk := hB0.like all pl.1 fl.1 fl.2.1 fl.2.2.1
      have hlt : q + i < Bk.slots.size := by rw [fl.2.2.1]; omega
      have c3 : Steps p.tables e below (s₁.setTop (entryFrame m #[.ref b, .int (Int32.ofNat o), .ref d, .int (Int32.ofNat q), .int (Int32.ofNat len)] 7)) (Tl.setTop (mkF m 12 #[.val (.ref b), .val (.int (Int32.ofNat (o + i))), .val (.ref d), .val (.int (Int32.ofNat (q + i))), .val (.int (Int32.ofNat len)), .val (.int (Int32.ofNat i)), z] [.int (Int32.ofNat (o + i)), .ref b])) := cl.trans (by
        refine XS.iload Xl.here hexec rfl (hb hbytes d3) rfl ?_
        refine XS.iload Xl.here hexec rfl (hb hbytes d5) rfl ?_
        refine XS.icmpNo Xl.here hexec rfl (hb hbytes d7) rfl (ii_ge_f (lt32 (by omega) (by omega))) ?_
        refine XS.aloadN Xl.here hexec rfl (hb hbytes d10) rfl rfl ?_
        refine XS.iloadN Xl.here hexec rfl (hb hbytes d11) rfl ?_
        exact Steps.refl _)
      have c4 : Steps p.tables e below (s₁.setTop (entryFrame m #[.ref b, .int (Int32.ofNat o), .ref d, .int (Int32.ofNat q), .int (Int32.ofNat len)] 7)) (Tl.setTop (mkF m 13 #[.val (.ref b), .val (.int (Int32.ofNat (o + i))), .val (.ref d), .val (.int (Int32.ofNat (q + i))), .val (.int (Int32.ofNat len)), .val (.int (Int32.ofNat i)), z] [.int (cv A (o + i))])) := c3.trans (by
        refine Xl.aget hexec hAl rfl (hA.get (i := o + i) (by omega)) rfl rfl (hb hbytes d12) ?_
        exact Steps.refl _)
      have c5 : Steps p.tables e below (s₁.setTop (entryFrame m #[.ref b, .int (Int32.ofNat o), .ref d, .int (Int32.ofNat q), .int (Int32.ofNat len)] 7)) (Tl.setTop (mkF m 15 #[.val (.ref b), .val (.int (Int32.ofNat (o + i))), .val (.ref d), .val (.int (Int32.ofNat (q + i))), .val (.int (Int32.ofNat len)), .val (.int (Int32.ofNat i)), .val (.int (cv A (o + i)))] [])) := c4.trans (by
        refine XS.istoreS Xl.here hexec rfl (hb hbytes d13) rfl rfl hz ?_
        exact Steps.refl _)
      have c6 : Steps p.tables e below (s₁.setTop (entryFrame m #[.ref b, .int (Int32.ofNat o), .ref d, .int (Int32.ofNat q), .int (Int32.ofNat len)] 7)) (Tl.setTop (mkF m 31 #[.val (.ref b), .val (.int (Int32.ofNat (o + i))), .val (.ref d), .val (.int (Int32.ofNat (q + i))), .val (.int (Int32.ofNat len)), .val (.int (Int32.ofNat i)), .val (.int (cv A (o + i)))] [.int (lo8 (cv A (o + i))), .int (Int32.ofNat (q + i)), .ref d])) := c5.trans (by
        refine XS.iload Xl.here hexec rfl (hb hbytes d15) rfl ?_
        refine sipushV Xl.here hexec rfl 255 (hb hbytes d17) (by decide) ?_
        refine XS.icmpYes Xl.here hexec rfl (pc0 := 20) rfl (hb hbytes d20) rfl (ii_le_t (hp i (by omega))) (by decide) rfl ?_
        refine XS.aloadN Xl.here hexec rfl (hb hbytes d26) rfl rfl ?_
        refine XS.iloadN Xl.here hexec rfl (hb hbytes d27) rfl ?_
        refine XS.iload Xl.here hexec rfl (hb hbytes d28) rfl ?_
        refine i2b Xl.here hexec rfl (hb hbytes d30) rfl ?_
        exact Steps.refl _)
      obtain ⟨T7, X7, p7, st7⟩ := Xl.aput hexec hBk rfl hlt rfl (fits_lo8 (cv A (o + i))) (g := (mkF m 31 #[.val (.ref b), .val (.int (Int32.ofNat (o + i))), .val (.ref d), .val (.int (Int32.ofNat (q + i))), .val (.int (Int32.ofNat len)), .val (.int (Int32.ofNat i)), .val (.int (cv A (o + i)))] [.int (lo8 (cv A (o + i))), .int (Int32.ofNat (q + i)), .ref d])) rfl (rest := []) rfl (hb hbytes d31)
      have c8 : Steps p.tables e below (s₁.setTop (entryFrame m #[.ref b, .int (Int32.ofNat o), .ref d, .int (Int32.ofNat q), .int (Int32.ofNat len)] 7)) (T7.setTop (mkF m 32 #[.val (.ref b), .val (.int (Int32.ofNat (o + i))), .val (.ref d), .val (.int (Int32.ofNat (q + i))), .val (.int (Int32.ofNat len)), .val (.int (Int32.ofNat i)), .val (.int (cv A (o + i)))] [])) := c6.trans (st7 _ (Steps.refl _))
      have c9 : Steps p.tables e below (s₁.setTop (entryFrame m #[.ref b, .int (Int32.ofNat o), .ref d, .int (Int32.ofNat q), .int (Int32.ofNat len)] 7)) (T7.setTop (mkF m 3 #[.val (.ref b), .val (.int (Int32.ofNat (o + i) + 1)), .val (.ref d), .val (.int (Int32.ofNat (q + i) + 1)), .val (.int (Int32.ofNat len)), .val (.int (Int32.ofNat i + 1)), .val (.int (cv A (o + i)))] [])) := c8.trans (by
        refine iincV X7.here hexec rfl 1 (hb hbytes d32) (by decide) rfl rfl ?_
        refine iincV X7.here hexec rfl 1 (hb hbytes d35) (by decide) rfl rfl ?_
        refine iincV X7.here hexec rfl 1 (hb hbytes d38) (by decide) rfl rfl ?_
        refine XS.goto X7.here hexec rfl (pc0 := 41) rfl (hb hbytes d41) (by decide) rfl ?_
        exact Steps.refl _)
      have c10 : Steps p.tables e below (s₁.setTop (entryFrame m #[.ref b, .int (Int32.ofNat o), .ref d, .int (Int32.ofNat q), .int (Int32.ofNat len)] 7)) (T7.setTop (mkF m 3 #[.val (.ref b), .val (.int (Int32.ofNat (o + (i + 1)))), .val (.ref d), .val (.int (Int32.ofNat (q + (i + 1)))), .val (.int (Int32.ofNat len)), .val (.int (Int32.ofNat (i + 1))), .val (.int (cv A (o + i)))] [])) := by
        have := c9
        rw [succ32, succ32, succ32] at this
        exact this
      exact ih (i + 1) (by omega) _ (Or.inr ⟨_, rfl, rfl⟩) T7 _ (by rw [copyLocs_step, ← List.append_assoc]; exact X7) (pl.trans p7) (fl.step (by omega) hlt (by simp)) c10
  obtain ⟨T9, B9, z9, X9, p9, f9, g9⟩ := loop len 0 (by omega) .unset (Or.inl rfl) s₁ B (by simpa [copyLocs] using X0) ⟨hB0.1, fun _ _ => rfl, rfl⟩ (Laid.zero _ _ _) c2
  have c11 : Steps p.tables e below (s₁.setTop (entryFrame m #[.ref b, .int (Int32.ofNat o), .ref d, .int (Int32.ofNat q), .int (Int32.ofNat len)] 7)) (T9.setTop (mkF m 46 #[.val (.ref b), .val (.int (Int32.ofNat (o + len))), .val (.ref d), .val (.int (Int32.ofNat (q + len))), .val (.int (Int32.ofNat len)), .val (.int (Int32.ofNat len)), z9] [.int (Int32.ofNat len)])) := g9.trans (by
    refine XS.iload X9.here hexec rfl (hb hbytes d3) rfl ?_
    refine XS.iload X9.here hexec rfl (hb hbytes d5) rfl ?_
    refine XS.icmpYes X9.here hexec rfl (pc0 := 7) rfl (hb hbytes d7) rfl (ii_ge_t (nlt32 (by omega) (Nat.le_refl _))) (by decide) rfl ?_
    refine XS.iload X9.here hexec rfl (hb hbytes d44) rfl ?_
    exact Steps.refl _)
  exact ⟨T9, some (.int (Int32.ofNat len)), _, _, _, X9, by simp, rfl, rfl, (fun h => by cases h), ⟨rfl, B9, p9.from hh0, f9⟩, fun fs hl => c11.trans (X9.ireturnOut hexec hret rfl (Or.inl rfl) (hb hbytes d46) hl)⟩
end Cmp5
namespace Cmp3
def yN : MethodName := ⟨"java/lang/StringUTF16", "compress", "([CII)[B"⟩
abbrev yB : ByteArray := jdk_52_method_16_code
theorem d0 : decode yB 0 = .ok (.iload_n 2, 1) := by decide +kernel
theorem d1 : decode yB 1 = .ok (.newarray .byte, 2) := by decide +kernel
theorem d3 : decode yB 3 = .ok (.astore_n 3, 1) := by decide +kernel
theorem d4 : decode yB 4 = .ok (.aload_n 0, 1) := by decide +kernel
theorem d5 : decode yB 5 = .ok (.iload_n 1, 1) := by decide +kernel
theorem d6 : decode yB 6 = .ok (.aload_n 3, 1) := by decide +kernel
theorem d7 : decode yB 7 = .ok (.iconst 0, 1) := by decide +kernel
theorem d8 : decode yB 8 = .ok (.iload_n 2, 1) := by decide +kernel
theorem d9 : decode yB 9 = .ok (.invokestatic 115, 3) := by decide +kernel
theorem d12 : decode yB 12 = .ok (.istore 4, 2) := by decide +kernel
theorem d14 : decode yB 14 = .ok (.iload 4, 2) := by decide +kernel
theorem d16 : decode yB 16 = .ok (.iload_n 2, 1) := by decide +kernel
theorem d17 : decode yB 17 = .ok (.if_icmp (.eq) 40, 3) := by decide +kernel
theorem d57 : decode yB 57 = .ok (.aload_n 3, 1) := by decide +kernel
theorem d58 : decode yB 58 = .ok (.areturn, 1) := by decide +kernel
def site : List Cond := [.arrayClass .byte, Cmp5.tab] ++ staticW U16 115 Cmp5.yN
def tab : Cond := tabOf yN yB 6 (some (.array .byte)) site
def P (b : Addr) (A : Cell) (o len : Nat) (args : Array Value) (s : State) : Prop := args = #[.ref b, .int (Int32.ofNat o), .int (Int32.ofNat len)] ∧ Ch b A s ∧ o + len ≤ A.slots.size ∧ len ≤ 536870912 ∧ ∀ i, i < len → ¬ 255 < cv A (o + i)
def E (b : Addr) (A : Cell) (o len : Nat) (r : Option Value) (s u : State) : Prop := NewArr .byte "[B" len (fun j => .int (lo8 (cv A (o + j)))) r s u ∧ u.heap.size = s.heap.size + 1
/-- no char of the range above 255: a new byte[] of their low bytes -/
theorem law (l : Launch) (b : Addr) (A : Cell) (o len : Nat) : Law l yN 3 3 1 18 yB 6 (some (.array .byte)) site (P b A o len) (E b A o len) [] 1 len := by
  refine Law.of_walk (plainFor_of_name (by decide +kernel)) (by decide +kernel) (by decide +kernel) (by decide) (fun _ _ h => by rw [h.1]; rfl) (fun _ U U' hal hh h => ⟨h.1, h.2.1.mv hal hh, h.2.2⟩) (fun r U U' V V' h1 hal h2 h => ⟨NewArr.mv r U U' V V' h1 hal h2 h.1, by rw [h1, h2]; exact h.2⟩) ?_
  intro p e s m args below meth c s₁ X0 hexec hbytes hml hret hlk hnm hown hh0 W hP
  obtain ⟨rfl, hA, l1, l2, hp⟩ := hP
  have a31 := hA.1.2.2.2
  have c1 : Steps p.tables e below (s₁.setTop (entryFrame m #[.ref b, .int (Int32.ofNat o), .int (Int32.ofNat len)] 6)) (s₁.setTop (mkF m 0 #[.val (.ref b), .val (.int (Int32.ofNat o)), .val (.int (Int32.ofNat len)), .unset, .unset, .unset] [])) := entry rfl
  have c2 : Steps p.tables e below (s₁.setTop (entryFrame m #[.ref b, .int (Int32.ofNat o), .int (Int32.ofNat len)] 6)) (s₁.setTop (mkF m 1 #[.val (.ref b), .val (.int (Int32.ofNat o)), .val (.int (Int32.ofNat len)), .unset, .unset, .unset] [.int (Int32.ofNat len)])) := c1.trans (by
    refine XS.iloadN X0.here hexec rfl (hb hbytes d0) rfl ?_
    exact Steps.refl _)
  obtain ⟨T3, B3, X3, ba3, bs3, bv3, bh3, bf3, st3⟩ := X0.anew hexec (atype := .byte) (wk W (.arrayClass .byte)) rfl (by show len * 1 ≤ _; omega) (by omega) (g := (mkF m 1 #[.val (.ref b), .val (.int (Int32.ofNat o)), .val (.int (Int32.ofNat len)), .unset, .unset, .unset] [.int (Int32.ofNat len)])) rfl (hb hbytes d1) (rest := []) rfl (Nat.le_refl _) (by show 0 + len ≤ len; omega)
  rw [hh0] at ba3 st3
  have kp3 : XT.Kept s T3 := (XT.Kept.of_eq hh0).push bh3
  have hA3 := hA.keep X3.warmed.alike (kp3 _ _ hA.1.1)
  have hne : b ≠ s.heap.size := hA.1.ne
  have c4 : Steps p.tables e below (s₁.setTop (entryFrame m #[.ref b, .int (Int32.ofNat o), .int (Int32.ofNat len)] 6)) (T3.setTop (mkF m 3 #[.val (.ref b), .val (.int (Int32.ofNat o)), .val (.int (Int32.ofNat len)), .unset, .unset, .unset] [.ref s.heap.size])) := c2.trans (st3 _ (Steps.refl _))
  have c5 : Steps p.tables e below (s₁.setTop (entryFrame m #[.ref b, .int (Int32.ofNat o), .int (Int32.ofNat len)] 6)) (T3.setTop (mkF m 9 #[.val (.ref b), .val (.int (Int32.ofNat o)), .val (.int (Int32.ofNat len)), .val (.ref s.heap.size), .unset, .unset] [.int (Int32.ofNat len), .int 0, .ref s.heap.size, .int (Int32.ofNat o), .ref b])) := c4.trans (by
    refine XS.astoreN X3.here hexec rfl (hb hbytes d3) rfl rfl rfl ?_
    refine XS.aloadN X3.here hexec rfl (hb hbytes d4) rfl rfl ?_
    refine XS.iloadN X3.here hexec rfl (hb hbytes d5) rfl ?_
    refine XS.aloadN X3.here hexec rfl (hb hbytes d6) rfl rfl ?_
    refine iconstV X3.here hexec rfl 0 (hb hbytes d7) (by decide) ?_
    refine XS.iloadN X3.here hexec rfl (hb hbytes d8) rfl ?_
    exact Steps.refl _)
  obtain ⟨v6, T6, X6, E6, g6⟩ := X3.callS hexec (Cmp5.law l b A s.heap.size B3 o 0 len) hown (wks W (staticW U16 115 Cmp5.yN)) (wk W Cmp5.tab) (W := 0) (Nat.le_of_ble_eq_true rfl) (Nat.le_of_ble_eq_true rfl) (Nat.le_refl _) (by show 0 + len + 0 ≤ len; omega) (g := (mkF m 9 #[.val (.ref b), .val (.int (Int32.ofNat o)), .val (.int (Int32.ofNat len)), .val (.ref s.heap.size), .unset, .unset] [.int (Int32.ofNat len), .int (Int32.ofNat 0), .ref s.heap.size, .int (Int32.ofNat o), .ref b])) rfl (by rw [hml]; rfl) c5 (argsL := [.ref b, .int (Int32.ofNat o), .ref s.heap.size, .int (Int32.ofNat 0), .int (Int32.ofNat len)]) (rest := []) rfl rfl (by show 2 * 0 + 0 ≤ _; decide) (hb hbytes d9) (⟨rfl, hA3, ba3, hne, l1, by rw [bs3]; simp, hp⟩)
  obtain ⟨rfl, B6, p6, f6⟩ := E6
  have c7 : Steps p.tables e below (s₁.setTop (entryFrame m #[.ref b, .int (Int32.ofNat o), .int (Int32.ofNat len)] 6)) (T6.setTop (mkF m 12 #[.val (.ref b), .val (.int (Int32.ofNat o)), .val (.int (Int32.ofNat len)), .val (.ref s.heap.size), .unset, .unset] [.int (Int32.ofNat len)])) := g6
  have c8 : Steps p.tables e below (s₁.setTop (entryFrame m #[.ref b, .int (Int32.ofNat o), .int (Int32.ofNat len)] 6)) (T6.setTop (mkF m 58 #[.val (.ref b), .val (.int (Int32.ofNat o)), .val (.int (Int32.ofNat len)), .val (.ref s.heap.size), .val (.int (Int32.ofNat len)), .unset] [.ref s.heap.size])) := c7.trans (by
    refine XS.istore X6.here hexec rfl (hb hbytes d12) rfl rfl ?_
    refine XS.iload X6.here hexec rfl (hb hbytes d14) rfl ?_
    refine XS.iloadN X6.here hexec rfl (hb hbytes d16) rfl ?_
    refine XS.icmpYes X6.here hexec rfl (pc0 := 17) rfl (hb hbytes d17) rfl (ii_eq_t rfl) (by decide) rfl ?_
    refine XS.aloadN X6.here hexec rfl (hb hbytes d57) rfl rfl ?_
    exact Steps.refl _)
  have X8 := X6.wide (L' := []) (cells' := 1) (slots' := len) (fun x hx hlt => by
    simp only [List.nil_append, copyLocs, List.mem_map, List.mem_range] at hx
    obtain ⟨i, -, rfl⟩ := hx
    exact absurd hlt (Nat.lt_irrefl _)) (Nat.le_refl _) (by omega)
  exact ⟨T6, some (.ref s.heap.size), _, _, _, X8, rfl, rfl, rfl, (fun h => by cases h), ⟨⟨rfl, B6, ba3.like (X3.warmed.alike.symm.trans X6.warmed.alike) p6.1 f6.1 f6.2.1 f6.2.2.1, f6.2.1.trans bv3, by rw [X6.warmed.alike.findClass, f6.1]; exact bf3, by rw [f6.2.2.1, bs3]; simp, fun j hj => by rw [f6.2.2.2 j, if_pos (by omega)]; rfl, kp3.put p6 (Nat.le_refl _)⟩, by rw [p6.2.2, bh3, hh0]; simp⟩, fun fs hl => c8.trans (X8.areturnOut hexec rfl hret rfl (hb hbytes d58) hl)⟩
end Cmp3
namespace CodL
def yN : MethodName := ⟨"java/lang/StringUTF16", "coderFromArrayLen", "([BI)B"⟩
abbrev yB : ByteArray := jdk_52_method_15_code
theorem d0 : decode yB 0 = .ok (.iload_n 1, 1) := by decide +kernel
theorem d1 : decode yB 1 = .ok (.aload_n 0, 1) := by decide +kernel
theorem d2 : decode yB 2 = .ok (.arraylength, 1) := by decide +kernel
theorem d3 : decode yB 3 = .ok (.isub, 1) := by decide +kernel
theorem d4 : decode yB 4 = .ok (.bipush 31, 2) := by decide +kernel
theorem d6 : decode yB 6 = .ok (.iushr, 1) := by decide +kernel
theorem d7 : decode yB 7 = .ok (.i2b, 1) := by decide +kernel
theorem d8 : decode yB 8 = .ok (.ireturn, 1) := by decide +kernel
def site : List Cond := []
def tab : Cond := tabOf yN yB 2 (some .byte) site
def P (d : Addr) (B : Cell) (args : Array Value) (s : State) : Prop := args = #[.ref d, .int (Int32.ofNat B.slots.size)] ∧ Arr .byte d B s
def E (r : Option Value) (s u : State) : Prop := XT.PureE (some (.int 0)) r s u
/-- an array as long as the number of chars: LATIN1 -/
theorem law (l : Launch) (d : Addr) (B : Cell) : Law l yN 2 2 0 0 yB 2 (some .byte) site (P d B) E [] 0 0 := by
  refine Law.of_walk (plainFor_of_name (by decide +kernel)) (by decide +kernel) (by decide +kernel) (by decide) (fun _ _ h => by rw [h.1]; rfl) (fun _ U U' hal hh h => ⟨h.1, h.2.mv hal hh⟩) (fun r U U' V V' h1 hal h2 h => XT.PureE.mv r U U' V V' h1 hal h2 h) ?_
  intro p e s m args below meth c s₁ X0 hexec hbytes hml hret hlk hnm hown hh0 W hP
  obtain ⟨rfl, hB⟩ := hP
  have hB0 := hB.mv X0.warmed.alike hh0
  have c1 : Steps p.tables e below (s₁.setTop (entryFrame m #[.ref d, .int (Int32.ofNat B.slots.size)] 2)) (s₁.setTop (mkF m 0 #[.val (.ref d), .val (.int (Int32.ofNat B.slots.size))] [])) := entry rfl
  have c2 : Steps p.tables e below (s₁.setTop (entryFrame m #[.ref d, .int (Int32.ofNat B.slots.size)] 2)) (s₁.setTop (mkF m 2 #[.val (.ref d), .val (.int (Int32.ofNat B.slots.size))] [.ref d, .int (Int32.ofNat B.slots.size)])) := c1.trans (by
    refine XS.iloadN X0.here hexec rfl (hb hbytes d0) rfl ?_
    refine XS.aloadN X0.here hexec rfl (hb hbytes d1) rfl rfl ?_
    exact Steps.refl _)
  have c3 : Steps p.tables e below (s₁.setTop (entryFrame m #[.ref d, .int (Int32.ofNat B.slots.size)] 2)) (s₁.setTop (mkF m 8 #[.val (.ref d), .val (.int (Int32.ofNat B.slots.size))] [.int (lo8 (ushr (Int32.ofNat B.slots.size - Int32.ofNat B.slots.size) 31))])) := c2.trans (by
    refine X0.alen hexec hB0 rfl rfl (hb hbytes d2) ?_
    refine XS.isub X0.here hexec rfl (hb hbytes d3) rfl ?_
    refine bipushV X0.here hexec rfl 31 (hb hbytes d4) (by decide) ?_
    refine iushr X0.here hexec rfl (hb hbytes d6) rfl ?_
    refine i2b X0.here hexec rfl (hb hbytes d7) rfl ?_
    exact Steps.refl _)
  have e0 : lo8 (ushr (Int32.ofNat B.slots.size - Int32.ofNat B.slots.size) 31) = 0 := by rw [Int32.sub_self]; decide
  rw [e0] at c3
  exact ⟨s₁, some (.int 0), _, _, _, X0, rfl, rfl, rfl, (fun h => by cases h), ⟨rfl, hh0⟩, fun fs hl => c3.trans (X0.ireturnOut hexec hret rfl (Or.inr (Or.inr (Or.inl rfl))) (hb hbytes d8) hl)⟩
end CodL
/-- the String at a is Latin-1 over a new byte[] (the heap's one new cell): the low bytes of the len chars of A from o on; every cell but a is kept -/
def Got (a : Addr) (D : Cell) (fV fC : Field) (A : Cell) (o len : Nat) (r : Option Value) (s u : State) : Prop := r = none ∧ ∃ D' V : Cell, Blank "java/lang/String" a D' u ∧ Same D D' [fV.slot, fC.slot] ∧ D'.slots[fV.slot]? = some (.ref s.heap.size) ∧ D'.slots[fC.slot]? = some (.int 0) ∧ Arr .byte s.heap.size V u ∧ V.vm = .none ∧ u.vm.findClass "[B" = some V.cls ∧ V.slots.size = len ∧ (∀ j, j < len → V.slots[j]? = some (.int (lo8 (cv A (o + j))))) ∧ (∀ (y : Addr) (c : Cell), y ≠ a → s.heap[y]? = some c → u.heap[y]? = some c) ∧ u.heap.size = s.heap.size + 1
theorem Got.mv {a : Addr} {D A : Cell} {fV fC : Field} {o len : Nat} : ∀ r (U U' V V' : State), U'.heap = U.heap → V.vm.Alike V'.vm → V'.heap = V.heap → Got a D fV fC A o len r U V → Got a D fV fC A o len r U' V' :=
  fun r U U' V V' h1 hal h2 ⟨e0, D', X, a1, a2, a3, a4, a5, a6, a7, a8, a9, a10, a11⟩ => ⟨e0, D', X, a1.mv hal h2, a2, by rw [h1]; exact a3, a4, by rw [h1]; exact a5.mv hal h2, a6, by rw [hal.findClass]; exact a7, a8, a9, by rw [h1, h2]; exact a10, by rw [h1, h2]; exact a11⟩
namespace New4
def yN : MethodName := ⟨"java/lang/String", "<init>", "([CIILjava/lang/Void;)V"⟩
abbrev yB : ByteArray := jdk_42_method_149_code
theorem d0 : decode yB 0 = .ok (.aload_n 0, 1) := by decide +kernel
theorem d1 : decode yB 1 = .ok (.invokespecial 1, 3) := by decide +kernel
theorem d4 : decode yB 4 = .ok (.iload_n 3, 1) := by decide +kernel
theorem d5 : decode yB 5 = .ok (.ifCond (.ne) 22, 3) := by decide +kernel
theorem d27 : decode yB 27 = .ok (.getstatic 38, 3) := by decide +kernel
theorem d30 : decode yB 30 = .ok (.ifCond (.eq) 28, 3) := by decide +kernel
theorem d33 : decode yB 33 = .ok (.aload_n 1, 1) := by decide +kernel
theorem d34 : decode yB 34 = .ok (.iload_n 2, 1) := by decide +kernel
theorem d35 : decode yB 35 = .ok (.iload_n 3, 1) := by decide +kernel
theorem d36 : decode yB 36 = .ok (.invokestatic 177, 3) := by decide +kernel
theorem d39 : decode yB 39 = .ok (.astore 5, 2) := by decide +kernel
theorem d41 : decode yB 41 = .ok (.aload_n 0, 1) := by decide +kernel
theorem d42 : decode yB 42 = .ok (.aload 5, 2) := by decide +kernel
theorem d44 : decode yB 44 = .ok (.iload_n 3, 1) := by decide +kernel
theorem d45 : decode yB 45 = .ok (.invokestatic 47, 3) := by decide +kernel
theorem d48 : decode yB 48 = .ok (.putfield 15, 3) := by decide +kernel
theorem d51 : decode yB 51 = .ok (.aload_n 0, 1) := by decide +kernel
theorem d52 : decode yB 52 = .ok (.aload 5, 2) := by decide +kernel
theorem d54 : decode yB 54 = .ok (.putfield 9, 3) := by decide +kernel
theorem d57 : decode yB 57 = .ok (.return_, 1) := by decide +kernel
def site : List Cond := [.fieldLink "java/lang/String" 38 "java/lang/String" "COMPACT_STRINGS" "Z", Cmp3.tab, CodL.tab, .laysFinal "java/lang/String" "java/lang/String" "value" "[B", .fieldLink "java/lang/String" 9 "java/lang/String" "value" "[B", .laysFinal "java/lang/String" "java/lang/String" "coder" "B", .fieldLink "java/lang/String" 15 "java/lang/String" "coder" "B"] ++ objW "java/lang/String" 1 ++ staticW "java/lang/String" 177 Cmp3.yN ++ staticW "java/lang/String" 47 CodL.yN
def tab : Cond := tabOf yN yB 6 none site
def P (a : Addr) (D : Cell) (fV fC : Field) (b : Addr) (A : Cell) (z : Int32) (o len : Nat) (args : Array Value) (s : State) : Prop := args = #[.ref a, .ref b, .int (Int32.ofNat o), .int (Int32.ofNat len), .null] ∧ Blank "java/lang/String" a D s ∧ Found "java/lang/String" "value" "[B" fV s ∧ Found "java/lang/String" "coder" "B" fC s ∧ Ch b A s ∧ StaticIs s "java/lang/String" "COMPACT_STRINGS" "Z" (.int z) ∧ ¬ z = 0 ∧ 0 < len ∧ o + len ≤ A.slots.size ∧ len ≤ 536870912 ∧ ∀ i, i < len → ¬ 255 < cv A (o + i)
def E (a : Addr) (D : Cell) (fV fC : Field) (A : Cell) (o len : Nat) (r : Option Value) (s u : State) : Prop := Got a D fV fC A o len r s u
/-- len > 0, no char of the range above 255: a Latin-1 String of their low bytes -/
theorem law (l : Launch) (a : Addr) (D : Cell) (fV fC : Field) (b : Addr) (A : Cell) (z : Int32) (o len : Nat) : Law l yN 5 4 2 35 yB 6 none site (P a D fV fC b A z o len) (E a D fV fC A o len) [⟨a, fC.slot⟩, ⟨a, fV.slot⟩] 1 len := by
  refine Law.of_walk (plainFor_of_name (by decide +kernel)) (by decide +kernel) (by decide +kernel) (by decide) (fun _ _ h => by rw [h.1]; rfl) (fun _ U U' hal hh h => ⟨h.1, h.2.1.mv hal hh, h.2.2.1.al hal, h.2.2.2.1.al hal, h.2.2.2.2.1.mv hal hh, h.2.2.2.2.2.1.there hal hh, h.2.2.2.2.2.2⟩) (fun r U U' V V' h1 hal h2 h => Got.mv r U U' V V' h1 hal h2 h) ?_
  intro p e s m args below meth c s₁ X0 hexec hbytes hml hret hlk hnm hown hh0 W hP
  obtain ⟨rfl, hB, f1, f2, hA, s1, hz, l0, l1, l2, hp⟩ := hP
  have a31 := hA.1.2.2.2
  have c1 : Steps p.tables e below (s₁.setTop (entryFrame m #[.ref a, .ref b, .int (Int32.ofNat o), .int (Int32.ofNat len), .null] 6)) (s₁.setTop (mkF m 0 #[.val (.ref a), .val (.ref b), .val (.int (Int32.ofNat o)), .val (.int (Int32.ofNat len)), .val .null, .unset] [])) := entry rfl
  have c2 : Steps p.tables e below (s₁.setTop (entryFrame m #[.ref a, .ref b, .int (Int32.ofNat o), .int (Int32.ofNat len), .null] 6)) (s₁.setTop (mkF m 1 #[.val (.ref a), .val (.ref b), .val (.int (Int32.ofNat o)), .val (.int (Int32.ofNat len)), .val .null, .unset] [.ref a])) := c1.trans (by
    refine XS.aloadN X0.here hexec rfl (hb hbytes d0) rfl rfl ?_
    exact Steps.refl _)
  obtain ⟨T3, X3, q3, st3⟩ := X0.oinit hexec hown (wks W (objW "java/lang/String" 1)) (g := (mkF m 1 #[.val (.ref a), .val (.ref b), .val (.int (Int32.ofNat o)), .val (.int (Int32.ofNat len)), .val .null, .unset] [.ref a])) rfl (by rw [hml]; rfl) (rest := []) rfl (hb hbytes d1) (W := 0) (by show 2 * 0 + 0 ≤ _; decide) (Nat.le_of_ble_eq_true rfl) (Nat.le_of_ble_eq_true rfl)
  have hh3 := q3.trans hh0
  have c4 : Steps p.tables e below (s₁.setTop (entryFrame m #[.ref a, .ref b, .int (Int32.ofNat o), .int (Int32.ofNat len), .null] 6)) (T3.setTop (mkF m 27 #[.val (.ref a), .val (.ref b), .val (.int (Int32.ofNat o)), .val (.int (Int32.ofNat len)), .val .null, .unset] [])) := (c2.trans (st3 _ (Steps.refl _))).trans (by
    refine XS.iloadN X3.here hexec rfl (hb hbytes d4) rfl ?_
    refine XS.ifYes X3.here hexec rfl (pc0 := 5) rfl (hb hbytes d5) rfl (i0_ne_t (nz32 (by omega) l0)) (by decide) rfl ?_
    exact Steps.refl _)
  obtain ⟨T5, X5, q5, st5⟩ := X3.sget hexec hown (wk W (.fieldLink "java/lang/String" 38 "java/lang/String" "COMPACT_STRINGS" "Z")) s1 (fun _ _ h => by rw [hh3]; exact h) (g := (mkF m 27 #[.val (.ref a), .val (.ref b), .val (.int (Int32.ofNat o)), .val (.int (Int32.ofNat len)), .val .null, .unset] [])) rfl (hb hbytes d27)
  have hh5 := q5.trans hh3
  have c6 : Steps p.tables e below (s₁.setTop (entryFrame m #[.ref a, .ref b, .int (Int32.ofNat o), .int (Int32.ofNat len), .null] 6)) (T5.setTop (mkF m 30 #[.val (.ref a), .val (.ref b), .val (.int (Int32.ofNat o)), .val (.int (Int32.ofNat len)), .val .null, .unset] [.int z])) := c4.trans (st5 _ (Steps.refl _))
  have c7 : Steps p.tables e below (s₁.setTop (entryFrame m #[.ref a, .ref b, .int (Int32.ofNat o), .int (Int32.ofNat len), .null] 6)) (T5.setTop (mkF m 36 #[.val (.ref a), .val (.ref b), .val (.int (Int32.ofNat o)), .val (.int (Int32.ofNat len)), .val .null, .unset] [.int (Int32.ofNat len), .int (Int32.ofNat o), .ref b])) := c6.trans (by
    refine XS.ifNo X5.here hexec rfl (hb hbytes d30) rfl (i0_eq_f hz) ?_
    refine XS.aloadN X5.here hexec rfl (hb hbytes d33) rfl rfl ?_
    refine XS.iloadN X5.here hexec rfl (hb hbytes d34) rfl ?_
    refine XS.iloadN X5.here hexec rfl (hb hbytes d35) rfl ?_
    exact Steps.refl _)
  obtain ⟨v8, T8, X8, E8, g8⟩ := X5.callS hexec (Cmp3.law l b A o len) hown (wks W (staticW "java/lang/String" 177 Cmp3.yN)) (wk W Cmp3.tab) (W := 0) (Nat.le_of_ble_eq_true rfl) (Nat.le_of_ble_eq_true rfl) (Nat.le_refl _) (by show 0 + len ≤ len; omega) (g := (mkF m 36 #[.val (.ref a), .val (.ref b), .val (.int (Int32.ofNat o)), .val (.int (Int32.ofNat len)), .val .null, .unset] [.int (Int32.ofNat len), .int (Int32.ofNat o), .ref b])) rfl (by rw [hml]; rfl) c7 (argsL := [.ref b, .int (Int32.ofNat o), .int (Int32.ofNat len)]) (rest := []) rfl rfl (by show 2 * 0 + 0 ≤ _; decide) (hb hbytes d36) (⟨rfl, hA.mv X5.warmed.alike hh5, l1, l2, hp⟩)
  obtain ⟨e8, z8⟩ := E8
  obtain ⟨rfl, N, n1, n2, n3, n4, n5, n6⟩ := NewArr.mv _ T5 s _ _ hh5.symm (Vm.Alike.refl _) rfl e8
  rw [hh5] at z8
  have hB1 := hB.keep X8.warmed.alike (n6 _ _ hB.1)
  have hne : s.heap.size ≠ a := (Nat.ne_of_lt (Array.getElem?_eq_some_iff.mp hB.1).1).symm
  have c9 : Steps p.tables e below (s₁.setTop (entryFrame m #[.ref a, .ref b, .int (Int32.ofNat o), .int (Int32.ofNat len), .null] 6)) (T8.setTop (mkF m 39 #[.val (.ref a), .val (.ref b), .val (.int (Int32.ofNat o)), .val (.int (Int32.ofNat len)), .val .null, .unset] [.ref s.heap.size])) := g8
  have c10 : Steps p.tables e below (s₁.setTop (entryFrame m #[.ref a, .ref b, .int (Int32.ofNat o), .int (Int32.ofNat len), .null] 6)) (T8.setTop (mkF m 45 #[.val (.ref a), .val (.ref b), .val (.int (Int32.ofNat o)), .val (.int (Int32.ofNat len)), .val .null, .val (.ref s.heap.size)] [.int (Int32.ofNat N.slots.size), .ref s.heap.size, .ref a])) := by
    have hc : Steps p.tables e below (s₁.setTop (entryFrame m #[.ref a, .ref b, .int (Int32.ofNat o), .int (Int32.ofNat len), .null] 6)) (T8.setTop (mkF m 45 #[.val (.ref a), .val (.ref b), .val (.int (Int32.ofNat o)), .val (.int (Int32.ofNat len)), .val .null, .val (.ref s.heap.size)] [.int (Int32.ofNat len), .ref s.heap.size, .ref a])) := c9.trans (by
      refine XS.astore X8.here hexec rfl (hb hbytes d39) rfl rfl rfl ?_
      refine XS.aloadN X8.here hexec rfl (hb hbytes d41) rfl rfl ?_
      refine XS.aload X8.here hexec rfl (hb hbytes d42) rfl rfl ?_
      refine XS.iloadN X8.here hexec rfl (hb hbytes d44) rfl ?_
      exact Steps.refl _)
    rw [n4]; exact hc
  obtain ⟨v11, T11, X11, E11, g11⟩ := X8.callS hexec (CodL.law l s.heap.size N) hown (wks W (staticW "java/lang/String" 47 CodL.yN)) (wk W CodL.tab) (W := 1) (Nat.le_of_ble_eq_true rfl) (Nat.le_of_ble_eq_true rfl) (Nat.le_refl _) (by show 0 + len + 0 ≤ len; omega) (g := (mkF m 45 #[.val (.ref a), .val (.ref b), .val (.int (Int32.ofNat o)), .val (.int (Int32.ofNat len)), .val .null, .val (.ref s.heap.size)] [.int (Int32.ofNat N.slots.size), .ref s.heap.size, .ref a])) rfl (by rw [hml]; rfl) c10 (argsL := [.ref s.heap.size, .int (Int32.ofNat N.slots.size)]) (rest := [.ref a]) rfl rfl (by show 2 * 0 + (1 + 0) ≤ _; decide) (hb hbytes d45) (⟨rfl, n1⟩)
  obtain ⟨rfl, q11⟩ := E11
  have hB11 := hB1.mv (X8.warmed.alike.symm.trans X11.warmed.alike) q11
  have c12 : Steps p.tables e below (s₁.setTop (entryFrame m #[.ref a, .ref b, .int (Int32.ofNat o), .int (Int32.ofNat len), .null] 6)) (T11.setTop (mkF m 48 #[.val (.ref a), .val (.ref b), .val (.int (Int32.ofNat o)), .val (.int (Int32.ofNat len)), .val .null, .val (.ref s.heap.size)] [.int 0, .ref a])) := g11
  obtain ⟨T13, X13, p13, bl13, sl13, st13⟩ := X11.finit hexec hown (wk W (.fieldLink "java/lang/String" 15 "java/lang/String" "coder" "B")) (Or.inr ⟨_, (wk W (.laysFinal "java/lang/String" "java/lang/String" "coder" "B"))⟩) (Or.inl ⟨rfl, hnm⟩) f2 (Or.inl rfl) hB11 (t := .byte) (by decide +kernel) rfl (g := (mkF m 48 #[.val (.ref a), .val (.ref b), .val (.int (Int32.ofNat o)), .val (.int (Int32.ofNat len)), .val .null, .val (.ref s.heap.size)] [.int 0, .ref a])) rfl (rest := []) rfl (hb hbytes d48)
  have c14 : Steps p.tables e below (s₁.setTop (entryFrame m #[.ref a, .ref b, .int (Int32.ofNat o), .int (Int32.ofNat len), .null] 6)) (T13.setTop (mkF m 54 #[.val (.ref a), .val (.ref b), .val (.int (Int32.ofNat o)), .val (.int (Int32.ofNat len)), .val .null, .val (.ref s.heap.size)] [.ref s.heap.size, .ref a])) := (c12.trans (st13 _ (Steps.refl _))).trans (by
    refine XS.aloadN X13.here hexec rfl (hb hbytes d51) rfl rfl ?_
    refine XS.aload X13.here hexec rfl (hb hbytes d52) rfl rfl ?_
    exact Steps.refl _)
  obtain ⟨T15, X15, p15, bl15, sl15, st15⟩ := X13.finit hexec hown (wk W (.fieldLink "java/lang/String" 9 "java/lang/String" "value" "[B")) (Or.inr ⟨_, (wk W (.laysFinal "java/lang/String" "java/lang/String" "value" "[B"))⟩) (Or.inl ⟨rfl, hnm⟩) f1 (Or.inl rfl) bl13 (t := (.array .byte)) (by decide +kernel) rfl (g := (mkF m 54 #[.val (.ref a), .val (.ref b), .val (.int (Int32.ofNat o)), .val (.int (Int32.ofNat len)), .val .null, .val (.ref s.heap.size)] [.ref s.heap.size, .ref a])) rfl (rest := []) rfl (hb hbytes d54)
  have c16 : Steps p.tables e below (s₁.setTop (entryFrame m #[.ref a, .ref b, .int (Int32.ofNat o), .int (Int32.ofNat len), .null] 6)) (T15.setTop (mkF m 57 #[.val (.ref a), .val (.ref b), .val (.int (Int32.ofNat o)), .val (.int (Int32.ofNat len)), .val .null, .val (.ref s.heap.size)] [])) := c14.trans (st15 _ (Steps.refl _))
  have ap := apart (Or.inr ⟨_, (wk W (.laysFinal "java/lang/String" "java/lang/String" "value" "[B"))⟩) (Or.inr ⟨_, (wk W (.laysFinal "java/lang/String" "java/lang/String" "coder" "B"))⟩) f1 f2 (t₁ := .array .byte) (t₂ := .byte) (by decide +kernel) (by decide +kernel) (by decide)
  have al := X8.warmed.alike.symm.trans X15.warmed.alike
  have n7 : T11.heap[s.heap.size]? = some N := by rw [q11]; exact n1.1
  exact ⟨T15, none, _, _, _, X15, by simp, rfl, by omega, (fun _ => rfl), ⟨rfl, _, N, bl15, ((Same.refl D _).set _ (by simp)).set _ (by simp), sl15, (Cell.slots_setSlot_ne _ ap).trans sl13, n1.keep al (p15.other hne (p13.other hne n7)), n2, by rw [al.findClass]; exact n3, n4, n5, fun y c h1 h2 => p15.other h1 (p13.other h1 (by rw [q11]; exact n6 y c h2)), by rw [p15.2.2, p13.2.2, q11]; exact z8⟩, fun fs hl => c16.trans (X15.returnOut hexec hret (hb hbytes d57) hl)⟩
end New4
namespace New1
def yN : MethodName := ⟨"java/lang/String", "<init>", "([C)V"⟩
abbrev yB : ByteArray := jdk_42_method_3_code
theorem d0 : decode yB 0 = .ok (.aload_n 0, 1) := by decide +kernel
theorem d1 : decode yB 1 = .ok (.aload_n 1, 1) := by decide +kernel
theorem d2 : decode yB 2 = .ok (.iconst 0, 1) := by decide +kernel
theorem d3 : decode yB 3 = .ok (.aload_n 1, 1) := by decide +kernel
theorem d4 : decode yB 4 = .ok (.arraylength, 1) := by decide +kernel
theorem d5 : decode yB 5 = .ok (.aconst_null, 1) := by decide +kernel
theorem d6 : decode yB 6 = .ok (.invokespecial 27, 3) := by decide +kernel
theorem d9 : decode yB 9 = .ok (.return_, 1) := by decide +kernel
def site : List Cond := [New4.tab] ++ initW "java/lang/String" 27 New4.yN
def tab : Cond := tabOf yN yB 2 none site
def P (a : Addr) (D : Cell) (fV fC : Field) (b : Addr) (A : Cell) (z : Int32) (args : Array Value) (s : State) : Prop := args = #[.ref a, .ref b] ∧ Blank "java/lang/String" a D s ∧ Found "java/lang/String" "value" "[B" fV s ∧ Found "java/lang/String" "coder" "B" fC s ∧ Ch b A s ∧ StaticIs s "java/lang/String" "COMPACT_STRINGS" "Z" (.int z) ∧ ¬ z = 0 ∧ 0 < A.slots.size ∧ A.slots.size ≤ 536870912 ∧ ∀ i, i < A.slots.size → ¬ 255 < cv A i
def E (a : Addr) (D : Cell) (fV fC : Field) (A : Cell) (r : Option Value) (s u : State) : Prop := Got a D fV fC A 0 A.slots.size r s u
/-- new String(chars), not empty, no char above 255: a Latin-1 String of their low bytes -/
theorem law (l : Launch) (a : Addr) (D : Cell) (fV fC : Field) (b : Addr) (A : Cell) (z : Int32) : Law l yN 2 1 3 52 yB 2 none site (P a D fV fC b A z) (E a D fV fC A) [⟨a, fC.slot⟩, ⟨a, fV.slot⟩] 1 A.slots.size := by
  refine Law.of_walk (plainFor_of_name (by decide +kernel)) (by decide +kernel) (by decide +kernel) (by decide) (fun _ _ h => by rw [h.1]; rfl) (fun _ U U' hal hh h => ⟨h.1, h.2.1.mv hal hh, h.2.2.1.al hal, h.2.2.2.1.al hal, h.2.2.2.2.1.mv hal hh, h.2.2.2.2.2.1.there hal hh, h.2.2.2.2.2.2⟩) (fun r U U' V V' h1 hal h2 h => Got.mv r U U' V V' h1 hal h2 h) ?_
  intro p e s m args below meth c s₁ X0 hexec hbytes hml hret hlk hnm hown hh0 W hP
  obtain ⟨rfl, hB, f1, f2, hA, s1, hz, l0, l2, hp⟩ := hP
  have c1 : Steps p.tables e below (s₁.setTop (entryFrame m #[.ref a, .ref b] 2)) (s₁.setTop (mkF m 0 #[.val (.ref a), .val (.ref b)] [])) := entry rfl
  have c2 : Steps p.tables e below (s₁.setTop (entryFrame m #[.ref a, .ref b] 2)) (s₁.setTop (mkF m 6 #[.val (.ref a), .val (.ref b)] [.null, .int (Int32.ofNat A.slots.size), .int 0, .ref b, .ref a])) := c1.trans (by
    refine XS.aloadN X0.here hexec rfl (hb hbytes d0) rfl rfl ?_
    refine XS.aloadN X0.here hexec rfl (hb hbytes d1) rfl rfl ?_
    refine iconstV X0.here hexec rfl 0 (hb hbytes d2) (by decide) ?_
    refine XS.aloadN X0.here hexec rfl (hb hbytes d3) rfl rfl ?_
    refine X0.alen hexec (hA.1.mv X0.warmed.alike hh0) rfl rfl (hb hbytes d4) ?_
    refine XS.aconstNull X0.here hexec rfl (hb hbytes d5) ?_
    exact Steps.refl _)
  obtain ⟨v3, T3, X3, E3, g3⟩ := X0.callN hexec (New4.law l a D fV fC b A z 0 A.slots.size) rfl hown (wks W (initW "java/lang/String" 27 New4.yN)) (W New4.tab (by simp only [site, List.mem_cons, List.mem_append, true_or, or_true])) (W := 0) (Nat.le_of_ble_eq_true rfl) (Nat.le_of_ble_eq_true rfl) (Nat.le_refl _) (by show 0 + A.slots.size ≤ A.slots.size; omega) (g := (mkF m 6 #[.val (.ref a), .val (.ref b)] [.null, .int (Int32.ofNat A.slots.size), .int (Int32.ofNat 0), .ref b, .ref a])) rfl (by rw [hml]; rfl) c2 (argsL := [.ref b, .int (Int32.ofNat 0), .int (Int32.ofNat A.slots.size), .null]) (rest := []) rfl rfl (by show 2 * 0 + 0 ≤ _; decide) (hb hbytes d6) (⟨rfl, hB.mv X0.warmed.alike hh0, f1.al X0.warmed.alike, f2.al X0.warmed.alike, hA.mv X0.warmed.alike hh0, s1.there X0.warmed.alike hh0, hz, l0, by omega, l2, fun i hi => by rw [Nat.zero_add]; exact hp i hi⟩)
  have e0 := Got.mv _ s₁ s _ _ hh0.symm (Vm.Alike.refl _) rfl E3
  obtain rfl := e0.1
  have c4 : Steps p.tables e below (s₁.setTop (entryFrame m #[.ref a, .ref b] 2)) (T3.setTop (mkF m 9 #[.val (.ref a), .val (.ref b)] [])) := g3
  exact ⟨T3, none, _, _, _, X3, by simp, rfl, by omega, (fun _ => rfl), e0, fun fs hl => c4.trans (X3.returnOut hexec hret (hb hbytes d9) hl)⟩
theorem pays {l : Launch} {R : Room} {p : Program} {e : Env} {below : List Frame} {s : State} {sargs : Array Value} {len W : Nat} (a : Addr) (D : Cell) (fV fC : Field) (b : Addr) (A : Cell) (z : Int32) (htab : tab.before sargs s = true) (hfr : 4 ≤ R.frames) (hlo : W + 65 ≤ R.locals) :
    Back l R p e below s sargs yN len W (fun A₁ a₁ => A₁.cells + 1 ≤ R.cells ∧ A₁.slots + A.slots.size ≤ R.slots ∧ P a D fV fC b A z a₁ A₁.U) (fun A₁ _ v₁ B₁ => E a D fV fC A v₁ A₁.U B₁.U ∧ B₁.locs = A₁.locs ++ [⟨a, fC.slot⟩, ⟨a, fV.slot⟩] ∧ B₁.cells = A₁.cells + 1 ∧ B₁.slots = A₁.slots + A.slots.size) :=
  (law l a D fV fC b A z).pays htab hfr (by omega)
end New1
/-- the byte, read back as charAt reads it, is the char -/
theorem lo8_mask {x : Int32} (h0 : ¬ x < 0) (h1 : ¬ 255 < x) : lo8 x &&& 255 = x := by
  have t : ∀ k : Fin 256, lo8 (Int32.ofNat k.val) &&& 255 = Int32.ofNat k.val := by decide +kernel
  rw [Int32.lt_iff_toInt_lt] at h0 h1
  have e0 : (0 : Int32).toInt = 0 := rfl
  have e1 : (255 : Int32).toInt = 255 := rfl
  obtain ⟨k, hk⟩ : ∃ k : Nat, x.toInt = k := ⟨x.toInt.toNat, by omega⟩
  have hx : x = Int32.ofNat k := Int32.toInt_inj.mp (by rw [hk, Int32.toInt_ofNat_small (by omega)])
  rw [hx]
  exact t ⟨k, by omega⟩
end StrChars
namespace StrChars.Road
open Jvm Sem ClassFile Op Lib Jvm.Stand Jvm.Free Jvm.Free.XT
open Jvm.Lib.Cold (StaticIs)
abbrev ST : String := "java/lang/String"
/-- every table word that New1's law asks, flat -/
abbrev words : List Jvm.Cond := [.code New1.yN New1.yB 2 none, .initialized ST, .methodLink ST 27 New4.yN, .instanceMethod New4.yN,
  .code New4.yN New4.yB 6 none, .fieldLink ST 38 ST "COMPACT_STRINGS" "Z", .laysFinal ST ST "value" "[B", .fieldLink ST 9 ST "value" "[B", .laysFinal ST ST "coder" "B", .fieldLink ST 15 ST "coder" "B",
  .methodLink ST 1 Lib.objectInit, .instanceMethod Lib.objectInit, .code Lib.objectInit ⟨#[0xb1]⟩ 1 none, .methodLink ST 177 Cmp3.yN, .static Cmp3.yN, .methodLink ST 47 CodL.yN, .static CodL.yN,
  .code Cmp3.yN Cmp3.yB 6 (some (.array .byte)), .initialized U16, .arrayClass .byte, .methodLink U16 115 Cmp5.yN, .static Cmp5.yN, .code Cmp5.yN Cmp5.yB 7 (some .int), .code CodL.yN CodL.yB 2 (some .byte)]
theorem tab_of {a : Array Value} {s : State} (h : ∀ w ∈ words, w.before a s = true) : New1.tab.before a s = true := by
  have h5 : Cmp5.tab.before a s = true := unparts (wk h (.code Cmp5.yN Cmp5.yB 7 (some .int))) (wks h (.initialized Cmp5.yN.cls :: Cmp5.site))
  have hc : CodL.tab.before a s = true := unparts (wk h (.code CodL.yN CodL.yB 2 (some .byte))) (wks h (.initialized CodL.yN.cls :: CodL.site))
  have q5 : ∀ w ∈ Cmp5.tab :: words, w.before a s = true := fun w hw => (List.mem_cons.mp hw).elim (fun e => e ▸ h5) (h w)
  have h3 : Cmp3.tab.before a s = true := unparts (wk q5 (.code Cmp3.yN Cmp3.yB 6 (some (.array .byte)))) (wks q5 (.initialized Cmp3.yN.cls :: Cmp3.site))
  have q3 : ∀ w ∈ Cmp3.tab :: CodL.tab :: words, w.before a s = true := fun w hw => (List.mem_cons.mp hw).elim (fun e => e ▸ h3) fun hw => (List.mem_cons.mp hw).elim (fun e => e ▸ hc) (h w)
  have h4 : New4.tab.before a s = true := unparts (wk q3 (.code New4.yN New4.yB 6 none)) (wks q3 (.initialized New4.yN.cls :: New4.site))
  have q4 : ∀ w ∈ New4.tab :: words, w.before a s = true := fun w hw => (List.mem_cons.mp hw).elim (fun e => e ▸ h4) (h w)
  exact unparts (wk q4 (.code New1.yN New1.yB 2 none)) (wks q4 (.initialized New1.yN.cls :: New1.site))
/-- the words ride from the start Z to the walk's own state -/
theorem moved {Z s : State} {a0 args : Array Value} (hZ : Z.Warmed39 s.vm) (hw : ∀ d ∈ words, d.before a0 Z = true) : ∀ d ∈ words, d.before args s = true := fun d hd => by
  have q := hw d hd
  have t : ∀ d ∈ words, d = .arrayClass .byte ∨ (d.onTables && d.keepsFace) = true := by decide +kernel
  rcases t d hd with rfl | t
  · exact RoadKit.mvA hZ q
  · exact RoadKit.mv hZ q t
/-- WHAT COMES BACK, over the tables of the start Z: h the heap at the call, h' behind it -/
def Q (Z : State) (x : Addr) (A : Cell) (h : Heap) (v : Option Value) (h' : Heap) (L : List Loc) : Prop := v = none ∧ (∀ y ∈ L, y.base = x) ∧ RoadKit.Keep h h' [x] ∧ h'.size = h.size + 1 ∧ RoadKit.Exa Z h' x ST ∧ RoadKit.Fld Z h' x ST "value" "[B" (.ref h.size) ∧ RoadKit.Fld Z h' x ST "coder" "B" (.int 0) ∧
  (∃ V : Cell, RoadKit.Arr Z h' h.size V .byte ∧ V.vm = .none ∧ Z.vm.findClass "[B" = some V.cls ∧ V.slots.size = A.slots.size ∧ ∀ j, j < A.slots.size → V.slots[j]? = some (.int (lo8 (cv A j)))) ∧
  ∀ (O n d : String) (w : Value), RoadKit.Fld Z h x O n d w → RoadKit.slotOf Z O n d ≠ RoadKit.slotOf Z ST "value" "[B" → RoadKit.slotOf Z O n d ≠ RoadKit.slotOf Z ST "coder" "B" → RoadKit.Fld Z h' x O n d w
/-- **new String(chars) AT A CALL, IN THE ROAD'S FORM**: for specialBack behind newO: x the fresh String, b the char[] with the cell A -/
theorem back {p : Program} {l : Launch} {e : Env} {R : Room} {s : State} {args : Array Value} {below : List Frame} {len W : Nat} {Z : State} {a0 : Array Value} {h : Heap} (hZ : Z.Warmed39 s.vm) (hw : ∀ d ∈ words, d.before a0 Z = true) {kI : Nat} (wi : (Jvm.Cond.instantiable ST kI).before a0 Z = true)
    {x b : Addr} {A : Cell} {z : Int32} {v0 c0 : Value} (E : RoadKit.Exa Z h x ST) (V : RoadKit.Fld Z h x ST "value" "[B" v0) (C : RoadKit.Fld Z h x ST "coder" "B" c0) (K : RoadKit.Arr Z h b A .char) (hty : Typed .char A) (S : RoadKit.Sta Z h ST "COMPACT_STRINGS" "Z" (.int z)) (hz : ¬ z = 0)
    (l0 : 0 < A.slots.size) (l2 : A.slots.size ≤ 536870912) (hp : ∀ i, i < A.slots.size → ¬ 255 < cv A i) (hfr : 4 ≤ R.frames) (hlo : W + 65 ≤ R.locals) :
    Back l R p e below s args New1.yN len W (fun P a => a = #[.ref x, .ref b] ∧ P.U.heap = h ∧ P.cells + 1 ≤ R.cells ∧ P.slots + A.slots.size ≤ R.slots)
      (fun P _ v B => ∃ L, Q Z x A h v B.U.heap L ∧ B.locs = P.locs ++ L ∧ B.cells = P.cells + 1 ∧ B.slots = P.slots + A.slots.size) := by
  intro m meth c P g ig mk a X hg hsize hdg hW hn hp'
  obtain ⟨rfl, rfl, r1, r2⟩ := hp'
  have al : Z.vm.Alike P.U.vm := hZ.alike.trans X.warmed.alike
  obtain ⟨D, cfV, kV, iV, fV, hD, gV, stV, knV, obV, asV, slV⟩ := id V
  obtain ⟨D', cfC, kC, iC, fC, hD', gC, stC, -, -, asC, slC⟩ := id C
  cases hD.symm.trans hD'
  obtain ⟨D2, kD, e1, e2, e3, e4, e5⟩ := id E
  cases hD.symm.trans e1
  obtain ⟨c2, k2, i1, i2, i3, -⟩ := Cond.instantiable_spec wi
  cases e2.symm.trans i1
  cases e3.symm.trans i2
  obtain ⟨kU, u1, u2⟩ := al.2.2 _ _ e3
  have hB : Blank ST x D P.U := ⟨hD, ⟨knV, fun q hq => by rw [hq] at obV; cases obV⟩, by rw [al.findClass]; exact e2, kU, u1, by rw [u2]; exact i3, by rw [u2]; exact e5 i3⟩
  have F1 : Found ST "value" "[B" fV P.U := ⟨SBG.found_only al ⟨cfV, kV, iV, gV⟩, stV⟩
  have F2 : Found ST "coder" "B" fC P.U := ⟨SBG.found_only al ⟨cfC, kC, iC, gC⟩, stC⟩
  have hA : Ch b A P.U := ⟨⟨K.1, State.isArrayOf_alike al K.2.1, K.2.2, by omega⟩, hty⟩
  have hS : StaticIs P.U ST "COMPACT_STRINGS" "Z" (.int z) := by
    obtain ⟨cfS, iS, kS, fS, st, cS, t1, t2, t3, t4, t5, t6, t7⟩ := S
    exact StaticIs.there (s := { Z with heap := P.U.heap }) ⟨cfS, iS, kS, fS, st, cS, t1, t2, t3, t4, t5, (fun q => by rw [q] at t6; cases t6), t7⟩ al rfl
  obtain ⟨v, B, X', ⟨⟨hv, E', V', q1, q2, q3, q4, q5, q6, q7, q8, q9, q10, q11⟩, hl, hc, hs⟩, st⟩ := New1.pays x D fV fC b A z (tab_of (moved hZ hw)) hfr hlo m meth c P g ig mk _ X hg hsize hdg hW hn ⟨r1, r2, rfl, hB, F1, F2, hA, hS, hz, l0, l2, hp⟩
  have al' : Z.vm.Alike B.U.vm := hZ.alike.trans X'.warmed.alike
  have hsz : E'.slots.size = D.slots.size := by
    obtain ⟨-, -, -, kB, w1, w2, w3⟩ := q1
    obtain ⟨kB', y1, y2⟩ := al'.2.2 _ _ e3
    rw [q2.2.1] at w1
    cases w1.symm.trans y1
    rw [w3, e5 i3, y2]
  refine ⟨v, B, X', ⟨_, ⟨hv, ?_, ⟨by omega, fun y cy hy hn' => q10 y cy (by simpa using hn') hy, fun y cy hy => ?_⟩, q11, ⟨E', _, q1.1, by rw [q2.2.1]; exact e2, by rw [q2.2.1]; exact e3, by rw [q2.1]; exact obV, fun _ => by rw [hsz]; exact e5 i3⟩,
    ⟨E', cfV, kV, iV, fV, q1.1, gV, stV, by rw [q2.1]; exact knV, by rw [q2.1]; exact obV, by rw [q2.2.1]; exact asV, q3⟩, ⟨E', cfC, kC, iC, fC, q1.1, gC, stC, by rw [q2.1]; exact knV, by rw [q2.1]; exact obV, by rw [q2.2.1]; exact asC, q4⟩,
    ⟨V', ⟨q5.1, State.isArrayOf_alike al'.symm q5.2.1, q5.2.2.1⟩, q6, by rw [← al'.findClass]; exact q7, q8, fun j hj => by have := q9 j hj; rwa [Nat.zero_add] at this⟩, fun O n d w F n1 n2 => ?_⟩, hl, hc, hs⟩, st⟩
  · intro y hy
    simp only [List.mem_cons, List.not_mem_nil, or_false] at hy
    rcases hy with rfl | rfl <;> rfl
  · by_cases q : y = x
    · subst q
      cases hD.symm.trans hy
      exact ⟨E', q1.1, q2.2.1, q2.1, hsz⟩
    · exact ⟨cy, q10 y cy q hy, rfl, rfl, rfl⟩
  · obtain ⟨D3, cf, k, i, f, g1, g2, g3, g4, g5, g6, g7⟩ := F
    cases hD.symm.trans g1
    simp only [RoadKit.slotOf, g2, gV, gC, Option.map_some, Option.getD_some] at n1 n2
    exact ⟨E', cf, k, i, f, q1.1, g2, g3, by rw [q2.1]; exact g4, by rw [q2.1]; exact g5, by rw [q2.2.1]; exact g6, by rw [q2.2.2 f.slot (by simp [n1, n2])]; exact g7⟩
end StrChars.Road
namespace StrChars.Road
open Jvm Sem ClassFile Op Lib Jvm.Stand Jvm.Free Jvm.Free.XT
/-- WHAT COMES BACK, the byte[] as a list of values -/
def QA (Z : State) (x : Addr) (zn : Int32) (cs : List Int32) (h : Heap) (v : Option Value) (h' : Heap) (L : List Loc) : Prop := v = none ∧ (∀ y ∈ L, y.base = x) ∧ RoadKit.Keep h h' [x] ∧ h'.size = h.size + 1 ∧ RoadKit.Exa Z h' x ST ∧ RoadKit.Fld Z h' x ST "value" "[B" (.ref h.size) ∧ RoadKit.Fld Z h' x ST "coder" "B" (.int 0) ∧
  (∃ kb, Z.vm.findClass "[B" = some kb ∧ RoadKit.Arv Z h' h.size kb .byte zn (cs.map fun c => .int (lo8 c)) (.int 0)) ∧
  ∀ (O n d : String) (w : Value), RoadKit.Fld Z h x O n d w → RoadKit.slotOf Z O n d ≠ RoadKit.slotOf Z ST "value" "[B" → RoadKit.slotOf Z O n d ≠ RoadKit.slotOf Z ST "coder" "B" → RoadKit.Fld Z h' x O n d w
/-- **new String(chars) AT A CALL, THE ARRAYS AS LISTS**: the char[] at b holds cs, not empty, no char above 255 -/
theorem backArv {p : Program} {l : Launch} {e : Env} {R : Room} {s : State} {args : Array Value} {below : List Frame} {len W : Nat} {Z : State} {a0 : Array Value} {h : Heap} (hZ : Z.Warmed39 s.vm) (hw : ∀ d ∈ words, d.before a0 Z = true) {kI : Nat} (wi : (Jvm.Cond.instantiable ST kI).before a0 Z = true)
    {x b : Addr} {k : ClassId} {zn z : Int32} {cs : List Int32} {dv v0 c0 : Value} (E : RoadKit.Exa Z h x ST) (V : RoadKit.Fld Z h x ST "value" "[B" v0) (C : RoadKit.Fld Z h x ST "coder" "B" c0) (K : RoadKit.Arv Z h b k .char zn (cs.map Value.int) dv) (S : RoadKit.Sta Z h ST "COMPACT_STRINGS" "Z" (.int z)) (hz : ¬ z = 0)
    (hlen : zn.toNatClampNeg = cs.length) (h0 : 0 < cs.length) (hbig : cs.length ≤ 536870912) (hall : ∀ c ∈ cs, ¬ 255 < c) (hfr : 4 ≤ R.frames) (hlo : W + 65 ≤ R.locals) :
    Back l R p e below s args New1.yN len W (fun P a => a = #[.ref x, .ref b] ∧ P.U.heap = h ∧ P.cells + 1 ≤ R.cells ∧ P.slots + cs.length ≤ R.slots)
      (fun P _ v B => ∃ L, QA Z x zn cs h v B.U.heap L ∧ B.locs = P.locs ++ L ∧ B.cells = P.cells + 1 ∧ B.slots = P.slots + cs.length) := by
  obtain ⟨A, K1, K2, K3, K4, K5, K6⟩ := K
  have e : A.slots.size = cs.length := K3.trans hlen
  have hat : ∀ (i : Nat) (hi : i < cs.length), A.slots[i]? = some (.int cs[i]) := fun i hi => by rw [K5 i (by omega)]; simp [List.getD_eq_getElem?_getD, hi]
  have hcv : ∀ (i : Nat) (hi : i < cs.length), cv A i = cs[i] := fun i hi => by unfold cv; rw [hat i hi]
  have hty : Typed .char A := fun i v hv => by
    have hi : i < A.slots.size := (Array.getElem?_eq_some_iff.mp hv).1
    have q := K5 i hi
    rw [hv] at q
    rw [Option.some.inj q]
    exact K6 i hi
  refine Back.mono (back hZ hw wi E V C K1 hty S hz (by omega) (by omega) (fun i hi => by rw [hcv i (by omega)]; exact hall _ (List.getElem_mem _)) hfr hlo) (fun P a hp => ⟨hp.1, hp.2.1, hp.2.2.1, by rw [e]; exact hp.2.2.2⟩) (fun P a v B hp hq => ?_)
  obtain ⟨L, ⟨q1, q2, q3, q4, q5, q6, q7, ⟨V', v1, v2, v3, v4, v5⟩, q9⟩, hl, hc, hs⟩ := hq
  refine ⟨L, ⟨q1, q2, q3, q4, q5, q6, q7, ⟨V'.cls, v3, V', v1, rfl, by rw [v4, e, hlen], K4, fun i hi => ?_, fun i hi => ?_⟩, q9⟩, hl, hc, by rw [hs, e]⟩
  · have hi' : i < cs.length := by omega
    rw [v5 i (by omega), hcv i hi']; simp [List.getD_eq_getElem?_getD, hi']
  · have hi' : i < cs.length := by omega
    simp only [List.getD_eq_getElem?_getD, List.getElem?_map, List.getElem?_eq_getElem hi', Option.map_some, Option.getD_some]
    exact fits_lo8 _
end StrChars.Road
namespace StrChars.Road
open Jvm Sem ClassFile Op Lib Jvm.Stand Jvm.Free Jvm.Free.XT
/-- WHAT COMES BACK, in the writer's own shape -/
def QV (Z : State) (x : Addr) (N : Int32) (bs : List Int32) (h : Heap) (n0 : Nat) (v : Option Value) (h' : Heap) (L : List Loc) : Prop := v = none ∧ RoadKit.Fr n0 L ∧ RoadKit.Keep h h' [x] ∧ RoadKit.Exa Z h' x ST ∧ RoadKit.Fld Z h' x ST "coder" "B" (.int 0) ∧
  ∃ (t : Addr) (kb : ClassId), n0 ≤ t ∧ h.size ≤ t ∧ ¬ t = x ∧ RoadKit.Fld Z h' x ST "value" "[B" (.ref t) ∧ RoadKit.Arv Z h' t kb .byte N (bs.map Value.int) (.int 0)
/-- **new String(chars) AT A CALL, FOR THE WRITER**: a char[] of n known ints, each 0 to 255 -/
theorem backV {p : Program} {l : Launch} {e : Env} {R : Room} {s : State} {args : Array Value} {below : List Frame} {len W : Nat} {Z : State} {a0 : Array Value} {h : Heap} (hZ : Z.Warmed39 s.vm) (hw : ∀ d ∈ words, d.before a0 Z = true) {kI : Nat} (wi : (Jvm.Cond.instantiable ST kI).before a0 Z = true)
    {x b : Addr} {kC : ClassId} {cs bs : List Int32} {d v0 c0 : Value} {z N : Int32} {n n0 : Nat} (hx0 : n0 ≤ x) (hh0 : n0 ≤ h.size) (E : RoadKit.Exa Z h x ST) (V : RoadKit.Fld Z h x ST "value" "[B" v0) (C : RoadKit.Fld Z h x ST "coder" "B" c0) (K : RoadKit.Arv Z h b kC .char N (cs.map Value.int) d) (S : RoadKit.Sta Z h ST "COMPACT_STRINGS" "Z" (.int z)) (hz : ¬ z = 0)
    (hn : cs.length = n) (hN : N = Int32.ofNat n) (l0 : 0 < n) (l2 : n ≤ 4000) (hp : ∀ c ∈ cs, ¬ c < 0 ∧ ¬ (255 : Int32) < c) (hb : bs = cs.map (fun c => c.toInt8.toInt32)) (hfr : 4 ≤ R.frames) (hlo : W + 65 ≤ R.locals) :
    Back l R p e below s args (⟨"java/lang/String", "<init>", "([C)V"⟩ : MethodName) len W (fun P a => a = #[.ref x, .ref b] ∧ P.U.heap = h ∧ P.cells + 1 ≤ R.cells ∧ P.slots + n ≤ R.slots)
      (fun P _ v B => ∃ L, QV Z x N bs h n0 v B.U.heap L ∧ B.locs = P.locs ++ L ∧ B.cells = P.cells + 1 ∧ B.slots = P.slots + n) := by
  subst hn hN hb
  refine Back.mono (backArv hZ hw wi E V C K S hz (n32 (by omega)) l0 (by omega) (fun c hc => (hp c hc).2) hfr hlo) (fun P a hp => hp) (fun P a v B hp hq => ?_)
  obtain ⟨L, ⟨q1, q2, q3, q4, q5, q6, q7, ⟨kb, v1, v2⟩, q9⟩, hl, hc, hs⟩ := hq
  exact ⟨L, ⟨q1, fun y hy => by rw [q2 y hy]; exact hx0, q3, q5, q7, h.size, kb, hh0, Nat.le_refl _, Nat.ne_of_gt E.lt, q6, by rw [List.map_map]; exact v2⟩, hl, hc, hs⟩
end StrChars.Road
namespace StrChars
open Jvm Sem ClassFile Op Lib Jvm.Stand Jvm.Free.XT Jvm.Free.ALB Jvm.Free.JM Jvm.Free
open Jvm.Lib.Cold (StaticIs)
def hi8 (x : Int32) : Int32 := lo8 (x >>> ((8 : Int32) &&& 31))
/-- what StringUTF16.getChar makes of two bytes -/
def pairCh (u v : Int32) : Int32 := (((u &&& 255) <<< ((0 : Int32) &&& 31)) ||| ((v &&& 255) <<< ((8 : Int32) &&& 31))).toUInt32.toUInt16.toUInt32.toInt32
theorem shr0 (c : Int32) : c >>> ((0 : Int32) &&& 31) = c := by
  have e : ((0 : Int32) &&& 31) = 0 := by decide
  rw [e]
  apply Int32.toBitVec_inj.mp
  rw [Int32.toBitVec_shiftRight]
  have e1 : ((0 : Int32).toBitVec.smod 32) = 0#32 := by decide
  rw [e1, BitVec.sshiftRight_eq']
  exact BitVec.sshiftRight_zero
theorem lo8_and (x : Int32) : (lo8 x &&& 255).toBitVec.toNat = x.toBitVec.toNat % 256 := by
  have h : (lo8 x).toBitVec = (x.toBitVec.signExtend 8).signExtend 32 := by rw [lo8, Int8.toBitVec_toInt32, Int32.toBitVec_toInt8]
  rw [Int32.toBitVec_and, BitVec.toNat_and, h]
  have e : ((x.toBitVec.signExtend 8).signExtend 32).toNat % 256 = x.toBitVec.toNat % 256 := by
    rw [BitVec.toNat_signExtend]
    have hlt := x.toBitVec.isLt
    simp only [BitVec.toNat_setWidth, BitVec.toNat_signExtend]
    split <;> split <;> omega
  rw [← e]
  exact Nat.and_two_pow_sub_one_eq_mod _ 8
theorem pair_says {c : Int32} (h0 : ¬ c < 0) (h1 : ¬ 65535 < c) : pairCh (lo8 c) (hi8 c) = c := by
  rw [Int32.lt_iff_toInt_lt] at h0 h1
  have e0 : (0 : Int32).toInt = 0 := rfl
  have e1 : (65535 : Int32).toInt = 65535 := rfl
  have hc : c.toInt = c.toBitVec.toNat := by
    have := c.toBitVec.isLt
    have e : c.toInt = c.toBitVec.toInt := rfl
    rw [e] at h0 h1
    rw [e]
    rw [BitVec.toInt_eq_toNat_cond] at h0 h1 ⊢
    split at h0 <;> split <;> omega
  have hn : c.toBitVec.toNat < 65536 := by omega
  have a1 := lo8_and c
  have a2 : (hi8 c &&& 255).toBitVec.toNat = c.toBitVec.toNat / 256 := by
    rw [hi8, lo8_and]
    have e : ((8 : Int32) &&& 31) = 8 := by decide
    rw [e, Int32.toBitVec_shiftRight]
    have e2 : ((8 : Int32).toBitVec.smod 32) = 8#32 := by decide
    rw [e2, BitVec.sshiftRight_eq', BitVec.toNat_sshiftRight_of_msb_false (by rw [BitVec.msb_eq_false_iff_two_mul_lt]; omega)]
    show c.toBitVec.toNat >>> 8 % 256 = _
    rw [Nat.shiftRight_eq_div_pow]
    omega
  unfold pairCh
  apply Int32.toBitVec_inj.mp
  apply BitVec.eq_of_toNat_eq
  have f0 : ((0 : Int32) &&& 31) = 0 := by decide
  have f8 : ((8 : Int32) &&& 31) = 8 := by decide
  rw [f0, f8]
  have g : (((lo8 c &&& 255) <<< (0 : Int32)) ||| ((hi8 c &&& 255) <<< (8 : Int32))).toBitVec.toNat = c.toBitVec.toNat := by
    rw [Int32.toBitVec_or, Int32.toBitVec_shiftLeft, Int32.toBitVec_shiftLeft]
    have s0 : ((0 : Int32).toBitVec.smod 32) = 0#32 := by decide
    have s8 : ((8 : Int32).toBitVec.smod 32) = 8#32 := by decide
    rw [s0, s8, BitVec.toNat_or]
    simp only [BitVec.shiftLeft_eq', BitVec.toNat_shiftLeft, a1, a2]
    show (c.toBitVec.toNat % 256) <<< 0 % 2 ^ 32 ||| (c.toBitVec.toNat / 256) <<< 8 % 2 ^ 32 = _
    rw [Nat.shiftLeft_zero, Nat.mod_eq_of_lt (show c.toBitVec.toNat % 256 < 2 ^ 32 by omega), Nat.mod_eq_of_lt (show (c.toBitVec.toNat / 256) <<< 8 < 2 ^ 32 by rw [Nat.shiftLeft_eq]; omega), Nat.or_comm, ← Nat.shiftLeft_add_eq_or_of_lt (by omega), Nat.shiftLeft_eq]
    omega
  show BitVec.toNat (((((lo8 c &&& 255) <<< (0 : Int32)) ||| ((hi8 c &&& 255) <<< (8 : Int32))).toBitVec.setWidth 16).setWidth 32) = _
  rw [BitVec.toNat_setWidth, BitVec.toNat_setWidth, g]
  omega
end StrChars
namespace StrChars
open Jvm Sem ClassFile Op Lib Jvm.Stand Jvm.Free.XT Jvm.Free.ALB Jvm.Free.JM Jvm.Free
open Jvm.Lib.Cold (StaticIs)
theorem shr1 {n : Nat} (h : 2 * n < 2 ^ 31) : Int32.ofNat (2 * n) >>> ((1 : Int32) &&& 31) = Int32.ofNat n := by
  have e : ((1 : Int32) &&& 31) = 1 := by decide
  rw [e]
  apply Int32.toBitVec_inj.mp
  rw [Int32.toBitVec_shiftRight]
  have e1 : ((1 : Int32).toBitVec.smod 32) = 1#32 := by decide
  have hm : (BitVec.ofNat 32 (2 * n)).toNat = 2 * n := by rw [BitVec.toNat_ofNat, Nat.mod_eq_of_lt (by omega)]
  rw [e1, BitVec.sshiftRight_eq']
  apply BitVec.eq_of_toNat_eq
  show ((BitVec.ofNat 32 (2 * n)).sshiftRight 1).toNat = (BitVec.ofNat 32 n).toNat
  rw [BitVec.toNat_sshiftRight_of_msb_false (by rw [BitVec.msb_eq_false_iff_two_mul_lt, hm]; omega), hm, BitVec.toNat_ofNat, Nat.shiftRight_eq_div_pow]
  omega
/-- charAt's cast of a byte read back -/
def chr8 (u : Int32) : Int32 := (u &&& 255).toUInt32.toUInt16.toUInt32.toInt32
theorem chr8_lo8 {c : Int32} (h0 : ¬ c < 0) (h1 : ¬ 255 < c) : chr8 (lo8 c) = c := by
  have t : ∀ k : Fin 256, (Int32.ofNat k.val).toUInt32.toUInt16.toUInt32.toInt32 = Int32.ofNat k.val := by decide +kernel
  unfold chr8
  rw [lo8_mask h0 h1]
  rw [Int32.lt_iff_toInt_lt] at h0 h1
  have e0 : (0 : Int32).toInt = 0 := rfl
  have e1 : (255 : Int32).toInt = 255 := rfl
  obtain ⟨k, hk⟩ : ∃ k : Nat, c.toInt = k := ⟨c.toInt.toNat, by omega⟩
  have hx : c = Int32.ofNat k := Int32.toInt_inj.mp (by rw [hk, Int32.toInt_ofNat_small (by omega)])
  rw [hx]
  exact t ⟨k, by omega⟩
theorem narrow_ch {c : Int32} (h0 : ¬ c < 0) (h1 : ¬ 65535 < c) : narrow .char (.int c) = .int c := by
  have q : narrow .char (.int (pairCh (lo8 c) (hi8 c))) = .int (pairCh (lo8 c) (hi8 c)) := narrow_c _
  rwa [pair_says h0 h1] at q
/-- the array's cell V codes the n chars f 0 .. f (n - 1) by the coder cd, as the JDK does: coder 1 just where some char is above 255 -/
def Cod (cd : Int32) (n : Nat) (f : Nat → Int32) (V : Cell) : Prop := (cd = 0 ∧ V.slots.size = n ∧ ∀ j, j < n → V.slots[j]? = some (.int (lo8 (f j))) ∧ ¬ 255 < f j) ∨ (cd = 1 ∧ V.slots.size = 2 * n ∧ (∀ j, j < n → V.slots[2 * j]? = some (.int (lo8 (f j))) ∧ V.slots[2 * j + 1]? = some (.int (hi8 (f j)))) ∧ ∃ j, j < n ∧ 255 < f j)
theorem Cod.cd {cd : Int32} {n : Nat} {f : Nat → Int32} {V : Cell} (h : Cod cd n f V) : cd = 0 ∨ cd = 1 := h.imp (fun q => q.1) fun q => q.1
theorem Cod.len {cd : Int32} {n : Nat} {f : Nat → Int32} {V : Cell} (h : Cod cd n f V) (hs : V.slots.size < 2 ^ 31) : Int32.ofNat V.slots.size >>> (cd &&& 31) = Int32.ofNat n := by
  rcases h with ⟨rfl, h, -⟩ | ⟨rfl, h, -⟩
  · rw [shr0, h]
  · rw [h, shr1 (by omega)]
/-- **x is a String of the n chars f 0 .. f (n - 1)**, Latin-1 or UTF-16; its array at t has the cell V -/
def Txt (x t : Addr) (V : Cell) (cd : Int32) (n : Nat) (f : Nat → Int32) (U : State) : Prop := Exact "java/lang/String" x U ∧ Has x "java/lang/String" "value" "[B" (.ref t) U ∧ Has x "java/lang/String" "coder" "B" (.int cd) U ∧ XT.Arr .byte t V U ∧ Cod cd n f V ∧ ∀ j, j < n → ¬ f j < 0 ∧ ¬ 65535 < f j
theorem Txt.mv {x t : Addr} {V : Cell} {cd : Int32} {n : Nat} {f : Nat → Int32} {U U' : State} (h : Txt x t V cd n f U) (hal : U.vm.Alike U'.vm) (hh : U'.heap = U.heap) : Txt x t V cd n f U' := ⟨h.1.mv hal hh, h.2.1.mv hal hh, h.2.2.1.mv hal hh, h.2.2.2.1.mv hal hh, h.2.2.2.2⟩
namespace Cdr
def yN : MethodName := ⟨"java/lang/String", "coder", "()B"⟩
abbrev yB : ByteArray := jdk_42_method_152_code
theorem d0 : decode yB 0 = .ok (.getstatic 38, 3) := by decide +kernel
theorem d3 : decode yB 3 = .ok (.ifCond (.eq) 10, 3) := by decide +kernel
theorem d6 : decode yB 6 = .ok (.aload_n 0, 1) := by decide +kernel
theorem d7 : decode yB 7 = .ok (.getfield 15, 3) := by decide +kernel
theorem d10 : decode yB 10 = .ok (.goto 4, 3) := by decide +kernel
theorem d14 : decode yB 14 = .ok (.ireturn, 1) := by decide +kernel
def site : List Cond := [.fieldLink "java/lang/String" 38 "java/lang/String" "COMPACT_STRINGS" "Z", .fieldLink "java/lang/String" 15 "java/lang/String" "coder" "B"]
def tab : Cond := tabOf yN yB 1 (some .byte) site
def P (x : Addr) (cd z : Int32) (args : Array Value) (s : State) : Prop := args = #[.ref x] ∧ Has x "java/lang/String" "coder" "B" (.int cd) s ∧ (cd = 0 ∨ cd = 1) ∧ StaticIs s "java/lang/String" "COMPACT_STRINGS" "Z" (.int z) ∧ ¬ z = 0
def E (cd : Int32) (r : Option Value) (s u : State) : Prop := XT.PureE (some (.int cd)) r s u
theorem law (l : Launch) (x : Addr) (cd z : Int32) : Law l yN 1 0 0 0 yB 1 (some .byte) site (P x cd z) (E cd) [] 0 0 := by
  refine Law.of_walk (plainFor_of_name (by decide +kernel)) (by decide +kernel) (by decide +kernel) (by decide) (fun _ _ h => by rw [h.1]; rfl) (fun _ U U' hal hh h => ⟨h.1, h.2.1.mv hal hh, h.2.2.1, h.2.2.2.1.there hal hh, h.2.2.2.2⟩) (fun r U U' V V' h1 hal h2 h => XT.PureE.mv r U U' V V' h1 hal h2 h) ?_
  intro p e s m args below meth c s₁ X0 hexec hbytes hml hret hlk hnm hown hh0 W hP
  obtain ⟨rfl, hx, hc, s1, hz⟩ := hP
  have c1 : Steps p.tables e below (s₁.setTop (entryFrame m #[.ref x] 1)) (s₁.setTop (mkF m 0 #[.val (.ref x)] [])) := entry rfl
  obtain ⟨T2, X2, q2, st2⟩ := X0.sget hexec hown (wk W (.fieldLink "java/lang/String" 38 "java/lang/String" "COMPACT_STRINGS" "Z")) s1 (fun _ _ h => by rw [hh0]; exact h) (g := (mkF m 0 #[.val (.ref x)] [])) rfl (hb hbytes d0)
  have hh2 := q2.trans hh0
  have c3 : Steps p.tables e below (s₁.setTop (entryFrame m #[.ref x] 1)) (T2.setTop (mkF m 7 #[.val (.ref x)] [.ref x])) := (c1.trans (st2 _ (Steps.refl _))).trans (by
    refine XS.ifNo X2.here hexec rfl (hb hbytes d3) rfl (i0_eq_f hz) ?_
    refine XS.aloadN X2.here hexec rfl (hb hbytes d6) rfl rfl ?_
    exact Steps.refl _)
  obtain ⟨T4, X4, q4, st4⟩ := X2.hget hexec hown (wk W (.fieldLink "java/lang/String" 15 "java/lang/String" "coder" "B")) (hx.mv X2.warmed.alike hh2) (g := (mkF m 7 #[.val (.ref x)] [.ref x])) rfl (rest := []) rfl (hb hbytes d7)
  have c5 : Steps p.tables e below (s₁.setTop (entryFrame m #[.ref x] 1)) (T4.setTop (mkF m 14 #[.val (.ref x)] [.int cd])) := (c3.trans (st4 _ (Steps.refl _))).trans (by
    refine XS.goto X4.here hexec rfl (pc0 := 10) rfl (hb hbytes d10) (by decide) rfl ?_
    exact Steps.refl _)
  exact ⟨T4, some (.int cd), _, _, _, X4, rfl, rfl, rfl, (fun h => by cases h), ⟨rfl, q4.trans hh2⟩, fun fs hl => c5.trans (X4.ireturnOut hexec hret (by rcases hc with rfl | rfl <;> rfl) (Or.inr (Or.inr (Or.inl rfl))) (hb hbytes d14) hl)⟩
end Cdr
namespace Len
def yN : MethodName := ⟨"java/lang/String", "length", "()I"⟩
abbrev yB : ByteArray := jdk_42_method_54_code
theorem d0 : decode yB 0 = .ok (.aload_n 0, 1) := by decide +kernel
theorem d1 : decode yB 1 = .ok (.getfield 9, 3) := by decide +kernel
theorem d4 : decode yB 4 = .ok (.arraylength, 1) := by decide +kernel
theorem d5 : decode yB 5 = .ok (.aload_n 0, 1) := by decide +kernel
theorem d6 : decode yB 6 = .ok (.invokevirtual 335, 3) := by decide +kernel
theorem d9 : decode yB 9 = .ok (.ishr, 1) := by decide +kernel
theorem d10 : decode yB 10 = .ok (.ireturn, 1) := by decide +kernel
def site : List Cond := [.fieldLink "java/lang/String" 9 "java/lang/String" "value" "[B", Cdr.tab] ++ virtW "java/lang/String" 335 "java/lang/String" Cdr.yN Cdr.yN
def tab : Cond := tabOf yN yB 1 (some .int) site
def P (x t : Addr) (V : Cell) (cd : Int32) (n : Nat) (f : Nat → Int32) (z : Int32) (args : Array Value) (s : State) : Prop := args = #[.ref x] ∧ Txt x t V cd n f s ∧ StaticIs s "java/lang/String" "COMPACT_STRINGS" "Z" (.int z) ∧ ¬ z = 0
def E (n : Nat) (r : Option Value) (s u : State) : Prop := XT.PureE (some (.int (Int32.ofNat n))) r s u
/-- length() of a String of n chars, in either coding -/
theorem law (l : Launch) (x t : Addr) (V : Cell) (cd : Int32) (n : Nat) (f : Nat → Int32) (z : Int32) : Law l yN 1 0 1 13 yB 1 (some .int) site (P x t V cd n f z) (E n) [] 0 0 := by
  refine Law.of_walk (plainFor_of_name (by decide +kernel)) (by decide +kernel) (by decide +kernel) (by decide) (fun _ _ h => by rw [h.1]; rfl) (fun _ U U' hal hh h => ⟨h.1, h.2.1.mv hal hh, h.2.2.1.there hal hh, h.2.2.2⟩) (fun r U U' V V' h1 hal h2 h => XT.PureE.mv r U U' V V' h1 hal h2 h) ?_
  intro p e s m args below meth c s₁ X0 hexec hbytes hml hret hlk hnm hown hh0 W hP
  obtain ⟨rfl, hx, s1, hz⟩ := hP
  have v31 := hx.2.2.2.1.2.2.2
  have c1 : Steps p.tables e below (s₁.setTop (entryFrame m #[.ref x] 1)) (s₁.setTop (mkF m 1 #[.val (.ref x)] [.ref x])) := Steps.trans (entry rfl) (by
    show Steps p.tables e below (s₁.setTop (mkF m 0 #[.val (.ref x)] [])) _
    refine XS.aloadN X0.here hexec rfl (hb hbytes d0) rfl rfl ?_
    exact Steps.refl _)
  obtain ⟨T2, X2, q2, st2⟩ := X0.hget hexec hown (wk W (.fieldLink "java/lang/String" 9 "java/lang/String" "value" "[B")) (hx.mv X0.warmed.alike hh0).2.1 (g := (mkF m 1 #[.val (.ref x)] [.ref x])) rfl (rest := []) rfl (hb hbytes d1)
  have hh2 := q2.trans hh0
  have hx2 := hx.mv X2.warmed.alike hh2
  have c3 : Steps p.tables e below (s₁.setTop (entryFrame m #[.ref x] 1)) (T2.setTop (mkF m 6 #[.val (.ref x)] [.ref x, .int (Int32.ofNat V.slots.size)])) := (c1.trans (st2 _ (Steps.refl _))).trans (by
    refine X2.alen hexec hx2.2.2.2.1 rfl rfl (hb hbytes d4) ?_
    refine XS.aloadN X2.here hexec rfl (hb hbytes d5) rfl rfl ?_
    exact Steps.refl _)
  obtain ⟨v4, T4, X4, E4, g4⟩ := X2.callV hexec (Cdr.law l x cd z) hown (wks W (virtW "java/lang/String" 335 "java/lang/String" Cdr.yN Cdr.yN)) rfl (by decide) (wk W Cdr.tab) (W := 1) (Nat.le_of_ble_eq_true rfl) (Nat.le_of_ble_eq_true rfl) (Nat.le_refl _) (Nat.le_refl _) (hx2.1.fc X2.warmed.alike) hx2.1.is (g := (mkF m 6 #[.val (.ref x)] [.ref x, .int (Int32.ofNat V.slots.size)])) rfl (by rw [hml]; rfl) c3 (argsL := []) (rest := [.int (Int32.ofNat V.slots.size)]) rfl rfl (by show 2 * 0 + (1 + 0) ≤ _; decide) (hb hbytes d6) (⟨rfl, hx2.2.2.1, hx.2.2.2.2.1.cd, s1.there X2.warmed.alike hh2, hz⟩)
  obtain ⟨rfl, q4⟩ := E4
  have c5 : Steps p.tables e below (s₁.setTop (entryFrame m #[.ref x] 1)) (T4.setTop (mkF m 10 #[.val (.ref x)] [.int (Int32.ofNat V.slots.size >>> (cd &&& 31))])) := Steps.trans g4 (by
    refine ishr X4.here hexec rfl (hb hbytes d9) rfl ?_
    exact Steps.refl _)
  rw [hx.2.2.2.2.1.len v31] at c5
  exact ⟨T4, some (.int (Int32.ofNat n)), _, _, _, X4, rfl, rfl, rfl, (fun h => by cases h), ⟨rfl, q4.trans hh2⟩, fun fs hl => c5.trans (X4.ireturnOut hexec hret rfl (Or.inl rfl) (hb hbytes d10) hl)⟩
theorem pays {l : Launch} {R : Room} {p : Program} {e : Env} {below : List Frame} {s : State} {sargs : Array Value} {len W : Nat} (x t : Addr) (V : Cell) (cd : Int32) (n : Nat) (f : Nat → Int32) (z : Int32) (htab : tab.before sargs s = true) (hfr : 2 ≤ R.frames) (hlo : W + 25 ≤ R.locals) :
    Back l R p e below s sargs yN len W (fun A₁ a₁ => A₁.cells + 0 ≤ R.cells ∧ A₁.slots + 0 ≤ R.slots ∧ P x t V cd n f z a₁ A₁.U) (fun A₁ _ v₁ B₁ => E n v₁ A₁.U B₁.U ∧ B₁.locs = A₁.locs ++ [] ∧ B₁.cells = A₁.cells + 0 ∧ B₁.slots = A₁.slots + 0) :=
  (law l x t V cd n f z).pays htab hfr (by omega)
end Len
namespace IsL
def yN : MethodName := ⟨"java/lang/String", "isLatin1", "()Z"⟩
abbrev yB : ByteArray := jdk_42_method_154_code
theorem d0 : decode yB 0 = .ok (.getstatic 38, 3) := by decide +kernel
theorem d3 : decode yB 3 = .ok (.ifCond (.eq) 14, 3) := by decide +kernel
theorem d6 : decode yB 6 = .ok (.aload_n 0, 1) := by decide +kernel
theorem d7 : decode yB 7 = .ok (.getfield 15, 3) := by decide +kernel
theorem d10 : decode yB 10 = .ok (.ifCond (.ne) 7, 3) := by decide +kernel
theorem d13 : decode yB 13 = .ok (.iconst 1, 1) := by decide +kernel
theorem d14 : decode yB 14 = .ok (.goto 4, 3) := by decide +kernel
theorem d17 : decode yB 17 = .ok (.iconst 0, 1) := by decide +kernel
theorem d18 : decode yB 18 = .ok (.ireturn, 1) := by decide +kernel
def site : List Cond := [.fieldLink "java/lang/String" 38 "java/lang/String" "COMPACT_STRINGS" "Z", .fieldLink "java/lang/String" 15 "java/lang/String" "coder" "B"]
def tab : Cond := tabOf yN yB 1 (some .boolean) site
def P (x : Addr) (cd z : Int32) (args : Array Value) (s : State) : Prop := args = #[.ref x] ∧ Has x "java/lang/String" "coder" "B" (.int cd) s ∧ (cd = 0 ∨ cd = 1) ∧ StaticIs s "java/lang/String" "COMPACT_STRINGS" "Z" (.int z) ∧ ¬ z = 0
def E (cd : Int32) (r : Option Value) (s u : State) : Prop := XT.PureE (some (.int (1 - cd))) r s u
theorem law (l : Launch) (x : Addr) (cd z : Int32) : Law l yN 1 0 0 0 yB 1 (some .boolean) site (P x cd z) (E cd) [] 0 0 := by
  refine Law.of_walk (plainFor_of_name (by decide +kernel)) (by decide +kernel) (by decide +kernel) (by decide) (fun _ _ h => by rw [h.1]; rfl) (fun _ U U' hal hh h => ⟨h.1, h.2.1.mv hal hh, h.2.2.1, h.2.2.2.1.there hal hh, h.2.2.2.2⟩) (fun r U U' V V' h1 hal h2 h => XT.PureE.mv r U U' V V' h1 hal h2 h) ?_
  intro p e s m args below meth c s₁ X0 hexec hbytes hml hret hlk hnm hown hh0 W hP
  obtain ⟨rfl, hx, hc, s1, hz⟩ := hP
  have c1 : Steps p.tables e below (s₁.setTop (entryFrame m #[.ref x] 1)) (s₁.setTop (mkF m 0 #[.val (.ref x)] [])) := entry rfl
  obtain ⟨T2, X2, q2, st2⟩ := X0.sget hexec hown (wk W (.fieldLink "java/lang/String" 38 "java/lang/String" "COMPACT_STRINGS" "Z")) s1 (fun _ _ h => by rw [hh0]; exact h) (g := (mkF m 0 #[.val (.ref x)] [])) rfl (hb hbytes d0)
  have hh2 := q2.trans hh0
  have c3 : Steps p.tables e below (s₁.setTop (entryFrame m #[.ref x] 1)) (T2.setTop (mkF m 7 #[.val (.ref x)] [.ref x])) := (c1.trans (st2 _ (Steps.refl _))).trans (by
    refine XS.ifNo X2.here hexec rfl (hb hbytes d3) rfl (i0_eq_f hz) ?_
    refine XS.aloadN X2.here hexec rfl (hb hbytes d6) rfl rfl ?_
    exact Steps.refl _)
  obtain ⟨T4, X4, q4, st4⟩ := X2.hget hexec hown (wk W (.fieldLink "java/lang/String" 15 "java/lang/String" "coder" "B")) (hx.mv X2.warmed.alike hh2) (g := (mkF m 7 #[.val (.ref x)] [.ref x])) rfl (rest := []) rfl (hb hbytes d7)
  have c5 : Steps p.tables e below (s₁.setTop (entryFrame m #[.ref x] 1)) (T4.setTop (mkF m 10 #[.val (.ref x)] [.int cd])) := c3.trans (st4 _ (Steps.refl _))
  have c6 : Steps p.tables e below (s₁.setTop (entryFrame m #[.ref x] 1)) (T4.setTop (mkF m 18 #[.val (.ref x)] [.int (1 - cd)])) := by
    rcases hc with rfl | rfl
    · exact c5.trans (by
        refine XS.ifNo X4.here hexec rfl (hb hbytes d10) rfl (i0_ne_f rfl) ?_
        refine iconstV X4.here hexec rfl 1 (hb hbytes d13) (by decide) ?_
        refine XS.goto X4.here hexec rfl (pc0 := 14) rfl (hb hbytes d14) (by decide) rfl ?_
        exact Steps.refl _)
    · exact c5.trans (by
        refine XS.ifYes X4.here hexec rfl (pc0 := 10) rfl (hb hbytes d10) rfl (i0_ne_t (by decide)) (by decide) rfl ?_
        refine iconstV X4.here hexec rfl 0 (hb hbytes d17) (by decide) ?_
        exact Steps.refl _)
  exact ⟨T4, some (.int (1 - cd)), _, _, _, X4, rfl, rfl, rfl, (fun h => by cases h), ⟨rfl, q4.trans hh2⟩, fun fs hl => c6.trans (X4.ireturnOut hexec hret (by rcases hc with rfl | rfl <;> rfl) (Or.inr (Or.inl rfl)) (hb hbytes d18) hl)⟩
end IsL
namespace LChA
def yN : MethodName := ⟨"java/lang/StringLatin1", "charAt", "([BI)C"⟩
abbrev yB : ByteArray := jdk_43_method_2_code
theorem d0 : decode yB 0 = .ok (.iload_n 1, 1) := by decide +kernel
theorem d1 : decode yB 1 = .ok (.aload_n 0, 1) := by decide +kernel
theorem d2 : decode yB 2 = .ok (.arraylength, 1) := by decide +kernel
theorem d3 : decode yB 3 = .ok (.invokestatic 9, 3) := by decide +kernel
theorem d6 : decode yB 6 = .ok (.aload_n 0, 1) := by decide +kernel
theorem d7 : decode yB 7 = .ok (.iload_n 1, 1) := by decide +kernel
theorem d8 : decode yB 8 = .ok (.baload, 1) := by decide +kernel
theorem d9 : decode yB 9 = .ok (.sipush 255, 3) := by decide +kernel
theorem d12 : decode yB 12 = .ok (.iand, 1) := by decide +kernel
theorem d13 : decode yB 13 = .ok (.i2c, 1) := by decide +kernel
theorem d14 : decode yB 14 = .ok (.ireturn, 1) := by decide +kernel
def site : List Cond := [JO.Str_checkIndex.tab] ++ staticW "java/lang/StringLatin1" 9 JO.Str_checkIndex.yN
def tab : Cond := tabOf yN yB 2 (some .char) site
def P (t : Addr) (V : Cell) (i : Nat) (u : Int32) (fm : Value) (args : Array Value) (s : State) : Prop := args = #[.ref t, .int (Int32.ofNat i)] ∧ XT.Arr .byte t V s ∧ V.slots[i]? = some (.int u) ∧ (StaticIs s "jdk/internal/util/Preconditions" "SIOOBE_FORMATTER" "Ljava/util/function/BiFunction;" fm ∧ fm.isRef = true)
def E (u : Int32) (r : Option Value) (s w : State) : Prop := XT.PureE (some (.int (chr8 u))) r s w
theorem law (l : Launch) (t : Addr) (V : Cell) (i : Nat) (u : Int32) (fm : Value) : Law l yN 2 2 2 27 yB 2 (some .char) site (P t V i u fm) (E u) [] 0 0 := by
  refine Law.of_walk (plainFor_of_name (by decide +kernel)) (by decide +kernel) (by decide +kernel) (by decide) (fun _ _ h => by rw [h.1]; rfl) (fun _ U U' hal hh h => ⟨h.1, h.2.1.mv hal hh, h.2.2.1, h.2.2.2.1.there hal hh, h.2.2.2.2⟩) (fun r U U' V V' h1 hal h2 h => XT.PureE.mv r U U' V V' h1 hal h2 h) ?_
  intro p e s m args below meth c s₁ X0 hexec hbytes hml hret hlk hnm hown hh0 W hP
  obtain ⟨rfl, hV, hu, s1, rf⟩ := hP
  have v31 := hV.2.2.2
  have hi : i < V.slots.size := (Array.getElem?_eq_some_iff.mp hu).1
  have c1 : Steps p.tables e below (s₁.setTop (entryFrame m #[.ref t, .int (Int32.ofNat i)] 2)) (s₁.setTop (mkF m 0 #[.val (.ref t), .val (.int (Int32.ofNat i))] [])) := entry rfl
  have c2 : Steps p.tables e below (s₁.setTop (entryFrame m #[.ref t, .int (Int32.ofNat i)] 2)) (s₁.setTop (mkF m 3 #[.val (.ref t), .val (.int (Int32.ofNat i))] [.int (Int32.ofNat V.slots.size), .int (Int32.ofNat i)])) := c1.trans (by
    refine XS.iloadN X0.here hexec rfl (hb hbytes d0) rfl ?_
    refine XS.aloadN X0.here hexec rfl (hb hbytes d1) rfl rfl ?_
    refine X0.alen hexec (hV.mv X0.warmed.alike hh0) rfl rfl (hb hbytes d2) ?_
    exact Steps.refl _)
  obtain ⟨v3, T3, X3, E3, g3⟩ := X0.callS hexec (JO.Str_checkIndex.law l (Int32.ofNat i) (Int32.ofNat V.slots.size) fm) hown (wks W (staticW "java/lang/StringLatin1" 9 JO.Str_checkIndex.yN)) (wk W JO.Str_checkIndex.tab) (W := 0) (Nat.le_of_ble_eq_true rfl) (Nat.le_of_ble_eq_true rfl) (Nat.le_refl _) (Nat.le_refl _) (g := (mkF m 3 #[.val (.ref t), .val (.int (Int32.ofNat i))] [.int (Int32.ofNat V.slots.size), .int (Int32.ofNat i)])) rfl (by rw [hml]; rfl) c2 (argsL := [.int (Int32.ofNat i), .int (Int32.ofNat V.slots.size)]) (rest := []) rfl rfl (by show 2 * 0 + 0 ≤ _; decide) (hb hbytes d3) (⟨rfl, rf, s1.there X0.warmed.alike hh0, Int32.ofNat_not_neg (by omega), lt32 v31 hi⟩)
  obtain ⟨rfl, q3⟩ := E3
  have hh3 := q3.trans hh0
  have c4 : Steps p.tables e below (s₁.setTop (entryFrame m #[.ref t, .int (Int32.ofNat i)] 2)) (T3.setTop (mkF m 14 #[.val (.ref t), .val (.int (Int32.ofNat i))] [.int (chr8 u)])) := Steps.trans g3 (by
    refine XS.aloadN X3.here hexec rfl (hb hbytes d6) rfl rfl ?_
    refine XS.iloadN X3.here hexec rfl (hb hbytes d7) rfl ?_
    refine X3.aget hexec (hV.mv X3.warmed.alike hh3) rfl hu rfl rfl (hb hbytes d8) ?_
    refine sipushV X3.here hexec rfl 255 (hb hbytes d9) (by decide) ?_
    refine XS.iand X3.here hexec rfl (hb hbytes d12) rfl ?_
    refine i2c X3.here hexec rfl (hb hbytes d13) rfl ?_
    exact Steps.refl _)
  exact ⟨T3, some (.int (chr8 u)), _, _, _, X3, rfl, rfl, rfl, (fun h => by cases h), ⟨rfl, hh3⟩, fun fs hl => c4.trans (X3.ireturnOut hexec hret (narrow_c _) (Or.inr (Or.inr (Or.inr (Or.inl rfl)))) (hb hbytes d14) hl)⟩
end LChA
end StrChars
namespace StrChars.Road
open Jvm Sem ClassFile Op Lib Jvm.Stand Jvm.Free Jvm.Free.XT
open Jvm.Lib.Cold (StaticIs)
theorem consq {a : Array Value} {s : State} {c : Jvm.Cond} {L : List Jvm.Cond} (h0 : c.before a s = true) (h : ∀ w ∈ L, w.before a s = true) : ∀ w ∈ c :: L, w.before a s = true := fun w hw => (List.mem_cons.mp hw).elim (fun e => e ▸ h0) (h w)
/-- the words of String.length(), either coding -/
abbrev wordsLen : List Jvm.Cond := [.code Len.yN Len.yB 1 (some .int), .initialized ST, .fieldLink ST 9 ST "value" "[B", .fieldLink ST 38 ST "COMPACT_STRINGS" "Z", .fieldLink ST 15 ST "coder" "B", .code Cdr.yN Cdr.yB 1 (some .byte), .methodLink ST 335 Cdr.yN, .declares Cdr.yN, .selects ST Cdr.yN Cdr.yN, .instanceMethod Cdr.yN]
theorem tabLen_of {a : Array Value} {s : State} (h : ∀ w ∈ wordsLen, w.before a s = true) : Len.tab.before a s = true := by
  have hc : Cdr.tab.before a s = true := unparts (wk h (.code Cdr.yN Cdr.yB 1 (some .byte))) (wks h (.initialized Cdr.yN.cls :: Cdr.site))
  have q := consq hc h
  exact unparts (wk q (.code Len.yN Len.yB 1 (some .int))) (wks q (.initialized Len.yN.cls :: Len.site))
theorem movedLen {Z s : State} {a0 args : Array Value} (hZ : Z.Warmed39 s.vm) (hw : ∀ d ∈ wordsLen, d.before a0 Z = true) : ∀ d ∈ wordsLen, d.before args s = true := fun d hd => by
  have q := hw d hd
  have t : ∀ d ∈ wordsLen, d = .arrayClass .byte ∨ (d.onTables && d.keepsFace) = true := by decide +kernel
  rcases t d hd with rfl | t
  · exact RoadKit.mvA hZ q
  · exact RoadKit.mv hZ q t
/-- the bytes of the chars cs, low before high -/
def wideBytes : List Int32 → List Value
  | [] => []
  | c :: cs => .int (lo8 c) :: .int (hi8 c) :: wideBytes cs
theorem wide_lo (d : Value) : ∀ (cs : List Int32) (j : Nat), j < cs.length → (wideBytes cs).getD (2 * j) d = .int (lo8 (cs.getD j 0))
  | [], j, h => absurd h (Nat.not_lt_zero j)
  | c :: cs, 0, _ => rfl
  | c :: cs, j + 1, h => by
    have q := wide_lo d cs j (by simpa using h)
    rw [show 2 * (j + 1) = 2 * j + 1 + 1 from by omega]
    simpa [wideBytes] using q
theorem wide_hi (d : Value) : ∀ (cs : List Int32) (j : Nat), j < cs.length → (wideBytes cs).getD (2 * j + 1) d = .int (hi8 (cs.getD j 0))
  | [], j, h => absurd h (Nat.not_lt_zero j)
  | c :: cs, 0, _ => rfl
  | c :: cs, j + 1, h => by
    have q := wide_hi d cs j (by simpa using h)
    rw [show 2 * (j + 1) + 1 = 2 * j + 1 + 1 + 1 from by omega]
    simpa [wideBytes] using q
theorem low_at (d : Value) (cs : List Int32) (j : Nat) (h : j < cs.length) : (cs.map fun c => Value.int (lo8 c)).getD j d = .int (lo8 (cs.getD j 0)) := by
  simp [List.getD_eq_getElem?_getD, h]
/-- an array of N2 bytes vs codes the chars cs by the coder cd -/
def CodA (cs : List Int32) (cd N2 : Int32) (vs : List Value) : Prop := (cd = 0 ∧ N2 = Int32.ofNat cs.length ∧ vs = (cs.map fun c => Value.int (lo8 c)) ∧ ∀ c ∈ cs, ¬ 255 < c) ∨ (cd = 1 ∧ N2 = Int32.ofNat (2 * cs.length) ∧ vs = wideBytes cs ∧ ∃ c ∈ cs, 255 < c)
theorem CodA.cod {cs : List Int32} {cd N2 : Int32} {vs : List Value} {V : Cell} (h : CodA cs cd N2 vs) (hn : 2 * cs.length < 2 ^ 31) (hs : V.slots.size = N2.toNatClampNeg) (hv : RoadKit.Has V vs (.int 0)) : Cod cd cs.length (fun j => cs.getD j 0) V := by
  rcases h with ⟨rfl, rfl, rfl, h⟩ | ⟨rfl, rfl, rfl, c, hc, hw⟩
  · rw [n32 (by omega)] at hs
    exact Or.inl ⟨rfl, hs, fun j hj => ⟨by rw [hv j (by omega), low_at _ _ _ hj], by
      have e : cs.getD j 0 = cs[j] := by simp [List.getD_eq_getElem?_getD, hj]
      show ¬ 255 < cs.getD j 0
      rw [e]; exact h _ (List.getElem_mem _)⟩⟩
  · rw [n32 (by omega)] at hs
    obtain ⟨j, hj, rfl⟩ := List.getElem_of_mem hc
    exact Or.inr ⟨rfl, hs, fun j hj => ⟨by rw [hv _ (by omega), wide_lo _ _ _ hj], by rw [hv _ (by omega), wide_hi _ _ _ hj]⟩, j, hj, by
      have e : cs.getD j 0 = cs[j] := by simp [List.getD_eq_getElem?_getD, hj]
      show 255 < cs.getD j 0
      rw [e]; exact hw⟩
/-- an object of exactly java/lang/String, its two fields found: as the laws ask it -/
theorem strObj {Z U : State} {a0 : Array Value} {kI : Nat} (wi : (Jvm.Cond.instantiable ST kI).before a0 Z = true) (al : Z.vm.Alike U.vm) {x : Addr} {v0 c0 : Value} (E : RoadKit.Exa Z U.heap x ST) (V : RoadKit.Fld Z U.heap x ST "value" "[B" v0) (C : RoadKit.Fld Z U.heap x ST "coder" "B" c0) :
    ∃ (D : Cell) (fV fC : Field), Blank ST x D U ∧ Found ST "value" "[B" fV U ∧ Found ST "coder" "B" fC U ∧ D.slots[fV.slot]? = some v0 ∧ D.slots[fC.slot]? = some c0 ∧ RoadKit.slotOf Z ST "value" "[B" = fV.slot ∧ RoadKit.slotOf Z ST "coder" "B" = fC.slot := by
  obtain ⟨D, cfV, kV, iV, fV, hD, gV, stV, knV, obV, asV, slV⟩ := V
  obtain ⟨D', cfC, kC, iC, fC, hD', gC, stC, -, -, asC, slC⟩ := C
  cases hD.symm.trans hD'
  obtain ⟨D2, kD, e1, e2, e3, e4, e5⟩ := E
  cases hD.symm.trans e1
  obtain ⟨c2, k2, i1, i2, i3, -⟩ := Cond.instantiable_spec wi
  cases e2.symm.trans i1
  cases e3.symm.trans i2
  obtain ⟨kU, u1, u2⟩ := al.2.2 _ _ e3
  exact ⟨D, fV, fC, ⟨hD, ⟨knV, fun q hq => by rw [hq] at obV; cases obV⟩, by rw [al.findClass]; exact e2, kU, u1, by rw [u2]; exact i3, by rw [u2]; exact e5 i3⟩, ⟨SBG.found_only al ⟨cfV, kV, iV, gV⟩, stV⟩, ⟨SBG.found_only al ⟨cfC, kC, iC, gC⟩, stC⟩, slV, slC, by simp [RoadKit.slotOf, gV], by simp [RoadKit.slotOf, gC]⟩
theorem sta_is {Z U : State} (al : Z.vm.Alike U.vm) {C n d : String} {v : Value} (S : RoadKit.Sta Z U.heap C n d v) : StaticIs U C n d v := by
  obtain ⟨cfS, iS, kS, fS, st, cS, t1, t2, t3, t4, t5, t6, t7⟩ := S
  exact StaticIs.there (s := { Z with heap := U.heap }) ⟨cfS, iS, kS, fS, st, cS, t1, t2, t3, t4, t5, (fun q => by rw [q] at t6; cases t6), t7⟩ al rfl
/-- **length() OF SUCH A STRING** -/
theorem lenW {p : Program} {l : Launch} {e : Env} {R : Room} {s : State} {args : Array Value} {below : List Frame} {len W : Nat} {Z : State} {a0 : Array Value} {h : Heap} (hZ : Z.Warmed39 s.vm) (hw : ∀ d ∈ wordsLen, d.before a0 Z = true) {kI : Nat} (wi : (Jvm.Cond.instantiable ST kI).before a0 Z = true)
    {x t : Addr} {kb : ClassId} {cs : List Int32} {cd N2 z : Int32} {vs : List Value} (E : RoadKit.Exa Z h x ST) (V : RoadKit.Fld Z h x ST "value" "[B" (.ref t)) (C : RoadKit.Fld Z h x ST "coder" "B" (.int cd)) (K : RoadKit.Arv Z h t kb .byte N2 vs (.int 0)) (hc : CodA cs cd N2 vs) (hb : ∀ c ∈ cs, ¬ c < 0 ∧ ¬ (65535 : Int32) < c)
    (S : RoadKit.Sta Z h ST "COMPACT_STRINGS" "Z" (.int z)) (hz : ¬ z = 0) (l2 : cs.length ≤ 4000) (hfr : 2 ≤ R.frames) (hlo : W + 25 ≤ R.locals) :
    Back l R p e below s args (⟨"java/lang/String", "length", "()I"⟩ : MethodName) len W (fun P a => a = #[.ref x] ∧ P.U.heap = h ∧ P.cells + 0 ≤ R.cells ∧ P.slots + 0 ≤ R.slots)
      (fun P _ v B => ∃ L, (v = some (.int (Int32.ofNat cs.length)) ∧ L = [] ∧ B.U.heap = h) ∧ B.locs = P.locs ++ L ∧ B.cells = P.cells + 0 ∧ B.slots = P.slots + 0) := by
  obtain ⟨A, K1, K2, K3, K4, K5, K6⟩ := K
  have hcod := hc.cod (by omega) K3 K5
  intro m meth c P g ig mk a X hg hsize hdg hW hn hp'
  obtain ⟨rfl, rfl, r1, r2⟩ := hp'
  have al : Z.vm.Alike P.U.vm := hZ.alike.trans X.warmed.alike
  obtain ⟨D, fV, fC, hB, F1, F2, g1, g2, -, -⟩ := strObj wi al E V C
  have hx : Txt x t A cd cs.length (fun j => cs.getD j 0) P.U := ⟨⟨_, hB.2.2.1, D, hB.1, rfl, by cases q : D.vm <;> first | rfl | exact absurd q (hB.2.1.2 _)⟩, Has.of hB F1 g1, Has.of hB F2 g2, ⟨K1.1, State.isArrayOf_alike al K1.2.1, K1.2.2, by rcases hcod with ⟨-, q, -⟩ | ⟨-, q, -⟩ <;> omega⟩, hcod, fun j hj => by
    have e : cs.getD j 0 = cs[j] := by simp [List.getD_eq_getElem?_getD, hj]
    show ¬ cs.getD j 0 < 0 ∧ ¬ 65535 < cs.getD j 0
    rw [e]; exact hb _ (List.getElem_mem _)⟩
  obtain ⟨v, B, X', ⟨⟨hv, hh⟩, hl, hk, hs⟩, st⟩ := Len.pays x t A cd cs.length (fun j => cs.getD j 0) z (tabLen_of (movedLen hZ hw)) hfr hlo m meth c P g ig mk _ X hg hsize hdg hW hn ⟨r1, r2, rfl, hx, sta_is al S, hz⟩
  exact ⟨v, B, X', ⟨[], ⟨hv, rfl, hh⟩, hl, hk, hs⟩, st⟩
end StrChars.Road
namespace StrChars.Road
open Jvm Sem ClassFile Op Lib Jvm.Stand Jvm.Free Jvm.Free.XT
open Jvm.Lib.Cold (StaticIs)
/-- the road's facts of a String, as the laws ask it -/
theorem txt_of {Z U : State} {a0 : Array Value} {kI : Nat} (wi : (Jvm.Cond.instantiable ST kI).before a0 Z = true) (al : Z.vm.Alike U.vm) {x t : Addr} {kb : ClassId} {cs : List Int32} {cd N2 : Int32} {vs : List Value} (E : RoadKit.Exa Z U.heap x ST) (V : RoadKit.Fld Z U.heap x ST "value" "[B" (.ref t)) (C : RoadKit.Fld Z U.heap x ST "coder" "B" (.int cd)) (K : RoadKit.Arv Z U.heap t kb .byte N2 vs (.int 0)) (hc : CodA cs cd N2 vs) (hb : ∀ c ∈ cs, ¬ c < 0 ∧ ¬ (65535 : Int32) < c) (l2 : cs.length ≤ 4000) :
    ∃ A, Txt x t A cd cs.length (fun j => cs.getD j 0) U := by
  obtain ⟨A, K1, K2, K3, K4, K5, K6⟩ := K
  have hcod := hc.cod (by omega) K3 K5
  obtain ⟨D, fV, fC, hB, F1, F2, g1, g2, -, -⟩ := strObj wi al E V C
  exact ⟨A, ⟨_, hB.2.2.1, D, hB.1, rfl, by cases q : D.vm <;> first | rfl | exact absurd q (hB.2.1.2 _)⟩, Has.of hB F1 g1, Has.of hB F2 g2, ⟨K1.1, State.isArrayOf_alike al K1.2.1, K1.2.2, by rcases hcod with ⟨-, q, -⟩ | ⟨-, q, -⟩ <;> omega⟩, hcod, fun j hj => by
    have e : cs.getD j 0 = cs[j] := by simp [List.getD_eq_getElem?_getD, hj]
    show ¬ cs.getD j 0 < 0 ∧ ¬ 65535 < cs.getD j 0
    rw [e]; exact hb _ (List.getElem_mem _)⟩
end StrChars.Road
namespace StrChars
open Jvm Sem ClassFile Op Lib Jvm.Stand Jvm.Free.XT Jvm.Free.ALB Jvm.Free.JM Jvm.Free
open Jvm.Lib.Cold (StaticIs)
namespace ChN
def yN : MethodName := ⟨"java/lang/String", "charAt", "(I)C"⟩
abbrev yB : ByteArray := jdk_42_method_56_code
theorem d0 : decode yB 0 = .ok (.aload_n 0, 1) := by decide +kernel
theorem d1 : decode yB 1 = .ok (.invokevirtual 492, 3) := by decide +kernel
theorem d4 : decode yB 4 = .ok (.ifCond (.eq) 12, 3) := by decide +kernel
theorem d7 : decode yB 7 = .ok (.aload_n 0, 1) := by decide +kernel
theorem d8 : decode yB 8 = .ok (.getfield 9, 3) := by decide +kernel
theorem d11 : decode yB 11 = .ok (.iload_n 1, 1) := by decide +kernel
theorem d12 : decode yB 12 = .ok (.invokestatic 495, 3) := by decide +kernel
theorem d15 : decode yB 15 = .ok (.ireturn, 1) := by decide +kernel
def site : List Cond := [.fieldLink "java/lang/String" 9 "java/lang/String" "value" "[B", IsL.tab, LChA.tab] ++ virtW "java/lang/String" 492 "java/lang/String" IsL.yN IsL.yN ++ staticW "java/lang/String" 495 LChA.yN
def tab : Cond := tabOf yN yB 2 (some .char) site
def P (x t : Addr) (V : Cell) (n : Nat) (f : Nat → Int32) (z : Int32) (fm : Value) (i : Nat) (args : Array Value) (s : State) : Prop := args = #[.ref x, .int (Int32.ofNat i)] ∧ Txt x t V 0 n f s ∧ i < n ∧ StaticIs s "java/lang/String" "COMPACT_STRINGS" "Z" (.int z) ∧ ¬ z = 0 ∧ StaticIs s "jdk/internal/util/Preconditions" "SIOOBE_FORMATTER" "Ljava/util/function/BiFunction;" fm ∧ fm.isRef = true
def E (f : Nat → Int32) (i : Nat) (r : Option Value) (s u : State) : Prop := XT.PureE (some (.int (f i))) r s u
/-- charAt(i) of a Latin-1 String of n chars, i < n: f i -/
theorem law (l : Launch) (x t : Addr) (V : Cell) (n : Nat) (f : Nat → Int32) (z : Int32) (fm : Value) (i : Nat) : Law l yN 2 1 3 40 yB 2 (some .char) site (P x t V n f z fm i) (E f i) [] 0 0 := by
  refine Law.of_walk (plainFor_of_name (by decide +kernel)) (by decide +kernel) (by decide +kernel) (by decide) (fun _ _ h => by rw [h.1]; rfl) (fun _ U U' hal hh h => ⟨h.1, h.2.1.mv hal hh, h.2.2.1, h.2.2.2.1.there hal hh, h.2.2.2.2.1, h.2.2.2.2.2.1.there hal hh, h.2.2.2.2.2.2⟩) (fun r U U' V V' h1 hal h2 h => XT.PureE.mv r U U' V V' h1 hal h2 h) ?_
  intro p e s m args below meth c s₁ X0 hexec hbytes hml hret hlk hnm hown hh0 W hP
  obtain ⟨rfl, hx, hi, s1, hz, s3, rf⟩ := hP
  have v31 := hx.2.2.2.1.2.2.2
  have hr := hx.2.2.2.2.2 i hi
  have hx0 := hx.mv X0.warmed.alike hh0
  have c1 : Steps p.tables e below (s₁.setTop (entryFrame m #[.ref x, .int (Int32.ofNat i)] 2)) (s₁.setTop (mkF m 1 #[.val (.ref x), .val (.int (Int32.ofNat i))] [.ref x])) := Steps.trans (entry rfl) (by
    show Steps p.tables e below (s₁.setTop (mkF m 0 #[.val (.ref x), .val (.int (Int32.ofNat i))] [])) _
    refine XS.aloadN X0.here hexec rfl (hb hbytes d0) rfl rfl ?_
    exact Steps.refl _)
  obtain ⟨v2, T2, X2, E2, g2⟩ := X0.callV hexec (IsL.law l x 0 z) hown (wks W (virtW "java/lang/String" 492 "java/lang/String" IsL.yN IsL.yN)) rfl (by decide) (wk W IsL.tab) (W := 0) (Nat.le_of_ble_eq_true rfl) (Nat.le_of_ble_eq_true rfl) (Nat.le_refl _) (Nat.le_refl _) (hx0.1.fc X0.warmed.alike) hx0.1.is (g := (mkF m 1 #[.val (.ref x), .val (.int (Int32.ofNat i))] [.ref x])) rfl (by rw [hml]; rfl) c1 (argsL := []) (rest := []) rfl rfl (by show 2 * 0 + 0 ≤ _; decide) (hb hbytes d1) (⟨rfl, hx0.2.2.1, hx.2.2.2.2.1.cd, s1.there X0.warmed.alike hh0, hz⟩)
  obtain ⟨rfl, q2⟩ := E2
  have hh2 := q2.trans hh0
  have hx2 := hx.mv X2.warmed.alike hh2
  obtain ⟨-, k1, k2⟩ | ⟨k0, -⟩ := hx.2.2.2.2.1
  · have c3 : Steps p.tables e below (s₁.setTop (entryFrame m #[.ref x, .int (Int32.ofNat i)] 2)) (T2.setTop (mkF m 8 #[.val (.ref x), .val (.int (Int32.ofNat i))] [.ref x])) := Steps.trans g2 (by
      refine XS.ifNo X2.here hexec rfl (hb hbytes d4) rfl (i0_eq_f (by decide)) ?_
      refine XS.aloadN X2.here hexec rfl (hb hbytes d7) rfl rfl ?_
      exact Steps.refl _)
    obtain ⟨T4, X4, q4, st4⟩ := X2.hget hexec hown (wk W (.fieldLink "java/lang/String" 9 "java/lang/String" "value" "[B")) hx2.2.1 (g := (mkF m 8 #[.val (.ref x), .val (.int (Int32.ofNat i))] [.ref x])) rfl (rest := []) rfl (hb hbytes d8)
    have hh4 := q4.trans hh2
    have c5 : Steps p.tables e below (s₁.setTop (entryFrame m #[.ref x, .int (Int32.ofNat i)] 2)) (T4.setTop (mkF m 12 #[.val (.ref x), .val (.int (Int32.ofNat i))] [.int (Int32.ofNat i), .ref t])) := (c3.trans (st4 _ (Steps.refl _))).trans (by
      refine XS.iloadN X4.here hexec rfl (hb hbytes d11) rfl ?_
      exact Steps.refl _)
    obtain ⟨v6, T6, X6, E6, g6⟩ := X4.callS hexec (LChA.law l t V i (lo8 (f i)) fm) hown (wks W (staticW "java/lang/String" 495 LChA.yN)) (wk W LChA.tab) (W := 0) (Nat.le_of_ble_eq_true rfl) (Nat.le_of_ble_eq_true rfl) (Nat.le_refl _) (Nat.le_refl _) (g := (mkF m 12 #[.val (.ref x), .val (.int (Int32.ofNat i))] [.int (Int32.ofNat i), .ref t])) rfl (by rw [hml]; rfl) c5 (argsL := [.ref t, .int (Int32.ofNat i)]) (rest := []) rfl rfl (by show 2 * 0 + 0 ≤ _; decide) (hb hbytes d12) (⟨rfl, hx.2.2.2.1.mv X4.warmed.alike hh4, (k2 i hi).1, s3.there X4.warmed.alike hh4, rf⟩)
    obtain ⟨rfl, q6⟩ := E6
    rw [chr8_lo8 hr.1 (k2 i hi).2] at g6
    exact ⟨T6, some (.int (f i)), _, _, _, X6, rfl, rfl, rfl, (fun h => by cases h), ⟨rfl, q6.trans hh4⟩, fun fs hl => Steps.trans g6 (X6.ireturnOut hexec hret (narrow_ch hr.1 hr.2) (Or.inr (Or.inr (Or.inr (Or.inl rfl)))) (hb hbytes d15) hl)⟩
  · exact absurd k0 (by decide)
theorem pays {l : Launch} {R : Room} {p : Program} {e : Env} {below : List Frame} {s : State} {sargs : Array Value} {len W : Nat} (x t : Addr) (V : Cell) (n : Nat) (f : Nat → Int32) (z : Int32) (fm : Value) (i : Nat) (htab : tab.before sargs s = true) (hfr : 4 ≤ R.frames) (hlo : W + 53 ≤ R.locals) :
    Back l R p e below s sargs yN len W (fun A₁ a₁ => A₁.cells + 0 ≤ R.cells ∧ A₁.slots + 0 ≤ R.slots ∧ P x t V n f z fm i a₁ A₁.U) (fun A₁ _ v₁ B₁ => E f i v₁ A₁.U B₁.U ∧ B₁.locs = A₁.locs ++ [] ∧ B₁.cells = A₁.cells + 0 ∧ B₁.slots = A₁.slots + 0) :=
  (law l x t V n f z fm i).pays htab hfr (by omega)
end ChN
end StrChars
namespace StrChars.Road
open Jvm Sem ClassFile Op Lib Jvm.Stand Jvm.Free Jvm.Free.XT
open Jvm.Lib.Cold (StaticIs)
/-- the words of String.charAt(int), the Latin-1 road alone -/
abbrev wordsChN : List Jvm.Cond := [.code ChN.yN ChN.yB 2 (some .char), .initialized ST, .fieldLink ST 9 ST "value" "[B", .fieldLink ST 38 ST "COMPACT_STRINGS" "Z", .fieldLink ST 15 ST "coder" "B", .code IsL.yN IsL.yB 1 (some .boolean), .methodLink ST 492 IsL.yN, .declares IsL.yN, .selects ST IsL.yN IsL.yN, .instanceMethod IsL.yN,
  .methodLink ST 495 LChA.yN, .static LChA.yN, .code LChA.yN LChA.yB 2 (some .char), .initialized "java/lang/StringLatin1", .methodLink "java/lang/StringLatin1" 9 JO.Str_checkIndex.yN, .static JO.Str_checkIndex.yN, .code JO.Str_checkIndex.yN JO.Str_checkIndex.yB 2 none,
  .fieldLink ST 1053 "jdk/internal/util/Preconditions" "SIOOBE_FORMATTER" "Ljava/util/function/BiFunction;", .methodLink ST 1059 JC.PreCheck.yN, .static JC.PreCheck.yN, .code JC.PreCheck.yN JC.PreCheck.yB 3 (some .int), .initialized "jdk/internal/util/Preconditions"]
theorem tabChN_of {a : Array Value} {s : State} (h : ∀ w ∈ wordsChN, w.before a s = true) : ChN.tab.before a s = true := by
  have hp : JC.PreCheck.tab.before a s = true := unparts (wk h (.code JC.PreCheck.yN JC.PreCheck.yB 3 (some .int))) (wks h (.initialized JC.PreCheck.yN.cls :: JC.PreCheck.site))
  have qk := consq hp h
  have hk : JO.Str_checkIndex.tab.before a s = true := unparts (wk qk (.code JO.Str_checkIndex.yN JO.Str_checkIndex.yB 2 none)) (wks qk (.initialized JO.Str_checkIndex.yN.cls :: JO.Str_checkIndex.site))
  have ql := consq hk h
  have hl : LChA.tab.before a s = true := unparts (wk ql (.code LChA.yN LChA.yB 2 (some .char))) (wks ql (.initialized LChA.yN.cls :: LChA.site))
  have hi : IsL.tab.before a s = true := unparts (wk h (.code IsL.yN IsL.yB 1 (some .boolean))) (wks h (.initialized IsL.yN.cls :: IsL.site))
  have q := consq hi (consq hl h)
  exact unparts (wk q (.code ChN.yN ChN.yB 2 (some .char))) (wks q (.initialized ChN.yN.cls :: ChN.site))
theorem movedChN {Z s : State} {a0 args : Array Value} (hZ : Z.Warmed39 s.vm) (hw : ∀ d ∈ wordsChN, d.before a0 Z = true) : ∀ d ∈ wordsChN, d.before args s = true := fun d hd => by
  have t : ∀ d ∈ wordsChN, (d.onTables && d.keepsFace) = true := by decide +kernel
  exact RoadKit.mv hZ (hw d hd) (t d hd)
/-- **charAt(i) OF A LATIN-1 STRING**, i < n: the char -/
theorem chN {p : Program} {l : Launch} {e : Env} {R : Room} {s : State} {args : Array Value} {below : List Frame} {len W : Nat} {Z : State} {a0 : Array Value} {h : Heap} (hZ : Z.Warmed39 s.vm) (hw : ∀ d ∈ wordsChN, d.before a0 Z = true) {kI : Nat} (wi : (Jvm.Cond.instantiable ST kI).before a0 Z = true)
    {x t : Addr} {kb : ClassId} {cs : List Int32} {N2 z : Int32} {vs : List Value} {fm : Value} {i : Nat} {j : Int32} (E : RoadKit.Exa Z h x ST) (V : RoadKit.Fld Z h x ST "value" "[B" (.ref t)) (C : RoadKit.Fld Z h x ST "coder" "B" (.int 0)) (K : RoadKit.Arv Z h t kb .byte N2 vs (.int 0)) (hc : CodA cs 0 N2 vs) (hb : ∀ c ∈ cs, ¬ c < 0 ∧ ¬ (65535 : Int32) < c)
    (S : RoadKit.Sta Z h ST "COMPACT_STRINGS" "Z" (.int z)) (hz : ¬ z = 0) (F : RoadKit.Sta Z h "jdk/internal/util/Preconditions" "SIOOBE_FORMATTER" "Ljava/util/function/BiFunction;" fm) (rf : fm.isRef = true) (l2 : cs.length ≤ 4000) (hi : i < cs.length) (hj : j = Int32.ofNat i) (hfr : 4 ≤ R.frames) (hlo : W + 53 ≤ R.locals) :
    Back l R p e below s args (⟨"java/lang/String", "charAt", "(I)C"⟩ : MethodName) len W (fun P a => a = #[.ref x, .int j] ∧ P.U.heap = h ∧ P.cells + 0 ≤ R.cells ∧ P.slots + 0 ≤ R.slots)
      (fun P _ v B => ∃ L, (v = some (.int (cs.getD i 0)) ∧ L = [] ∧ B.U.heap = h) ∧ B.locs = P.locs ++ L ∧ B.cells = P.cells + 0 ∧ B.slots = P.slots + 0) := by
  subst hj
  intro m meth c P g ig mk a X hg hsize hdg hW hn hp'
  obtain ⟨rfl, rfl, r1, r2⟩ := hp'
  have al : Z.vm.Alike P.U.vm := hZ.alike.trans X.warmed.alike
  obtain ⟨A, hx⟩ := txt_of wi al E V C K hc hb l2
  obtain ⟨v, B, X', ⟨⟨hv, hh⟩, hl, hk, hs⟩, st⟩ := ChN.pays x t A cs.length (fun j => cs.getD j 0) z fm i (tabChN_of (movedChN hZ hw)) hfr hlo m meth c P g ig mk _ X hg hsize hdg hW hn ⟨r1, r2, rfl, hx, hi, sta_is al S, hz, sta_is al F, rf⟩
  exact ⟨v, B, X', ⟨[], ⟨hv, rfl, hh⟩, hl, hk, hs⟩, st⟩
/-- what backV says of its String, as the contracts of this text ask it: cs's low bytes, coder 0 -/
theorem codOf {cs : List Int32} {n : Nat} (hn : cs.length = n) (hb : ∀ c ∈ cs, ¬ 255 < c) : CodA cs 0 (Int32.ofNat n) ((cs.map lo8).map Value.int) := Or.inl ⟨rfl, by rw [hn], by simp [List.map_map, Function.comp_def], hb⟩
end StrChars.Road
end Jvm.Pilot.@@N@@
namespace Jvm.Pilot.@@N@@
open Jvm Jvm.ClassFile Sem Op Lib Jvm.Free Jvm.Stand Jvm.LawKit Jvm.RoadKit Bundle Jvm.Own Jvm.Pilot.@@N@@.Jvm.D
abbrev ST : String := "java/lang/String"
abbrev EL0 : List (String × Nat) := []
/-- x is a String of the chars cs -/
def Str (Z : State) (h : Heap) (x : Addr) (cs : List Int32) : Prop := ∃ (t : Addr) (kb : ClassId) (cd N2 : Int32) (vs : List Value), Exa Z h x ST ∧ Fld Z h x ST "value" "[B" (.ref t) ∧ Fld Z h x ST "coder" "B" (.int cd) ∧ Arv Z h t kb .byte N2 vs (.int 0) ∧
  StrChars.Road.CodA cs cd N2 vs ∧ (∀ c ∈ cs, ¬ c < 0 ∧ ¬ (65535 : Int32) < c) ∧ cs.length ≤ 4000
section S
variable {Z : State} {h h' : Heap} {x a : Addr} {cs ds : List Int32} {C : String} {n : Nat} {a0 : Array Value} {p : Program} {l : Launch} {e : Env} {R : Room} {s : State} {args : Array Value} {below : List Frame} {W : Nat} {z : Int32}
theorem Str.ext (S : Str Z h x cs) (E : Ext h h') : Str Z h' x cs := by
  obtain ⟨t, kb, cd, N2, vs, h1, h2, h3, h4, h5⟩ := S
  exact ⟨t, kb, cd, N2, vs, h1.ext E, h2.ext E, h3.ext E, h4.ext E, h5⟩
theorem Str.exa (S : Str Z h x cs) : Exa Z h x ST := by
  obtain ⟨t, kb, cd, N2, vs, h1, h2, h3, h4, h5⟩ := S
  exact h1
/-- nothing but an object of another class is written -/
theorem Str.keepE (S : Str Z h x cs) (K : Keep h h' [a]) (E : Exa Z h a C) (hC : C ≠ ST) (wi : (Cond.instantiable C n).before a0 Z = true) : Str Z h' x cs := by
  obtain ⟨t, kb, cd, N2, vs, h1, h2, h3, h4, h5⟩ := S
  have q1 : x ≠ a := (ne_exa E h1 hC).symm
  have q2 : t ≠ a := (Exa.neArv E h4 wi).symm
  exact ⟨t, kb, cd, N2, vs, h1.keep K, h2.keep K (ninS q1 nin0), h3.keep K (ninS q1 nin0), h4.keep K (ninS q2 nin0), h5⟩
/-- the statics of String, as the sheet says them -/
def Stat (Z : State) (z : Int32) : Prop := Sta Z Z.heap ST "COMPACT_STRINGS" "Z" (.int z) ∧ ¬ z = 0
end S
end Jvm.Pilot.@@N@@
namespace Jvm.Pilot.@@N@@
open Jvm Jvm.ClassFile Sem Op Lib Jvm.Free Jvm.Stand Jvm.LawKit Jvm.RoadKit Bundle Jvm.Own Jvm.Pilot.@@N@@.Jvm.D
theorem own_le {Z : State} {n0 : Nat} {h : Heap} (O : Old Z n0 h) : n0 ≤ h.size := O.1 ▸ O.2.1
theorem own_nc (x : Int32) : narrow .char (.int x.toUInt32.toUInt16.toUInt32.toInt32) = .int x.toUInt32.toUInt16.toUInt32.toInt32 := Jvm.Free.XT.narrow_c x
theorem own_nar (x : Int32) : nar .char x.toUInt32.toUInt16.toUInt32.toInt32 = x.toUInt32.toUInt16.toUInt32.toInt32 := by simp only [nar, UInt32.toUInt32_toInt32, UInt16.toUInt16_toUInt32]
def QStr (Z : State) (n0 : Nat) (cs : List Int32) (h0 : Heap) (v : Option Value) (h : Heap) (L : List Loc) : Prop := ∃ r, v = some (.ref r) ∧ Fr n0 L ∧ Ext h0 h ∧ Str Z h r cs
theorem own_wordsLen : ∀ d ∈ StrChars.Road.wordsLen, d ∈ tables_1 := by decide +kernel
theorem own_len {p : Program} {l : Launch} {e : Env} {R : Room} {s : State} {args : Array Value} {below : List Frame} {Z : State} {a0 : Array Value} {h : Heap} {W : Nat} {x : Addr} {cs : List Int32} {z : Int32} {n0 : Nat} (hw : ∀ d ∈ tables_1, d.before a0 Z = true) (hZ : Z.Warmed39 s.vm) (O : Old Z n0 h) (Sc : Stat Z z) (S : Str Z h x cs) (hfr : 2 ≤ R.frames) (hlo : W + 25 ≤ R.locals) :
    PB l R p e below s args (⟨"java/lang/String", "length", "()I"⟩ : MethodName) W #[.ref x] h 0 0 (QV (.int (Int32.ofNat cs.length)) h) := by
  obtain ⟨t, kb, cd, N2, vs, h1, h2, h3, h4, h5, h6, h7⟩ := S
  exact StrChars.Road.lenW hZ (fun d hd => hw d (own_wordsLen d hd)) (kI := 4) (hw _ (List.mem_of_getElem? (i := 8) rfl)) h1 h2 h3 h4 h5 h6 (Sc.1.ext O.2) Sc.2 h7 hfr hlo
open StrChars in
abbrev lows (cs : List Int32) : List Value := cs.map fun c => Value.int (lo8 c)
abbrev Lat (cs : List Int32) : Prop := ∀ c ∈ cs, ¬ c < 0 ∧ ¬ (255 : Int32) < c
theorem own_latin {Z : State} {h : Heap} {x : Addr} {cs : List Int32} (S : Str Z h x cs) (hl : Lat cs) : ∃ (t : Addr) (kb : ClassId), Exa Z h x ST ∧ Fld Z h x ST "value" "[B" (.ref t) ∧ Fld Z h x ST "coder" "B" (.int 0) ∧ Arv Z h t kb .byte (Int32.ofNat cs.length) (lows cs) (.int 0) := by
  obtain ⟨t, kb, cd, N2, vs, h1, h2, h3, h4, h5, h6, h7⟩ := S
  rcases h5 with ⟨rfl, rfl, rfl, -⟩ | ⟨-, -, -, c, hc, hw⟩
  · exact ⟨t, kb, h1, h2, h3, h4⟩
  · exact absurd hw (hl c hc).2
theorem own_lat_str {Z : State} {h : Heap} {x t : Addr} {kb : ClassId} {cs : List Int32} (hl : Lat cs) (hn : cs.length ≤ 4000) (h1 : Exa Z h x ST) (h2 : Fld Z h x ST "value" "[B" (.ref t)) (h3 : Fld Z h x ST "coder" "B" (.int 0)) (h4 : Arv Z h t kb .byte (Int32.ofNat cs.length) (lows cs) (.int 0)) : Str Z h x cs :=
  ⟨t, kb, 0, _, _, h1, h2, h3, h4, Or.inl ⟨rfl, rfl, rfl, fun c hc => (hl c hc).2⟩, fun c hc => ⟨(hl c hc).1, fun q => (hl c hc).2 (Int32.lt_trans (by decide) q)⟩, hn⟩
theorem own_latsub {cs : List Int32} (h : Lat cs) (b e : Nat) : Lat ((cs.drop b).take (e - b)) := fun c hc => h c (List.mem_of_mem_drop (List.mem_of_mem_take hc))
theorem own_sublen {cs : List Int32} {b e : Nat} (hb : b ≤ e) (he : e ≤ cs.length) : ((cs.drop b).take (e - b)).length = e - b := by rw [List.length_take, List.length_drop]; omega
theorem own_us {cs : List Int32} {b e : Nat} (hb : b ≤ e) (he : e ≤ cs.length) : lows ((cs.drop b).take (e - b)) = (List.range (e - b)).map fun i => (lows cs).getD (b + i) (.int 0) := by
  apply List.ext_getElem?
  intro i
  simp only [lows, List.getElem?_map, List.getElem?_take, List.getElem?_drop, List.getElem?_range]
  by_cases hi : i < e - b
  · have h1 : b + i < cs.length := by omega
    simp [hi, h1, List.getD_eq_getElem?_getD]
  · simp [hi]
theorem own_fr1 {n0 : Nat} {a : Addr} {i : Nat} (q : n0 ≤ a) : Fr n0 [⟨a, i⟩] := fun y hy => by cases List.mem_singleton.mp hy; exact q
theorem d11_0 : decode jdk_42_method_154_code 0 = .ok (.getstatic 38, 3) := by decide +kernel
theorem d11_3 : decode jdk_42_method_154_code 3 = .ok (.ifCond .eq 14, 3) := by decide +kernel
theorem d11_6 : decode jdk_42_method_154_code 6 = .ok (.aload_n 0, 1) := by decide +kernel
theorem d11_7 : decode jdk_42_method_154_code 7 = .ok (.getfield 15, 3) := by decide +kernel
theorem d11_10 : decode jdk_42_method_154_code 10 = .ok (.ifCond .ne 7, 3) := by decide +kernel
theorem d11_13 : decode jdk_42_method_154_code 13 = .ok (.iconst 1, 1) := by decide +kernel
theorem d11_14 : decode jdk_42_method_154_code 14 = .ok (.goto 4, 3) := by decide +kernel
theorem d11_18 : decode jdk_42_method_154_code 18 = .ok (.ireturn, 1) := by decide +kernel
theorem pn_0 : plainFor (⟨"java/lang/String", "isLatin1", "()Z"⟩ : MethodName) = true := by first | exact plainFor_of_name (by first | (simp [plainName, overriddenIn]; done) | decide +kernel) | decide +kernel
theorem ef_A_1 (m : MethodId) (y0 : Addr) : entryFrame m #[(.ref y0)] 1 = mkF m 0 #[.val (.ref y0)] [] := by first | (simp [entryFrame, mkF, argsToLocals, Value.category]; done) | rfl
set_option maxRecDepth 65536 in
set_option maxHeartbeats 40000000 in
theorem met_isl (l : Launch) (Z : State) (a0 : Array Value) (hw : ∀ d ∈ tables_1, d.before a0 Z = true) (ws : List Jvm.Cond) (z : Int32) (n0 : Nat) (y : Addr) (h0 : Heap) (O : Old Z n0 h0) (Sc : Stat Z z) (F_y : Fld Z h0 y ST "coder" "B" (.int 0)) :
    MetFree l (⟨"java/lang/String", "isLatin1", "()Z"⟩ : MethodName) (head1 (Jvm.Cond.code (⟨"java/lang/String", "isLatin1", "()Z"⟩ : MethodName) jdk_42_method_154_code 1 (some .boolean) :: ws) ({ frames := 0, cells := 0, slots := 0, locals := 0 } : Room)) (fun aa U => aa = #[(.ref y)] ∧ Z.Warmed39 U.vm ∧ U.heap = h0) (fun _ _ _ _ _ => True) (fun _ U o U' => ∃ v L, o = .returned v ∧ QV (.int 1) h0 v U'.heap L ∧ FrameEnd U o U' L ({ frames := 0, cells := 0, slots := 0, locals := 0 } : Room).cells ({ frames := 0, cells := 0, slots := 0, locals := 0 } : Room).slots) := by
  refine openP (y := (⟨"java/lang/String", "isLatin1", "()Z"⟩ : MethodName)) pn_0 ?_
  intro p e s m below meth c T hx hby hml hret hlk hnm hZ hown X hT
  refine Go.st (fun _ k => castTop (ef_A_1 m y) k) ?_
  show Go p e below _ (T.setTop (mkF m 0 #[.val (.ref y)] []))
  obtain ⟨T, X, hT, st⟩ := getS2 X hx hZ hown (host := "") (Or.inl (hw _ (List.mem_of_getElem? (i := 20) rfl))) Via.refl hT (Sc.1.ext O.2) (g := (mkF m 0 #[.val (.ref y)] [])) rfl (hb hby d11_0)
  refine Go.st st ?_
  show Go p e below _ (T.setTop (mkF m 3 #[.val (.ref y)] [(.int z)]))
  refine Go.st (fun _ k => XS.ifNo X.here hx rfl (hb hby d11_3) rfl (Jvm.Free.XT.i0_eq_f (Sc.2 : ¬ (z = (0 : Int32)))) k) ?_
  show Go p e below _ (T.setTop (mkF m 6 #[.val (.ref y)] []))
  refine Go.st (fun _ k => XS.aloadN X.here hx rfl (hb hby d11_6) rfl rfl k) ?_
  show Go p e below _ (T.setTop (mkF m 7 #[.val (.ref y)] [(.ref y)]))
  obtain ⟨T, X, hT, st⟩ := getF X hx hZ hown (host := "") (Or.inl (hw _ (List.mem_of_getElem? (i := 32) rfl))) Via.refl hT F_y (g := (mkF m 7 #[.val (.ref y)] [(.ref y)])) rfl rfl (hb hby d11_7)
  refine Go.st st ?_
  show Go p e below _ (T.setTop (mkF m 10 #[.val (.ref y)] [(.int (0 : Int32))]))
  refine Go.st (fun _ k => XS.ifNo X.here hx rfl (hb hby d11_10) rfl (Jvm.Free.XT.i0_ne_f (by decide : (0 : Int32) = (0 : Int32))) k) ?_
  show Go p e below _ (T.setTop (mkF m 13 #[.val (.ref y)] []))
  refine Go.st (fun _ k => XS.iconst X.here hx rfl (hb hby d11_13) k) ?_
  show Go p e below _ (T.setTop (mkF m 14 #[.val (.ref y)] [(.int (1 : Int32))]))
  refine Go.st (fun _ k => XS.goto X.here hx rfl (pc0 := 14) (pc' := 18) rfl (hb hby d11_14) (by decide) (by decide) k) ?_
  show Go p e below _ (T.setTop (mkF m 18 #[.val (.ref y)] [(.int (1 : Int32))]))
  refine Go.ret X hx hlk hT hret (by decide) (riI (by simp)) (hb hby d11_18) (by decide) (by decide) ?_
  exact ⟨rfl, rfl, rfl⟩
def f_min (a : Int32) (b : Int32) : Int32 := (if b < a then b else a)
theorem d17_0 : decode jdk_29_method_69_code 0 = .ok (.iload_n 0, 1) := by decide +kernel
theorem d17_1 : decode jdk_29_method_69_code 1 = .ok (.iload_n 1, 1) := by decide +kernel
theorem d17_2 : decode jdk_29_method_69_code 2 = .ok (.if_icmp .gt 7, 3) := by decide +kernel
theorem d17_5 : decode jdk_29_method_69_code 5 = .ok (.iload_n 0, 1) := by decide +kernel
theorem d17_6 : decode jdk_29_method_69_code 6 = .ok (.goto 4, 3) := by decide +kernel
theorem d17_9 : decode jdk_29_method_69_code 9 = .ok (.iload_n 1, 1) := by decide +kernel
theorem d17_10 : decode jdk_29_method_69_code 10 = .ok (.ireturn, 1) := by decide +kernel
theorem pn_1 : plainFor (⟨"java/lang/Math", "min", "(II)I"⟩ : MethodName) = true := by first | exact plainFor_of_name (by first | (simp [plainName, overriddenIn]; done) | decide +kernel) | decide +kernel
theorem ef_II_2 (m : MethodId) (y0 : Int32) (y1 : Int32) : entryFrame m #[(.int y0), (.int y1)] 2 = mkF m 0 #[.val (.int y0), .val (.int y1)] [] := by first | (simp [entryFrame, mkF, argsToLocals, Value.category]; done) | rfl
set_option maxRecDepth 65536 in
set_option maxHeartbeats 40000000 in
theorem met_min (l : Launch) (Z : State) (a0 : Array Value) (hw : ∀ d ∈ tables_1, d.before a0 Z = true) (ws : List Jvm.Cond) (a : Int32) (b : Int32) (h0 : Heap)  :
    MetFree l (⟨"java/lang/Math", "min", "(II)I"⟩ : MethodName) (head1 (Jvm.Cond.code (⟨"java/lang/Math", "min", "(II)I"⟩ : MethodName) jdk_29_method_69_code 2 (some .int) :: ws) ({ frames := 0, cells := 0, slots := 0, locals := 0 } : Room)) (fun aa U => aa = #[(.int a), (.int b)] ∧ Z.Warmed39 U.vm ∧ U.heap = h0) (fun _ _ _ _ _ => True) (fun _ U o U' => ∃ v L, o = .returned v ∧ QV (.int (f_min a b)) h0 v U'.heap L ∧ FrameEnd U o U' L ({ frames := 0, cells := 0, slots := 0, locals := 0 } : Room).cells ({ frames := 0, cells := 0, slots := 0, locals := 0 } : Room).slots) := by
  refine openP (y := (⟨"java/lang/Math", "min", "(II)I"⟩ : MethodName)) pn_1 ?_
  intro p e s m below meth c T hx hby hml hret hlk hnm hZ hown X hT
  refine Go.st (fun _ k => castTop (ef_II_2 m a b) k) ?_
  show Go p e below _ (T.setTop (mkF m 0 #[.val (.int a), .val (.int b)] []))
  refine Go.st (fun _ k => XS.iloadN X.here hx rfl (hb hby d17_0) rfl k) ?_
  show Go p e below _ (T.setTop (mkF m 1 #[.val (.int a), .val (.int b)] [(.int a)]))
  refine Go.st (fun _ k => XS.iloadN X.here hx rfl (hb hby d17_1) rfl k) ?_
  show Go p e below _ (T.setTop (mkF m 2 #[.val (.int a), .val (.int b)] [(.int b), (.int a)]))
  by_cases hc1 : b < a
  · refine Go.st (fun _ k => XS.icmpYes X.here hx rfl (pc0 := 2) (pc' := 9) rfl (hb hby d17_2) rfl (Jvm.Free.XT.ii_gt_t hc1) (by decide) (by decide) k) ?_
    show Go p e below _ (T.setTop (mkF m 9 #[.val (.int a), .val (.int b)] []))
    refine Go.st (fun _ k => XS.iloadN X.here hx rfl (hb hby d17_9) rfl k) ?_
    show Go p e below _ (T.setTop (mkF m 10 #[.val (.int a), .val (.int b)] [(.int b)]))
    refine Go.ret X hx hlk hT hret rfl (riI (by simp)) (hb hby d17_10) (by decide) (by decide) ?_
    exact ⟨congrArg (fun z => some (Value.int z)) (by rw [f_min, if_pos hc1]), rfl, rfl⟩
  · refine Go.st (fun _ k => XS.icmpNo X.here hx rfl (hb hby d17_2) rfl (Jvm.Free.XT.ii_gt_f hc1) k) ?_
    show Go p e below _ (T.setTop (mkF m 5 #[.val (.int a), .val (.int b)] []))
    refine Go.st (fun _ k => XS.iloadN X.here hx rfl (hb hby d17_5) rfl k) ?_
    show Go p e below _ (T.setTop (mkF m 6 #[.val (.int a), .val (.int b)] [(.int a)]))
    refine Go.st (fun _ k => XS.goto X.here hx rfl (pc0 := 6) (pc' := 10) rfl (hb hby d17_6) (by decide) (by decide) k) ?_
    show Go p e below _ (T.setTop (mkF m 10 #[.val (.int a), .val (.int b)] [(.int a)]))
    refine Go.ret X hx hlk hT hret rfl (riI (by simp)) (hb hby d17_10) (by decide) (by decide) ?_
    exact ⟨congrArg (fun z => some (Value.int z)) (by rw [f_min, if_neg hc1]), rfl, rfl⟩
def QU (h0 : Heap) (v : Option Value) (h : Heap) (L : List Loc) : Prop := v = none ∧ L = [] ∧ h = h0
theorem d25_0 : decode jdk_65_method_131_code 0 = .ok (.iload_n 1, 1) := by decide +kernel
theorem d25_1 : decode jdk_65_method_131_code 1 = .ok (.iload_n 0, 1) := by decide +kernel
theorem d25_2 : decode jdk_65_method_131_code 2 = .ok (.if_icmp .ge 35, 3) := by decide +kernel
theorem d25_37 : decode jdk_65_method_131_code 37 = .ok (.return_, 1) := by decide +kernel
theorem pn_2 : plainFor (⟨"java/util/Arrays", "checkLength", "(II)V"⟩ : MethodName) = true := by first | exact plainFor_of_name (by first | (simp [plainName, overriddenIn]; done) | decide +kernel) | decide +kernel
set_option maxRecDepth 65536 in
set_option maxHeartbeats 40000000 in
theorem met_chk (l : Launch) (Z : State) (a0 : Array Value) (hw : ∀ d ∈ tables_1, d.before a0 Z = true) (ws : List Jvm.Cond) (a b : Int32) (h0 : Heap) (h1 : ¬ (b < a)) :
    MetFree l (⟨"java/util/Arrays", "checkLength", "(II)V"⟩ : MethodName) (head1 (Jvm.Cond.code (⟨"java/util/Arrays", "checkLength", "(II)V"⟩ : MethodName) jdk_65_method_131_code 2 none :: ws) ({ frames := 0, cells := 0, slots := 0, locals := 0 } : Room)) (fun aa U => aa = #[(.int a), (.int b)] ∧ Z.Warmed39 U.vm ∧ U.heap = h0) (fun _ _ _ _ _ => True) (fun _ U o U' => ∃ v L, o = .returned v ∧ QU h0 v U'.heap L ∧ FrameEnd U o U' L ({ frames := 0, cells := 0, slots := 0, locals := 0 } : Room).cells ({ frames := 0, cells := 0, slots := 0, locals := 0 } : Room).slots) := by
  refine openP (y := (⟨"java/util/Arrays", "checkLength", "(II)V"⟩ : MethodName)) pn_2 ?_
  intro p e s m below meth c T hx hby hml hret hlk hnm hZ hown X hT
  refine Go.st (fun _ k => castTop (ef_II_2 m a b) k) ?_
  show Go p e below _ (T.setTop (mkF m 0 #[.val (.int a), .val (.int b)] []))
  refine Go.st (fun _ k => XS.iloadN X.here hx rfl (hb hby d25_0) rfl k) ?_
  show Go p e below _ (T.setTop (mkF m 1 #[.val (.int a), .val (.int b)] [(.int b)]))
  refine Go.st (fun _ k => XS.iloadN X.here hx rfl (hb hby d25_1) rfl k) ?_
  show Go p e below _ (T.setTop (mkF m 2 #[.val (.int a), .val (.int b)] [(.int a), (.int b)]))
  refine Go.st (fun _ k => XS.icmpYes X.here hx rfl (pc0 := 2) (pc' := 37) rfl (hb hby d25_2) rfl (Jvm.Free.XT.ii_ge_t (h1 : ¬ (b < a))) (by decide) (by decide) k) ?_
  show Go p e below _ (T.setTop (mkF m 37 #[.val (.int a), .val (.int b)] []))
  refine Go.retV X hx hlk hT hret (hb hby d25_37) (by decide) (by decide) ?_
  exact ⟨rfl, rfl, rfl⟩
theorem own_sub {n q : Nat} (h : q ≤ n) (hn : n < 2147483648) : Int32.ofNat n - Int32.ofNat q = Int32.ofNat (n - q) := by
  apply Int32.toInt_inj.mp
  rw [Jvm.Free.XT.sub32 (by rw [own_int hn, own_int (by omega)]; constructor <;> omega), own_int hn, own_int (by omega), own_int (by omega)]
  omega
theorem own_min {p q : Nat} (h : q ≤ p) (hp : p < 2147483648) : f_min (Int32.ofNat p) (Int32.ofNat q) = Int32.ofNat q := by
  rw [f_min]
  by_cases e : p = q
  · subst e; split <;> rfl
  · rw [if_pos ((own_lt (by omega) hp).mpr (by omega))]
theorem pd_0 : parseMethodDescriptor "(II)V" = some ⟨[.int, .int], none⟩ := by decide +kernel
theorem pd_1 : parseMethodDescriptor "(II)I" = some ⟨[.int, .int], (some .int)⟩ := by decide +kernel
def QCo (Z : State) (n0 : Nat) (ds : List Int32) (n : Nat) (h0 : Heap) (v : Option Value) (h : Heap) (L : List Loc) : Prop := ∃ (r : Addr) (kr : ClassId), v = some (.ref r) ∧ Fr n0 L ∧ h0.size ≤ r ∧ Ext h0 h ∧ Arv Z h r kr .byte (Int32.ofNat n) (lows ds) (.int 0)
theorem d24_0 : decode jdk_65_method_133_code 0 = .ok (.iload_n 1, 1) := by decide +kernel
theorem d24_1 : decode jdk_65_method_133_code 1 = .ok (.iload_n 2, 1) := by decide +kernel
theorem d24_2 : decode jdk_65_method_133_code 2 = .ok (.invokestatic 343, 3) := by decide +kernel
theorem d24_5 : decode jdk_65_method_133_code 5 = .ok (.iload_n 2, 1) := by decide +kernel
theorem d24_6 : decode jdk_65_method_133_code 6 = .ok (.iload_n 1, 1) := by decide +kernel
theorem d24_7 : decode jdk_65_method_133_code 7 = .ok (.isub, 1) := by decide +kernel
theorem d24_8 : decode jdk_65_method_133_code 8 = .ok (.istore_n 3, 1) := by decide +kernel
theorem d24_9 : decode jdk_65_method_133_code 9 = .ok (.iload_n 3, 1) := by decide +kernel
theorem d24_10 : decode jdk_65_method_133_code 10 = .ok (.newarray .byte, 2) := by decide +kernel
theorem d24_12 : decode jdk_65_method_133_code 12 = .ok (.astore 4, 2) := by decide +kernel
theorem d24_14 : decode jdk_65_method_133_code 14 = .ok (.aload_n 0, 1) := by decide +kernel
theorem d24_15 : decode jdk_65_method_133_code 15 = .ok (.iload_n 1, 1) := by decide +kernel
theorem d24_16 : decode jdk_65_method_133_code 16 = .ok (.aload 4, 2) := by decide +kernel
theorem d24_18 : decode jdk_65_method_133_code 18 = .ok (.iconst 0, 1) := by decide +kernel
theorem d24_19 : decode jdk_65_method_133_code 19 = .ok (.aload_n 0, 1) := by decide +kernel
theorem d24_20 : decode jdk_65_method_133_code 20 = .ok (.arraylength, 1) := by decide +kernel
theorem d24_21 : decode jdk_65_method_133_code 21 = .ok (.iload_n 1, 1) := by decide +kernel
theorem d24_22 : decode jdk_65_method_133_code 22 = .ok (.isub, 1) := by decide +kernel
theorem d24_23 : decode jdk_65_method_133_code 23 = .ok (.iload_n 3, 1) := by decide +kernel
theorem d24_24 : decode jdk_65_method_133_code 24 = .ok (.invokestatic 304, 3) := by decide +kernel
theorem d24_27 : decode jdk_65_method_133_code 27 = .ok (.invokestatic 150, 3) := by decide +kernel
theorem d24_30 : decode jdk_65_method_133_code 30 = .ok (.aload 4, 2) := by decide +kernel
theorem d24_32 : decode jdk_65_method_133_code 32 = .ok (.areturn, 1) := by decide +kernel
theorem pn_3 : plainFor (⟨"java/util/Arrays", "copyOfRangeByte", "([BII)[B"⟩ : MethodName) = true := by first | exact plainFor_of_name (by first | (simp [plainName, overriddenIn]; done) | decide +kernel) | decide +kernel
theorem ef_AII_5 (m : MethodId) (y0 : Addr) (y1 : Int32) (y2 : Int32) : entryFrame m #[(.ref y0), (.int y1), (.int y2)] 5 = mkF m 0 #[.val (.ref y0), .val (.int y1), .val (.int y2), .unset, .unset] [] := by first | (simp [entryFrame, mkF, argsToLocals, Value.category]; done) | rfl
set_option maxRecDepth 65536 in
set_option maxHeartbeats 40000000 in
theorem met_corb (l : Launch) (Z : State) (a0 : Array Value) (hw : ∀ d ∈ tables_1, d.before a0 Z = true) (ws : List Jvm.Cond) (n0 : Nat) (a : Addr) (ka : ClassId) (cs : List Int32) (b e1 : Nat) (h0 : Heap) (O : Old Z n0 h0) (V_a : Arv Z h0 a ka .byte (Int32.ofNat cs.length) (lows cs) (.int 0)) (hbe : b ≤ e1) (he : e1 ≤ cs.length) (hn : cs.length ≤ 8) :
    MetFree l (⟨"java/util/Arrays", "copyOfRangeByte", "([BII)[B"⟩ : MethodName) (head1 (Jvm.Cond.code (⟨"java/util/Arrays", "copyOfRangeByte", "([BII)[B"⟩ : MethodName) jdk_65_method_133_code 5 (some (.array .byte)) :: ws) ({ frames := 1, cells := 1, slots := 8, locals := 60 } : Room)) (fun aa U => aa = #[(.ref a), (.int (Int32.ofNat b)), (.int (Int32.ofNat e1))] ∧ Z.Warmed39 U.vm ∧ U.heap = h0) (fun _ _ _ _ _ => True) (fun _ U o U' => ∃ v L, o = .returned v ∧ QCo Z n0 ((cs.drop b).take (e1 - b)) (e1 - b) h0 v U'.heap L ∧ FrameEnd U o U' L ({ frames := 1, cells := 1, slots := 8, locals := 60 } : Room).cells ({ frames := 1, cells := 1, slots := 8, locals := 60 } : Room).slots) := by
  refine openP (y := (⟨"java/util/Arrays", "copyOfRangeByte", "([BII)[B"⟩ : MethodName)) pn_3 ?_
  intro p e s m below meth c T hx hby hml hret hlk hnm hZ hown X hT
  refine Go.st (fun _ k => castTop (ef_AII_5 m a (Int32.ofNat b) (Int32.ofNat e1)) k) ?_
  show Go p e below _ (T.setTop (mkF m 0 #[.val (.ref a), .val (.int (Int32.ofNat b)), .val (.int (Int32.ofNat e1)), .unset, .unset] []))
  have lt_a := V_a.lt
  refine Go.st (fun _ k => XS.iloadN X.here hx rfl (hb hby d24_0) rfl k) ?_
  show Go p e below _ (T.setTop (mkF m 1 #[.val (.ref a), .val (.int (Int32.ofNat b)), .val (.int (Int32.ofNat e1)), .unset, .unset] [(.int (Int32.ofNat b))]))
  refine Go.st (fun _ k => XS.iloadN X.here hx rfl (hb hby d24_1) rfl k) ?_
  show Go p e below _ (T.setTop (mkF m 2 #[.val (.ref a), .val (.int (Int32.ofNat b)), .val (.int (Int32.ofNat e1)), .unset, .unset] [(.int (Int32.ofNat e1)), (.int (Int32.ofNat b))]))
  refine Go.callP (argsL := [(.int (Int32.ofNat b)), (.int (Int32.ofNat e1))]) (rest := []) (W := 0) (ck := 0) (sk := 0) X hx hZ hown (hml.trans rfl) hT (hw _ (List.mem_of_getElem? (i := 107) rfl)) (hw _ (List.mem_of_getElem? (i := 108) rfl)) (hw _ (List.mem_of_getElem? (i := 102) rfl)) (hw _ (List.mem_of_getElem? (i := 109) rfl)) (by decide) pd_0 rfl rfl (Nat.le_of_ble_eq_true rfl) (hb hby d24_2) (backOf (W := 0) (met_chk l Z a0 hw [] (Int32.ofNat b) (Int32.ofNat e1) _ (fun q => absurd ((own_lt (by omega) (by omega)).mp q) (by omega))) hZ (hw _ (List.mem_of_getElem? (i := 109) rfl)) (hw _ (List.mem_of_getElem? (i := 102) rfl)) (by decide) (by decide)) (by decide) (by decide) ?_
  intro v T hq L hT hQ X
  obtain ⟨rfl, rfl, hq0⟩ := hQ
  rw [hq0] at hT
  rw [List.append_nil] at X
  show Go p e below _ (T.setTop (mkF m 5 #[.val (.ref a), .val (.int (Int32.ofNat b)), .val (.int (Int32.ofNat e1)), .unset, .unset] []))
  refine Go.st (fun _ k => XS.iloadN X.here hx rfl (hb hby d24_5) rfl k) ?_
  show Go p e below _ (T.setTop (mkF m 6 #[.val (.ref a), .val (.int (Int32.ofNat b)), .val (.int (Int32.ofNat e1)), .unset, .unset] [(.int (Int32.ofNat e1))]))
  refine Go.st (fun _ k => XS.iloadN X.here hx rfl (hb hby d24_6) rfl k) ?_
  show Go p e below _ (T.setTop (mkF m 7 #[.val (.ref a), .val (.int (Int32.ofNat b)), .val (.int (Int32.ofNat e1)), .unset, .unset] [(.int (Int32.ofNat b)), (.int (Int32.ofNat e1))]))
  refine Go.st (fun _ k => XS.isub X.here hx rfl (hb hby d24_7) rfl k) ?_
  show Go p e below _ (T.setTop (mkF m 8 #[.val (.ref a), .val (.int (Int32.ofNat b)), .val (.int (Int32.ofNat e1)), .unset, .unset] [(.int ((Int32.ofNat e1) - (Int32.ofNat b)))]))
  rw [own_sub (by omega) (by omega)]
  show Go p e below _ (T.setTop (mkF m 8 #[.val (.ref a), .val (.int (Int32.ofNat b)), .val (.int (Int32.ofNat e1)), .unset, .unset] [(.int (Int32.ofNat (e1 - b)))]))
  refine Go.st (fun _ k => XS.istoreN X.here hx rfl (hb hby d24_8) rfl (l' := #[.val (.ref a), .val (.int (Int32.ofNat b)), .val (.int (Int32.ofNat e1)), .val (.int (Int32.ofNat (e1 - b))), .unset]) rfl k) ?_
  show Go p e below _ (T.setTop (mkF m 9 #[.val (.ref a), .val (.int (Int32.ofNat b)), .val (.int (Int32.ofNat e1)), .val (.int (Int32.ofNat (e1 - b))), .unset] []))
  refine Go.st (fun _ k => XS.iloadN X.here hx rfl (hb hby d24_9) rfl k) ?_
  show Go p e below _ (T.setTop (mkF m 10 #[.val (.ref a), .val (.int (Int32.ofNat b)), .val (.int (Int32.ofNat e1)), .val (.int (Int32.ofNat (e1 - b))), .unset] [(.int (Int32.ofNat (e1 - b)))]))
  refine Go.newA (n := e1 - b) (cap := 8) X hx hZ hT (hw _ (List.mem_of_getElem? (i := 25) rfl)) (hb hby d24_10) (by omega) (by omega) (by decide) (by decide) (by decide) ?_
  intro r T h1 kr g_r hT Ex0 V_r X
  have V_a := V_a.ext Ex0
  have ne_ar : a ≠ r := Nat.ne_of_lt (by rw [g_r]; exact lt_a)
  have ge_r : n0 ≤ r := Nat.le_trans (own_le O) (Nat.le_of_eq g_r.symm)
  have gk_r : h0.size ≤ r := Nat.le_of_eq g_r.symm
  have KB := extK Ex0
  show Go p e below _ (T.setTop (mkF m 12 #[.val (.ref a), .val (.int (Int32.ofNat b)), .val (.int (Int32.ofNat e1)), .val (.int (Int32.ofNat (e1 - b))), .unset] [(.ref r)]))
  refine Go.st (fun _ k => XS.astore X.here hx rfl (hb hby d24_12) rfl rfl (l' := #[.val (.ref a), .val (.int (Int32.ofNat b)), .val (.int (Int32.ofNat e1)), .val (.int (Int32.ofNat (e1 - b))), .val (.ref r)]) rfl k) ?_
  show Go p e below _ (T.setTop (mkF m 14 #[.val (.ref a), .val (.int (Int32.ofNat b)), .val (.int (Int32.ofNat e1)), .val (.int (Int32.ofNat (e1 - b))), .val (.ref r)] []))
  refine Go.st (fun _ k => XS.aloadN X.here hx rfl (hb hby d24_14) rfl rfl k) ?_
  show Go p e below _ (T.setTop (mkF m 15 #[.val (.ref a), .val (.int (Int32.ofNat b)), .val (.int (Int32.ofNat e1)), .val (.int (Int32.ofNat (e1 - b))), .val (.ref r)] [(.ref a)]))
  refine Go.st (fun _ k => XS.iloadN X.here hx rfl (hb hby d24_15) rfl k) ?_
  show Go p e below _ (T.setTop (mkF m 16 #[.val (.ref a), .val (.int (Int32.ofNat b)), .val (.int (Int32.ofNat e1)), .val (.int (Int32.ofNat (e1 - b))), .val (.ref r)] [(.int (Int32.ofNat b)), (.ref a)]))
  refine Go.st (fun _ k => XS.aload X.here hx rfl (hb hby d24_16) rfl rfl k) ?_
  show Go p e below _ (T.setTop (mkF m 18 #[.val (.ref a), .val (.int (Int32.ofNat b)), .val (.int (Int32.ofNat e1)), .val (.int (Int32.ofNat (e1 - b))), .val (.ref r)] [(.ref r), (.int (Int32.ofNat b)), (.ref a)]))
  refine Go.st (fun _ k => XS.iconst X.here hx rfl (hb hby d24_18) k) ?_
  show Go p e below _ (T.setTop (mkF m 19 #[.val (.ref a), .val (.int (Int32.ofNat b)), .val (.int (Int32.ofNat e1)), .val (.int (Int32.ofNat (e1 - b))), .val (.ref r)] [(.int (0 : Int32)), (.ref r), (.int (Int32.ofNat b)), (.ref a)]))
  refine Go.st (fun _ k => XS.aloadN X.here hx rfl (hb hby d24_19) rfl rfl k) ?_
  show Go p e below _ (T.setTop (mkF m 20 #[.val (.ref a), .val (.int (Int32.ofNat b)), .val (.int (Int32.ofNat e1)), .val (.int (Int32.ofNat (e1 - b))), .val (.ref r)] [(.ref a), (.int (0 : Int32)), (.ref r), (.int (Int32.ofNat b)), (.ref a)]))
  refine Go.alen X hx hZ hT V_a (hb hby d24_20) ?_
  show Go p e below _ (T.setTop (mkF m 21 #[.val (.ref a), .val (.int (Int32.ofNat b)), .val (.int (Int32.ofNat e1)), .val (.int (Int32.ofNat (e1 - b))), .val (.ref r)] [(.int (Int32.ofNat cs.length)), (.int (0 : Int32)), (.ref r), (.int (Int32.ofNat b)), (.ref a)]))
  refine Go.st (fun _ k => XS.iloadN X.here hx rfl (hb hby d24_21) rfl k) ?_
  show Go p e below _ (T.setTop (mkF m 22 #[.val (.ref a), .val (.int (Int32.ofNat b)), .val (.int (Int32.ofNat e1)), .val (.int (Int32.ofNat (e1 - b))), .val (.ref r)] [(.int (Int32.ofNat b)), (.int (Int32.ofNat cs.length)), (.int (0 : Int32)), (.ref r), (.int (Int32.ofNat b)), (.ref a)]))
  refine Go.st (fun _ k => XS.isub X.here hx rfl (hb hby d24_22) rfl k) ?_
  show Go p e below _ (T.setTop (mkF m 23 #[.val (.ref a), .val (.int (Int32.ofNat b)), .val (.int (Int32.ofNat e1)), .val (.int (Int32.ofNat (e1 - b))), .val (.ref r)] [(.int ((Int32.ofNat cs.length) - (Int32.ofNat b))), (.int (0 : Int32)), (.ref r), (.int (Int32.ofNat b)), (.ref a)]))
  rw [own_sub (by omega) (by omega)]
  show Go p e below _ (T.setTop (mkF m 23 #[.val (.ref a), .val (.int (Int32.ofNat b)), .val (.int (Int32.ofNat e1)), .val (.int (Int32.ofNat (e1 - b))), .val (.ref r)] [(.int (Int32.ofNat (cs.length - b))), (.int (0 : Int32)), (.ref r), (.int (Int32.ofNat b)), (.ref a)]))
  refine Go.st (fun _ k => XS.iloadN X.here hx rfl (hb hby d24_23) rfl k) ?_
  show Go p e below _ (T.setTop (mkF m 24 #[.val (.ref a), .val (.int (Int32.ofNat b)), .val (.int (Int32.ofNat e1)), .val (.int (Int32.ofNat (e1 - b))), .val (.ref r)] [(.int (Int32.ofNat (e1 - b))), (.int (Int32.ofNat (cs.length - b))), (.int (0 : Int32)), (.ref r), (.int (Int32.ofNat b)), (.ref a)]))
  refine Go.callV (argsL := [(.int (Int32.ofNat (cs.length - b))), (.int (Int32.ofNat (e1 - b)))]) (rest := [(.int (0 : Int32)), (.ref r), (.int (Int32.ofNat b)), (.ref a)]) (W := 4) X hx hZ hown (hml.trans rfl) hT (hw _ (List.mem_of_getElem? (i := 110) rfl)) (hw _ (List.mem_of_getElem? (i := 77) rfl)) (hw _ (List.mem_of_getElem? (i := 74) rfl)) (hw _ (List.mem_of_getElem? (i := 78) rfl)) (by decide) pd_1 rfl rfl (Nat.le_of_ble_eq_true rfl) (hb hby d24_24) (backOf (W := 4) (met_min l Z a0 hw [] (Int32.ofNat (cs.length - b)) (Int32.ofNat (e1 - b)) _) hZ (hw _ (List.mem_of_getElem? (i := 78) rfl)) (hw _ (List.mem_of_getElem? (i := 74) rfl)) (by decide) (by decide)) (by decide) (by decide) ?_
  intro T hT X
  show Go p e below _ (T.setTop (mkF m 27 #[.val (.ref a), .val (.int (Int32.ofNat b)), .val (.int (Int32.ofNat e1)), .val (.int (Int32.ofNat (e1 - b))), .val (.ref r)] [(.int (f_min (Int32.ofNat (cs.length - b)) (Int32.ofNat (e1 - b)))), (.int (0 : Int32)), (.ref r), (.int (Int32.ofNat b)), (.ref a)]))
  rw [own_min (by omega) (by omega)]
  show Go p e below _ (T.setTop (mkF m 27 #[.val (.ref a), .val (.int (Int32.ofNat b)), .val (.int (Int32.ofNat e1)), .val (.int (Int32.ofNat (e1 - b))), .val (.ref r)] [(.int (Int32.ofNat (e1 - b))), (.int (0 : Int32)), (.ref r), (.int (Int32.ofNat b)), (.ref a)]))
  have V_r : Arv Z _ r kr .byte (Int32.ofNat (e1 - b)) (List.replicate (e1 - b) (.int (0 : Int32))) (.int 0) := V_r.pad (pad_rep [] (.int (0 : Int32)) (e1 - b))
  obtain ⟨T, h2, L, X, hT, N, K0, V_r, st⟩ := cpA X hx hZ hown (hw _ (List.mem_of_getElem? (i := 111) rfl)) (hw _ (List.mem_of_getElem? (i := 114) rfl)) (hw _ (List.mem_of_getElem? (i := 112) rfl)) (hw _ (List.mem_of_getElem? (i := 113) rfl)) hT (sp := Int32.ofNat b) (dp := (0 : Int32)) (nn := Int32.ofNat (e1 - b)) (us := lows ((cs.drop b).take (e1 - b))) V_a V_r (Or.inl ⟨rfl, rfl⟩) (own_nn (by omega)) (by decide) (own_nn (by omega)) (by rw [own_clamp (by omega), own_clamp (by omega), own_clamp (by omega)]; omega) (by rw [own_clamp (by omega)]; show 0 + _ ≤ _; omega) (by rw [own_clamp (by omega), own_clamp (by omega)]; exact own_us (by omega) he) (by rw [own_clamp (by omega), List.length_replicate]; show 0 + _ ≤ _; omega) (Fr.nil n0) ge_r (g := (mkF m 27 #[.val (.ref a), .val (.int (Int32.ofNat b)), .val (.int (Int32.ofNat e1)), .val (.int (Int32.ofNat (e1 - b))), .val (.ref r)] [(.int (Int32.ofNat (e1 - b))), (.int (0 : Int32)), (.ref r), (.int (Int32.ofNat b)), (.ref a)])) rfl (by rw [hml]; rfl) rfl (hb hby d24_27) (by decide) (W := 0) (by show 2 * 0 + _ ≤ _; exact Nat.le_of_ble_eq_true rfl) (by decide)
  refine Go.st st ?_
  have KB := KB.trans K0 (allS (Or.inr gk_r) all0)
  show Go p e below _ (T.setTop (mkF m 30 #[.val (.ref a), .val (.int (Int32.ofNat b)), .val (.int (Int32.ofNat e1)), .val (.int (Int32.ofNat (e1 - b))), .val (.ref r)] []))
  refine Go.st (fun _ k => XS.aload X.here hx rfl (hb hby d24_30) rfl rfl k) ?_
  show Go p e below _ (T.setTop (mkF m 32 #[.val (.ref a), .val (.int (Int32.ofNat b)), .val (.int (Int32.ofNat e1)), .val (.int (Int32.ofNat (e1 - b))), .val (.ref r)] [(.ref r)]))
  refine Go.ret X hx hlk hT hret rfl (riA rfl rfl) (hb hby d24_32) (by decide) (by decide) ?_
  have e2 : (0 : Int32).toNatClampNeg = 0 := by decide
  have e3 : (List.replicate (e1 - b) (Value.int (0 : Int32))).drop (e1 - b) = [] := by simp
  rw [e2, own_clamp (by omega), List.take_zero, Nat.zero_add, e3, List.nil_append, List.append_nil] at V_r
  exact ⟨r, kr, rfl, N, gk_r, keepE KB, V_r⟩
theorem pd_2 : parseMethodDescriptor "([BII)[B" = some ⟨[(.array .byte), .int, .int], (some (.array .byte))⟩ := by decide +kernel
theorem d23_0 : decode jdk_65_method_132_code 0 = .ok (.iload_n 1, 1) := by decide +kernel
theorem d23_1 : decode jdk_65_method_132_code 1 = .ok (.ifCond .ne 9, 3) := by decide +kernel
theorem d23_4 : decode jdk_65_method_132_code 4 = .ok (.iload_n 2, 1) := by decide +kernel
theorem d23_5 : decode jdk_65_method_132_code 5 = .ok (.aload_n 0, 1) := by decide +kernel
theorem d23_6 : decode jdk_65_method_132_code 6 = .ok (.arraylength, 1) := by decide +kernel
theorem d23_7 : decode jdk_65_method_132_code 7 = .ok (.if_icmp .eq 10, 3) := by decide +kernel
theorem d23_10 : decode jdk_65_method_132_code 10 = .ok (.aload_n 0, 1) := by decide +kernel
theorem d23_11 : decode jdk_65_method_132_code 11 = .ok (.iload_n 1, 1) := by decide +kernel
theorem d23_12 : decode jdk_65_method_132_code 12 = .ok (.iload_n 2, 1) := by decide +kernel
theorem d23_13 : decode jdk_65_method_132_code 13 = .ok (.invokestatic 339, 3) := by decide +kernel
theorem d23_16 : decode jdk_65_method_132_code 16 = .ok (.areturn, 1) := by decide +kernel
theorem pn_4 : plainFor (⟨"java/util/Arrays", "copyOfRange", "([BII)[B"⟩ : MethodName) = true := by first | exact plainFor_of_name (by first | (simp [plainName, overriddenIn]; done) | decide +kernel) | decide +kernel
theorem ef_AII_3 (m : MethodId) (y0 : Addr) (y1 : Int32) (y2 : Int32) : entryFrame m #[(.ref y0), (.int y1), (.int y2)] 3 = mkF m 0 #[.val (.ref y0), .val (.int y1), .val (.int y2)] [] := by first | (simp [entryFrame, mkF, argsToLocals, Value.category]; done) | rfl
set_option maxRecDepth 65536 in
set_option maxHeartbeats 40000000 in
theorem met_cor (l : Launch) (Z : State) (a0 : Array Value) (hw : ∀ d ∈ tables_1, d.before a0 Z = true) (ws : List Jvm.Cond) (n0 : Nat) (a : Addr) (ka : ClassId) (cs : List Int32) (b e1 : Nat) (h0 : Heap) (O : Old Z n0 h0) (V_a : Arv Z h0 a ka .byte (Int32.ofNat cs.length) (lows cs) (.int 0)) (hbe : b ≤ e1) (he : e1 ≤ cs.length) (hn : cs.length ≤ 8) (hne : ¬ (b = 0 ∧ e1 = cs.length)) :
    MetFree l (⟨"java/util/Arrays", "copyOfRange", "([BII)[B"⟩ : MethodName) (head1 (Jvm.Cond.code (⟨"java/util/Arrays", "copyOfRange", "([BII)[B"⟩ : MethodName) jdk_65_method_132_code 3 (some (.array .byte)) :: ws) ({ frames := 2, cells := 1, slots := 8, locals := 76 } : Room)) (fun aa U => aa = #[(.ref a), (.int (Int32.ofNat b)), (.int (Int32.ofNat e1))] ∧ Z.Warmed39 U.vm ∧ U.heap = h0) (fun _ _ _ _ _ => True) (fun _ U o U' => ∃ v L, o = .returned v ∧ QCo Z n0 ((cs.drop b).take (e1 - b)) (e1 - b) h0 v U'.heap L ∧ FrameEnd U o U' L ({ frames := 2, cells := 1, slots := 8, locals := 76 } : Room).cells ({ frames := 2, cells := 1, slots := 8, locals := 76 } : Room).slots) := by
  refine openP (y := (⟨"java/util/Arrays", "copyOfRange", "([BII)[B"⟩ : MethodName)) pn_4 ?_
  intro p e s m below meth c T hx hby hml hret hlk hnm hZ hown X hT
  refine Go.st (fun _ k => castTop (ef_AII_3 m a (Int32.ofNat b) (Int32.ofNat e1)) k) ?_
  show Go p e below _ (T.setTop (mkF m 0 #[.val (.ref a), .val (.int (Int32.ofNat b)), .val (.int (Int32.ofNat e1))] []))
  refine Go.st (fun _ k => XS.iloadN X.here hx rfl (hb hby d23_0) rfl k) ?_
  show Go p e below _ (T.setTop (mkF m 1 #[.val (.ref a), .val (.int (Int32.ofNat b)), .val (.int (Int32.ofNat e1))] [(.int (Int32.ofNat b))]))
  by_cases hb0 : (Int32.ofNat b) = (0 : Int32)
  · refine Go.st (fun _ k => XS.ifNo X.here hx rfl (hb hby d23_1) rfl (Jvm.Free.XT.i0_ne_f hb0) k) ?_
    show Go p e below _ (T.setTop (mkF m 4 #[.val (.ref a), .val (.int (Int32.ofNat b)), .val (.int (Int32.ofNat e1))] []))
    refine Go.st (fun _ k => XS.iloadN X.here hx rfl (hb hby d23_4) rfl k) ?_
    show Go p e below _ (T.setTop (mkF m 5 #[.val (.ref a), .val (.int (Int32.ofNat b)), .val (.int (Int32.ofNat e1))] [(.int (Int32.ofNat e1))]))
    refine Go.st (fun _ k => XS.aloadN X.here hx rfl (hb hby d23_5) rfl rfl k) ?_
    show Go p e below _ (T.setTop (mkF m 6 #[.val (.ref a), .val (.int (Int32.ofNat b)), .val (.int (Int32.ofNat e1))] [(.ref a), (.int (Int32.ofNat e1))]))
    refine Go.alen X hx hZ hT V_a (hb hby d23_6) ?_
    show Go p e below _ (T.setTop (mkF m 7 #[.val (.ref a), .val (.int (Int32.ofNat b)), .val (.int (Int32.ofNat e1))] [(.int (Int32.ofNat cs.length)), (.int (Int32.ofNat e1))]))
    refine Go.st (fun _ k => XS.icmpNo X.here hx rfl (hb hby d23_7) rfl (Jvm.Free.XT.ii_eq_f (fun q => hne ⟨(own_eqN (b := 0) (by omega) (by omega)).mp hb0, (own_eqN (by omega) (by omega)).mp q⟩ : ¬ ((Int32.ofNat e1) = (Int32.ofNat cs.length)))) k) ?_
    show Go p e below _ (T.setTop (mkF m 10 #[.val (.ref a), .val (.int (Int32.ofNat b)), .val (.int (Int32.ofNat e1))] []))
    refine Go.st (fun _ k => XS.aloadN X.here hx rfl (hb hby d23_10) rfl rfl k) ?_
    show Go p e below _ (T.setTop (mkF m 11 #[.val (.ref a), .val (.int (Int32.ofNat b)), .val (.int (Int32.ofNat e1))] [(.ref a)]))
    refine Go.st (fun _ k => XS.iloadN X.here hx rfl (hb hby d23_11) rfl k) ?_
    show Go p e below _ (T.setTop (mkF m 12 #[.val (.ref a), .val (.int (Int32.ofNat b)), .val (.int (Int32.ofNat e1))] [(.int (Int32.ofNat b)), (.ref a)]))
    refine Go.st (fun _ k => XS.iloadN X.here hx rfl (hb hby d23_12) rfl k) ?_
    show Go p e below _ (T.setTop (mkF m 13 #[.val (.ref a), .val (.int (Int32.ofNat b)), .val (.int (Int32.ofNat e1))] [(.int (Int32.ofNat e1)), (.int (Int32.ofNat b)), (.ref a)]))
    refine Go.callP (argsL := [(.ref a), (.int (Int32.ofNat b)), (.int (Int32.ofNat e1))]) (rest := []) (W := 0) (ck := 1) (sk := 8) X hx hZ hown (hml.trans rfl) hT (hw _ (List.mem_of_getElem? (i := 104) rfl)) (hw _ (List.mem_of_getElem? (i := 105) rfl)) (hw _ (List.mem_of_getElem? (i := 102) rfl)) (hw _ (List.mem_of_getElem? (i := 106) rfl)) (by decide) pd_2 rfl rfl (Nat.le_of_ble_eq_true rfl) (hb hby d23_13) (backOf (W := 0) (met_corb l Z a0 hw [] n0 a ka cs b e1 _ O V_a hbe he hn) hZ (hw _ (List.mem_of_getElem? (i := 106) rfl)) (hw _ (List.mem_of_getElem? (i := 102) rfl)) (by decide) (by decide)) (by decide) (by decide) ?_
    intro v T h1 L hT hQ X
    obtain ⟨r, kr, rfl, N0, gk_r, Ex0, V_r⟩ := hQ
    show Go p e below _ (T.setTop (mkF m 16 #[.val (.ref a), .val (.int (Int32.ofNat b)), .val (.int (Int32.ofNat e1))] [(.ref r)]))
    refine Go.ret X hx hlk hT hret rfl (riA rfl rfl) (hb hby d23_16) (by decide) (by decide) ?_
    exact ⟨r, kr, rfl, N0, gk_r, Ex0, V_r⟩
  · refine Go.st (fun _ k => XS.ifYes X.here hx rfl (pc0 := 1) (pc' := 10) rfl (hb hby d23_1) rfl (Jvm.Free.XT.i0_ne_t hb0) (by decide) (by decide) k) ?_
    show Go p e below _ (T.setTop (mkF m 10 #[.val (.ref a), .val (.int (Int32.ofNat b)), .val (.int (Int32.ofNat e1))] []))
    refine Go.st (fun _ k => XS.aloadN X.here hx rfl (hb hby d23_10) rfl rfl k) ?_
    show Go p e below _ (T.setTop (mkF m 11 #[.val (.ref a), .val (.int (Int32.ofNat b)), .val (.int (Int32.ofNat e1))] [(.ref a)]))
    refine Go.st (fun _ k => XS.iloadN X.here hx rfl (hb hby d23_11) rfl k) ?_
    show Go p e below _ (T.setTop (mkF m 12 #[.val (.ref a), .val (.int (Int32.ofNat b)), .val (.int (Int32.ofNat e1))] [(.int (Int32.ofNat b)), (.ref a)]))
    refine Go.st (fun _ k => XS.iloadN X.here hx rfl (hb hby d23_12) rfl k) ?_
    show Go p e below _ (T.setTop (mkF m 13 #[.val (.ref a), .val (.int (Int32.ofNat b)), .val (.int (Int32.ofNat e1))] [(.int (Int32.ofNat e1)), (.int (Int32.ofNat b)), (.ref a)]))
    refine Go.callP (argsL := [(.ref a), (.int (Int32.ofNat b)), (.int (Int32.ofNat e1))]) (rest := []) (W := 0) (ck := 1) (sk := 8) X hx hZ hown (hml.trans rfl) hT (hw _ (List.mem_of_getElem? (i := 104) rfl)) (hw _ (List.mem_of_getElem? (i := 105) rfl)) (hw _ (List.mem_of_getElem? (i := 102) rfl)) (hw _ (List.mem_of_getElem? (i := 106) rfl)) (by decide) pd_2 rfl rfl (Nat.le_of_ble_eq_true rfl) (hb hby d23_13) (backOf (W := 0) (met_corb l Z a0 hw [] n0 a ka cs b e1 _ O V_a hbe he hn) hZ (hw _ (List.mem_of_getElem? (i := 106) rfl)) (hw _ (List.mem_of_getElem? (i := 102) rfl)) (by decide) (by decide)) (by decide) (by decide) ?_
    intro v T h2 L hT hQ X
    obtain ⟨r, kr, rfl, N0, gk_r, Ex0, V_r⟩ := hQ
    show Go p e below _ (T.setTop (mkF m 16 #[.val (.ref a), .val (.int (Int32.ofNat b)), .val (.int (Int32.ofNat e1))] [(.ref r)]))
    refine Go.ret X hx hlk hT hret rfl (riA rfl rfl) (hb hby d23_16) (by decide) (by decide) ?_
    exact ⟨r, kr, rfl, N0, gk_r, Ex0, V_r⟩
theorem own_ncd {cd : Int32} (h : cd = 0 ∨ cd = 1) : narrow .byte (.int cd) = .int cd := by rcases h with rfl | rfl <;> decide
theorem own_fcd {cd : Int32} (h : cd = 0 ∨ cd = 1) : fits .byte (.int cd) = true := by rcases h with rfl | rfl <;> decide
def QBB (Z : State) (n0 : Nat) (x r : Addr) (cd : Int32) (h0 : Heap) (v : Option Value) (h : Heap) (L : List Loc) : Prop := v = none ∧ Fr n0 L ∧ Keep h0 h [x] ∧ Exa Z h x ST ∧ Fld Z h x ST "value" "[B" (.ref r) ∧ Fld Z h x ST "coder" "B" (.int cd)
theorem d26_0 : decode jdk_42_method_151_code 0 = .ok (.aload_n 0, 1) := by decide +kernel
theorem d26_1 : decode jdk_42_method_151_code 1 = .ok (.invokespecial 1, 3) := by decide +kernel
theorem d26_4 : decode jdk_42_method_151_code 4 = .ok (.aload_n 0, 1) := by decide +kernel
theorem d26_5 : decode jdk_42_method_151_code 5 = .ok (.aload_n 1, 1) := by decide +kernel
theorem d26_6 : decode jdk_42_method_151_code 6 = .ok (.putfield 9, 3) := by decide +kernel
theorem d26_9 : decode jdk_42_method_151_code 9 = .ok (.aload_n 0, 1) := by decide +kernel
theorem d26_10 : decode jdk_42_method_151_code 10 = .ok (.iload_n 2, 1) := by decide +kernel
theorem d26_11 : decode jdk_42_method_151_code 11 = .ok (.putfield 15, 3) := by decide +kernel
theorem d26_14 : decode jdk_42_method_151_code 14 = .ok (.return_, 1) := by decide +kernel
theorem pn_5 : plainFor (⟨"java/lang/String", "<init>", "([BB)V"⟩ : MethodName) = true := by first | exact plainFor_of_name (by first | (simp [plainName, overriddenIn]; done) | decide +kernel) | decide +kernel
theorem ef_AAI_3 (m : MethodId) (y0 : Addr) (y1 : Addr) (y2 : Int32) : entryFrame m #[(.ref y0), (.ref y1), (.int y2)] 3 = mkF m 0 #[.val (.ref y0), .val (.ref y1), .val (.int y2)] [] := by first | (simp [entryFrame, mkF, argsToLocals, Value.category]; done) | rfl
set_option maxRecDepth 65536 in
set_option maxHeartbeats 40000000 in
theorem met_bb (l : Launch) (Z : State) (a0 : Array Value) (hw : ∀ d ∈ tables_1, d.before a0 Z = true) (ws : List Jvm.Cond) (n0 : Nat) (x r : Addr) (cd : Int32) (h0 : Heap) (hcd : cd = 0 ∨ cd = 1) (ge_x : n0 ≤ x) (A_x : Exa Z h0 x ST) (F_x_value : Fld Z h0 x ST "value" "[B" .null) (F_x_coder : Fld Z h0 x ST "coder" "B" (.int (0 : Int32))) :
    MetFree l (⟨"java/lang/String", "<init>", "([BB)V"⟩ : MethodName) (head1 (Jvm.Cond.code (⟨"java/lang/String", "<init>", "([BB)V"⟩ : MethodName) jdk_42_method_151_code 3 none :: ws) ({ frames := 1, cells := 0, slots := 0, locals := 12 } : Room)) (fun aa U => aa = #[(.ref x), (.ref r), (.int cd)] ∧ Z.Warmed39 U.vm ∧ U.heap = h0) (fun _ _ _ _ _ => True) (fun _ U o U' => ∃ v L, o = .returned v ∧ QBB Z n0 x r cd h0 v U'.heap L ∧ FrameEnd U o U' L ({ frames := 1, cells := 0, slots := 0, locals := 12 } : Room).cells ({ frames := 1, cells := 0, slots := 0, locals := 12 } : Room).slots) := by
  refine openP (y := (⟨"java/lang/String", "<init>", "([BB)V"⟩ : MethodName)) pn_5 ?_
  intro p e s m below meth c T hx hby hml hret hlk hnm hZ hown X hT
  refine Go.st (fun _ k => castTop (ef_AAI_3 m x r cd) k) ?_
  show Go p e below _ (T.setTop (mkF m 0 #[.val (.ref x), .val (.ref r), .val (.int cd)] []))
  have N := Fr.nil n0
  refine Go.st (fun _ k => XS.aloadN X.here hx rfl (hb hby d26_0) rfl rfl k) ?_
  show Go p e below _ (T.setTop (mkF m 1 #[.val (.ref x), .val (.ref r), .val (.int cd)] [(.ref x)]))
  obtain ⟨T, X, hT, st⟩ := initO X hx hZ hown (hw _ (List.mem_of_getElem? (i := 17) rfl)) (hw _ (List.mem_of_getElem? (i := 18) rfl)) (hw _ (List.mem_of_getElem? (i := 19) rfl)) hT (g := (mkF m 1 #[.val (.ref x), .val (.ref r), .val (.int cd)] [(.ref x)])) rfl (by rw [hml]; rfl) rfl (hb hby d26_1) (by decide) (W := 0) (by show 2 * 0 + _ ≤ _; exact Nat.le_of_ble_eq_true rfl) (by decide)
  refine Go.st st ?_
  show Go p e below _ (T.setTop (mkF m 4 #[.val (.ref x), .val (.ref r), .val (.int cd)] []))
  refine Go.st (fun _ k => XS.aloadN X.here hx rfl (hb hby d26_4) rfl rfl k) ?_
  show Go p e below _ (T.setTop (mkF m 5 #[.val (.ref x), .val (.ref r), .val (.int cd)] [(.ref x)]))
  refine Go.st (fun _ k => XS.aloadN X.here hx rfl (hb hby d26_5) rfl rfl k) ?_
  show Go p e below _ (T.setTop (mkF m 6 #[.val (.ref x), .val (.ref r), .val (.int cd)] [(.ref r), (.ref x)]))
  obtain ⟨T, h1, X, hT, Wr0, st⟩ := putF X hx hZ hown (host := "") (Or.inl (hw _ (List.mem_of_getElem? (i := 34) rfl))) Via.refl hT F_x_value A_x (Or.inr ⟨(hw _ (List.mem_of_getElem? (i := 35) rfl)), rfl, hnm⟩) (hw _ (List.mem_of_getElem? (i := 8) rfl)) (ty := (.array .byte)) (by decide) rfl rfl (g := (mkF m 6 #[.val (.ref x), .val (.ref r), .val (.int cd)] [(.ref r), (.ref x)])) rfl rfl (hb hby d26_6)
  refine Go.st st ?_
  have N := Fr.snoc X N ge_x
  have A_x := A_x.wr Wr0
  have F_x_value := F_x_value.same Wr0
  have F_x_coder := F_x_coder.other Wr0 (Or.inr (slot_ne (C := "java/lang/String") (Or.inr (hw _ (List.mem_of_getElem? (i := 33) rfl))) (Or.inr (hw _ (List.mem_of_getElem? (i := 35) rfl))) (by decide) (t := .byte) (by decide) (t' := (.array .byte)) (by decide)))
  have KB := (Keep.refl h0 [x]).wr Wr0 (Or.inl (List.mem_of_getElem? (i := 0) rfl))
  show Go p e below _ (T.setTop (mkF m 9 #[.val (.ref x), .val (.ref r), .val (.int cd)] []))
  refine Go.st (fun _ k => XS.aloadN X.here hx rfl (hb hby d26_9) rfl rfl k) ?_
  show Go p e below _ (T.setTop (mkF m 10 #[.val (.ref x), .val (.ref r), .val (.int cd)] [(.ref x)]))
  refine Go.st (fun _ k => XS.iloadN X.here hx rfl (hb hby d26_10) rfl k) ?_
  show Go p e below _ (T.setTop (mkF m 11 #[.val (.ref x), .val (.ref r), .val (.int cd)] [(.int cd), (.ref x)]))
  obtain ⟨T, h2, X, hT, Wr0, st⟩ := putF X hx hZ hown (host := "") (Or.inl (hw _ (List.mem_of_getElem? (i := 32) rfl))) Via.refl hT F_x_coder A_x (Or.inr ⟨(hw _ (List.mem_of_getElem? (i := 33) rfl)), rfl, hnm⟩) (hw _ (List.mem_of_getElem? (i := 8) rfl)) (ty := .byte) (by decide) (own_ncd hcd) (own_fcd hcd) (g := (mkF m 11 #[.val (.ref x), .val (.ref r), .val (.int cd)] [(.int cd), (.ref x)])) rfl rfl (hb hby d26_11)
  refine Go.st st ?_
  have N := Fr.snoc X N ge_x
  have A_x := A_x.wr Wr0
  have F_x_value := F_x_value.other Wr0 (Or.inr (slot_ne (C := "java/lang/String") (Or.inr (hw _ (List.mem_of_getElem? (i := 35) rfl))) (Or.inr (hw _ (List.mem_of_getElem? (i := 33) rfl))) (by decide) (t := (.array .byte)) (by decide) (t' := .byte) (by decide)))
  have F_x_coder := F_x_coder.same Wr0
  have KB := (KB).wr Wr0 (Or.inl (List.mem_of_getElem? (i := 0) rfl))
  show Go p e below _ (T.setTop (mkF m 14 #[.val (.ref x), .val (.ref r), .val (.int cd)] []))
  refine Go.retV X hx hlk hT hret (hb hby d26_14) (by decide) (by decide) ?_
  exact ⟨rfl, N, KB, A_x, F_x_value, F_x_coder⟩
theorem own_addN (p q : Nat) : Int32.ofNat p + Int32.ofNat q = Int32.ofNat (p + q) := by rw [← Int32.ofNat_add]
theorem pd_3 : parseMethodDescriptor "([BB)V" = some ⟨[(.array .byte), .byte], none⟩ := by decide +kernel
theorem d22_0 : decode jdk_43_method_47_code 0 = .ok (.iload_n 2, 1) := by decide +kernel
theorem d22_1 : decode jdk_43_method_47_code 1 = .ok (.ifCond .ne 6, 3) := by decide +kernel
theorem d22_7 : decode jdk_43_method_47_code 7 = .ok (.new 1, 3) := by decide +kernel
theorem d22_10 : decode jdk_43_method_47_code 10 = .ok (.dup, 1) := by decide +kernel
theorem d22_11 : decode jdk_43_method_47_code 11 = .ok (.aload_n 0, 1) := by decide +kernel
theorem d22_12 : decode jdk_43_method_47_code 12 = .ok (.iload_n 1, 1) := by decide +kernel
theorem d22_13 : decode jdk_43_method_47_code 13 = .ok (.iload_n 1, 1) := by decide +kernel
theorem d22_14 : decode jdk_43_method_47_code 14 = .ok (.iload_n 2, 1) := by decide +kernel
theorem d22_15 : decode jdk_43_method_47_code 15 = .ok (.iadd, 1) := by decide +kernel
theorem d22_16 : decode jdk_43_method_47_code 16 = .ok (.invokestatic 232, 3) := by decide +kernel
theorem d22_19 : decode jdk_43_method_47_code 19 = .ok (.iconst 0, 1) := by decide +kernel
theorem d22_20 : decode jdk_43_method_47_code 20 = .ok (.invokespecial 112, 3) := by decide +kernel
theorem d22_23 : decode jdk_43_method_47_code 23 = .ok (.areturn, 1) := by decide +kernel
theorem pn_6 : plainFor (⟨"java/lang/StringLatin1", "newString", "([BII)Ljava/lang/String;"⟩ : MethodName) = true := by first | exact plainFor_of_name (by first | (simp [plainName, overriddenIn]; done) | decide +kernel) | decide +kernel
set_option maxRecDepth 65536 in
set_option maxHeartbeats 40000000 in
theorem met_news (l : Launch) (Z : State) (a0 : Array Value) (hw : ∀ d ∈ tables_1, d.before a0 Z = true) (ws : List Jvm.Cond) (n0 : Nat) (a : Addr) (ka : ClassId) (cs : List Int32) (b e1 : Nat) (h0 : Heap) (O : Old Z n0 h0) (V_a : Arv Z h0 a ka .byte (Int32.ofNat cs.length) (lows cs) (.int 0)) (hl : Lat cs) (hbe : b < e1) (he : e1 ≤ cs.length) (hn : cs.length ≤ 8) (hne : ¬ (b = 0 ∧ e1 = cs.length)) :
    MetFree l (⟨"java/lang/StringLatin1", "newString", "([BII)Ljava/lang/String;"⟩ : MethodName) (head1 (Jvm.Cond.code (⟨"java/lang/StringLatin1", "newString", "([BII)Ljava/lang/String;"⟩ : MethodName) jdk_43_method_47_code 3 (some (.object "java/lang/String")) :: ws) ({ frames := 3, cells := 2, slots := 12, locals := 92 } : Room)) (fun aa U => aa = #[(.ref a), (.int (Int32.ofNat b)), (.int (Int32.ofNat (e1 - b)))] ∧ Z.Warmed39 U.vm ∧ U.heap = h0) (fun _ _ _ _ _ => True) (fun _ U o U' => ∃ v L, o = .returned v ∧ QStr Z n0 ((cs.drop b).take (e1 - b)) h0 v U'.heap L ∧ FrameEnd U o U' L ({ frames := 3, cells := 2, slots := 12, locals := 92 } : Room).cells ({ frames := 3, cells := 2, slots := 12, locals := 92 } : Room).slots) := by
  refine openP (y := (⟨"java/lang/StringLatin1", "newString", "([BII)Ljava/lang/String;"⟩ : MethodName)) pn_6 ?_
  intro p e s m below meth c T hx hby hml hret hlk hnm hZ hown X hT
  refine Go.st (fun _ k => castTop (ef_AII_3 m a (Int32.ofNat b) (Int32.ofNat (e1 - b))) k) ?_
  show Go p e below _ (T.setTop (mkF m 0 #[.val (.ref a), .val (.int (Int32.ofNat b)), .val (.int (Int32.ofNat (e1 - b)))] []))
  have N := Fr.nil n0
  have K0b : Keep h0 h0 [] := Keep.refl _ _
  refine Go.st (fun _ k => XS.iloadN X.here hx rfl (hb hby d22_0) rfl k) ?_
  show Go p e below _ (T.setTop (mkF m 1 #[.val (.ref a), .val (.int (Int32.ofNat b)), .val (.int (Int32.ofNat (e1 - b)))] [(.int (Int32.ofNat (e1 - b)))]))
  refine Go.st (fun _ k => XS.ifYes X.here hx rfl (pc0 := 1) (pc' := 7) rfl (hb hby d22_1) rfl (Jvm.Free.XT.i0_ne_t (fun q => absurd ((own_eqN (b := 0) (by omega) (by omega)).mp q) (by omega) : ¬ ((Int32.ofNat (e1 - b)) = (0 : Int32)))) (by decide) (by decide) k) ?_
  show Go p e below _ (T.setTop (mkF m 7 #[.val (.ref a), .val (.int (Int32.ofNat b)), .val (.int (Int32.ofNat (e1 - b)))] []))
  obtain ⟨T, h1, X, hT, Ex0, A_x, D_x, -, st⟩ := newO X hx hZ hown (hw _ (List.mem_of_getElem? (i := 99) rfl)) (hw _ (List.mem_of_getElem? (i := 8) rfl)) (hw _ (List.mem_of_getElem? (i := 9) rfl)) hT (g := (mkF m 7 #[.val (.ref a), .val (.int (Int32.ofNat b)), .val (.int (Int32.ofNat (e1 - b)))] [])) rfl (hb hby d22_7) (by decide) (by decide)
  obtain ⟨x, g_x⟩ : ∃ z, z = h0.size := ⟨_, rfl⟩
  rw [← g_x] at A_x D_x st
  refine Go.st st ?_
  have ge_x : n0 ≤ x := Nat.le_trans (own_le (O)) (Nat.le_of_eq g_x.symm)
  have gk_x : h0.size ≤ x := Nat.le_trans (Keep.refl h0 []).1 (Nat.le_of_eq g_x.symm)
  have KB := (Keep.refl h0 []).ext Ex0
  have F_x_coder := D_x (Or.inr (hw _ (List.mem_of_getElem? (i := 33) rfl))) (ty := .byte) (by decide)
  have F_x_value := D_x (Or.inr (hw _ (List.mem_of_getElem? (i := 35) rfl))) (ty := (.array .byte)) (by decide)
  show Go p e below _ (T.setTop (mkF m 10 #[.val (.ref a), .val (.int (Int32.ofNat b)), .val (.int (Int32.ofNat (e1 - b)))] [(.ref x)]))
  refine Go.st (fun _ k => XS.dup X.here hx rfl (hb hby d22_10) rfl rfl k) ?_
  show Go p e below _ (T.setTop (mkF m 11 #[.val (.ref a), .val (.int (Int32.ofNat b)), .val (.int (Int32.ofNat (e1 - b)))] [(.ref x), (.ref x)]))
  refine Go.st (fun _ k => XS.aloadN X.here hx rfl (hb hby d22_11) rfl rfl k) ?_
  show Go p e below _ (T.setTop (mkF m 12 #[.val (.ref a), .val (.int (Int32.ofNat b)), .val (.int (Int32.ofNat (e1 - b)))] [(.ref a), (.ref x), (.ref x)]))
  refine Go.st (fun _ k => XS.iloadN X.here hx rfl (hb hby d22_12) rfl k) ?_
  show Go p e below _ (T.setTop (mkF m 13 #[.val (.ref a), .val (.int (Int32.ofNat b)), .val (.int (Int32.ofNat (e1 - b)))] [(.int (Int32.ofNat b)), (.ref a), (.ref x), (.ref x)]))
  refine Go.st (fun _ k => XS.iloadN X.here hx rfl (hb hby d22_13) rfl k) ?_
  show Go p e below _ (T.setTop (mkF m 14 #[.val (.ref a), .val (.int (Int32.ofNat b)), .val (.int (Int32.ofNat (e1 - b)))] [(.int (Int32.ofNat b)), (.int (Int32.ofNat b)), (.ref a), (.ref x), (.ref x)]))
  refine Go.st (fun _ k => XS.iloadN X.here hx rfl (hb hby d22_14) rfl k) ?_
  show Go p e below _ (T.setTop (mkF m 15 #[.val (.ref a), .val (.int (Int32.ofNat b)), .val (.int (Int32.ofNat (e1 - b)))] [(.int (Int32.ofNat (e1 - b))), (.int (Int32.ofNat b)), (.int (Int32.ofNat b)), (.ref a), (.ref x), (.ref x)]))
  refine Go.st (fun _ k => XS.iadd X.here hx rfl (hb hby d22_15) rfl k) ?_
  show Go p e below _ (T.setTop (mkF m 16 #[.val (.ref a), .val (.int (Int32.ofNat b)), .val (.int (Int32.ofNat (e1 - b)))] [(.int ((Int32.ofNat b) + (Int32.ofNat (e1 - b)))), (.int (Int32.ofNat b)), (.ref a), (.ref x), (.ref x)]))
  rw [own_addN, show b + (e1 - b) = e1 from by omega]
  show Go p e below _ (T.setTop (mkF m 16 #[.val (.ref a), .val (.int (Int32.ofNat b)), .val (.int (Int32.ofNat (e1 - b)))] [(.int (Int32.ofNat e1)), (.int (Int32.ofNat b)), (.ref a), (.ref x), (.ref x)]))
  refine Go.callP (argsL := [(.ref a), (.int (Int32.ofNat b)), (.int (Int32.ofNat e1))]) (rest := [(.ref x), (.ref x)]) (W := 2) (ck := 1) (sk := 8) X hx hZ hown (hml.trans rfl) hT (hw _ (List.mem_of_getElem? (i := 100) rfl)) (hw _ (List.mem_of_getElem? (i := 101) rfl)) (hw _ (List.mem_of_getElem? (i := 102) rfl)) (hw _ (List.mem_of_getElem? (i := 103) rfl)) (by decide) pd_2 rfl rfl (Nat.le_of_ble_eq_true rfl) (hb hby d22_16) (backOf (W := 2) (met_cor l Z a0 hw [] n0 a ka cs b e1 _ (O.keep KB all0) (V_a.keep KB nin0) (by omega) he hn hne) hZ (hw _ (List.mem_of_getElem? (i := 103) rfl)) (hw _ (List.mem_of_getElem? (i := 102) rfl)) (by decide) (by decide)) (by decide) (by decide) ?_
  intro v T h2 L hT hQ X
  obtain ⟨r, kr, rfl, N0, gk_r, Ex0, V_r⟩ := hQ
  have N := Fr.app N N0
  have A_x := A_x.ext Ex0
  have F_x_coder := F_x_coder.ext Ex0
  have F_x_value := F_x_value.ext Ex0
  have KB := (KB).ext Ex0
  have ne_x_r : x ≠ r := Exa.neArv A_x V_r (hw _ (List.mem_of_getElem? (i := 8) rfl))
  show Go p e below _ (T.setTop (mkF m 19 #[.val (.ref a), .val (.int (Int32.ofNat b)), .val (.int (Int32.ofNat (e1 - b)))] [(.ref r), (.ref x), (.ref x)]))
  refine Go.st (fun _ k => XS.iconst X.here hx rfl (hb hby d22_19) k) ?_
  show Go p e below _ (T.setTop (mkF m 20 #[.val (.ref a), .val (.int (Int32.ofNat b)), .val (.int (Int32.ofNat (e1 - b)))] [(.int (0 : Int32)), (.ref r), (.ref x), (.ref x)]))
  refine Go.specP (argsL := [(.ref r), (.int (0 : Int32))]) (rest := [(.ref x)]) (W := 1) (ck := 0) (sk := 0) X hx hZ hown (hml.trans rfl) hT rfl (hw _ (List.mem_of_getElem? (i := 115) rfl)) (hw _ (List.mem_of_getElem? (i := 116) rfl)) (hw _ (List.mem_of_getElem? (i := 117) rfl)) (by decide) pd_3 rfl rfl (Nat.le_of_ble_eq_true rfl) (hb hby d22_20) (backOf (W := 1) (met_bb l Z a0 hw [] n0 x r (0 : Int32) _ (Or.inl rfl) ge_x A_x F_x_value F_x_coder) hZ (hw _ (List.mem_of_getElem? (i := 117) rfl)) (hw _ (List.mem_of_getElem? (i := 9) rfl)) (by decide) (by decide)) (by decide) (by decide) ?_
  intro v T h3 L hT hQ X
  obtain ⟨rfl, N0, K0, E0, F0, C0⟩ := hQ
  have N := Fr.app N N0
  have V_r := V_r.keep K0 (ninS ne_x_r.symm nin0)
  have KB := (KB).trans K0 (allS (Or.inr gk_x) all0)
  have S_x : Str Z h3 x ((cs.drop b).take (e1 - b)) := own_lat_str (own_latsub hl b e1) (by rw [own_sublen (by omega) he]; omega) E0 F0 C0 (by rw [own_sublen (by omega) he]; exact V_r)
  have O := O.keep KB all0
  have K0b := K0b.trans KB (fun _ q => nomatch q)
  have V_a := V_a.keep KB nin0
  show Go p e below _ (T.setTop (mkF m 23 #[.val (.ref a), .val (.int (Int32.ofNat b)), .val (.int (Int32.ofNat (e1 - b)))] [(.ref x)]))
  refine Go.ret X hx hlk hT hret rfl (riA rfl rfl) (hb hby d22_23) (by decide) (by decide) ?_
  exact ⟨x, rfl, N, keepE K0b, S_x⟩
theorem d21_0 : decode jdk_41_method_12_code 0 = .ok (.iload_n 0, 1) := by decide +kernel
theorem d21_1 : decode jdk_41_method_12_code 1 = .ok (.ifCond .lt 13, 3) := by decide +kernel
theorem d21_4 : decode jdk_41_method_12_code 4 = .ok (.iload_n 0, 1) := by decide +kernel
theorem d21_5 : decode jdk_41_method_12_code 5 = .ok (.iload_n 1, 1) := by decide +kernel
theorem d21_6 : decode jdk_41_method_12_code 6 = .ok (.if_icmp .gt 8, 3) := by decide +kernel
theorem d21_9 : decode jdk_41_method_12_code 9 = .ok (.iload_n 1, 1) := by decide +kernel
theorem d21_10 : decode jdk_41_method_12_code 10 = .ok (.iload_n 2, 1) := by decide +kernel
theorem d21_11 : decode jdk_41_method_12_code 11 = .ok (.if_icmp .le 11, 3) := by decide +kernel
theorem d21_22 : decode jdk_41_method_12_code 22 = .ok (.iload_n 0, 1) := by decide +kernel
theorem d21_23 : decode jdk_41_method_12_code 23 = .ok (.ireturn, 1) := by decide +kernel
theorem pn_7 : plainFor (⟨"jdk/internal/util/Preconditions", "checkFromToIndex", "(IIILjava/util/function/BiFunction;)I"⟩ : MethodName) = true := by first | exact plainFor_of_name (by first | (simp [plainName, overriddenIn]; done) | decide +kernel) | decide +kernel
theorem ef_IIIV_4 (m : MethodId) (y0 : Int32) (y1 : Int32) (y2 : Int32) (y3 : Value) (r3 : y3.isRef = true) : entryFrame m #[(.int y0), (.int y1), (.int y2), y3] 4 = mkF m 0 #[.val (.int y0), .val (.int y1), .val (.int y2), .val y3] [] := by
  rcases Jvm.Free.XT.refc r3 with rfl | ⟨_, rfl⟩ <;> first | (simp [entryFrame, mkF, argsToLocals, Value.category]; done) | rfl
set_option maxRecDepth 65536 in
set_option maxHeartbeats 40000000 in
theorem met_pcf (l : Launch) (Z : State) (a0 : Array Value) (hw : ∀ d ∈ tables_1, d.before a0 Z = true) (ws : List Jvm.Cond) (a b n : Int32) (fm : Value) (h0 : Heap) (rf : fm.isRef = true) (h1 : ¬ (a < (0 : Int32))) (h2 : ¬ (b < a)) (h3 : ¬ (n < b)) :
    MetFree l (⟨"jdk/internal/util/Preconditions", "checkFromToIndex", "(IIILjava/util/function/BiFunction;)I"⟩ : MethodName) (head1 (Jvm.Cond.code (⟨"jdk/internal/util/Preconditions", "checkFromToIndex", "(IIILjava/util/function/BiFunction;)I"⟩ : MethodName) jdk_41_method_12_code 4 (some .int) :: ws) ({ frames := 0, cells := 0, slots := 0, locals := 0 } : Room)) (fun aa U => aa = #[(.int a), (.int b), (.int n), fm] ∧ Z.Warmed39 U.vm ∧ U.heap = h0) (fun _ _ _ _ _ => True) (fun _ U o U' => ∃ v L, o = .returned v ∧ QV (.int a) h0 v U'.heap L ∧ FrameEnd U o U' L ({ frames := 0, cells := 0, slots := 0, locals := 0 } : Room).cells ({ frames := 0, cells := 0, slots := 0, locals := 0 } : Room).slots) := by
  refine openP (y := (⟨"jdk/internal/util/Preconditions", "checkFromToIndex", "(IIILjava/util/function/BiFunction;)I"⟩ : MethodName)) pn_7 ?_
  intro p e s m below meth c T hx hby hml hret hlk hnm hZ hown X hT
  refine Go.st (fun _ k => castTop (ef_IIIV_4 m a b n fm rf) k) ?_
  show Go p e below _ (T.setTop (mkF m 0 #[.val (.int a), .val (.int b), .val (.int n), .val fm] []))
  refine Go.st (fun _ k => XS.iloadN X.here hx rfl (hb hby d21_0) rfl k) ?_
  show Go p e below _ (T.setTop (mkF m 1 #[.val (.int a), .val (.int b), .val (.int n), .val fm] [(.int a)]))
  refine Go.st (fun _ k => XS.ifNo X.here hx rfl (hb hby d21_1) rfl (Jvm.Free.XT.i0_lt_f (h1 : ¬ (a < (0 : Int32)))) k) ?_
  show Go p e below _ (T.setTop (mkF m 4 #[.val (.int a), .val (.int b), .val (.int n), .val fm] []))
  refine Go.st (fun _ k => XS.iloadN X.here hx rfl (hb hby d21_4) rfl k) ?_
  show Go p e below _ (T.setTop (mkF m 5 #[.val (.int a), .val (.int b), .val (.int n), .val fm] [(.int a)]))
  refine Go.st (fun _ k => XS.iloadN X.here hx rfl (hb hby d21_5) rfl k) ?_
  show Go p e below _ (T.setTop (mkF m 6 #[.val (.int a), .val (.int b), .val (.int n), .val fm] [(.int b), (.int a)]))
  refine Go.st (fun _ k => XS.icmpNo X.here hx rfl (hb hby d21_6) rfl (Jvm.Free.XT.ii_gt_f (h2 : ¬ (b < a))) k) ?_
  show Go p e below _ (T.setTop (mkF m 9 #[.val (.int a), .val (.int b), .val (.int n), .val fm] []))
  refine Go.st (fun _ k => XS.iloadN X.here hx rfl (hb hby d21_9) rfl k) ?_
  show Go p e below _ (T.setTop (mkF m 10 #[.val (.int a), .val (.int b), .val (.int n), .val fm] [(.int b)]))
  refine Go.st (fun _ k => XS.iloadN X.here hx rfl (hb hby d21_10) rfl k) ?_
  show Go p e below _ (T.setTop (mkF m 11 #[.val (.int a), .val (.int b), .val (.int n), .val fm] [(.int n), (.int b)]))
  refine Go.st (fun _ k => XS.icmpYes X.here hx rfl (pc0 := 11) (pc' := 22) rfl (hb hby d21_11) rfl (Jvm.Free.XT.ii_le_t (h3 : ¬ (n < b))) (by decide) (by decide) k) ?_
  show Go p e below _ (T.setTop (mkF m 22 #[.val (.int a), .val (.int b), .val (.int n), .val fm] []))
  refine Go.st (fun _ k => XS.iloadN X.here hx rfl (hb hby d21_22) rfl k) ?_
  show Go p e below _ (T.setTop (mkF m 23 #[.val (.int a), .val (.int b), .val (.int n), .val fm] [(.int a)]))
  refine Go.ret X hx hlk hT hret rfl (riI (by simp)) (hb hby d21_23) (by decide) (by decide) ?_
  exact ⟨rfl, rfl, rfl⟩
theorem pd_4 : parseMethodDescriptor "(IIILjava/util/function/BiFunction;)I" = some ⟨[.int, .int, .int, (.object "java/util/function/BiFunction")], (some .int)⟩ := by decide +kernel
def StF (Z : State) (fm : Value) : Prop := Sta Z Z.heap "jdk/internal/util/Preconditions" "SIOOBE_FORMATTER" "Ljava/util/function/BiFunction;" fm ∧ fm.isRef = true
theorem d20_0 : decode jdk_42_method_158_code 0 = .ok (.iload_n 0, 1) := by decide +kernel
theorem d20_1 : decode jdk_42_method_158_code 1 = .ok (.iload_n 1, 1) := by decide +kernel
theorem d20_2 : decode jdk_42_method_158_code 2 = .ok (.iload_n 2, 1) := by decide +kernel
theorem d20_3 : decode jdk_42_method_158_code 3 = .ok (.getstatic 1053, 3) := by decide +kernel
theorem d20_6 : decode jdk_42_method_158_code 6 = .ok (.invokestatic 1062, 3) := by decide +kernel
theorem d20_9 : decode jdk_42_method_158_code 9 = .ok (.pop, 1) := by decide +kernel
theorem d20_10 : decode jdk_42_method_158_code 10 = .ok (.return_, 1) := by decide +kernel
theorem pn_8 : plainFor (⟨"java/lang/String", "checkBoundsBeginEnd", "(III)V"⟩ : MethodName) = true := by first | exact plainFor_of_name (by first | (simp [plainName, overriddenIn]; done) | decide +kernel) | decide +kernel
theorem ef_III_3 (m : MethodId) (y0 : Int32) (y1 : Int32) (y2 : Int32) : entryFrame m #[(.int y0), (.int y1), (.int y2)] 3 = mkF m 0 #[.val (.int y0), .val (.int y1), .val (.int y2)] [] := by first | (simp [entryFrame, mkF, argsToLocals, Value.category]; done) | rfl
set_option maxRecDepth 65536 in
set_option maxHeartbeats 40000000 in
theorem met_cbe (l : Launch) (Z : State) (a0 : Array Value) (hw : ∀ d ∈ tables_1, d.before a0 Z = true) (ws : List Jvm.Cond) (n0 : Nat) (fm : Value) (a b n : Int32) (h0 : Heap) (O : Old Z n0 h0) (Sf : StF Z fm) (h1 : ¬ (a < (0 : Int32))) (h2 : ¬ (b < a)) (h3 : ¬ (n < b)) :
    MetFree l (⟨"java/lang/String", "checkBoundsBeginEnd", "(III)V"⟩ : MethodName) (head1 (Jvm.Cond.code (⟨"java/lang/String", "checkBoundsBeginEnd", "(III)V"⟩ : MethodName) jdk_42_method_158_code 3 none :: ws) ({ frames := 1, cells := 0, slots := 0, locals := 15 } : Room)) (fun aa U => aa = #[(.int a), (.int b), (.int n)] ∧ Z.Warmed39 U.vm ∧ U.heap = h0) (fun _ _ _ _ _ => True) (fun _ U o U' => ∃ v L, o = .returned v ∧ QU h0 v U'.heap L ∧ FrameEnd U o U' L ({ frames := 1, cells := 0, slots := 0, locals := 15 } : Room).cells ({ frames := 1, cells := 0, slots := 0, locals := 15 } : Room).slots) := by
  refine openP (y := (⟨"java/lang/String", "checkBoundsBeginEnd", "(III)V"⟩ : MethodName)) pn_8 ?_
  intro p e s m below meth c T hx hby hml hret hlk hnm hZ hown X hT
  refine Go.st (fun _ k => castTop (ef_III_3 m a b n) k) ?_
  show Go p e below _ (T.setTop (mkF m 0 #[.val (.int a), .val (.int b), .val (.int n)] []))
  have rf := Sf.2
  refine Go.st (fun _ k => XS.iloadN X.here hx rfl (hb hby d20_0) rfl k) ?_
  show Go p e below _ (T.setTop (mkF m 1 #[.val (.int a), .val (.int b), .val (.int n)] [(.int a)]))
  refine Go.st (fun _ k => XS.iloadN X.here hx rfl (hb hby d20_1) rfl k) ?_
  show Go p e below _ (T.setTop (mkF m 2 #[.val (.int a), .val (.int b), .val (.int n)] [(.int b), (.int a)]))
  refine Go.st (fun _ k => XS.iloadN X.here hx rfl (hb hby d20_2) rfl k) ?_
  show Go p e below _ (T.setTop (mkF m 3 #[.val (.int a), .val (.int b), .val (.int n)] [(.int n), (.int b), (.int a)]))
  obtain ⟨T, X, hT, st⟩ := getS2 X hx hZ hown (host := "") (Or.inl (hw _ (List.mem_of_getElem? (i := 91) rfl))) Via.refl hT (Sf.1.ext O.2) (g := (mkF m 3 #[.val (.int a), .val (.int b), .val (.int n)] [(.int n), (.int b), (.int a)])) rfl (hb hby d20_3)
  refine Go.st st ?_
  show Go p e below _ (T.setTop (mkF m 6 #[.val (.int a), .val (.int b), .val (.int n)] [fm, (.int n), (.int b), (.int a)]))
  refine Go.callV (argsL := [(.int a), (.int b), (.int n), fm]) (rest := []) (W := 0) X hx hZ hown (hml.trans rfl) hT (hw _ (List.mem_of_getElem? (i := 93) rfl)) (hw _ (List.mem_of_getElem? (i := 94) rfl)) (hw _ (List.mem_of_getElem? (i := 92) rfl)) (hw _ (List.mem_of_getElem? (i := 95) rfl)) (by decide) pd_4 rfl rfl (Nat.le_of_ble_eq_true rfl) (hb hby d20_6) (backOf (W := 0) (met_pcf l Z a0 hw [] a b n fm _ rf h1 h2 h3) hZ (hw _ (List.mem_of_getElem? (i := 95) rfl)) (hw _ (List.mem_of_getElem? (i := 92) rfl)) (by decide) (by decide)) (by decide) (by decide) ?_
  intro T hT X
  show Go p e below _ (T.setTop (mkF m 9 #[.val (.int a), .val (.int b), .val (.int n)] [(.int a)]))
  refine Go.st (fun _ k => XS.pop X.here hx rfl (hb hby d20_9) rfl rfl k) ?_
  show Go p e below _ (T.setTop (mkF m 10 #[.val (.int a), .val (.int b), .val (.int n)] []))
  refine Go.retV X hx hlk hT hret (hb hby d20_10) (by decide) (by decide) ?_
  exact ⟨rfl, rfl, rfl⟩
theorem pd_5 : parseMethodDescriptor "()I" = some ⟨[], (some .int)⟩ := by decide +kernel
theorem pd_6 : parseMethodDescriptor "(III)V" = some ⟨[.int, .int, .int], none⟩ := by decide +kernel
theorem pd_7 : parseMethodDescriptor "()Z" = some ⟨[], (some .boolean)⟩ := by decide +kernel
theorem pd_8 : parseMethodDescriptor "([BII)Ljava/lang/String;" = some ⟨[(.array .byte), .int, .int], (some (.object "java/lang/String"))⟩ := by decide +kernel
theorem d19_0 : decode jdk_42_method_92_code 0 = .ok (.aload_n 0, 1) := by decide +kernel
theorem d19_1 : decode jdk_42_method_92_code 1 = .ok (.invokevirtual 505, 3) := by decide +kernel
theorem d19_4 : decode jdk_42_method_92_code 4 = .ok (.istore_n 3, 1) := by decide +kernel
theorem d19_5 : decode jdk_42_method_92_code 5 = .ok (.iload_n 1, 1) := by decide +kernel
theorem d19_6 : decode jdk_42_method_92_code 6 = .ok (.iload_n 2, 1) := by decide +kernel
theorem d19_7 : decode jdk_42_method_92_code 7 = .ok (.iload_n 3, 1) := by decide +kernel
theorem d19_8 : decode jdk_42_method_92_code 8 = .ok (.invokestatic 521, 3) := by decide +kernel
theorem d19_11 : decode jdk_42_method_92_code 11 = .ok (.iload_n 1, 1) := by decide +kernel
theorem d19_12 : decode jdk_42_method_92_code 12 = .ok (.ifCond .ne 10, 3) := by decide +kernel
theorem d19_15 : decode jdk_42_method_92_code 15 = .ok (.iload_n 2, 1) := by decide +kernel
theorem d19_16 : decode jdk_42_method_92_code 16 = .ok (.iload_n 3, 1) := by decide +kernel
theorem d19_17 : decode jdk_42_method_92_code 17 = .ok (.if_icmp .ne 5, 3) := by decide +kernel
theorem d19_22 : decode jdk_42_method_92_code 22 = .ok (.iload_n 2, 1) := by decide +kernel
theorem d19_23 : decode jdk_42_method_92_code 23 = .ok (.iload_n 1, 1) := by decide +kernel
theorem d19_24 : decode jdk_42_method_92_code 24 = .ok (.isub, 1) := by decide +kernel
theorem d19_25 : decode jdk_42_method_92_code 25 = .ok (.istore 4, 2) := by decide +kernel
theorem d19_27 : decode jdk_42_method_92_code 27 = .ok (.aload_n 0, 1) := by decide +kernel
theorem d19_28 : decode jdk_42_method_92_code 28 = .ok (.invokevirtual 492, 3) := by decide +kernel
theorem d19_31 : decode jdk_42_method_92_code 31 = .ok (.ifCond .eq 16, 3) := by decide +kernel
theorem d19_34 : decode jdk_42_method_92_code 34 = .ok (.aload_n 0, 1) := by decide +kernel
theorem d19_35 : decode jdk_42_method_92_code 35 = .ok (.getfield 9, 3) := by decide +kernel
theorem d19_38 : decode jdk_42_method_92_code 38 = .ok (.iload_n 1, 1) := by decide +kernel
theorem d19_39 : decode jdk_42_method_92_code 39 = .ok (.iload 4, 2) := by decide +kernel
theorem d19_41 : decode jdk_42_method_92_code 41 = .ok (.invokestatic 685, 3) := by decide +kernel
theorem d19_44 : decode jdk_42_method_92_code 44 = .ok (.goto 13, 3) := by decide +kernel
theorem d19_57 : decode jdk_42_method_92_code 57 = .ok (.areturn, 1) := by decide +kernel
theorem pn_9 : plainFor (⟨"java/lang/String", "substring", "(II)Ljava/lang/String;"⟩ : MethodName) = true := by first | exact plainFor_of_name (by first | (simp [plainName, overriddenIn]; done) | decide +kernel) | decide +kernel
set_option maxRecDepth 65536 in
set_option maxHeartbeats 40000000 in
theorem met_sub (l : Launch) (Z : State) (a0 : Array Value) (hw : ∀ d ∈ tables_1, d.before a0 Z = true) (ws : List Jvm.Cond) (z : Int32) (fm : Value) (n0 : Nat) (y : Addr) (cs : List Int32) (b e1 : Nat) (h0 : Heap) (O : Old Z n0 h0) (Sc : Stat Z z) (Sf : StF Z fm) (S_y : Str Z h0 y cs) (hl : Lat cs) (hbe : b < e1) (he : e1 ≤ cs.length) (hn : cs.length ≤ 8) (hne : ¬ (b = 0 ∧ e1 = cs.length)) :
    MetFree l (⟨"java/lang/String", "substring", "(II)Ljava/lang/String;"⟩ : MethodName) (head1 (Jvm.Cond.code (⟨"java/lang/String", "substring", "(II)Ljava/lang/String;"⟩ : MethodName) jdk_42_method_92_code 5 (some (.object "java/lang/String")) :: ws) ({ frames := 4, cells := 2, slots := 12, locals := 106 } : Room)) (fun aa U => aa = #[(.ref y), (.int (Int32.ofNat b)), (.int (Int32.ofNat e1))] ∧ Z.Warmed39 U.vm ∧ U.heap = h0) (fun _ _ _ _ _ => True) (fun _ U o U' => ∃ v L, o = .returned v ∧ QStr Z n0 ((cs.drop b).take (e1 - b)) h0 v U'.heap L ∧ FrameEnd U o U' L ({ frames := 4, cells := 2, slots := 12, locals := 106 } : Room).cells ({ frames := 4, cells := 2, slots := 12, locals := 106 } : Room).slots) := by
  refine openP (y := (⟨"java/lang/String", "substring", "(II)Ljava/lang/String;"⟩ : MethodName)) pn_9 ?_
  intro p e s m below meth c T hx hby hml hret hlk hnm hZ hown X hT
  refine Go.st (fun _ k => castTop (ef_AII_5 m y (Int32.ofNat b) (Int32.ofNat e1)) k) ?_
  show Go p e below _ (T.setTop (mkF m 0 #[.val (.ref y), .val (.int (Int32.ofNat b)), .val (.int (Int32.ofNat e1)), .unset, .unset] []))
  obtain ⟨tv, kt, E_y, F_v, F_c, V_t⟩ := own_latin S_y hl
  refine Go.st (fun _ k => XS.aloadN X.here hx rfl (hb hby d19_0) rfl rfl k) ?_
  show Go p e below _ (T.setTop (mkF m 1 #[.val (.ref y), .val (.int (Int32.ofNat b)), .val (.int (Int32.ofNat e1)), .unset, .unset] [(.ref y)]))
  refine Go.virtV (K := "java/lang/String") (z := (⟨"java/lang/String", "length", "()I"⟩ : MethodName)) (argsL := []) (rest := []) (W := 0) (w := (.int (Int32.ofNat cs.length))) X hx hZ hown (hml.trans rfl) hT S_y.exa (hw _ (List.mem_of_getElem? (i := 55) rfl)) (hw _ (List.mem_of_getElem? (i := 56) rfl)) (hw _ (List.mem_of_getElem? (i := 58) rfl)) (hw _ (List.mem_of_getElem? (i := 57) rfl)) (by decide) pd_5 rfl rfl (Nat.le_of_ble_eq_true rfl) (hb hby d19_1) (notFace_of_selects (args := #[]) (mvT hZ (hw _ (List.mem_of_getElem? (i := 58) rfl)))) (own_len (W := 0) hw hZ O Sc S_y (by decide) (by decide)) (by decide) (by decide) ?_
  intro T hT X
  show Go p e below _ (T.setTop (mkF m 4 #[.val (.ref y), .val (.int (Int32.ofNat b)), .val (.int (Int32.ofNat e1)), .unset, .unset] [(.int (Int32.ofNat cs.length))]))
  refine Go.st (fun _ k => XS.istoreN X.here hx rfl (hb hby d19_4) rfl (l' := #[.val (.ref y), .val (.int (Int32.ofNat b)), .val (.int (Int32.ofNat e1)), .val (.int (Int32.ofNat cs.length)), .unset]) rfl k) ?_
  show Go p e below _ (T.setTop (mkF m 5 #[.val (.ref y), .val (.int (Int32.ofNat b)), .val (.int (Int32.ofNat e1)), .val (.int (Int32.ofNat cs.length)), .unset] []))
  refine Go.st (fun _ k => XS.iloadN X.here hx rfl (hb hby d19_5) rfl k) ?_
  show Go p e below _ (T.setTop (mkF m 6 #[.val (.ref y), .val (.int (Int32.ofNat b)), .val (.int (Int32.ofNat e1)), .val (.int (Int32.ofNat cs.length)), .unset] [(.int (Int32.ofNat b))]))
  refine Go.st (fun _ k => XS.iloadN X.here hx rfl (hb hby d19_6) rfl k) ?_
  show Go p e below _ (T.setTop (mkF m 7 #[.val (.ref y), .val (.int (Int32.ofNat b)), .val (.int (Int32.ofNat e1)), .val (.int (Int32.ofNat cs.length)), .unset] [(.int (Int32.ofNat e1)), (.int (Int32.ofNat b))]))
  refine Go.st (fun _ k => XS.iloadN X.here hx rfl (hb hby d19_7) rfl k) ?_
  show Go p e below _ (T.setTop (mkF m 8 #[.val (.ref y), .val (.int (Int32.ofNat b)), .val (.int (Int32.ofNat e1)), .val (.int (Int32.ofNat cs.length)), .unset] [(.int (Int32.ofNat cs.length)), (.int (Int32.ofNat e1)), (.int (Int32.ofNat b))]))
  refine Go.callP (argsL := [(.int (Int32.ofNat b)), (.int (Int32.ofNat e1)), (.int (Int32.ofNat cs.length))]) (rest := []) (W := 0) (ck := 0) (sk := 0) X hx hZ hown (hml.trans rfl) hT (hw _ (List.mem_of_getElem? (i := 88) rfl)) (hw _ (List.mem_of_getElem? (i := 89) rfl)) (hw _ (List.mem_of_getElem? (i := 9) rfl)) (hw _ (List.mem_of_getElem? (i := 90) rfl)) (by decide) pd_6 rfl rfl (Nat.le_of_ble_eq_true rfl) (hb hby d19_8) (backOf (W := 0) (met_cbe l Z a0 hw [] n0 fm (Int32.ofNat b) (Int32.ofNat e1) (Int32.ofNat cs.length) _ O Sf (own_nn (by omega)) (fun q => absurd ((own_lt (by omega) (by omega)).mp q) (by omega)) (fun q => absurd ((own_lt (by omega) (by omega)).mp q) (by omega))) hZ (hw _ (List.mem_of_getElem? (i := 90) rfl)) (hw _ (List.mem_of_getElem? (i := 9) rfl)) (by decide) (by decide)) (by decide) (by decide) ?_
  intro v T hq L hT hQ X
  obtain ⟨rfl, rfl, hq0⟩ := hQ
  rw [hq0] at hT
  rw [List.append_nil] at X
  show Go p e below _ (T.setTop (mkF m 11 #[.val (.ref y), .val (.int (Int32.ofNat b)), .val (.int (Int32.ofNat e1)), .val (.int (Int32.ofNat cs.length)), .unset] []))
  refine Go.st (fun _ k => XS.iloadN X.here hx rfl (hb hby d19_11) rfl k) ?_
  show Go p e below _ (T.setTop (mkF m 12 #[.val (.ref y), .val (.int (Int32.ofNat b)), .val (.int (Int32.ofNat e1)), .val (.int (Int32.ofNat cs.length)), .unset] [(.int (Int32.ofNat b))]))
  by_cases hb0 : (Int32.ofNat b) = (0 : Int32)
  · refine Go.st (fun _ k => XS.ifNo X.here hx rfl (hb hby d19_12) rfl (Jvm.Free.XT.i0_ne_f hb0) k) ?_
    show Go p e below _ (T.setTop (mkF m 15 #[.val (.ref y), .val (.int (Int32.ofNat b)), .val (.int (Int32.ofNat e1)), .val (.int (Int32.ofNat cs.length)), .unset] []))
    refine Go.st (fun _ k => XS.iloadN X.here hx rfl (hb hby d19_15) rfl k) ?_
    show Go p e below _ (T.setTop (mkF m 16 #[.val (.ref y), .val (.int (Int32.ofNat b)), .val (.int (Int32.ofNat e1)), .val (.int (Int32.ofNat cs.length)), .unset] [(.int (Int32.ofNat e1))]))
    refine Go.st (fun _ k => XS.iloadN X.here hx rfl (hb hby d19_16) rfl k) ?_
    show Go p e below _ (T.setTop (mkF m 17 #[.val (.ref y), .val (.int (Int32.ofNat b)), .val (.int (Int32.ofNat e1)), .val (.int (Int32.ofNat cs.length)), .unset] [(.int (Int32.ofNat cs.length)), (.int (Int32.ofNat e1))]))
    refine Go.st (fun _ k => XS.icmpYes X.here hx rfl (pc0 := 17) (pc' := 22) rfl (hb hby d19_17) rfl (Jvm.Free.XT.ii_ne_t (fun q => hne ⟨(own_eqN (b := 0) (by omega) (by omega)).mp hb0, (own_eqN (by omega) (by omega)).mp q⟩ : ¬ ((Int32.ofNat e1) = (Int32.ofNat cs.length)))) (by decide) (by decide) k) ?_
    show Go p e below _ (T.setTop (mkF m 22 #[.val (.ref y), .val (.int (Int32.ofNat b)), .val (.int (Int32.ofNat e1)), .val (.int (Int32.ofNat cs.length)), .unset] []))
    refine Go.st (fun _ k => XS.iloadN X.here hx rfl (hb hby d19_22) rfl k) ?_
    show Go p e below _ (T.setTop (mkF m 23 #[.val (.ref y), .val (.int (Int32.ofNat b)), .val (.int (Int32.ofNat e1)), .val (.int (Int32.ofNat cs.length)), .unset] [(.int (Int32.ofNat e1))]))
    refine Go.st (fun _ k => XS.iloadN X.here hx rfl (hb hby d19_23) rfl k) ?_
    show Go p e below _ (T.setTop (mkF m 24 #[.val (.ref y), .val (.int (Int32.ofNat b)), .val (.int (Int32.ofNat e1)), .val (.int (Int32.ofNat cs.length)), .unset] [(.int (Int32.ofNat b)), (.int (Int32.ofNat e1))]))
    refine Go.st (fun _ k => XS.isub X.here hx rfl (hb hby d19_24) rfl k) ?_
    show Go p e below _ (T.setTop (mkF m 25 #[.val (.ref y), .val (.int (Int32.ofNat b)), .val (.int (Int32.ofNat e1)), .val (.int (Int32.ofNat cs.length)), .unset] [(.int ((Int32.ofNat e1) - (Int32.ofNat b)))]))
    rw [own_sub (by omega) (by omega)]
    show Go p e below _ (T.setTop (mkF m 25 #[.val (.ref y), .val (.int (Int32.ofNat b)), .val (.int (Int32.ofNat e1)), .val (.int (Int32.ofNat cs.length)), .unset] [(.int (Int32.ofNat (e1 - b)))]))
    refine Go.st (fun _ k => XS.istore X.here hx rfl (hb hby d19_25) rfl (l' := #[.val (.ref y), .val (.int (Int32.ofNat b)), .val (.int (Int32.ofNat e1)), .val (.int (Int32.ofNat cs.length)), .val (.int (Int32.ofNat (e1 - b)))]) rfl k) ?_
    show Go p e below _ (T.setTop (mkF m 27 #[.val (.ref y), .val (.int (Int32.ofNat b)), .val (.int (Int32.ofNat e1)), .val (.int (Int32.ofNat cs.length)), .val (.int (Int32.ofNat (e1 - b)))] []))
    refine Go.st (fun _ k => XS.aloadN X.here hx rfl (hb hby d19_27) rfl rfl k) ?_
    show Go p e below _ (T.setTop (mkF m 28 #[.val (.ref y), .val (.int (Int32.ofNat b)), .val (.int (Int32.ofNat e1)), .val (.int (Int32.ofNat cs.length)), .val (.int (Int32.ofNat (e1 - b)))] [(.ref y)]))
    refine Go.virtV (K := "java/lang/String") (z := (⟨"java/lang/String", "isLatin1", "()Z"⟩ : MethodName)) (argsL := []) (rest := []) (W := 0) (w := (.int (1 : Int32))) X hx hZ hown (hml.trans rfl) hT E_y (hw _ (List.mem_of_getElem? (i := 50) rfl)) (hw _ (List.mem_of_getElem? (i := 51) rfl)) (hw _ (List.mem_of_getElem? (i := 53) rfl)) (hw _ (List.mem_of_getElem? (i := 52) rfl)) (by decide) pd_7 rfl rfl (Nat.le_of_ble_eq_true rfl) (hb hby d19_28) (notFace_of_selects (args := #[]) (mvT hZ (hw _ (List.mem_of_getElem? (i := 53) rfl)))) (backOf (W := 0) (met_isl l Z a0 hw [] z n0 y _ O Sc F_c) hZ (hw _ (List.mem_of_getElem? (i := 54) rfl)) (hw _ (List.mem_of_getElem? (i := 9) rfl)) (by decide) (by decide)) (by decide) (by decide) ?_
    intro T hT X
    show Go p e below _ (T.setTop (mkF m 31 #[.val (.ref y), .val (.int (Int32.ofNat b)), .val (.int (Int32.ofNat e1)), .val (.int (Int32.ofNat cs.length)), .val (.int (Int32.ofNat (e1 - b)))] [(.int (1 : Int32))]))
    refine Go.st (fun _ k => XS.ifNo X.here hx rfl (hb hby d19_31) rfl (Jvm.Free.XT.i0_eq_f (by decide : ¬ ((1 : Int32) = (0 : Int32)))) k) ?_
    show Go p e below _ (T.setTop (mkF m 34 #[.val (.ref y), .val (.int (Int32.ofNat b)), .val (.int (Int32.ofNat e1)), .val (.int (Int32.ofNat cs.length)), .val (.int (Int32.ofNat (e1 - b)))] []))
    refine Go.st (fun _ k => XS.aloadN X.here hx rfl (hb hby d19_34) rfl rfl k) ?_
    show Go p e below _ (T.setTop (mkF m 35 #[.val (.ref y), .val (.int (Int32.ofNat b)), .val (.int (Int32.ofNat e1)), .val (.int (Int32.ofNat cs.length)), .val (.int (Int32.ofNat (e1 - b)))] [(.ref y)]))
    obtain ⟨T, X, hT, st⟩ := getF X hx hZ hown (host := "") (Or.inl (hw _ (List.mem_of_getElem? (i := 34) rfl))) Via.refl hT F_v (g := (mkF m 35 #[.val (.ref y), .val (.int (Int32.ofNat b)), .val (.int (Int32.ofNat e1)), .val (.int (Int32.ofNat cs.length)), .val (.int (Int32.ofNat (e1 - b)))] [(.ref y)])) rfl rfl (hb hby d19_35)
    refine Go.st st ?_
    show Go p e below _ (T.setTop (mkF m 38 #[.val (.ref y), .val (.int (Int32.ofNat b)), .val (.int (Int32.ofNat e1)), .val (.int (Int32.ofNat cs.length)), .val (.int (Int32.ofNat (e1 - b)))] [(.ref tv)]))
    refine Go.st (fun _ k => XS.iloadN X.here hx rfl (hb hby d19_38) rfl k) ?_
    show Go p e below _ (T.setTop (mkF m 39 #[.val (.ref y), .val (.int (Int32.ofNat b)), .val (.int (Int32.ofNat e1)), .val (.int (Int32.ofNat cs.length)), .val (.int (Int32.ofNat (e1 - b)))] [(.int (Int32.ofNat b)), (.ref tv)]))
    refine Go.st (fun _ k => XS.iload X.here hx rfl (hb hby d19_39) rfl k) ?_
    show Go p e below _ (T.setTop (mkF m 41 #[.val (.ref y), .val (.int (Int32.ofNat b)), .val (.int (Int32.ofNat e1)), .val (.int (Int32.ofNat cs.length)), .val (.int (Int32.ofNat (e1 - b)))] [(.int (Int32.ofNat (e1 - b))), (.int (Int32.ofNat b)), (.ref tv)]))
    refine Go.callP (argsL := [(.ref tv), (.int (Int32.ofNat b)), (.int (Int32.ofNat (e1 - b)))]) (rest := []) (W := 0) (ck := 2) (sk := 12) X hx hZ hown (hml.trans rfl) hT (hw _ (List.mem_of_getElem? (i := 96) rfl)) (hw _ (List.mem_of_getElem? (i := 97) rfl)) (hw _ (List.mem_of_getElem? (i := 67) rfl)) (hw _ (List.mem_of_getElem? (i := 98) rfl)) (by decide) pd_8 rfl rfl (Nat.le_of_ble_eq_true rfl) (hb hby d19_41) (backOf (W := 0) (met_news l Z a0 hw [] n0 tv kt cs b e1 _ O V_t hl hbe he hn hne) hZ (hw _ (List.mem_of_getElem? (i := 98) rfl)) (hw _ (List.mem_of_getElem? (i := 67) rfl)) (by decide) (by decide)) (by decide) (by decide) ?_
    intro v T h1 L hT hQ X
    obtain ⟨r, rfl, N0, Ex0, S_r⟩ := hQ
    show Go p e below _ (T.setTop (mkF m 44 #[.val (.ref y), .val (.int (Int32.ofNat b)), .val (.int (Int32.ofNat e1)), .val (.int (Int32.ofNat cs.length)), .val (.int (Int32.ofNat (e1 - b)))] [(.ref r)]))
    refine Go.st (fun _ k => XS.goto X.here hx rfl (pc0 := 44) (pc' := 57) rfl (hb hby d19_44) (by decide) (by decide) k) ?_
    show Go p e below _ (T.setTop (mkF m 57 #[.val (.ref y), .val (.int (Int32.ofNat b)), .val (.int (Int32.ofNat e1)), .val (.int (Int32.ofNat cs.length)), .val (.int (Int32.ofNat (e1 - b)))] [(.ref r)]))
    refine Go.ret X hx hlk hT hret rfl (riA rfl rfl) (hb hby d19_57) (by decide) (by decide) ?_
    exact ⟨r, rfl, N0, Ex0, S_r⟩
  · refine Go.st (fun _ k => XS.ifYes X.here hx rfl (pc0 := 12) (pc' := 22) rfl (hb hby d19_12) rfl (Jvm.Free.XT.i0_ne_t hb0) (by decide) (by decide) k) ?_
    show Go p e below _ (T.setTop (mkF m 22 #[.val (.ref y), .val (.int (Int32.ofNat b)), .val (.int (Int32.ofNat e1)), .val (.int (Int32.ofNat cs.length)), .unset] []))
    refine Go.st (fun _ k => XS.iloadN X.here hx rfl (hb hby d19_22) rfl k) ?_
    show Go p e below _ (T.setTop (mkF m 23 #[.val (.ref y), .val (.int (Int32.ofNat b)), .val (.int (Int32.ofNat e1)), .val (.int (Int32.ofNat cs.length)), .unset] [(.int (Int32.ofNat e1))]))
    refine Go.st (fun _ k => XS.iloadN X.here hx rfl (hb hby d19_23) rfl k) ?_
    show Go p e below _ (T.setTop (mkF m 24 #[.val (.ref y), .val (.int (Int32.ofNat b)), .val (.int (Int32.ofNat e1)), .val (.int (Int32.ofNat cs.length)), .unset] [(.int (Int32.ofNat b)), (.int (Int32.ofNat e1))]))
    refine Go.st (fun _ k => XS.isub X.here hx rfl (hb hby d19_24) rfl k) ?_
    show Go p e below _ (T.setTop (mkF m 25 #[.val (.ref y), .val (.int (Int32.ofNat b)), .val (.int (Int32.ofNat e1)), .val (.int (Int32.ofNat cs.length)), .unset] [(.int ((Int32.ofNat e1) - (Int32.ofNat b)))]))
    rw [own_sub (by omega) (by omega)]
    show Go p e below _ (T.setTop (mkF m 25 #[.val (.ref y), .val (.int (Int32.ofNat b)), .val (.int (Int32.ofNat e1)), .val (.int (Int32.ofNat cs.length)), .unset] [(.int (Int32.ofNat (e1 - b)))]))
    refine Go.st (fun _ k => XS.istore X.here hx rfl (hb hby d19_25) rfl (l' := #[.val (.ref y), .val (.int (Int32.ofNat b)), .val (.int (Int32.ofNat e1)), .val (.int (Int32.ofNat cs.length)), .val (.int (Int32.ofNat (e1 - b)))]) rfl k) ?_
    show Go p e below _ (T.setTop (mkF m 27 #[.val (.ref y), .val (.int (Int32.ofNat b)), .val (.int (Int32.ofNat e1)), .val (.int (Int32.ofNat cs.length)), .val (.int (Int32.ofNat (e1 - b)))] []))
    refine Go.st (fun _ k => XS.aloadN X.here hx rfl (hb hby d19_27) rfl rfl k) ?_
    show Go p e below _ (T.setTop (mkF m 28 #[.val (.ref y), .val (.int (Int32.ofNat b)), .val (.int (Int32.ofNat e1)), .val (.int (Int32.ofNat cs.length)), .val (.int (Int32.ofNat (e1 - b)))] [(.ref y)]))
    refine Go.virtV (K := "java/lang/String") (z := (⟨"java/lang/String", "isLatin1", "()Z"⟩ : MethodName)) (argsL := []) (rest := []) (W := 0) (w := (.int (1 : Int32))) X hx hZ hown (hml.trans rfl) hT E_y (hw _ (List.mem_of_getElem? (i := 50) rfl)) (hw _ (List.mem_of_getElem? (i := 51) rfl)) (hw _ (List.mem_of_getElem? (i := 53) rfl)) (hw _ (List.mem_of_getElem? (i := 52) rfl)) (by decide) pd_7 rfl rfl (Nat.le_of_ble_eq_true rfl) (hb hby d19_28) (notFace_of_selects (args := #[]) (mvT hZ (hw _ (List.mem_of_getElem? (i := 53) rfl)))) (backOf (W := 0) (met_isl l Z a0 hw [] z n0 y _ O Sc F_c) hZ (hw _ (List.mem_of_getElem? (i := 54) rfl)) (hw _ (List.mem_of_getElem? (i := 9) rfl)) (by decide) (by decide)) (by decide) (by decide) ?_
    intro T hT X
    show Go p e below _ (T.setTop (mkF m 31 #[.val (.ref y), .val (.int (Int32.ofNat b)), .val (.int (Int32.ofNat e1)), .val (.int (Int32.ofNat cs.length)), .val (.int (Int32.ofNat (e1 - b)))] [(.int (1 : Int32))]))
    refine Go.st (fun _ k => XS.ifNo X.here hx rfl (hb hby d19_31) rfl (Jvm.Free.XT.i0_eq_f (by decide : ¬ ((1 : Int32) = (0 : Int32)))) k) ?_
    show Go p e below _ (T.setTop (mkF m 34 #[.val (.ref y), .val (.int (Int32.ofNat b)), .val (.int (Int32.ofNat e1)), .val (.int (Int32.ofNat cs.length)), .val (.int (Int32.ofNat (e1 - b)))] []))
    refine Go.st (fun _ k => XS.aloadN X.here hx rfl (hb hby d19_34) rfl rfl k) ?_
    show Go p e below _ (T.setTop (mkF m 35 #[.val (.ref y), .val (.int (Int32.ofNat b)), .val (.int (Int32.ofNat e1)), .val (.int (Int32.ofNat cs.length)), .val (.int (Int32.ofNat (e1 - b)))] [(.ref y)]))
    obtain ⟨T, X, hT, st⟩ := getF X hx hZ hown (host := "") (Or.inl (hw _ (List.mem_of_getElem? (i := 34) rfl))) Via.refl hT F_v (g := (mkF m 35 #[.val (.ref y), .val (.int (Int32.ofNat b)), .val (.int (Int32.ofNat e1)), .val (.int (Int32.ofNat cs.length)), .val (.int (Int32.ofNat (e1 - b)))] [(.ref y)])) rfl rfl (hb hby d19_35)
    refine Go.st st ?_
    show Go p e below _ (T.setTop (mkF m 38 #[.val (.ref y), .val (.int (Int32.ofNat b)), .val (.int (Int32.ofNat e1)), .val (.int (Int32.ofNat cs.length)), .val (.int (Int32.ofNat (e1 - b)))] [(.ref tv)]))
    refine Go.st (fun _ k => XS.iloadN X.here hx rfl (hb hby d19_38) rfl k) ?_
    show Go p e below _ (T.setTop (mkF m 39 #[.val (.ref y), .val (.int (Int32.ofNat b)), .val (.int (Int32.ofNat e1)), .val (.int (Int32.ofNat cs.length)), .val (.int (Int32.ofNat (e1 - b)))] [(.int (Int32.ofNat b)), (.ref tv)]))
    refine Go.st (fun _ k => XS.iload X.here hx rfl (hb hby d19_39) rfl k) ?_
    show Go p e below _ (T.setTop (mkF m 41 #[.val (.ref y), .val (.int (Int32.ofNat b)), .val (.int (Int32.ofNat e1)), .val (.int (Int32.ofNat cs.length)), .val (.int (Int32.ofNat (e1 - b)))] [(.int (Int32.ofNat (e1 - b))), (.int (Int32.ofNat b)), (.ref tv)]))
    refine Go.callP (argsL := [(.ref tv), (.int (Int32.ofNat b)), (.int (Int32.ofNat (e1 - b)))]) (rest := []) (W := 0) (ck := 2) (sk := 12) X hx hZ hown (hml.trans rfl) hT (hw _ (List.mem_of_getElem? (i := 96) rfl)) (hw _ (List.mem_of_getElem? (i := 97) rfl)) (hw _ (List.mem_of_getElem? (i := 67) rfl)) (hw _ (List.mem_of_getElem? (i := 98) rfl)) (by decide) pd_8 rfl rfl (Nat.le_of_ble_eq_true rfl) (hb hby d19_41) (backOf (W := 0) (met_news l Z a0 hw [] n0 tv kt cs b e1 _ O V_t hl hbe he hn hne) hZ (hw _ (List.mem_of_getElem? (i := 98) rfl)) (hw _ (List.mem_of_getElem? (i := 67) rfl)) (by decide) (by decide)) (by decide) (by decide) ?_
    intro v T h2 L hT hQ X
    obtain ⟨r, rfl, N0, Ex0, S_r⟩ := hQ
    show Go p e below _ (T.setTop (mkF m 44 #[.val (.ref y), .val (.int (Int32.ofNat b)), .val (.int (Int32.ofNat e1)), .val (.int (Int32.ofNat cs.length)), .val (.int (Int32.ofNat (e1 - b)))] [(.ref r)]))
    refine Go.st (fun _ k => XS.goto X.here hx rfl (pc0 := 44) (pc' := 57) rfl (hb hby d19_44) (by decide) (by decide) k) ?_
    show Go p e below _ (T.setTop (mkF m 57 #[.val (.ref y), .val (.int (Int32.ofNat b)), .val (.int (Int32.ofNat e1)), .val (.int (Int32.ofNat cs.length)), .val (.int (Int32.ofNat (e1 - b)))] [(.ref r)]))
    refine Go.ret X hx hlk hT hret rfl (riA rfl rfl) (hb hby d19_57) (by decide) (by decide) ?_
    exact ⟨r, rfl, N0, Ex0, S_r⟩
def f_cei (a : Int32) : Int32 := (if a < (0 : Int32) then (0 : Int32) else (if (255 : Int32) < a then (0 : Int32) else (1 : Int32)))
theorem d15_0 : decode jdk_43_method_4_code 0 = .ok (.iload_n 0, 1) := by decide +kernel
theorem d15_1 : decode jdk_43_method_4_code 1 = .ok (.ifCond .lt 14, 3) := by decide +kernel
theorem d15_4 : decode jdk_43_method_4_code 4 = .ok (.iload_n 0, 1) := by decide +kernel
theorem d15_5 : decode jdk_43_method_4_code 5 = .ok (.sipush 255, 3) := by decide +kernel
theorem d15_8 : decode jdk_43_method_4_code 8 = .ok (.if_icmp .gt 7, 3) := by decide +kernel
theorem d15_11 : decode jdk_43_method_4_code 11 = .ok (.iconst 1, 1) := by decide +kernel
theorem d15_12 : decode jdk_43_method_4_code 12 = .ok (.goto 4, 3) := by decide +kernel
theorem d15_15 : decode jdk_43_method_4_code 15 = .ok (.iconst 0, 1) := by decide +kernel
theorem d15_16 : decode jdk_43_method_4_code 16 = .ok (.ireturn, 1) := by decide +kernel
theorem pn_10 : plainFor (⟨"java/lang/StringLatin1", "canEncode", "(I)Z"⟩ : MethodName) = true := by first | exact plainFor_of_name (by first | (simp [plainName, overriddenIn]; done) | decide +kernel) | decide +kernel
theorem ef_I_1 (m : MethodId) (y0 : Int32) : entryFrame m #[(.int y0)] 1 = mkF m 0 #[.val (.int y0)] [] := by first | (simp [entryFrame, mkF, argsToLocals, Value.category]; done) | rfl
set_option maxRecDepth 65536 in
set_option maxHeartbeats 40000000 in
theorem met_cei (l : Launch) (Z : State) (a0 : Array Value) (hw : ∀ d ∈ tables_1, d.before a0 Z = true) (ws : List Jvm.Cond) (a : Int32) (h0 : Heap)  :
    MetFree l (⟨"java/lang/StringLatin1", "canEncode", "(I)Z"⟩ : MethodName) (head1 (Jvm.Cond.code (⟨"java/lang/StringLatin1", "canEncode", "(I)Z"⟩ : MethodName) jdk_43_method_4_code 1 (some .boolean) :: ws) ({ frames := 0, cells := 0, slots := 0, locals := 0 } : Room)) (fun aa U => aa = #[(.int a)] ∧ Z.Warmed39 U.vm ∧ U.heap = h0) (fun _ _ _ _ _ => True) (fun _ U o U' => ∃ v L, o = .returned v ∧ QV (.int (f_cei a)) h0 v U'.heap L ∧ FrameEnd U o U' L ({ frames := 0, cells := 0, slots := 0, locals := 0 } : Room).cells ({ frames := 0, cells := 0, slots := 0, locals := 0 } : Room).slots) := by
  refine openP (y := (⟨"java/lang/StringLatin1", "canEncode", "(I)Z"⟩ : MethodName)) pn_10 ?_
  intro p e s m below meth c T hx hby hml hret hlk hnm hZ hown X hT
  refine Go.st (fun _ k => castTop (ef_I_1 m a) k) ?_
  show Go p e below _ (T.setTop (mkF m 0 #[.val (.int a)] []))
  refine Go.st (fun _ k => XS.iloadN X.here hx rfl (hb hby d15_0) rfl k) ?_
  show Go p e below _ (T.setTop (mkF m 1 #[.val (.int a)] [(.int a)]))
  by_cases hc1 : a < (0 : Int32)
  · refine Go.st (fun _ k => XS.ifYes X.here hx rfl (pc0 := 1) (pc' := 15) rfl (hb hby d15_1) rfl (Jvm.Free.XT.i0_lt_t hc1) (by decide) (by decide) k) ?_
    show Go p e below _ (T.setTop (mkF m 15 #[.val (.int a)] []))
    refine Go.st (fun _ k => XS.iconst X.here hx rfl (hb hby d15_15) k) ?_
    show Go p e below _ (T.setTop (mkF m 16 #[.val (.int a)] [(.int (0 : Int32))]))
    refine Go.ret X hx hlk hT hret (by decide) (riI (by simp)) (hb hby d15_16) (by decide) (by decide) ?_
    exact ⟨congrArg (fun z => some (Value.int z)) (by rw [f_cei, if_pos hc1]), rfl, rfl⟩
  · refine Go.st (fun _ k => XS.ifNo X.here hx rfl (hb hby d15_1) rfl (Jvm.Free.XT.i0_lt_f hc1) k) ?_
    show Go p e below _ (T.setTop (mkF m 4 #[.val (.int a)] []))
    refine Go.st (fun _ k => XS.iloadN X.here hx rfl (hb hby d15_4) rfl k) ?_
    show Go p e below _ (T.setTop (mkF m 5 #[.val (.int a)] [(.int a)]))
    refine Go.st (fun _ k => XS.sipush X.here hx rfl (hb hby d15_5) k) ?_
    show Go p e below _ (T.setTop (mkF m 8 #[.val (.int a)] [(.int (255 : Int32)), (.int a)]))
    by_cases hc2 : (255 : Int32) < a
    · refine Go.st (fun _ k => XS.icmpYes X.here hx rfl (pc0 := 8) (pc' := 15) rfl (hb hby d15_8) rfl (Jvm.Free.XT.ii_gt_t hc2) (by decide) (by decide) k) ?_
      show Go p e below _ (T.setTop (mkF m 15 #[.val (.int a)] []))
      refine Go.st (fun _ k => XS.iconst X.here hx rfl (hb hby d15_15) k) ?_
      show Go p e below _ (T.setTop (mkF m 16 #[.val (.int a)] [(.int (0 : Int32))]))
      refine Go.ret X hx hlk hT hret (by decide) (riI (by simp)) (hb hby d15_16) (by decide) (by decide) ?_
      exact ⟨congrArg (fun z => some (Value.int z)) (by rw [f_cei, if_neg hc1, if_pos hc2]), rfl, rfl⟩
    · refine Go.st (fun _ k => XS.icmpNo X.here hx rfl (hb hby d15_8) rfl (Jvm.Free.XT.ii_gt_f hc2) k) ?_
      show Go p e below _ (T.setTop (mkF m 11 #[.val (.int a)] []))
      refine Go.st (fun _ k => XS.iconst X.here hx rfl (hb hby d15_11) k) ?_
      show Go p e below _ (T.setTop (mkF m 12 #[.val (.int a)] [(.int (1 : Int32))]))
      refine Go.st (fun _ k => XS.goto X.here hx rfl (pc0 := 12) (pc' := 16) rfl (hb hby d15_12) (by decide) (by decide) k) ?_
      show Go p e below _ (T.setTop (mkF m 16 #[.val (.int a)] [(.int (1 : Int32))]))
      refine Go.ret X hx hlk hT hret (by decide) (riI (by simp)) (hb hby d15_16) (by decide) (by decide) ?_
      exact ⟨congrArg (fun z => some (Value.int z)) (by rw [f_cei, if_neg hc1, if_neg hc2]), rfl, rfl⟩
def f_max (a : Int32) (b : Int32) : Int32 := (if a < b then b else a)
theorem d16_0 : decode jdk_29_method_65_code 0 = .ok (.iload_n 0, 1) := by decide +kernel
theorem d16_1 : decode jdk_29_method_65_code 1 = .ok (.iload_n 1, 1) := by decide +kernel
theorem d16_2 : decode jdk_29_method_65_code 2 = .ok (.if_icmp .lt 7, 3) := by decide +kernel
theorem d16_5 : decode jdk_29_method_65_code 5 = .ok (.iload_n 0, 1) := by decide +kernel
theorem d16_6 : decode jdk_29_method_65_code 6 = .ok (.goto 4, 3) := by decide +kernel
theorem d16_9 : decode jdk_29_method_65_code 9 = .ok (.iload_n 1, 1) := by decide +kernel
theorem d16_10 : decode jdk_29_method_65_code 10 = .ok (.ireturn, 1) := by decide +kernel
theorem pn_11 : plainFor (⟨"java/lang/Math", "max", "(II)I"⟩ : MethodName) = true := by first | exact plainFor_of_name (by first | (simp [plainName, overriddenIn]; done) | decide +kernel) | decide +kernel
set_option maxRecDepth 65536 in
set_option maxHeartbeats 40000000 in
theorem met_max (l : Launch) (Z : State) (a0 : Array Value) (hw : ∀ d ∈ tables_1, d.before a0 Z = true) (ws : List Jvm.Cond) (a : Int32) (b : Int32) (h0 : Heap)  :
    MetFree l (⟨"java/lang/Math", "max", "(II)I"⟩ : MethodName) (head1 (Jvm.Cond.code (⟨"java/lang/Math", "max", "(II)I"⟩ : MethodName) jdk_29_method_65_code 2 (some .int) :: ws) ({ frames := 0, cells := 0, slots := 0, locals := 0 } : Room)) (fun aa U => aa = #[(.int a), (.int b)] ∧ Z.Warmed39 U.vm ∧ U.heap = h0) (fun _ _ _ _ _ => True) (fun _ U o U' => ∃ v L, o = .returned v ∧ QV (.int (f_max a b)) h0 v U'.heap L ∧ FrameEnd U o U' L ({ frames := 0, cells := 0, slots := 0, locals := 0 } : Room).cells ({ frames := 0, cells := 0, slots := 0, locals := 0 } : Room).slots) := by
  refine openP (y := (⟨"java/lang/Math", "max", "(II)I"⟩ : MethodName)) pn_11 ?_
  intro p e s m below meth c T hx hby hml hret hlk hnm hZ hown X hT
  refine Go.st (fun _ k => castTop (ef_II_2 m a b) k) ?_
  show Go p e below _ (T.setTop (mkF m 0 #[.val (.int a), .val (.int b)] []))
  refine Go.st (fun _ k => XS.iloadN X.here hx rfl (hb hby d16_0) rfl k) ?_
  show Go p e below _ (T.setTop (mkF m 1 #[.val (.int a), .val (.int b)] [(.int a)]))
  refine Go.st (fun _ k => XS.iloadN X.here hx rfl (hb hby d16_1) rfl k) ?_
  show Go p e below _ (T.setTop (mkF m 2 #[.val (.int a), .val (.int b)] [(.int b), (.int a)]))
  by_cases hc1 : a < b
  · refine Go.st (fun _ k => XS.icmpYes X.here hx rfl (pc0 := 2) (pc' := 9) rfl (hb hby d16_2) rfl (Jvm.Free.XT.ii_lt_t hc1) (by decide) (by decide) k) ?_
    show Go p e below _ (T.setTop (mkF m 9 #[.val (.int a), .val (.int b)] []))
    refine Go.st (fun _ k => XS.iloadN X.here hx rfl (hb hby d16_9) rfl k) ?_
    show Go p e below _ (T.setTop (mkF m 10 #[.val (.int a), .val (.int b)] [(.int b)]))
    refine Go.ret X hx hlk hT hret rfl (riI (by simp)) (hb hby d16_10) (by decide) (by decide) ?_
    exact ⟨congrArg (fun z => some (Value.int z)) (by rw [f_max, if_pos hc1]), rfl, rfl⟩
  · refine Go.st (fun _ k => XS.icmpNo X.here hx rfl (hb hby d16_2) rfl (Jvm.Free.XT.ii_lt_f hc1) k) ?_
    show Go p e below _ (T.setTop (mkF m 5 #[.val (.int a), .val (.int b)] []))
    refine Go.st (fun _ k => XS.iloadN X.here hx rfl (hb hby d16_5) rfl k) ?_
    show Go p e below _ (T.setTop (mkF m 6 #[.val (.int a), .val (.int b)] [(.int a)]))
    refine Go.st (fun _ k => XS.goto X.here hx rfl (pc0 := 6) (pc' := 10) rfl (hb hby d16_6) (by decide) (by decide) k) ?_
    show Go p e below _ (T.setTop (mkF m 10 #[.val (.int a), .val (.int b)] [(.int a)]))
    refine Go.ret X hx hlk hT hret rfl (riI (by simp)) (hb hby d16_10) (by decide) (by decide) ?_
    exact ⟨congrArg (fun z => some (Value.int z)) (by rw [f_max, if_neg hc1]), rfl, rfl⟩
theorem own_getmem (cs : List Int32) (i : Nat) (h : i < cs.length) : cs.getD i 0 ∈ cs := by rw [List.getD_eq_getElem?_getD, List.getElem?_eq_getElem h]; exact List.getElem_mem h
theorem own_lo46 {c : Int32} (h : ¬ c < 0 ∧ ¬ (255 : Int32) < c) : StrChars.lo8 c = 46 ↔ c = 46 := by
  constructor
  · intro q
    have e1 := c_i2b c
    have e2 : (c.toInt8.toInt32).toInt = 46 := by rw [show c.toInt8.toInt32 = 46 from q]; decide
    have h0 := h.1; have h1 := h.2
    rw [Int32.lt_iff_toInt_lt] at h0 h1
    have f0 : (0 : Int32).toInt = 0 := by decide
    have f1 : (255 : Int32).toInt = 255 := by decide
    rw [f0] at h0; rw [f1] at h1
    apply Int32.toInt_inj.mp
    show c.toInt = (46 : Int32).toInt
    have f2 : (46 : Int32).toInt = 46 := by decide
    rw [f2]; omega
  · rintro rfl; decide
theorem own_lowat (cs : List Int32) (i : Nat) (h : i < cs.length) : (lows cs).getD i (.int 0) = .int (StrChars.lo8 (cs.getD i 0)) := by simp [List.getD_eq_getElem?_getD, h]
theorem d18_0 : decode jdk_43_method_23_code 0 = .ok (.iload_n 1, 1) := by decide +kernel
theorem d18_1 : decode jdk_43_method_23_code 1 = .ok (.i2b, 1) := by decide +kernel
theorem d18_2 : decode jdk_43_method_23_code 2 = .ok (.istore 4, 2) := by decide +kernel
theorem d18_4 : decode jdk_43_method_23_code 4 = .ok (.iload_n 2, 1) := by decide +kernel
theorem d18_5 : decode jdk_43_method_23_code 5 = .ok (.istore 5, 2) := by decide +kernel
theorem d18_7 : decode jdk_43_method_23_code 7 = .ok (.iload 5, 2) := by decide +kernel
theorem d18_9 : decode jdk_43_method_23_code 9 = .ok (.iload_n 3, 1) := by decide +kernel
theorem d18_10 : decode jdk_43_method_23_code 10 = .ok (.if_icmp .ge 21, 3) := by decide +kernel
theorem d18_13 : decode jdk_43_method_23_code 13 = .ok (.aload_n 0, 1) := by decide +kernel
theorem d18_14 : decode jdk_43_method_23_code 14 = .ok (.iload 5, 2) := by decide +kernel
theorem d18_16 : decode jdk_43_method_23_code 16 = .ok (.baload, 1) := by decide +kernel
theorem d18_17 : decode jdk_43_method_23_code 17 = .ok (.iload 4, 2) := by decide +kernel
theorem d18_19 : decode jdk_43_method_23_code 19 = .ok (.if_icmp .ne 6, 3) := by decide +kernel
theorem d18_22 : decode jdk_43_method_23_code 22 = .ok (.iload 5, 2) := by decide +kernel
theorem d18_24 : decode jdk_43_method_23_code 24 = .ok (.ireturn, 1) := by decide +kernel
theorem d18_25 : decode jdk_43_method_23_code 25 = .ok (.iinc 5 1, 3) := by decide +kernel
theorem d18_28 : decode jdk_43_method_23_code 28 = .ok (.goto (-21), 3) := by decide +kernel
theorem pn_12 : plainFor (⟨"java/lang/StringLatin1", "indexOfChar", "([BIII)I"⟩ : MethodName) = true := by first | exact plainFor_of_name (by first | (simp [plainName, overriddenIn]; done) | decide +kernel) | decide +kernel
theorem ef_AIII_6 (m : MethodId) (y0 : Addr) (y1 : Int32) (y2 : Int32) (y3 : Int32) : entryFrame m #[(.ref y0), (.int y1), (.int y2), (.int y3)] 6 = mkF m 0 #[.val (.ref y0), .val (.int y1), .val (.int y2), .val (.int y3), .unset, .unset] [] := by first | (simp [entryFrame, mkF, argsToLocals, Value.category]; done) | rfl
set_option maxRecDepth 65536 in
set_option maxHeartbeats 40000000 in
theorem met_lxc (l : Launch) (Z : State) (a0 : Array Value) (hw : ∀ d ∈ tables_1, d.before a0 Z = true) (ws : List Jvm.Cond) (a : Addr) (ka : ClassId) (cs : List Int32) (i0 q : Nat) (h0 : Heap) (V_a : Arv Z h0 a ka .byte (Int32.ofNat cs.length) (lows cs) (.int 0)) (hl : Lat cs) (hip : i0 ≤ q) (hq : q < cs.length) (hn : cs.length ≤ 8) (hat : cs.getD q 0 = 46) (hbef : ∀ j, i0 ≤ j → j < q → ¬ cs.getD j 0 = 46) :
    MetFree l (⟨"java/lang/StringLatin1", "indexOfChar", "([BIII)I"⟩ : MethodName) (head1 (Jvm.Cond.code (⟨"java/lang/StringLatin1", "indexOfChar", "([BIII)I"⟩ : MethodName) jdk_43_method_23_code 6 (some .int) :: ws) ({ frames := 0, cells := 0, slots := 0, locals := 0 } : Room)) (fun aa U => aa = #[(.ref a), (.int (46 : Int32)), (.int (Int32.ofNat i0)), (.int (Int32.ofNat cs.length))] ∧ Z.Warmed39 U.vm ∧ U.heap = h0) (fun _ _ _ _ _ => True) (fun _ U o U' => ∃ v L, o = .returned v ∧ QV (.int (Int32.ofNat q)) h0 v U'.heap L ∧ FrameEnd U o U' L ({ frames := 0, cells := 0, slots := 0, locals := 0 } : Room).cells ({ frames := 0, cells := 0, slots := 0, locals := 0 } : Room).slots) := by
  refine openP (y := (⟨"java/lang/StringLatin1", "indexOfChar", "([BIII)I"⟩ : MethodName)) pn_12 ?_
  intro p e s m below meth c T hx hby hml hret hlk hnm hZ hown X hT
  refine Go.st (fun _ k => castTop (ef_AIII_6 m a (46 : Int32) (Int32.ofNat i0) (Int32.ofNat cs.length)) k) ?_
  show Go p e below _ (T.setTop (mkF m 0 #[.val (.ref a), .val (.int (46 : Int32)), .val (.int (Int32.ofNat i0)), .val (.int (Int32.ofNat cs.length)), .unset, .unset] []))
  refine Go.st (fun _ k => XS.iloadN X.here hx rfl (hb hby d18_0) rfl k) ?_
  show Go p e below _ (T.setTop (mkF m 1 #[.val (.ref a), .val (.int (46 : Int32)), .val (.int (Int32.ofNat i0)), .val (.int (Int32.ofNat cs.length)), .unset, .unset] [(.int (46 : Int32))]))
  refine Go.st (fun _ k => XS.i2b X.here hx rfl (hb hby d18_1) rfl k) ?_
  show Go p e below _ (T.setTop (mkF m 2 #[.val (.ref a), .val (.int (46 : Int32)), .val (.int (Int32.ofNat i0)), .val (.int (Int32.ofNat cs.length)), .unset, .unset] [(.int ((46 : Int32).toInt8.toInt32))]))
  rw [show ((46 : Int32).toInt8.toInt32) = (46 : Int32) from by decide]
  show Go p e below _ (T.setTop (mkF m 2 #[.val (.ref a), .val (.int (46 : Int32)), .val (.int (Int32.ofNat i0)), .val (.int (Int32.ofNat cs.length)), .unset, .unset] [(.int (46 : Int32))]))
  refine Go.st (fun _ k => XS.istore X.here hx rfl (hb hby d18_2) rfl (l' := #[.val (.ref a), .val (.int (46 : Int32)), .val (.int (Int32.ofNat i0)), .val (.int (Int32.ofNat cs.length)), .val (.int (46 : Int32)), .unset]) rfl k) ?_
  show Go p e below _ (T.setTop (mkF m 4 #[.val (.ref a), .val (.int (46 : Int32)), .val (.int (Int32.ofNat i0)), .val (.int (Int32.ofNat cs.length)), .val (.int (46 : Int32)), .unset] []))
  refine Go.st (fun _ k => XS.iloadN X.here hx rfl (hb hby d18_4) rfl k) ?_
  show Go p e below _ (T.setTop (mkF m 5 #[.val (.ref a), .val (.int (46 : Int32)), .val (.int (Int32.ofNat i0)), .val (.int (Int32.ofNat cs.length)), .val (.int (46 : Int32)), .unset] [(.int (Int32.ofNat i0))]))
  refine Go.st (fun _ k => XS.istore X.here hx rfl (hb hby d18_5) rfl (l' := #[.val (.ref a), .val (.int (46 : Int32)), .val (.int (Int32.ofNat i0)), .val (.int (Int32.ofNat cs.length)), .val (.int (46 : Int32)), .val (.int (Int32.ofNat i0))]) rfl k) ?_
  show Go p e below _ (T.setTop (mkF m 7 #[.val (.ref a), .val (.int (46 : Int32)), .val (.int (Int32.ofNat i0)), .val (.int (Int32.ofNat cs.length)), .val (.int (46 : Int32)), .val (.int (Int32.ofNat i0))] []))
  have loop : ∀ (k i : Nat) (T : State), i + k = q → i0 ≤ i → T.heap = h0 → Stand p l e ({ frames := 0, cells := 0, slots := 0, locals := 0 } : Room) s m #[(.ref a), (.int (46 : Int32)), (.int (Int32.ofNat i0)), (.int (Int32.ofNat cs.length))] below meth c T [] 0 0 → Go p e below (EndP s (QV (.int (Int32.ofNat q)) h0) ({ frames := 0, cells := 0, slots := 0, locals := 0 } : Room).cells ({ frames := 0, cells := 0, slots := 0, locals := 0 } : Room).slots) (T.setTop (mkF m 7 #[.val (.ref a), .val (.int (46 : Int32)), .val (.int (Int32.ofNat i0)), .val (.int (Int32.ofNat cs.length)), .val (.int (46 : Int32)), .val (.int (Int32.ofNat i))] [])) := by
    intro k
    induction k with
    | zero =>
      intro i T hik hi hT X
      refine Go.st (fun _ k => XS.iload X.here hx rfl (hb hby d18_7) rfl k) ?_
      show Go p e below _ (T.setTop (mkF m 9 #[.val (.ref a), .val (.int (46 : Int32)), .val (.int (Int32.ofNat i0)), .val (.int (Int32.ofNat cs.length)), .val (.int (46 : Int32)), .val (.int (Int32.ofNat i))] [(.int (Int32.ofNat i))]))
      refine Go.st (fun _ k => XS.iloadN X.here hx rfl (hb hby d18_9) rfl k) ?_
      show Go p e below _ (T.setTop (mkF m 10 #[.val (.ref a), .val (.int (46 : Int32)), .val (.int (Int32.ofNat i0)), .val (.int (Int32.ofNat cs.length)), .val (.int (46 : Int32)), .val (.int (Int32.ofNat i))] [(.int (Int32.ofNat cs.length)), (.int (Int32.ofNat i))]))
      refine Go.st (fun _ k => XS.icmpNo X.here hx rfl (hb hby d18_10) rfl (Jvm.Free.XT.ii_ge_f ((own_lt (by omega) (by omega)).mpr (by omega) : (Int32.ofNat i) < (Int32.ofNat cs.length))) k) ?_
      show Go p e below _ (T.setTop (mkF m 13 #[.val (.ref a), .val (.int (46 : Int32)), .val (.int (Int32.ofNat i0)), .val (.int (Int32.ofNat cs.length)), .val (.int (46 : Int32)), .val (.int (Int32.ofNat i))] []))
      refine Go.st (fun _ k => XS.aloadN X.here hx rfl (hb hby d18_13) rfl rfl k) ?_
      show Go p e below _ (T.setTop (mkF m 14 #[.val (.ref a), .val (.int (46 : Int32)), .val (.int (Int32.ofNat i0)), .val (.int (Int32.ofNat cs.length)), .val (.int (46 : Int32)), .val (.int (Int32.ofNat i))] [(.ref a)]))
      refine Go.st (fun _ k => XS.iload X.here hx rfl (hb hby d18_14) rfl k) ?_
      show Go p e below _ (T.setTop (mkF m 16 #[.val (.ref a), .val (.int (46 : Int32)), .val (.int (Int32.ofNat i0)), .val (.int (Int32.ofNat cs.length)), .val (.int (46 : Int32)), .val (.int (Int32.ofNat i))] [(.int (Int32.ofNat i)), (.ref a)]))
      refine Go.baloadN (i := i) X hx hZ hT V_a (by rw [own_clamp (by omega)]; omega) (by omega) (own_lowat cs i (by omega)) (hb hby d18_16) ?_
      show Go p e below _ (T.setTop (mkF m 17 #[.val (.ref a), .val (.int (46 : Int32)), .val (.int (Int32.ofNat i0)), .val (.int (Int32.ofNat cs.length)), .val (.int (46 : Int32)), .val (.int (Int32.ofNat i))] [(.int (StrChars.lo8 (cs.getD i 0)))]))
      refine Go.st (fun _ k => XS.iload X.here hx rfl (hb hby d18_17) rfl k) ?_
      show Go p e below _ (T.setTop (mkF m 19 #[.val (.ref a), .val (.int (46 : Int32)), .val (.int (Int32.ofNat i0)), .val (.int (Int32.ofNat cs.length)), .val (.int (46 : Int32)), .val (.int (Int32.ofNat i))] [(.int (46 : Int32)), (.int (StrChars.lo8 (cs.getD i 0)))]))
      refine Go.st (fun _ k => XS.icmpNo X.here hx rfl (hb hby d18_19) rfl (Jvm.Free.XT.ii_ne_f ((own_lo46 (hl _ (own_getmem cs i (by omega)))).mpr (by rw [show i = q from by omega]; exact hat) : (StrChars.lo8 (cs.getD i 0)) = (46 : Int32))) k) ?_
      show Go p e below _ (T.setTop (mkF m 22 #[.val (.ref a), .val (.int (46 : Int32)), .val (.int (Int32.ofNat i0)), .val (.int (Int32.ofNat cs.length)), .val (.int (46 : Int32)), .val (.int (Int32.ofNat i))] []))
      refine Go.st (fun _ k => XS.iload X.here hx rfl (hb hby d18_22) rfl k) ?_
      show Go p e below _ (T.setTop (mkF m 24 #[.val (.ref a), .val (.int (46 : Int32)), .val (.int (Int32.ofNat i0)), .val (.int (Int32.ofNat cs.length)), .val (.int (46 : Int32)), .val (.int (Int32.ofNat i))] [(.int (Int32.ofNat i))]))
      refine Go.ret X hx hlk hT hret rfl (riI (by simp)) (hb hby d18_24) (by decide) (by decide) ?_
      exact ⟨by rw [show i = q from by omega], rfl, rfl⟩
    | succ k ih =>
      intro i T hik hi hT X
      refine Go.st (fun _ k => XS.iload X.here hx rfl (hb hby d18_7) rfl k) ?_
      show Go p e below _ (T.setTop (mkF m 9 #[.val (.ref a), .val (.int (46 : Int32)), .val (.int (Int32.ofNat i0)), .val (.int (Int32.ofNat cs.length)), .val (.int (46 : Int32)), .val (.int (Int32.ofNat i))] [(.int (Int32.ofNat i))]))
      refine Go.st (fun _ k => XS.iloadN X.here hx rfl (hb hby d18_9) rfl k) ?_
      show Go p e below _ (T.setTop (mkF m 10 #[.val (.ref a), .val (.int (46 : Int32)), .val (.int (Int32.ofNat i0)), .val (.int (Int32.ofNat cs.length)), .val (.int (46 : Int32)), .val (.int (Int32.ofNat i))] [(.int (Int32.ofNat cs.length)), (.int (Int32.ofNat i))]))
      refine Go.st (fun _ k => XS.icmpNo X.here hx rfl (hb hby d18_10) rfl (Jvm.Free.XT.ii_ge_f ((own_lt (by omega) (by omega)).mpr (by omega) : (Int32.ofNat i) < (Int32.ofNat cs.length))) k) ?_
      show Go p e below _ (T.setTop (mkF m 13 #[.val (.ref a), .val (.int (46 : Int32)), .val (.int (Int32.ofNat i0)), .val (.int (Int32.ofNat cs.length)), .val (.int (46 : Int32)), .val (.int (Int32.ofNat i))] []))
      refine Go.st (fun _ k => XS.aloadN X.here hx rfl (hb hby d18_13) rfl rfl k) ?_
      show Go p e below _ (T.setTop (mkF m 14 #[.val (.ref a), .val (.int (46 : Int32)), .val (.int (Int32.ofNat i0)), .val (.int (Int32.ofNat cs.length)), .val (.int (46 : Int32)), .val (.int (Int32.ofNat i))] [(.ref a)]))
      refine Go.st (fun _ k => XS.iload X.here hx rfl (hb hby d18_14) rfl k) ?_
      show Go p e below _ (T.setTop (mkF m 16 #[.val (.ref a), .val (.int (46 : Int32)), .val (.int (Int32.ofNat i0)), .val (.int (Int32.ofNat cs.length)), .val (.int (46 : Int32)), .val (.int (Int32.ofNat i))] [(.int (Int32.ofNat i)), (.ref a)]))
      refine Go.baloadN (i := i) X hx hZ hT V_a (by rw [own_clamp (by omega)]; omega) (by omega) (own_lowat cs i (by omega)) (hb hby d18_16) ?_
      show Go p e below _ (T.setTop (mkF m 17 #[.val (.ref a), .val (.int (46 : Int32)), .val (.int (Int32.ofNat i0)), .val (.int (Int32.ofNat cs.length)), .val (.int (46 : Int32)), .val (.int (Int32.ofNat i))] [(.int (StrChars.lo8 (cs.getD i 0)))]))
      refine Go.st (fun _ k => XS.iload X.here hx rfl (hb hby d18_17) rfl k) ?_
      show Go p e below _ (T.setTop (mkF m 19 #[.val (.ref a), .val (.int (46 : Int32)), .val (.int (Int32.ofNat i0)), .val (.int (Int32.ofNat cs.length)), .val (.int (46 : Int32)), .val (.int (Int32.ofNat i))] [(.int (46 : Int32)), (.int (StrChars.lo8 (cs.getD i 0)))]))
      refine Go.st (fun _ k => XS.icmpYes X.here hx rfl (pc0 := 19) (pc' := 25) rfl (hb hby d18_19) rfl (Jvm.Free.XT.ii_ne_t (fun z => hbef i hi (by omega) ((own_lo46 (hl _ (own_getmem cs i (by omega)))).mp z) : ¬ ((StrChars.lo8 (cs.getD i 0)) = (46 : Int32)))) (by decide) (by decide) k) ?_
      show Go p e below _ (T.setTop (mkF m 25 #[.val (.ref a), .val (.int (46 : Int32)), .val (.int (Int32.ofNat i0)), .val (.int (Int32.ofNat cs.length)), .val (.int (46 : Int32)), .val (.int (Int32.ofNat i))] []))
      refine Go.st (fun _ k => XS.iinc X.here hx rfl (hb hby d18_25) rfl (l' := #[.val (.ref a), .val (.int (46 : Int32)), .val (.int (Int32.ofNat i0)), .val (.int (Int32.ofNat cs.length)), .val (.int (46 : Int32)), .val (.int ((Int32.ofNat i) + (1 : Int32)))]) rfl k) ?_
      show Go p e below _ (T.setTop (mkF m 28 #[.val (.ref a), .val (.int (46 : Int32)), .val (.int (Int32.ofNat i0)), .val (.int (Int32.ofNat cs.length)), .val (.int (46 : Int32)), .val (.int ((Int32.ofNat i) + (1 : Int32)))] []))
      refine Go.st (fun _ k => XS.goto X.here hx rfl (pc0 := 28) (pc' := 7) rfl (hb hby d18_28) (by decide) (by decide) k) ?_
      show Go p e below _ (T.setTop (mkF m 7 #[.val (.ref a), .val (.int (46 : Int32)), .val (.int (Int32.ofNat i0)), .val (.int (Int32.ofNat cs.length)), .val (.int (46 : Int32)), .val (.int ((Int32.ofNat i) + (1 : Int32)))] []))
      rw [own_succ]
      exact ih (i + 1) T (by omega) (by omega) hT X
  exact loop (q - i0) i0 T (by omega) (Nat.le_refl _) hT X
theorem pd_9 : parseMethodDescriptor "(I)Z" = some ⟨[.int], (some .boolean)⟩ := by decide +kernel
theorem pd_10 : parseMethodDescriptor "([BIII)I" = some ⟨[(.array .byte), .int, .int, .int], (some .int)⟩ := by decide +kernel
theorem d14_0 : decode jdk_43_method_22_code 0 = .ok (.iload_n 1, 1) := by decide +kernel
theorem d14_1 : decode jdk_43_method_22_code 1 = .ok (.invokestatic 88, 3) := by decide +kernel
theorem d14_4 : decode jdk_43_method_22_code 4 = .ok (.ifCond .ne 5, 3) := by decide +kernel
theorem d14_9 : decode jdk_43_method_22_code 9 = .ok (.iload_n 2, 1) := by decide +kernel
theorem d14_10 : decode jdk_43_method_22_code 10 = .ok (.iconst 0, 1) := by decide +kernel
theorem d14_11 : decode jdk_43_method_22_code 11 = .ok (.invokestatic 92, 3) := by decide +kernel
theorem d14_14 : decode jdk_43_method_22_code 14 = .ok (.istore_n 2, 1) := by decide +kernel
theorem d14_15 : decode jdk_43_method_22_code 15 = .ok (.iload_n 3, 1) := by decide +kernel
theorem d14_16 : decode jdk_43_method_22_code 16 = .ok (.aload_n 0, 1) := by decide +kernel
theorem d14_17 : decode jdk_43_method_22_code 17 = .ok (.arraylength, 1) := by decide +kernel
theorem d14_18 : decode jdk_43_method_22_code 18 = .ok (.invokestatic 38, 3) := by decide +kernel
theorem d14_21 : decode jdk_43_method_22_code 21 = .ok (.istore_n 3, 1) := by decide +kernel
theorem d14_22 : decode jdk_43_method_22_code 22 = .ok (.iload_n 2, 1) := by decide +kernel
theorem d14_23 : decode jdk_43_method_22_code 23 = .ok (.iload_n 3, 1) := by decide +kernel
theorem d14_24 : decode jdk_43_method_22_code 24 = .ok (.if_icmp .lt 5, 3) := by decide +kernel
theorem d14_29 : decode jdk_43_method_22_code 29 = .ok (.aload_n 0, 1) := by decide +kernel
theorem d14_30 : decode jdk_43_method_22_code 30 = .ok (.iload_n 1, 1) := by decide +kernel
theorem d14_31 : decode jdk_43_method_22_code 31 = .ok (.iload_n 2, 1) := by decide +kernel
theorem d14_32 : decode jdk_43_method_22_code 32 = .ok (.iload_n 3, 1) := by decide +kernel
theorem d14_33 : decode jdk_43_method_22_code 33 = .ok (.invokestatic 95, 3) := by decide +kernel
theorem d14_36 : decode jdk_43_method_22_code 36 = .ok (.ireturn, 1) := by decide +kernel
theorem pn_13 : plainFor (⟨"java/lang/StringLatin1", "indexOf", "([BIII)I"⟩ : MethodName) = true := by first | exact plainFor_of_name (by first | (simp [plainName, overriddenIn]; done) | decide +kernel) | decide +kernel
theorem ef_AIII_4 (m : MethodId) (y0 : Addr) (y1 : Int32) (y2 : Int32) (y3 : Int32) : entryFrame m #[(.ref y0), (.int y1), (.int y2), (.int y3)] 4 = mkF m 0 #[.val (.ref y0), .val (.int y1), .val (.int y2), .val (.int y3)] [] := by first | (simp [entryFrame, mkF, argsToLocals, Value.category]; done) | rfl
set_option maxRecDepth 65536 in
set_option maxHeartbeats 40000000 in
theorem met_lx (l : Launch) (Z : State) (a0 : Array Value) (hw : ∀ d ∈ tables_1, d.before a0 Z = true) (ws : List Jvm.Cond) (a : Addr) (ka : ClassId) (cs : List Int32) (i0 q : Nat) (h0 : Heap) (V_a : Arv Z h0 a ka .byte (Int32.ofNat cs.length) (lows cs) (.int 0)) (hl : Lat cs) (hip : i0 ≤ q) (hq : q < cs.length) (hn : cs.length ≤ 8) (hat : cs.getD q 0 = 46) (hbef : ∀ j, i0 ≤ j → j < q → ¬ cs.getD j 0 = 46) :
    MetFree l (⟨"java/lang/StringLatin1", "indexOf", "([BIII)I"⟩ : MethodName) (head1 (Jvm.Cond.code (⟨"java/lang/StringLatin1", "indexOf", "([BIII)I"⟩ : MethodName) jdk_43_method_22_code 4 (some .int) :: ws) ({ frames := 1, cells := 0, slots := 0, locals := 17 } : Room)) (fun aa U => aa = #[(.ref a), (.int (46 : Int32)), (.int (Int32.ofNat i0)), (.int (Int32.ofNat cs.length))] ∧ Z.Warmed39 U.vm ∧ U.heap = h0) (fun _ _ _ _ _ => True) (fun _ U o U' => ∃ v L, o = .returned v ∧ QV (.int (Int32.ofNat q)) h0 v U'.heap L ∧ FrameEnd U o U' L ({ frames := 1, cells := 0, slots := 0, locals := 17 } : Room).cells ({ frames := 1, cells := 0, slots := 0, locals := 17 } : Room).slots) := by
  refine openP (y := (⟨"java/lang/StringLatin1", "indexOf", "([BIII)I"⟩ : MethodName)) pn_13 ?_
  intro p e s m below meth c T hx hby hml hret hlk hnm hZ hown X hT
  refine Go.st (fun _ k => castTop (ef_AIII_4 m a (46 : Int32) (Int32.ofNat i0) (Int32.ofNat cs.length)) k) ?_
  show Go p e below _ (T.setTop (mkF m 0 #[.val (.ref a), .val (.int (46 : Int32)), .val (.int (Int32.ofNat i0)), .val (.int (Int32.ofNat cs.length))] []))
  refine Go.st (fun _ k => XS.iloadN X.here hx rfl (hb hby d14_0) rfl k) ?_
  show Go p e below _ (T.setTop (mkF m 1 #[.val (.ref a), .val (.int (46 : Int32)), .val (.int (Int32.ofNat i0)), .val (.int (Int32.ofNat cs.length))] [(.int (46 : Int32))]))
  refine Go.callV (argsL := [(.int (46 : Int32))]) (rest := []) (W := 0) X hx hZ hown (hml.trans rfl) hT (hw _ (List.mem_of_getElem? (i := 69) rfl)) (hw _ (List.mem_of_getElem? (i := 70) rfl)) (hw _ (List.mem_of_getElem? (i := 67) rfl)) (hw _ (List.mem_of_getElem? (i := 71) rfl)) (by decide) pd_9 rfl rfl (Nat.le_of_ble_eq_true rfl) (hb hby d14_1) (backOf (W := 0) (met_cei l Z a0 hw [] (46 : Int32) _) hZ (hw _ (List.mem_of_getElem? (i := 71) rfl)) (hw _ (List.mem_of_getElem? (i := 67) rfl)) (by decide) (by decide)) (by decide) (by decide) ?_
  intro T hT X
  show Go p e below _ (T.setTop (mkF m 4 #[.val (.ref a), .val (.int (46 : Int32)), .val (.int (Int32.ofNat i0)), .val (.int (Int32.ofNat cs.length))] [(.int (f_cei (46 : Int32)))]))
  refine Go.st (fun _ k => XS.ifYes X.here hx rfl (pc0 := 4) (pc' := 9) rfl (hb hby d14_4) rfl (Jvm.Free.XT.i0_ne_t (by decide : ¬ ((f_cei (46 : Int32)) = (0 : Int32)))) (by decide) (by decide) k) ?_
  show Go p e below _ (T.setTop (mkF m 9 #[.val (.ref a), .val (.int (46 : Int32)), .val (.int (Int32.ofNat i0)), .val (.int (Int32.ofNat cs.length))] []))
  refine Go.st (fun _ k => XS.iloadN X.here hx rfl (hb hby d14_9) rfl k) ?_
  show Go p e below _ (T.setTop (mkF m 10 #[.val (.ref a), .val (.int (46 : Int32)), .val (.int (Int32.ofNat i0)), .val (.int (Int32.ofNat cs.length))] [(.int (Int32.ofNat i0))]))
  refine Go.st (fun _ k => XS.iconst X.here hx rfl (hb hby d14_10) k) ?_
  show Go p e below _ (T.setTop (mkF m 11 #[.val (.ref a), .val (.int (46 : Int32)), .val (.int (Int32.ofNat i0)), .val (.int (Int32.ofNat cs.length))] [(.int (0 : Int32)), (.int (Int32.ofNat i0))]))
  refine Go.callV (argsL := [(.int (Int32.ofNat i0)), (.int (0 : Int32))]) (rest := []) (W := 0) X hx hZ hown (hml.trans rfl) hT (hw _ (List.mem_of_getElem? (i := 72) rfl)) (hw _ (List.mem_of_getElem? (i := 73) rfl)) (hw _ (List.mem_of_getElem? (i := 74) rfl)) (hw _ (List.mem_of_getElem? (i := 75) rfl)) (by decide) pd_1 rfl rfl (Nat.le_of_ble_eq_true rfl) (hb hby d14_11) (backOf (W := 0) (met_max l Z a0 hw [] (Int32.ofNat i0) (0 : Int32) _) hZ (hw _ (List.mem_of_getElem? (i := 75) rfl)) (hw _ (List.mem_of_getElem? (i := 74) rfl)) (by decide) (by decide)) (by decide) (by decide) ?_
  intro T hT X
  show Go p e below _ (T.setTop (mkF m 14 #[.val (.ref a), .val (.int (46 : Int32)), .val (.int (Int32.ofNat i0)), .val (.int (Int32.ofNat cs.length))] [(.int (f_max (Int32.ofNat i0) (0 : Int32)))]))
  rw [f_max, if_neg (own_nn (by omega))]
  show Go p e below _ (T.setTop (mkF m 14 #[.val (.ref a), .val (.int (46 : Int32)), .val (.int (Int32.ofNat i0)), .val (.int (Int32.ofNat cs.length))] [(.int (Int32.ofNat i0))]))
  refine Go.st (fun _ k => XS.istoreN X.here hx rfl (hb hby d14_14) rfl (l' := #[.val (.ref a), .val (.int (46 : Int32)), .val (.int (Int32.ofNat i0)), .val (.int (Int32.ofNat cs.length))]) rfl k) ?_
  show Go p e below _ (T.setTop (mkF m 15 #[.val (.ref a), .val (.int (46 : Int32)), .val (.int (Int32.ofNat i0)), .val (.int (Int32.ofNat cs.length))] []))
  refine Go.st (fun _ k => XS.iloadN X.here hx rfl (hb hby d14_15) rfl k) ?_
  show Go p e below _ (T.setTop (mkF m 16 #[.val (.ref a), .val (.int (46 : Int32)), .val (.int (Int32.ofNat i0)), .val (.int (Int32.ofNat cs.length))] [(.int (Int32.ofNat cs.length))]))
  refine Go.st (fun _ k => XS.aloadN X.here hx rfl (hb hby d14_16) rfl rfl k) ?_
  show Go p e below _ (T.setTop (mkF m 17 #[.val (.ref a), .val (.int (46 : Int32)), .val (.int (Int32.ofNat i0)), .val (.int (Int32.ofNat cs.length))] [(.ref a), (.int (Int32.ofNat cs.length))]))
  refine Go.alen X hx hZ hT V_a (hb hby d14_17) ?_
  show Go p e below _ (T.setTop (mkF m 18 #[.val (.ref a), .val (.int (46 : Int32)), .val (.int (Int32.ofNat i0)), .val (.int (Int32.ofNat cs.length))] [(.int (Int32.ofNat cs.length)), (.int (Int32.ofNat cs.length))]))
  refine Go.callV (argsL := [(.int (Int32.ofNat cs.length)), (.int (Int32.ofNat cs.length))]) (rest := []) (W := 0) X hx hZ hown (hml.trans rfl) hT (hw _ (List.mem_of_getElem? (i := 76) rfl)) (hw _ (List.mem_of_getElem? (i := 77) rfl)) (hw _ (List.mem_of_getElem? (i := 74) rfl)) (hw _ (List.mem_of_getElem? (i := 78) rfl)) (by decide) pd_1 rfl rfl (Nat.le_of_ble_eq_true rfl) (hb hby d14_18) (backOf (W := 0) (met_min l Z a0 hw [] (Int32.ofNat cs.length) (Int32.ofNat cs.length) _) hZ (hw _ (List.mem_of_getElem? (i := 78) rfl)) (hw _ (List.mem_of_getElem? (i := 74) rfl)) (by decide) (by decide)) (by decide) (by decide) ?_
  intro T hT X
  show Go p e below _ (T.setTop (mkF m 21 #[.val (.ref a), .val (.int (46 : Int32)), .val (.int (Int32.ofNat i0)), .val (.int (Int32.ofNat cs.length))] [(.int (f_min (Int32.ofNat cs.length) (Int32.ofNat cs.length)))]))
  rw [own_min (Nat.le_refl _) (by omega)]
  show Go p e below _ (T.setTop (mkF m 21 #[.val (.ref a), .val (.int (46 : Int32)), .val (.int (Int32.ofNat i0)), .val (.int (Int32.ofNat cs.length))] [(.int (Int32.ofNat cs.length))]))
  refine Go.st (fun _ k => XS.istoreN X.here hx rfl (hb hby d14_21) rfl (l' := #[.val (.ref a), .val (.int (46 : Int32)), .val (.int (Int32.ofNat i0)), .val (.int (Int32.ofNat cs.length))]) rfl k) ?_
  show Go p e below _ (T.setTop (mkF m 22 #[.val (.ref a), .val (.int (46 : Int32)), .val (.int (Int32.ofNat i0)), .val (.int (Int32.ofNat cs.length))] []))
  refine Go.st (fun _ k => XS.iloadN X.here hx rfl (hb hby d14_22) rfl k) ?_
  show Go p e below _ (T.setTop (mkF m 23 #[.val (.ref a), .val (.int (46 : Int32)), .val (.int (Int32.ofNat i0)), .val (.int (Int32.ofNat cs.length))] [(.int (Int32.ofNat i0))]))
  refine Go.st (fun _ k => XS.iloadN X.here hx rfl (hb hby d14_23) rfl k) ?_
  show Go p e below _ (T.setTop (mkF m 24 #[.val (.ref a), .val (.int (46 : Int32)), .val (.int (Int32.ofNat i0)), .val (.int (Int32.ofNat cs.length))] [(.int (Int32.ofNat cs.length)), (.int (Int32.ofNat i0))]))
  refine Go.st (fun _ k => XS.icmpYes X.here hx rfl (pc0 := 24) (pc' := 29) rfl (hb hby d14_24) rfl (Jvm.Free.XT.ii_lt_t ((own_lt (by omega) (by omega)).mpr (by omega) : (Int32.ofNat i0) < (Int32.ofNat cs.length))) (by decide) (by decide) k) ?_
  show Go p e below _ (T.setTop (mkF m 29 #[.val (.ref a), .val (.int (46 : Int32)), .val (.int (Int32.ofNat i0)), .val (.int (Int32.ofNat cs.length))] []))
  refine Go.st (fun _ k => XS.aloadN X.here hx rfl (hb hby d14_29) rfl rfl k) ?_
  show Go p e below _ (T.setTop (mkF m 30 #[.val (.ref a), .val (.int (46 : Int32)), .val (.int (Int32.ofNat i0)), .val (.int (Int32.ofNat cs.length))] [(.ref a)]))
  refine Go.st (fun _ k => XS.iloadN X.here hx rfl (hb hby d14_30) rfl k) ?_
  show Go p e below _ (T.setTop (mkF m 31 #[.val (.ref a), .val (.int (46 : Int32)), .val (.int (Int32.ofNat i0)), .val (.int (Int32.ofNat cs.length))] [(.int (46 : Int32)), (.ref a)]))
  refine Go.st (fun _ k => XS.iloadN X.here hx rfl (hb hby d14_31) rfl k) ?_
  show Go p e below _ (T.setTop (mkF m 32 #[.val (.ref a), .val (.int (46 : Int32)), .val (.int (Int32.ofNat i0)), .val (.int (Int32.ofNat cs.length))] [(.int (Int32.ofNat i0)), (.int (46 : Int32)), (.ref a)]))
  refine Go.st (fun _ k => XS.iloadN X.here hx rfl (hb hby d14_32) rfl k) ?_
  show Go p e below _ (T.setTop (mkF m 33 #[.val (.ref a), .val (.int (46 : Int32)), .val (.int (Int32.ofNat i0)), .val (.int (Int32.ofNat cs.length))] [(.int (Int32.ofNat cs.length)), (.int (Int32.ofNat i0)), (.int (46 : Int32)), (.ref a)]))
  refine Go.callV (argsL := [(.ref a), (.int (46 : Int32)), (.int (Int32.ofNat i0)), (.int (Int32.ofNat cs.length))]) (rest := []) (W := 0) X hx hZ hown (hml.trans rfl) hT (hw _ (List.mem_of_getElem? (i := 79) rfl)) (hw _ (List.mem_of_getElem? (i := 80) rfl)) (hw _ (List.mem_of_getElem? (i := 67) rfl)) (hw _ (List.mem_of_getElem? (i := 81) rfl)) (by decide) pd_10 rfl rfl (Nat.le_of_ble_eq_true rfl) (hb hby d14_33) (backOf (W := 0) (met_lxc l Z a0 hw [] a ka cs i0 q _ V_a hl hip hq hn hat hbef) hZ (hw _ (List.mem_of_getElem? (i := 81) rfl)) (hw _ (List.mem_of_getElem? (i := 67) rfl)) (by decide) (by decide)) (by decide) (by decide) ?_
  intro T hT X
  show Go p e below _ (T.setTop (mkF m 36 #[.val (.ref a), .val (.int (46 : Int32)), .val (.int (Int32.ofNat i0)), .val (.int (Int32.ofNat cs.length))] [(.int (Int32.ofNat q))]))
  refine Go.ret X hx hlk hT hret rfl (riI (by simp)) (hb hby d14_36) (by decide) (by decide) ?_
  exact ⟨rfl, rfl, rfl⟩
theorem d10_0 : decode jdk_42_method_80_code 0 = .ok (.aload_n 0, 1) := by decide +kernel
theorem d10_1 : decode jdk_42_method_80_code 1 = .ok (.invokevirtual 492, 3) := by decide +kernel
theorem d10_4 : decode jdk_42_method_80_code 4 = .ok (.ifCond .eq 19, 3) := by decide +kernel
theorem d10_7 : decode jdk_42_method_80_code 7 = .ok (.aload_n 0, 1) := by decide +kernel
theorem d10_8 : decode jdk_42_method_80_code 8 = .ok (.getfield 9, 3) := by decide +kernel
theorem d10_11 : decode jdk_42_method_80_code 11 = .ok (.iload_n 1, 1) := by decide +kernel
theorem d10_12 : decode jdk_42_method_80_code 12 = .ok (.iload_n 2, 1) := by decide +kernel
theorem d10_13 : decode jdk_42_method_80_code 13 = .ok (.aload_n 0, 1) := by decide +kernel
theorem d10_14 : decode jdk_42_method_80_code 14 = .ok (.invokevirtual 505, 3) := by decide +kernel
theorem d10_17 : decode jdk_42_method_80_code 17 = .ok (.invokestatic 637, 3) := by decide +kernel
theorem d10_20 : decode jdk_42_method_80_code 20 = .ok (.goto 16, 3) := by decide +kernel
theorem d10_36 : decode jdk_42_method_80_code 36 = .ok (.ireturn, 1) := by decide +kernel
theorem pn_14 : plainFor (⟨"java/lang/String", "indexOf", "(II)I"⟩ : MethodName) = true := by first | exact plainFor_of_name (by first | (simp [plainName, overriddenIn]; done) | decide +kernel) | decide +kernel
set_option maxRecDepth 65536 in
set_option maxHeartbeats 40000000 in
theorem met_ix2 (l : Launch) (Z : State) (a0 : Array Value) (hw : ∀ d ∈ tables_1, d.before a0 Z = true) (ws : List Jvm.Cond) (z : Int32) (n0 : Nat) (y : Addr) (cs : List Int32) (i0 q : Nat) (h0 : Heap) (O : Old Z n0 h0) (Sc : Stat Z z) (S_y : Str Z h0 y cs) (hl : Lat cs) (hip : i0 ≤ q) (hq : q < cs.length) (hn : cs.length ≤ 8) (hat : cs.getD q 0 = 46) (hbef : ∀ j, i0 ≤ j → j < q → ¬ cs.getD j 0 = 46) :
    MetFree l (⟨"java/lang/String", "indexOf", "(II)I"⟩ : MethodName) (head1 (Jvm.Cond.code (⟨"java/lang/String", "indexOf", "(II)I"⟩ : MethodName) jdk_42_method_80_code 3 (some .int) :: ws) ({ frames := 2, cells := 0, slots := 0, locals := 32 } : Room)) (fun aa U => aa = #[(.ref y), (.int (46 : Int32)), (.int (Int32.ofNat i0))] ∧ Z.Warmed39 U.vm ∧ U.heap = h0) (fun _ _ _ _ _ => True) (fun _ U o U' => ∃ v L, o = .returned v ∧ QV (.int (Int32.ofNat q)) h0 v U'.heap L ∧ FrameEnd U o U' L ({ frames := 2, cells := 0, slots := 0, locals := 32 } : Room).cells ({ frames := 2, cells := 0, slots := 0, locals := 32 } : Room).slots) := by
  refine openP (y := (⟨"java/lang/String", "indexOf", "(II)I"⟩ : MethodName)) pn_14 ?_
  intro p e s m below meth c T hx hby hml hret hlk hnm hZ hown X hT
  refine Go.st (fun _ k => castTop (ef_AII_3 m y (46 : Int32) (Int32.ofNat i0)) k) ?_
  show Go p e below _ (T.setTop (mkF m 0 #[.val (.ref y), .val (.int (46 : Int32)), .val (.int (Int32.ofNat i0))] []))
  obtain ⟨tv, kt, E_y, F_v, F_c, V_t⟩ := own_latin S_y hl
  refine Go.st (fun _ k => XS.aloadN X.here hx rfl (hb hby d10_0) rfl rfl k) ?_
  show Go p e below _ (T.setTop (mkF m 1 #[.val (.ref y), .val (.int (46 : Int32)), .val (.int (Int32.ofNat i0))] [(.ref y)]))
  refine Go.virtV (K := "java/lang/String") (z := (⟨"java/lang/String", "isLatin1", "()Z"⟩ : MethodName)) (argsL := []) (rest := []) (W := 0) (w := (.int (1 : Int32))) X hx hZ hown (hml.trans rfl) hT E_y (hw _ (List.mem_of_getElem? (i := 50) rfl)) (hw _ (List.mem_of_getElem? (i := 51) rfl)) (hw _ (List.mem_of_getElem? (i := 53) rfl)) (hw _ (List.mem_of_getElem? (i := 52) rfl)) (by decide) pd_7 rfl rfl (Nat.le_of_ble_eq_true rfl) (hb hby d10_1) (notFace_of_selects (args := #[]) (mvT hZ (hw _ (List.mem_of_getElem? (i := 53) rfl)))) (backOf (W := 0) (met_isl l Z a0 hw [] z n0 y _ O Sc F_c) hZ (hw _ (List.mem_of_getElem? (i := 54) rfl)) (hw _ (List.mem_of_getElem? (i := 9) rfl)) (by decide) (by decide)) (by decide) (by decide) ?_
  intro T hT X
  show Go p e below _ (T.setTop (mkF m 4 #[.val (.ref y), .val (.int (46 : Int32)), .val (.int (Int32.ofNat i0))] [(.int (1 : Int32))]))
  refine Go.st (fun _ k => XS.ifNo X.here hx rfl (hb hby d10_4) rfl (Jvm.Free.XT.i0_eq_f (by decide : ¬ ((1 : Int32) = (0 : Int32)))) k) ?_
  show Go p e below _ (T.setTop (mkF m 7 #[.val (.ref y), .val (.int (46 : Int32)), .val (.int (Int32.ofNat i0))] []))
  refine Go.st (fun _ k => XS.aloadN X.here hx rfl (hb hby d10_7) rfl rfl k) ?_
  show Go p e below _ (T.setTop (mkF m 8 #[.val (.ref y), .val (.int (46 : Int32)), .val (.int (Int32.ofNat i0))] [(.ref y)]))
  obtain ⟨T, X, hT, st⟩ := getF X hx hZ hown (host := "") (Or.inl (hw _ (List.mem_of_getElem? (i := 34) rfl))) Via.refl hT F_v (g := (mkF m 8 #[.val (.ref y), .val (.int (46 : Int32)), .val (.int (Int32.ofNat i0))] [(.ref y)])) rfl rfl (hb hby d10_8)
  refine Go.st st ?_
  show Go p e below _ (T.setTop (mkF m 11 #[.val (.ref y), .val (.int (46 : Int32)), .val (.int (Int32.ofNat i0))] [(.ref tv)]))
  refine Go.st (fun _ k => XS.iloadN X.here hx rfl (hb hby d10_11) rfl k) ?_
  show Go p e below _ (T.setTop (mkF m 12 #[.val (.ref y), .val (.int (46 : Int32)), .val (.int (Int32.ofNat i0))] [(.int (46 : Int32)), (.ref tv)]))
  refine Go.st (fun _ k => XS.iloadN X.here hx rfl (hb hby d10_12) rfl k) ?_
  show Go p e below _ (T.setTop (mkF m 13 #[.val (.ref y), .val (.int (46 : Int32)), .val (.int (Int32.ofNat i0))] [(.int (Int32.ofNat i0)), (.int (46 : Int32)), (.ref tv)]))
  refine Go.st (fun _ k => XS.aloadN X.here hx rfl (hb hby d10_13) rfl rfl k) ?_
  show Go p e below _ (T.setTop (mkF m 14 #[.val (.ref y), .val (.int (46 : Int32)), .val (.int (Int32.ofNat i0))] [(.ref y), (.int (Int32.ofNat i0)), (.int (46 : Int32)), (.ref tv)]))
  refine Go.virtV (K := "java/lang/String") (z := (⟨"java/lang/String", "length", "()I"⟩ : MethodName)) (argsL := []) (rest := [(.int (Int32.ofNat i0)), (.int (46 : Int32)), (.ref tv)]) (W := 3) (w := (.int (Int32.ofNat cs.length))) X hx hZ hown (hml.trans rfl) hT S_y.exa (hw _ (List.mem_of_getElem? (i := 55) rfl)) (hw _ (List.mem_of_getElem? (i := 56) rfl)) (hw _ (List.mem_of_getElem? (i := 58) rfl)) (hw _ (List.mem_of_getElem? (i := 57) rfl)) (by decide) pd_5 rfl rfl (Nat.le_of_ble_eq_true rfl) (hb hby d10_14) (notFace_of_selects (args := #[]) (mvT hZ (hw _ (List.mem_of_getElem? (i := 58) rfl)))) (own_len (W := 3) hw hZ O Sc S_y (by decide) (by decide)) (by decide) (by decide) ?_
  intro T hT X
  show Go p e below _ (T.setTop (mkF m 17 #[.val (.ref y), .val (.int (46 : Int32)), .val (.int (Int32.ofNat i0))] [(.int (Int32.ofNat cs.length)), (.int (Int32.ofNat i0)), (.int (46 : Int32)), (.ref tv)]))
  refine Go.callV (argsL := [(.ref tv), (.int (46 : Int32)), (.int (Int32.ofNat i0)), (.int (Int32.ofNat cs.length))]) (rest := []) (W := 0) X hx hZ hown (hml.trans rfl) hT (hw _ (List.mem_of_getElem? (i := 65) rfl)) (hw _ (List.mem_of_getElem? (i := 66) rfl)) (hw _ (List.mem_of_getElem? (i := 67) rfl)) (hw _ (List.mem_of_getElem? (i := 68) rfl)) (by decide) pd_10 rfl rfl (Nat.le_of_ble_eq_true rfl) (hb hby d10_17) (backOf (W := 0) (met_lx l Z a0 hw [] tv kt cs i0 q _ V_t hl hip hq hn hat hbef) hZ (hw _ (List.mem_of_getElem? (i := 68) rfl)) (hw _ (List.mem_of_getElem? (i := 67) rfl)) (by decide) (by decide)) (by decide) (by decide) ?_
  intro T hT X
  show Go p e below _ (T.setTop (mkF m 20 #[.val (.ref y), .val (.int (46 : Int32)), .val (.int (Int32.ofNat i0))] [(.int (Int32.ofNat q))]))
  refine Go.st (fun _ k => XS.goto X.here hx rfl (pc0 := 20) (pc' := 36) rfl (hb hby d10_20) (by decide) (by decide) k) ?_
  show Go p e below _ (T.setTop (mkF m 36 #[.val (.ref y), .val (.int (46 : Int32)), .val (.int (Int32.ofNat i0))] [(.int (Int32.ofNat q))]))
  refine Go.ret X hx hlk hT hret rfl (riI (by simp)) (hb hby d10_36) (by decide) (by decide) ?_
  exact ⟨rfl, rfl, rfl⟩
theorem d9_0 : decode jdk_42_method_79_code 0 = .ok (.aload_n 0, 1) := by decide +kernel
theorem d9_1 : decode jdk_42_method_79_code 1 = .ok (.iload_n 1, 1) := by decide +kernel
theorem d9_2 : decode jdk_42_method_79_code 2 = .ok (.iconst 0, 1) := by decide +kernel
theorem d9_3 : decode jdk_42_method_79_code 3 = .ok (.invokevirtual 633, 3) := by decide +kernel
theorem d9_6 : decode jdk_42_method_79_code 6 = .ok (.ireturn, 1) := by decide +kernel
theorem pn_15 : plainFor (⟨"java/lang/String", "indexOf", "(I)I"⟩ : MethodName) = true := by first | exact plainFor_of_name (by first | (simp [plainName, overriddenIn]; done) | decide +kernel) | decide +kernel
theorem ef_AI_2 (m : MethodId) (y0 : Addr) (y1 : Int32) : entryFrame m #[(.ref y0), (.int y1)] 2 = mkF m 0 #[.val (.ref y0), .val (.int y1)] [] := by first | (simp [entryFrame, mkF, argsToLocals, Value.category]; done) | rfl
set_option maxRecDepth 65536 in
set_option maxHeartbeats 40000000 in
theorem met_ix1 (l : Launch) (Z : State) (a0 : Array Value) (hw : ∀ d ∈ tables_1, d.before a0 Z = true) (ws : List Jvm.Cond) (z : Int32) (n0 : Nat) (y : Addr) (cs : List Int32) (q : Nat) (h0 : Heap) (O : Old Z n0 h0) (Sc : Stat Z z) (S_y : Str Z h0 y cs) (hl : Lat cs) (hq : q < cs.length) (hn : cs.length ≤ 8) (hat : cs.getD q 0 = 46) (hbef : ∀ j, 0 ≤ j → j < q → ¬ cs.getD j 0 = 46) :
    MetFree l (⟨"java/lang/String", "indexOf", "(I)I"⟩ : MethodName) (head1 (Jvm.Cond.code (⟨"java/lang/String", "indexOf", "(I)I"⟩ : MethodName) jdk_42_method_79_code 2 (some .int) :: ws) ({ frames := 3, cells := 0, slots := 0, locals := 46 } : Room)) (fun aa U => aa = #[(.ref y), (.int (46 : Int32))] ∧ Z.Warmed39 U.vm ∧ U.heap = h0) (fun _ _ _ _ _ => True) (fun _ U o U' => ∃ v L, o = .returned v ∧ QV (.int (Int32.ofNat q)) h0 v U'.heap L ∧ FrameEnd U o U' L ({ frames := 3, cells := 0, slots := 0, locals := 46 } : Room).cells ({ frames := 3, cells := 0, slots := 0, locals := 46 } : Room).slots) := by
  refine openP (y := (⟨"java/lang/String", "indexOf", "(I)I"⟩ : MethodName)) pn_15 ?_
  intro p e s m below meth c T hx hby hml hret hlk hnm hZ hown X hT
  refine Go.st (fun _ k => castTop (ef_AI_2 m y (46 : Int32)) k) ?_
  show Go p e below _ (T.setTop (mkF m 0 #[.val (.ref y), .val (.int (46 : Int32))] []))
  refine Go.st (fun _ k => XS.aloadN X.here hx rfl (hb hby d9_0) rfl rfl k) ?_
  show Go p e below _ (T.setTop (mkF m 1 #[.val (.ref y), .val (.int (46 : Int32))] [(.ref y)]))
  refine Go.st (fun _ k => XS.iloadN X.here hx rfl (hb hby d9_1) rfl k) ?_
  show Go p e below _ (T.setTop (mkF m 2 #[.val (.ref y), .val (.int (46 : Int32))] [(.int (46 : Int32)), (.ref y)]))
  refine Go.st (fun _ k => XS.iconst X.here hx rfl (hb hby d9_2) k) ?_
  show Go p e below _ (T.setTop (mkF m 3 #[.val (.ref y), .val (.int (46 : Int32))] [(.int (0 : Int32)), (.int (46 : Int32)), (.ref y)]))
  refine Go.virtV (K := "java/lang/String") (z := (⟨"java/lang/String", "indexOf", "(II)I"⟩ : MethodName)) (argsL := [(.int (46 : Int32)), (.int (0 : Int32))]) (rest := []) (W := 0) (w := (.int (Int32.ofNat q))) X hx hZ hown (hml.trans rfl) hT S_y.exa (hw _ (List.mem_of_getElem? (i := 45) rfl)) (hw _ (List.mem_of_getElem? (i := 46) rfl)) (hw _ (List.mem_of_getElem? (i := 48) rfl)) (hw _ (List.mem_of_getElem? (i := 47) rfl)) (by decide) pd_1 rfl rfl (Nat.le_of_ble_eq_true rfl) (hb hby d9_3) (notFace_of_selects (args := #[]) (mvT hZ (hw _ (List.mem_of_getElem? (i := 48) rfl)))) (backOf (W := 0) (met_ix2 l Z a0 hw [] z n0 y cs 0 q _ O Sc S_y hl (Nat.zero_le _) hq hn hat hbef) hZ (hw _ (List.mem_of_getElem? (i := 49) rfl)) (hw _ (List.mem_of_getElem? (i := 9) rfl)) (by decide) (by decide)) (by decide) (by decide) ?_
  intro T hT X
  show Go p e below _ (T.setTop (mkF m 6 #[.val (.ref y), .val (.int (46 : Int32))] [(.int (Int32.ofNat q))]))
  refine Go.ret X hx hlk hT hret rfl (riI (by simp)) (hb hby d9_6) (by decide) (by decide) ?_
  exact ⟨rfl, rfl, rfl⟩
theorem own_wordsCh : ∀ d ∈ StrChars.Road.wordsChN, d ∈ tables_1 := by decide +kernel
theorem own_slen {Z : State} {h : Heap} {x : Addr} {cs : List Int32} (S : Str Z h x cs) : cs.length ≤ 4000 := by obtain ⟨t, kb, cd, N2, vs, h1, h2, h3, h4, h5, h6, h7⟩ := S; exact h7
theorem own_chat {p : Program} {l : Launch} {e : Env} {R : Room} {s : State} {args : Array Value} {below : List Frame} {Z : State} {a0 : Array Value} {h : Heap} {W : Nat} {x : Addr} {cs : List Int32} {z : Int32} {fm : Value} {n0 i : Nat} (hw : ∀ d ∈ tables_1, d.before a0 Z = true) (hZ : Z.Warmed39 s.vm) (O : Old Z n0 h) (Sc : Stat Z z) (Sf : StF Z fm) (S : Str Z h x cs) (hl : Lat cs) (hi : i < cs.length) (hfr : 4 ≤ R.frames) (hlo : W + 53 ≤ R.locals) :
    PB l R p e below s args (⟨"java/lang/String", "charAt", "(I)C"⟩ : MethodName) W #[.ref x, .int (Int32.ofNat i)] h 0 0 (QV (.int (cs.getD i 0)) h) := by
  have h7 := own_slen S
  obtain ⟨t, kb, h1, h2, h3, h4⟩ := own_latin S hl
  exact StrChars.Road.chN hZ (fun d hd => hw d (own_wordsCh d hd)) (kI := 4) (hw _ (List.mem_of_getElem? (i := 8) rfl)) h1 h2 h3 h4 (Or.inl ⟨rfl, rfl, rfl, fun c hc => (hl c hc).2⟩) (fun c hc => ⟨(hl c hc).1, fun q => (hl c hc).2 (Int32.lt_trans (by decide) q)⟩) (Sc.1.ext O.2) Sc.2 (Sf.1.ext O.2) Sf.2 h7 hi rfl hfr hlo
def f_draw (y : Int64) (i : Int32) (a : Int32) (b : Int32) : Int32 := (if i = a then (46 : Int32) else (if i = b then (46 : Int32) else (if i < b then (if ((((((y).toUInt64 >>> (((8 : Int32) * i) &&& 0x3f).toInt64.toUInt64).toInt64) &&& (255 : Int64)).toInt32).toUInt32.toUInt16.toUInt32.toInt32) = (46 : Int32) then (45 : Int32) else ((((((y).toUInt64 >>> (((8 : Int32) * i) &&& 0x3f).toInt64.toUInt64).toInt64) &&& (255 : Int64)).toInt32).toUInt32.toUInt16.toUInt32.toInt32)) else ((((((y).toUInt64 >>> (((8 : Int32) * i) &&& 0x3f).toInt64.toUInt64).toInt64) &&& (255 : Int64)).toInt32).toUInt32.toUInt16.toUInt32.toInt32))))
theorem d1_0 : decode method_3_code 0 = .ok (.iload_n 2, 1) := by decide +kernel
theorem d1_1 : decode method_3_code 1 = .ok (.iload_n 3, 1) := by decide +kernel
theorem d1_2 : decode method_3_code 2 = .ok (.if_icmp .eq 9, 3) := by decide +kernel
theorem d1_5 : decode method_3_code 5 = .ok (.iload_n 2, 1) := by decide +kernel
theorem d1_6 : decode method_3_code 6 = .ok (.iload 4, 2) := by decide +kernel
theorem d1_8 : decode method_3_code 8 = .ok (.if_icmp .ne 6, 3) := by decide +kernel
theorem d1_11 : decode method_3_code 11 = .ok (.bipush 46, 2) := by decide +kernel
theorem d1_13 : decode method_3_code 13 = .ok (.ireturn, 1) := by decide +kernel
theorem d1_14 : decode method_3_code 14 = .ok (.lload_n 0, 1) := by decide +kernel
theorem d1_15 : decode method_3_code 15 = .ok (.bipush 8, 2) := by decide +kernel
theorem d1_17 : decode method_3_code 17 = .ok (.iload_n 2, 1) := by decide +kernel
theorem d1_18 : decode method_3_code 18 = .ok (.imul, 1) := by decide +kernel
theorem d1_19 : decode method_3_code 19 = .ok (.lushr, 1) := by decide +kernel
theorem d1_20 : decode method_3_code 20 = .ok (.ldc2_w 33, 3) := by decide +kernel
theorem d1_23 : decode method_3_code 23 = .ok (.land, 1) := by decide +kernel
theorem d1_24 : decode method_3_code 24 = .ok (.l2i, 1) := by decide +kernel
theorem d1_25 : decode method_3_code 25 = .ok (.i2c, 1) := by decide +kernel
theorem d1_26 : decode method_3_code 26 = .ok (.istore 5, 2) := by decide +kernel
theorem d1_28 : decode method_3_code 28 = .ok (.iload_n 2, 1) := by decide +kernel
theorem d1_29 : decode method_3_code 29 = .ok (.iload 4, 2) := by decide +kernel
theorem d1_31 : decode method_3_code 31 = .ok (.if_icmp .ge 13, 3) := by decide +kernel
theorem d1_34 : decode method_3_code 34 = .ok (.iload 5, 2) := by decide +kernel
theorem d1_36 : decode method_3_code 36 = .ok (.bipush 46, 2) := by decide +kernel
theorem d1_38 : decode method_3_code 38 = .ok (.if_icmp .ne 6, 3) := by decide +kernel
theorem d1_41 : decode method_3_code 41 = .ok (.bipush 45, 2) := by decide +kernel
theorem d1_43 : decode method_3_code 43 = .ok (.ireturn, 1) := by decide +kernel
theorem d1_44 : decode method_3_code 44 = .ok (.iload 5, 2) := by decide +kernel
theorem d1_46 : decode method_3_code 46 = .ok (.ireturn, 1) := by decide +kernel
theorem pn_16 : plainFor (⟨"com/example/daugava/daugava/iso20022/Iso20022MessageNamePinLaw", "draw", "(JIII)C"⟩ : MethodName) = true := by first | exact plainFor_of_name (by first | (simp [plainName, overriddenIn]; done) | decide +kernel) | decide +kernel
theorem ef_JIII_6 (m : MethodId) (y0 : Int64) (y1 : Int32) (y2 : Int32) (y3 : Int32) : entryFrame m #[(.long y0), (.int y1), (.int y2), (.int y3)] 6 = mkF m 0 #[.val (.long y0), .second, .val (.int y1), .val (.int y2), .val (.int y3), .unset] [] := by first | (simp [entryFrame, mkF, argsToLocals, Value.category]; done) | rfl
set_option maxRecDepth 65536 in
set_option maxHeartbeats 40000000 in
theorem met_draw (l : Launch) (Z : State) (a0 : Array Value) (hw : ∀ d ∈ tables_1, d.before a0 Z = true) (ws : List Jvm.Cond) (y : Int64) (i : Int32) (a : Int32) (b : Int32) (h0 : Heap)  :
    MetFree l (⟨"com/example/daugava/daugava/iso20022/Iso20022MessageNamePinLaw", "draw", "(JIII)C"⟩ : MethodName) (head1 (Jvm.Cond.code (⟨"com/example/daugava/daugava/iso20022/Iso20022MessageNamePinLaw", "draw", "(JIII)C"⟩ : MethodName) method_3_code 6 (some .char) :: ws) ({ frames := 0, cells := 0, slots := 0, locals := 0 } : Room)) (fun aa U => aa = #[(.long y), (.int i), (.int a), (.int b)] ∧ Z.Warmed39 U.vm ∧ U.heap = h0) (fun _ _ _ _ _ => True) (fun _ U o U' => ∃ v L, o = .returned v ∧ QV (.int (f_draw y i a b)) h0 v U'.heap L ∧ FrameEnd U o U' L ({ frames := 0, cells := 0, slots := 0, locals := 0 } : Room).cells ({ frames := 0, cells := 0, slots := 0, locals := 0 } : Room).slots) := by
  refine openP (y := (⟨"com/example/daugava/daugava/iso20022/Iso20022MessageNamePinLaw", "draw", "(JIII)C"⟩ : MethodName)) pn_16 ?_
  intro p e s m below meth c T hx hby hml hret hlk hnm hZ hown X hT
  refine Go.st (fun _ k => castTop (ef_JIII_6 m y i a b) k) ?_
  show Go p e below _ (T.setTop (mkF m 0 #[.val (.long y), .second, .val (.int i), .val (.int a), .val (.int b), .unset] []))
  refine Go.st (fun _ k => XS.iloadN X.here hx rfl (hb hby d1_0) rfl k) ?_
  show Go p e below _ (T.setTop (mkF m 1 #[.val (.long y), .second, .val (.int i), .val (.int a), .val (.int b), .unset] [(.int i)]))
  refine Go.st (fun _ k => XS.iloadN X.here hx rfl (hb hby d1_1) rfl k) ?_
  show Go p e below _ (T.setTop (mkF m 2 #[.val (.long y), .second, .val (.int i), .val (.int a), .val (.int b), .unset] [(.int a), (.int i)]))
  by_cases hc1 : i = a
  · refine Go.st (fun _ k => XS.icmpYes X.here hx rfl (pc0 := 2) (pc' := 11) rfl (hb hby d1_2) rfl (Jvm.Free.XT.ii_eq_t hc1) (by decide) (by decide) k) ?_
    show Go p e below _ (T.setTop (mkF m 11 #[.val (.long y), .second, .val (.int i), .val (.int a), .val (.int b), .unset] []))
    refine Go.st (fun _ k => XS.bipush X.here hx rfl (hb hby d1_11) k) ?_
    show Go p e below _ (T.setTop (mkF m 13 #[.val (.long y), .second, .val (.int i), .val (.int a), .val (.int b), .unset] [(.int (46 : Int32))]))
    refine Go.ret X hx hlk hT hret (by decide) (riI (by simp)) (hb hby d1_13) (by decide) (by decide) ?_
    exact ⟨congrArg (fun z => some (Value.int z)) (by rw [f_draw, if_pos hc1]), rfl, rfl⟩
  · refine Go.st (fun _ k => XS.icmpNo X.here hx rfl (hb hby d1_2) rfl (Jvm.Free.XT.ii_eq_f hc1) k) ?_
    show Go p e below _ (T.setTop (mkF m 5 #[.val (.long y), .second, .val (.int i), .val (.int a), .val (.int b), .unset] []))
    refine Go.st (fun _ k => XS.iloadN X.here hx rfl (hb hby d1_5) rfl k) ?_
    show Go p e below _ (T.setTop (mkF m 6 #[.val (.long y), .second, .val (.int i), .val (.int a), .val (.int b), .unset] [(.int i)]))
    refine Go.st (fun _ k => XS.iload X.here hx rfl (hb hby d1_6) rfl k) ?_
    show Go p e below _ (T.setTop (mkF m 8 #[.val (.long y), .second, .val (.int i), .val (.int a), .val (.int b), .unset] [(.int b), (.int i)]))
    by_cases hc2 : i = b
    · refine Go.st (fun _ k => XS.icmpNo X.here hx rfl (hb hby d1_8) rfl (Jvm.Free.XT.ii_ne_f hc2) k) ?_
      show Go p e below _ (T.setTop (mkF m 11 #[.val (.long y), .second, .val (.int i), .val (.int a), .val (.int b), .unset] []))
      refine Go.st (fun _ k => XS.bipush X.here hx rfl (hb hby d1_11) k) ?_
      show Go p e below _ (T.setTop (mkF m 13 #[.val (.long y), .second, .val (.int i), .val (.int a), .val (.int b), .unset] [(.int (46 : Int32))]))
      refine Go.ret X hx hlk hT hret (by decide) (riI (by simp)) (hb hby d1_13) (by decide) (by decide) ?_
      exact ⟨congrArg (fun z => some (Value.int z)) (by rw [f_draw, if_neg hc1, if_pos hc2]), rfl, rfl⟩
    · refine Go.st (fun _ k => XS.icmpYes X.here hx rfl (pc0 := 8) (pc' := 14) rfl (hb hby d1_8) rfl (Jvm.Free.XT.ii_ne_t hc2) (by decide) (by decide) k) ?_
      show Go p e below _ (T.setTop (mkF m 14 #[.val (.long y), .second, .val (.int i), .val (.int a), .val (.int b), .unset] []))
      refine Go.st (fun _ k => XS.lloadN X.here hx rfl (hb hby d1_14) rfl k) ?_
      show Go p e below _ (T.setTop (mkF m 15 #[.val (.long y), .second, .val (.int i), .val (.int a), .val (.int b), .unset] [(.long y)]))
      refine Go.st (fun _ k => XS.bipush X.here hx rfl (hb hby d1_15) k) ?_
      show Go p e below _ (T.setTop (mkF m 17 #[.val (.long y), .second, .val (.int i), .val (.int a), .val (.int b), .unset] [(.int (8 : Int32)), (.long y)]))
      refine Go.st (fun _ k => XS.iloadN X.here hx rfl (hb hby d1_17) rfl k) ?_
      show Go p e below _ (T.setTop (mkF m 18 #[.val (.long y), .second, .val (.int i), .val (.int a), .val (.int b), .unset] [(.int i), (.int (8 : Int32)), (.long y)]))
      refine Go.st (fun _ k => XS.imul X.here hx rfl (hb hby d1_18) rfl k) ?_
      show Go p e below _ (T.setTop (mkF m 19 #[.val (.long y), .second, .val (.int i), .val (.int a), .val (.int b), .unset] [(.int ((8 : Int32) * i)), (.long y)]))
      refine Go.st (fun _ k => XS.lushr X.here hx rfl (hb hby d1_19) rfl k) ?_
      show Go p e below _ (T.setTop (mkF m 20 #[.val (.long y), .second, .val (.int i), .val (.int a), .val (.int b), .unset] [(.long (((y).toUInt64 >>> (((8 : Int32) * i) &&& 0x3f).toInt64.toUInt64).toInt64))]))
      refine Go.st (fun _ k => X.ldc2J hx hown (mvT hZ (hw _ (List.mem_of_getElem? (i := 6) rfl))) rfl (hb hby d1_20) k) ?_
      show Go p e below _ (T.setTop (mkF m 23 #[.val (.long y), .second, .val (.int i), .val (.int a), .val (.int b), .unset] [(.long (255 : Int64)), (.long (((y).toUInt64 >>> (((8 : Int32) * i) &&& 0x3f).toInt64.toUInt64).toInt64))]))
      refine Go.st (fun _ k => XS.land X.here hx rfl (hb hby d1_23) rfl k) ?_
      show Go p e below _ (T.setTop (mkF m 24 #[.val (.long y), .second, .val (.int i), .val (.int a), .val (.int b), .unset] [(.long ((((y).toUInt64 >>> (((8 : Int32) * i) &&& 0x3f).toInt64.toUInt64).toInt64) &&& (255 : Int64)))]))
      refine Go.st (fun _ k => XS.l2i X.here hx rfl (hb hby d1_24) rfl k) ?_
      show Go p e below _ (T.setTop (mkF m 25 #[.val (.long y), .second, .val (.int i), .val (.int a), .val (.int b), .unset] [(.int (((((y).toUInt64 >>> (((8 : Int32) * i) &&& 0x3f).toInt64.toUInt64).toInt64) &&& (255 : Int64)).toInt32))]))
      refine Go.st (fun _ k => XS.i2c X.here hx rfl (hb hby d1_25) rfl k) ?_
      show Go p e below _ (T.setTop (mkF m 26 #[.val (.long y), .second, .val (.int i), .val (.int a), .val (.int b), .unset] [(.int ((((((y).toUInt64 >>> (((8 : Int32) * i) &&& 0x3f).toInt64.toUInt64).toInt64) &&& (255 : Int64)).toInt32).toUInt32.toUInt16.toUInt32.toInt32))]))
      refine Go.st (fun _ k => XS.istore X.here hx rfl (hb hby d1_26) rfl (l' := #[.val (.long y), .second, .val (.int i), .val (.int a), .val (.int b), .val (.int ((((((y).toUInt64 >>> (((8 : Int32) * i) &&& 0x3f).toInt64.toUInt64).toInt64) &&& (255 : Int64)).toInt32).toUInt32.toUInt16.toUInt32.toInt32))]) rfl k) ?_
      show Go p e below _ (T.setTop (mkF m 28 #[.val (.long y), .second, .val (.int i), .val (.int a), .val (.int b), .val (.int ((((((y).toUInt64 >>> (((8 : Int32) * i) &&& 0x3f).toInt64.toUInt64).toInt64) &&& (255 : Int64)).toInt32).toUInt32.toUInt16.toUInt32.toInt32))] []))
      refine Go.st (fun _ k => XS.iloadN X.here hx rfl (hb hby d1_28) rfl k) ?_
      show Go p e below _ (T.setTop (mkF m 29 #[.val (.long y), .second, .val (.int i), .val (.int a), .val (.int b), .val (.int ((((((y).toUInt64 >>> (((8 : Int32) * i) &&& 0x3f).toInt64.toUInt64).toInt64) &&& (255 : Int64)).toInt32).toUInt32.toUInt16.toUInt32.toInt32))] [(.int i)]))
      refine Go.st (fun _ k => XS.iload X.here hx rfl (hb hby d1_29) rfl k) ?_
      show Go p e below _ (T.setTop (mkF m 31 #[.val (.long y), .second, .val (.int i), .val (.int a), .val (.int b), .val (.int ((((((y).toUInt64 >>> (((8 : Int32) * i) &&& 0x3f).toInt64.toUInt64).toInt64) &&& (255 : Int64)).toInt32).toUInt32.toUInt16.toUInt32.toInt32))] [(.int b), (.int i)]))
      by_cases hc3 : i < b
      · refine Go.st (fun _ k => XS.icmpNo X.here hx rfl (hb hby d1_31) rfl (Jvm.Free.XT.ii_ge_f hc3) k) ?_
        show Go p e below _ (T.setTop (mkF m 34 #[.val (.long y), .second, .val (.int i), .val (.int a), .val (.int b), .val (.int ((((((y).toUInt64 >>> (((8 : Int32) * i) &&& 0x3f).toInt64.toUInt64).toInt64) &&& (255 : Int64)).toInt32).toUInt32.toUInt16.toUInt32.toInt32))] []))
        refine Go.st (fun _ k => XS.iload X.here hx rfl (hb hby d1_34) rfl k) ?_
        show Go p e below _ (T.setTop (mkF m 36 #[.val (.long y), .second, .val (.int i), .val (.int a), .val (.int b), .val (.int ((((((y).toUInt64 >>> (((8 : Int32) * i) &&& 0x3f).toInt64.toUInt64).toInt64) &&& (255 : Int64)).toInt32).toUInt32.toUInt16.toUInt32.toInt32))] [(.int ((((((y).toUInt64 >>> (((8 : Int32) * i) &&& 0x3f).toInt64.toUInt64).toInt64) &&& (255 : Int64)).toInt32).toUInt32.toUInt16.toUInt32.toInt32))]))
        refine Go.st (fun _ k => XS.bipush X.here hx rfl (hb hby d1_36) k) ?_
        show Go p e below _ (T.setTop (mkF m 38 #[.val (.long y), .second, .val (.int i), .val (.int a), .val (.int b), .val (.int ((((((y).toUInt64 >>> (((8 : Int32) * i) &&& 0x3f).toInt64.toUInt64).toInt64) &&& (255 : Int64)).toInt32).toUInt32.toUInt16.toUInt32.toInt32))] [(.int (46 : Int32)), (.int ((((((y).toUInt64 >>> (((8 : Int32) * i) &&& 0x3f).toInt64.toUInt64).toInt64) &&& (255 : Int64)).toInt32).toUInt32.toUInt16.toUInt32.toInt32))]))
        by_cases hc4 : ((((((y).toUInt64 >>> (((8 : Int32) * i) &&& 0x3f).toInt64.toUInt64).toInt64) &&& (255 : Int64)).toInt32).toUInt32.toUInt16.toUInt32.toInt32) = (46 : Int32)
        · refine Go.st (fun _ k => XS.icmpNo X.here hx rfl (hb hby d1_38) rfl (Jvm.Free.XT.ii_ne_f hc4) k) ?_
          show Go p e below _ (T.setTop (mkF m 41 #[.val (.long y), .second, .val (.int i), .val (.int a), .val (.int b), .val (.int ((((((y).toUInt64 >>> (((8 : Int32) * i) &&& 0x3f).toInt64.toUInt64).toInt64) &&& (255 : Int64)).toInt32).toUInt32.toUInt16.toUInt32.toInt32))] []))
          refine Go.st (fun _ k => XS.bipush X.here hx rfl (hb hby d1_41) k) ?_
          show Go p e below _ (T.setTop (mkF m 43 #[.val (.long y), .second, .val (.int i), .val (.int a), .val (.int b), .val (.int ((((((y).toUInt64 >>> (((8 : Int32) * i) &&& 0x3f).toInt64.toUInt64).toInt64) &&& (255 : Int64)).toInt32).toUInt32.toUInt16.toUInt32.toInt32))] [(.int (45 : Int32))]))
          refine Go.ret X hx hlk hT hret (by decide) (riI (by simp)) (hb hby d1_43) (by decide) (by decide) ?_
          exact ⟨congrArg (fun z => some (Value.int z)) (by rw [f_draw, if_neg hc1, if_neg hc2, if_pos hc3, if_pos hc4]), rfl, rfl⟩
        · refine Go.st (fun _ k => XS.icmpYes X.here hx rfl (pc0 := 38) (pc' := 44) rfl (hb hby d1_38) rfl (Jvm.Free.XT.ii_ne_t hc4) (by decide) (by decide) k) ?_
          show Go p e below _ (T.setTop (mkF m 44 #[.val (.long y), .second, .val (.int i), .val (.int a), .val (.int b), .val (.int ((((((y).toUInt64 >>> (((8 : Int32) * i) &&& 0x3f).toInt64.toUInt64).toInt64) &&& (255 : Int64)).toInt32).toUInt32.toUInt16.toUInt32.toInt32))] []))
          refine Go.st (fun _ k => XS.iload X.here hx rfl (hb hby d1_44) rfl k) ?_
          show Go p e below _ (T.setTop (mkF m 46 #[.val (.long y), .second, .val (.int i), .val (.int a), .val (.int b), .val (.int ((((((y).toUInt64 >>> (((8 : Int32) * i) &&& 0x3f).toInt64.toUInt64).toInt64) &&& (255 : Int64)).toInt32).toUInt32.toUInt16.toUInt32.toInt32))] [(.int ((((((y).toUInt64 >>> (((8 : Int32) * i) &&& 0x3f).toInt64.toUInt64).toInt64) &&& (255 : Int64)).toInt32).toUInt32.toUInt16.toUInt32.toInt32))]))
          refine Go.ret X hx hlk hT hret (own_nc _) (riI (by simp)) (hb hby d1_46) (by decide) (by decide) ?_
          exact ⟨congrArg (fun z => some (Value.int z)) (by rw [f_draw, if_neg hc1, if_neg hc2, if_pos hc3, if_neg hc4]), rfl, rfl⟩
      · refine Go.st (fun _ k => XS.icmpYes X.here hx rfl (pc0 := 31) (pc' := 44) rfl (hb hby d1_31) rfl (Jvm.Free.XT.ii_ge_t hc3) (by decide) (by decide) k) ?_
        show Go p e below _ (T.setTop (mkF m 44 #[.val (.long y), .second, .val (.int i), .val (.int a), .val (.int b), .val (.int ((((((y).toUInt64 >>> (((8 : Int32) * i) &&& 0x3f).toInt64.toUInt64).toInt64) &&& (255 : Int64)).toInt32).toUInt32.toUInt16.toUInt32.toInt32))] []))
        refine Go.st (fun _ k => XS.iload X.here hx rfl (hb hby d1_44) rfl k) ?_
        show Go p e below _ (T.setTop (mkF m 46 #[.val (.long y), .second, .val (.int i), .val (.int a), .val (.int b), .val (.int ((((((y).toUInt64 >>> (((8 : Int32) * i) &&& 0x3f).toInt64.toUInt64).toInt64) &&& (255 : Int64)).toInt32).toUInt32.toUInt16.toUInt32.toInt32))] [(.int ((((((y).toUInt64 >>> (((8 : Int32) * i) &&& 0x3f).toInt64.toUInt64).toInt64) &&& (255 : Int64)).toInt32).toUInt32.toUInt16.toUInt32.toInt32))]))
        refine Go.ret X hx hlk hT hret (own_nc _) (riI (by simp)) (hb hby d1_46) (by decide) (by decide) ?_
        exact ⟨congrArg (fun z => some (Value.int z)) (by rw [f_draw, if_neg hc1, if_neg hc2, if_neg hc3]), rfl, rfl⟩
theorem pd_11 : parseMethodDescriptor "(I)I" = some ⟨[.int], (some .int)⟩ := by decide +kernel
theorem pd_12 : parseMethodDescriptor "(II)Ljava/lang/String;" = some ⟨[.int, .int], (some (.object "java/lang/String"))⟩ := by decide +kernel
theorem d8_0 : decode prog_52_method_3_code 0 = .ok (.aload_n 0, 1) := by decide +kernel
theorem d8_1 : decode prog_52_method_3_code 1 = .ok (.iconst 0, 1) := by decide +kernel
theorem d8_2 : decode prog_52_method_3_code 2 = .ok (.aload_n 0, 1) := by decide +kernel
theorem d8_3 : decode prog_52_method_3_code 3 = .ok (.bipush 46, 2) := by decide +kernel
theorem d8_5 : decode prog_52_method_3_code 5 = .ok (.aload_n 0, 1) := by decide +kernel
theorem d8_6 : decode prog_52_method_3_code 6 = .ok (.bipush 46, 2) := by decide +kernel
theorem d8_8 : decode prog_52_method_3_code 8 = .ok (.invokevirtual 19, 3) := by decide +kernel
theorem d8_11 : decode prog_52_method_3_code 11 = .ok (.iconst 1, 1) := by decide +kernel
theorem d8_12 : decode prog_52_method_3_code 12 = .ok (.iadd, 1) := by decide +kernel
theorem d8_13 : decode prog_52_method_3_code 13 = .ok (.invokevirtual 23, 3) := by decide +kernel
theorem d8_16 : decode prog_52_method_3_code 16 = .ok (.invokevirtual 25, 3) := by decide +kernel
theorem d8_19 : decode prog_52_method_3_code 19 = .ok (.areturn, 1) := by decide +kernel
theorem pn_17 : plainFor (⟨"com/example/daugava/daugava/iso20022/Iso20022", "messageName", "(Ljava/lang/String;)Ljava/lang/String;"⟩ : MethodName) = true := by first | exact plainFor_of_name (by first | (simp [plainName, overriddenIn]; done) | decide +kernel) | decide +kernel
set_option maxRecDepth 65536 in
set_option maxHeartbeats 40000000 in
theorem met_mn (l : Launch) (Z : State) (a0 : Array Value) (hw : ∀ d ∈ tables_1, d.before a0 Z = true) (ws : List Jvm.Cond) (z : Int32) (fm : Value) (n0 : Nat) (y : Addr) (cs : List Int32) (q1 q2 : Nat) (h0 : Heap) (O : Old Z n0 h0) (Sc : Stat Z z) (Sf : StF Z fm) (S_y : Str Z h0 y cs) (hl : Lat cs) (hn : cs.length ≤ 8) (h12 : q1 < q2) (hq2 : q2 < cs.length) (hat1 : cs.getD q1 0 = 46) (hbef1 : ∀ j, 0 ≤ j → j < q1 → ¬ cs.getD j 0 = 46) (hat2 : cs.getD q2 0 = 46) (hbef2 : ∀ j, q1 + 1 ≤ j → j < q2 → ¬ cs.getD j 0 = 46) :
    MetFree l (⟨"com/example/daugava/daugava/iso20022/Iso20022", "messageName", "(Ljava/lang/String;)Ljava/lang/String;"⟩ : MethodName) (head1 (Jvm.Cond.code (⟨"com/example/daugava/daugava/iso20022/Iso20022", "messageName", "(Ljava/lang/String;)Ljava/lang/String;"⟩ : MethodName) prog_52_method_3_code 1 (some (.object "java/lang/String")) :: ws) ({ frames := 5, cells := 2, slots := 12, locals := 122 } : Room)) (fun aa U => aa = #[(.ref y)] ∧ Z.Warmed39 U.vm ∧ U.heap = h0) (fun _ _ _ _ _ => True) (fun _ U o U' => ∃ v L, o = .returned v ∧ QStr Z n0 (cs.take q2) h0 v U'.heap L ∧ FrameEnd U o U' L ({ frames := 5, cells := 2, slots := 12, locals := 122 } : Room).cells ({ frames := 5, cells := 2, slots := 12, locals := 122 } : Room).slots) := by
  refine openP (y := (⟨"com/example/daugava/daugava/iso20022/Iso20022", "messageName", "(Ljava/lang/String;)Ljava/lang/String;"⟩ : MethodName)) pn_17 ?_
  intro p e s m below meth c T hx hby hml hret hlk hnm hZ hown X hT
  refine Go.st (fun _ k => castTop (ef_A_1 m y) k) ?_
  show Go p e below _ (T.setTop (mkF m 0 #[.val (.ref y)] []))
  refine Go.st (fun _ k => XS.aloadN X.here hx rfl (hb hby d8_0) rfl rfl k) ?_
  show Go p e below _ (T.setTop (mkF m 1 #[.val (.ref y)] [(.ref y)]))
  refine Go.st (fun _ k => XS.iconst X.here hx rfl (hb hby d8_1) k) ?_
  show Go p e below _ (T.setTop (mkF m 2 #[.val (.ref y)] [(.int (0 : Int32)), (.ref y)]))
  refine Go.st (fun _ k => XS.aloadN X.here hx rfl (hb hby d8_2) rfl rfl k) ?_
  show Go p e below _ (T.setTop (mkF m 3 #[.val (.ref y)] [(.ref y), (.int (0 : Int32)), (.ref y)]))
  refine Go.st (fun _ k => XS.bipush X.here hx rfl (hb hby d8_3) k) ?_
  show Go p e below _ (T.setTop (mkF m 5 #[.val (.ref y)] [(.int (46 : Int32)), (.ref y), (.int (0 : Int32)), (.ref y)]))
  refine Go.st (fun _ k => XS.aloadN X.here hx rfl (hb hby d8_5) rfl rfl k) ?_
  show Go p e below _ (T.setTop (mkF m 6 #[.val (.ref y)] [(.ref y), (.int (46 : Int32)), (.ref y), (.int (0 : Int32)), (.ref y)]))
  refine Go.st (fun _ k => XS.bipush X.here hx rfl (hb hby d8_6) k) ?_
  show Go p e below _ (T.setTop (mkF m 8 #[.val (.ref y)] [(.int (46 : Int32)), (.ref y), (.int (46 : Int32)), (.ref y), (.int (0 : Int32)), (.ref y)]))
  refine Go.virtV (K := "java/lang/String") (z := (⟨"java/lang/String", "indexOf", "(I)I"⟩ : MethodName)) (argsL := [(.int (46 : Int32))]) (rest := [(.int (46 : Int32)), (.ref y), (.int (0 : Int32)), (.ref y)]) (W := 4) (w := (.int (Int32.ofNat q1))) X hx hZ hown (hml.trans rfl) hT S_y.exa (hw _ (List.mem_of_getElem? (i := 40) rfl)) (hw _ (List.mem_of_getElem? (i := 41) rfl)) (hw _ (List.mem_of_getElem? (i := 43) rfl)) (hw _ (List.mem_of_getElem? (i := 42) rfl)) (by decide) pd_11 rfl rfl (Nat.le_of_ble_eq_true rfl) (hb hby d8_8) (notFace_of_selects (args := #[]) (mvT hZ (hw _ (List.mem_of_getElem? (i := 43) rfl)))) (backOf (W := 4) (met_ix1 l Z a0 hw [] z n0 y cs q1 _ O Sc S_y hl (by omega) hn hat1 hbef1) hZ (hw _ (List.mem_of_getElem? (i := 44) rfl)) (hw _ (List.mem_of_getElem? (i := 9) rfl)) (by decide) (by decide)) (by decide) (by decide) ?_
  intro T hT X
  show Go p e below _ (T.setTop (mkF m 11 #[.val (.ref y)] [(.int (Int32.ofNat q1)), (.int (46 : Int32)), (.ref y), (.int (0 : Int32)), (.ref y)]))
  refine Go.st (fun _ k => XS.iconst X.here hx rfl (hb hby d8_11) k) ?_
  show Go p e below _ (T.setTop (mkF m 12 #[.val (.ref y)] [(.int (1 : Int32)), (.int (Int32.ofNat q1)), (.int (46 : Int32)), (.ref y), (.int (0 : Int32)), (.ref y)]))
  refine Go.st (fun _ k => XS.iadd X.here hx rfl (hb hby d8_12) rfl k) ?_
  show Go p e below _ (T.setTop (mkF m 13 #[.val (.ref y)] [(.int ((Int32.ofNat q1) + (1 : Int32))), (.int (46 : Int32)), (.ref y), (.int (0 : Int32)), (.ref y)]))
  rw [own_succ]
  show Go p e below _ (T.setTop (mkF m 13 #[.val (.ref y)] [(.int (Int32.ofNat (q1 + 1))), (.int (46 : Int32)), (.ref y), (.int (0 : Int32)), (.ref y)]))
  refine Go.virtV (K := "java/lang/String") (z := (⟨"java/lang/String", "indexOf", "(II)I"⟩ : MethodName)) (argsL := [(.int (46 : Int32)), (.int (Int32.ofNat (q1 + 1)))]) (rest := [(.int (0 : Int32)), (.ref y)]) (W := 2) (w := (.int (Int32.ofNat q2))) X hx hZ hown (hml.trans rfl) hT S_y.exa (hw _ (List.mem_of_getElem? (i := 82) rfl)) (hw _ (List.mem_of_getElem? (i := 46) rfl)) (hw _ (List.mem_of_getElem? (i := 48) rfl)) (hw _ (List.mem_of_getElem? (i := 47) rfl)) (by decide) pd_1 rfl rfl (Nat.le_of_ble_eq_true rfl) (hb hby d8_13) (notFace_of_selects (args := #[]) (mvT hZ (hw _ (List.mem_of_getElem? (i := 48) rfl)))) (backOf (W := 2) (met_ix2 l Z a0 hw [] z n0 y cs (q1 + 1) q2 _ O Sc S_y hl (by omega) hq2 hn hat2 hbef2) hZ (hw _ (List.mem_of_getElem? (i := 49) rfl)) (hw _ (List.mem_of_getElem? (i := 9) rfl)) (by decide) (by decide)) (by decide) (by decide) ?_
  intro T hT X
  show Go p e below _ (T.setTop (mkF m 16 #[.val (.ref y)] [(.int (Int32.ofNat q2)), (.int (0 : Int32)), (.ref y)]))
  refine Go.virtP (K := "java/lang/String") (z := (⟨"java/lang/String", "substring", "(II)Ljava/lang/String;"⟩ : MethodName)) (argsL := [(.int (0 : Int32)), (.int (Int32.ofNat q2))]) (rest := []) (W := 0) (ck := 2) (sk := 12) X hx hZ hown (hml.trans rfl) hT S_y.exa (hw _ (List.mem_of_getElem? (i := 83) rfl)) (hw _ (List.mem_of_getElem? (i := 84) rfl)) (hw _ (List.mem_of_getElem? (i := 86) rfl)) (hw _ (List.mem_of_getElem? (i := 85) rfl)) (by decide) pd_12 rfl rfl (Nat.le_of_ble_eq_true rfl) (hb hby d8_16) (notFace_of_selects (args := #[]) (mvT hZ (hw _ (List.mem_of_getElem? (i := 86) rfl)))) (backOf (W := 0) (met_sub l Z a0 hw [] z fm n0 y cs 0 q2 _ O Sc Sf S_y hl (by omega) (by omega) hn (by omega)) hZ (hw _ (List.mem_of_getElem? (i := 87) rfl)) (hw _ (List.mem_of_getElem? (i := 9) rfl)) (by decide) (by decide)) (by decide) (by decide) ?_
  intro v T h1 L hT hQ X
  obtain ⟨r, rfl, N0, Ex0, S_r⟩ := hQ
  show Go p e below _ (T.setTop (mkF m 19 #[.val (.ref y)] [(.ref r)]))
  refine Go.ret X hx hlk hT hret rfl (riA rfl rfl) (hb hby d8_19) (by decide) (by decide) ?_
  exact ⟨r, rfl, N0, Ex0, by rw [List.drop_zero, Nat.sub_zero] at S_r; exact S_r⟩
theorem pd_13 : parseMethodDescriptor "(I)C" = some ⟨[.int], (some .char)⟩ := by decide +kernel
theorem own_takeD (cs : List Int32) {i q : Nat} (h : i < q) : (cs.take q).getD i 0 = cs.getD i 0 := by simp [List.getD_eq_getElem?_getD, List.getElem?_take, h]
theorem own_ats (cs : List Int32) (i : Nat) (h : i < cs.length) : (cs.map Value.int).getD i (.int 0) = .int (cs.getD i 0) := by simp [List.getD_eq_getElem?_getD, h]
theorem d27_0 : decode method_4_code 0 = .ok (.iload_n 2, 1) := by decide +kernel
theorem d27_1 : decode method_4_code 1 = .ok (.iload_n 3, 1) := by decide +kernel
theorem d27_2 : decode method_4_code 2 = .ok (.if_icmp .ge 14, 3) := by decide +kernel
theorem d27_5 : decode method_4_code 5 = .ok (.aload_n 0, 1) := by decide +kernel
theorem d27_6 : decode method_4_code 6 = .ok (.iload_n 2, 1) := by decide +kernel
theorem d27_7 : decode method_4_code 7 = .ok (.invokevirtual 35, 3) := by decide +kernel
theorem d27_10 : decode method_4_code 10 = .ok (.aload_n 1, 1) := by decide +kernel
theorem d27_11 : decode method_4_code 11 = .ok (.iload_n 2, 1) := by decide +kernel
theorem d27_12 : decode method_4_code 12 = .ok (.caload, 1) := by decide +kernel
theorem d27_13 : decode method_4_code 13 = .ok (.if_icmp .ne 7, 3) := by decide +kernel
theorem d27_16 : decode method_4_code 16 = .ok (.iconst 1, 1) := by decide +kernel
theorem d27_17 : decode method_4_code 17 = .ok (.goto 4, 3) := by decide +kernel
theorem d27_21 : decode method_4_code 21 = .ok (.ireturn, 1) := by decide +kernel
theorem pn_18 : plainFor (⟨"com/example/daugava/daugava/iso20022/Iso20022MessageNamePinLaw", "same", "(Ljava/lang/String;[CII)Z"⟩ : MethodName) = true := by first | exact plainFor_of_name (by first | (simp [plainName, overriddenIn]; done) | decide +kernel) | decide +kernel
theorem ef_AAII_4 (m : MethodId) (y0 : Addr) (y1 : Addr) (y2 : Int32) (y3 : Int32) : entryFrame m #[(.ref y0), (.ref y1), (.int y2), (.int y3)] 4 = mkF m 0 #[.val (.ref y0), .val (.ref y1), .val (.int y2), .val (.int y3)] [] := by first | (simp [entryFrame, mkF, argsToLocals, Value.category]; done) | rfl
set_option maxRecDepth 65536 in
set_option maxHeartbeats 40000000 in
theorem met_same (l : Launch) (Z : State) (a0 : Array Value) (hw : ∀ d ∈ tables_1, d.before a0 Z = true) (ws : List Jvm.Cond) (z : Int32) (fm : Value) (n0 : Nat) (r a : Addr) (ka : ClassId) (cs : List Int32) (i q2 : Nat) (h0 : Heap) (O : Old Z n0 h0) (Sc : Stat Z z) (Sf : StF Z fm) (S_r : Str Z h0 r (cs.take q2)) (hl : Lat cs) (V_a : Arv Z h0 a ka .char (Int32.ofNat cs.length) (cs.map Value.int) (.int 0)) (hn : cs.length ≤ 8) (hi : i < cs.length) (hq2 : q2 ≤ cs.length) :
    MetFree l (⟨"com/example/daugava/daugava/iso20022/Iso20022MessageNamePinLaw", "same", "(Ljava/lang/String;[CII)Z"⟩ : MethodName) (head1 (Jvm.Cond.code (⟨"com/example/daugava/daugava/iso20022/Iso20022MessageNamePinLaw", "same", "(Ljava/lang/String;[CII)Z"⟩ : MethodName) method_4_code 4 (some .boolean) :: ws) ({ frames := 4, cells := 0, slots := 0, locals := 53 } : Room)) (fun aa U => aa = #[(.ref r), (.ref a), (.int (Int32.ofNat i)), (.int (Int32.ofNat q2))] ∧ Z.Warmed39 U.vm ∧ U.heap = h0) (fun _ _ _ _ _ => True) (fun _ U o U' => ∃ v L, o = .returned v ∧ QV (.int 1) h0 v U'.heap L ∧ FrameEnd U o U' L ({ frames := 4, cells := 0, slots := 0, locals := 53 } : Room).cells ({ frames := 4, cells := 0, slots := 0, locals := 53 } : Room).slots) := by
  refine openP (y := (⟨"com/example/daugava/daugava/iso20022/Iso20022MessageNamePinLaw", "same", "(Ljava/lang/String;[CII)Z"⟩ : MethodName)) pn_18 ?_
  intro p e s m below meth c T hx hby hml hret hlk hnm hZ hown X hT
  refine Go.st (fun _ k => castTop (ef_AAII_4 m r a (Int32.ofNat i) (Int32.ofNat q2)) k) ?_
  show Go p e below _ (T.setTop (mkF m 0 #[.val (.ref r), .val (.ref a), .val (.int (Int32.ofNat i)), .val (.int (Int32.ofNat q2))] []))
  have hlen : (cs.take q2).length = q2 := by rw [List.length_take]; omega
  refine Go.st (fun _ k => XS.iloadN X.here hx rfl (hb hby d27_0) rfl k) ?_
  show Go p e below _ (T.setTop (mkF m 1 #[.val (.ref r), .val (.ref a), .val (.int (Int32.ofNat i)), .val (.int (Int32.ofNat q2))] [(.int (Int32.ofNat i))]))
  refine Go.st (fun _ k => XS.iloadN X.here hx rfl (hb hby d27_1) rfl k) ?_
  show Go p e below _ (T.setTop (mkF m 2 #[.val (.ref r), .val (.ref a), .val (.int (Int32.ofNat i)), .val (.int (Int32.ofNat q2))] [(.int (Int32.ofNat q2)), (.int (Int32.ofNat i))]))
  by_cases hiq : (Int32.ofNat i) < (Int32.ofNat q2)
  · refine Go.st (fun _ k => XS.icmpNo X.here hx rfl (hb hby d27_2) rfl (Jvm.Free.XT.ii_ge_f hiq) k) ?_
    show Go p e below _ (T.setTop (mkF m 5 #[.val (.ref r), .val (.ref a), .val (.int (Int32.ofNat i)), .val (.int (Int32.ofNat q2))] []))
    refine Go.st (fun _ k => XS.aloadN X.here hx rfl (hb hby d27_5) rfl rfl k) ?_
    show Go p e below _ (T.setTop (mkF m 6 #[.val (.ref r), .val (.ref a), .val (.int (Int32.ofNat i)), .val (.int (Int32.ofNat q2))] [(.ref r)]))
    refine Go.st (fun _ k => XS.iloadN X.here hx rfl (hb hby d27_6) rfl k) ?_
    show Go p e below _ (T.setTop (mkF m 7 #[.val (.ref r), .val (.ref a), .val (.int (Int32.ofNat i)), .val (.int (Int32.ofNat q2))] [(.int (Int32.ofNat i)), (.ref r)]))
    have hlt : i < q2 := (own_lt (by omega) (by omega)).mp hiq
    refine Go.virtV (K := "java/lang/String") (z := (⟨"java/lang/String", "charAt", "(I)C"⟩ : MethodName)) (argsL := [(.int (Int32.ofNat i))]) (rest := []) (W := 0) (w := (.int ((cs.take q2).getD i 0))) X hx hZ hown (hml.trans rfl) hT S_r.exa (hw _ (List.mem_of_getElem? (i := 122) rfl)) (hw _ (List.mem_of_getElem? (i := 123) rfl)) (hw _ (List.mem_of_getElem? (i := 125) rfl)) (hw _ (List.mem_of_getElem? (i := 124) rfl)) (by decide) pd_13 rfl rfl (Nat.le_of_ble_eq_true rfl) (hb hby d27_7) (notFace_of_selects (args := #[]) (mvT hZ (hw _ (List.mem_of_getElem? (i := 125) rfl)))) (own_chat (W := 0) hw hZ O Sc Sf S_r (fun c hc => hl c (List.mem_of_mem_take hc)) (by omega) (by decide) (by decide)) (by decide) (by decide) ?_
    intro T hT X
    show Go p e below _ (T.setTop (mkF m 10 #[.val (.ref r), .val (.ref a), .val (.int (Int32.ofNat i)), .val (.int (Int32.ofNat q2))] [(.int ((cs.take q2).getD i 0))]))
    refine Go.st (fun _ k => XS.aloadN X.here hx rfl (hb hby d27_10) rfl rfl k) ?_
    show Go p e below _ (T.setTop (mkF m 11 #[.val (.ref r), .val (.ref a), .val (.int (Int32.ofNat i)), .val (.int (Int32.ofNat q2))] [(.ref a), (.int ((cs.take q2).getD i 0))]))
    refine Go.st (fun _ k => XS.iloadN X.here hx rfl (hb hby d27_11) rfl k) ?_
    show Go p e below _ (T.setTop (mkF m 12 #[.val (.ref r), .val (.ref a), .val (.int (Int32.ofNat i)), .val (.int (Int32.ofNat q2))] [(.int (Int32.ofNat i)), (.ref a), (.int ((cs.take q2).getD i 0))]))
    refine Go.caloadN (i := i) X hx hZ hT V_a (by rw [own_clamp (by omega)]; omega) (by omega) (own_ats cs i (by omega)) (hb hby d27_12) ?_
    show Go p e below _ (T.setTop (mkF m 13 #[.val (.ref r), .val (.ref a), .val (.int (Int32.ofNat i)), .val (.int (Int32.ofNat q2))] [(.int (cs.getD i 0)), (.int ((cs.take q2).getD i 0))]))
    refine Go.st (fun _ k => XS.icmpNo X.here hx rfl (hb hby d27_13) rfl (Jvm.Free.XT.ii_ne_f (own_takeD cs hlt : ((cs.take q2).getD i 0) = (cs.getD i 0))) k) ?_
    show Go p e below _ (T.setTop (mkF m 16 #[.val (.ref r), .val (.ref a), .val (.int (Int32.ofNat i)), .val (.int (Int32.ofNat q2))] []))
    refine Go.st (fun _ k => XS.iconst X.here hx rfl (hb hby d27_16) k) ?_
    show Go p e below _ (T.setTop (mkF m 17 #[.val (.ref r), .val (.ref a), .val (.int (Int32.ofNat i)), .val (.int (Int32.ofNat q2))] [(.int (1 : Int32))]))
    refine Go.st (fun _ k => XS.goto X.here hx rfl (pc0 := 17) (pc' := 21) rfl (hb hby d27_17) (by decide) (by decide) k) ?_
    show Go p e below _ (T.setTop (mkF m 21 #[.val (.ref r), .val (.ref a), .val (.int (Int32.ofNat i)), .val (.int (Int32.ofNat q2))] [(.int (1 : Int32))]))
    refine Go.ret X hx hlk hT hret (by decide) (riI (by simp)) (hb hby d27_21) (by decide) (by decide) ?_
    exact ⟨rfl, rfl, rfl⟩
  · refine Go.st (fun _ k => XS.icmpYes X.here hx rfl (pc0 := 2) (pc' := 16) rfl (hb hby d27_2) rfl (Jvm.Free.XT.ii_ge_t hiq) (by decide) (by decide) k) ?_
    show Go p e below _ (T.setTop (mkF m 16 #[.val (.ref r), .val (.ref a), .val (.int (Int32.ofNat i)), .val (.int (Int32.ofNat q2))] []))
    refine Go.st (fun _ k => XS.iconst X.here hx rfl (hb hby d27_16) k) ?_
    show Go p e below _ (T.setTop (mkF m 17 #[.val (.ref r), .val (.ref a), .val (.int (Int32.ofNat i)), .val (.int (Int32.ofNat q2))] [(.int (1 : Int32))]))
    refine Go.st (fun _ k => XS.goto X.here hx rfl (pc0 := 17) (pc' := 21) rfl (hb hby d27_17) (by decide) (by decide) k) ?_
    show Go p e below _ (T.setTop (mkF m 21 #[.val (.ref r), .val (.ref a), .val (.int (Int32.ofNat i)), .val (.int (Int32.ofNat q2))] [(.int (1 : Int32))]))
    refine Go.ret X hx hlk hT hret (by decide) (riI (by simp)) (hb hby d27_21) (by decide) (by decide) ?_
    exact ⟨rfl, rfl, rfl⟩
theorem own_draw46 (y : Int64) {i q1 q2 : Nat} (hi : i < 2147483648) (h1 : q1 < 2147483648) (h2 : q2 < 2147483648) (h : i = q1 ∨ i = q2) : f_draw y (Int32.ofNat i) (Int32.ofNat q1) (Int32.ofNat q2) = 46 := by
  rw [f_draw]
  by_cases e : i = q1
  · rw [if_pos (by rw [e])]
  · rw [if_neg (fun z => e ((own_eqN hi h1).mp z)), if_pos (by rcases h with h | h <;> first | exact absurd h e | rw [h])]
theorem own_drawL8 (y : Int64) (i a b : Int32) : ¬ f_draw y i a b < 0 ∧ ¬ (255 : Int32) < f_draw y i a b := by
  have key : ∀ v : Int64, ¬ ((v &&& (255 : Int64)).toInt32.toUInt32.toUInt16.toUInt32.toInt32) < 0 ∧ ¬ (255 : Int32) < ((v &&& (255 : Int64)).toInt32.toUInt32.toUInt16.toUInt32.toInt32) := by
    intro v
    have h1 := c_maskL v 255 8 (by decide) (by decide)
    have h0 := c_l2i (v &&& 255)
    have hr := rng32 (v &&& 255).toInt32
    have e : ((2 ^ 8 : Nat) : Int) = 256 := by decide
    rw [h1, e] at h0
    have h2 := c_i2c (v &&& 255).toInt32
    have e1 : (255 : Int32).toInt = 255 := by decide
    constructor
    · rw [Int32.lt_iff_toInt_lt]; show ¬ _ < (0 : Int); omega
    · rw [Int32.lt_iff_toInt_lt, e1]; omega
  rw [f_draw]
  repeat' split
  all_goals first | decide | exact key _
theorem own_drawn (y : Int64) {i q1 q2 : Nat} (hi : i < 2147483648) (h1 : q1 < 2147483648) (h2 : q2 < 2147483648) (hn : ¬ i = q1) (hl : i < q2) : ¬ f_draw y (Int32.ofNat i) (Int32.ofNat q1) (Int32.ofNat q2) = 46 := by
  rw [f_draw, if_neg (fun z => hn ((own_eqN hi h1).mp z)), if_neg (fun z => absurd ((own_eqN hi h2).mp z) (by omega)), if_pos ((own_lt hi h2).mpr hl)]
  split
  · decide
  · assumption
theorem own_p1 (y : Int32) : ∃ q : Nat, q ≤ 6 ∧ (y &&& (2147483647 : Int32)) % (7 : Int32) = Int32.ofNat q := by
  have h1 := c_and y 2147483647 (by decide)
  have h2 := (c_irem (y &&& 2147483647) 7 7 (by decide)).1 h1.1
  refine ⟨((y &&& 2147483647) % 7).toInt.toNat, by omega, ?_⟩
  apply Int32.toInt_inj.mp
  rw [own_int (by omega)]; omega
theorem own_p2 (y : Int32) {q : Nat} (hq : q ≤ 6) : ∃ r : Nat, q < r ∧ r ≤ 7 ∧ (Int32.ofNat q + (1 : Int32)) + ((y &&& (2147483647 : Int32)) % ((7 : Int32) - Int32.ofNat q)) = Int32.ofNat r := by
  have h1 := c_and y 2147483647 (by decide)
  have e0 : (7 : Int32) - Int32.ofNat q = Int32.ofNat (7 - q) := own_sub (n := 7) (by omega) (by omega)
  rw [e0, own_succ]
  have h2 := (c_iremV (y &&& 2147483647) (Int32.ofNat (7 - q))).1 h1.1 (by rw [own_int (by omega)]; omega)
  rw [own_int (by omega)] at h2
  have h3 := c_iadd (Int32.ofNat (q + 1)) ((y &&& 2147483647) % Int32.ofNat (7 - q))
  rw [own_int (by omega)] at h3
  have h4 := rng32 (Int32.ofNat (q + 1) + ((y &&& 2147483647) % Int32.ofNat (7 - q)))
  refine ⟨(Int32.ofNat (q + 1) + ((y &&& 2147483647) % Int32.ofNat (7 - q))).toInt.toNat, by omega, by omega, ?_⟩
  apply Int32.toInt_inj.mp
  rw [own_int (by omega)]; omega
theorem own_p2nz {q : Nat} (hq : q ≤ 6) : (7 : Int32) - Int32.ofNat q ≠ 0 := by
  have e0 : (7 : Int32) - Int32.ofNat q = Int32.ofNat (7 - q) := own_sub (n := 7) (by omega) (by omega)
  rw [e0]; exact fun z => absurd ((own_eqN (b := 0) (by omega) (by omega)).mp z) (by omega)
abbrev L8 (y : Int32) : Prop := ¬ y < 0 ∧ ¬ (255 : Int32) < y
theorem own_narc {y : Int32} (h : L8 y) : nar .char y = y := by
  have h2 := c_i2c y
  have e0 := h.1; have e1 := h.2
  rw [Int32.lt_iff_toInt_lt] at e0 e1
  have f0 : (0 : Int32).toInt = 0 := by decide
  have f1 : (255 : Int32).toInt = 255 := by decide
  rw [f0] at e0; rw [f1] at e1
  show y.toUInt32.toUInt16.toUInt32.toInt32 = y
  apply Int32.toInt_inj.mp
  omega
theorem own_words : ∀ d ∈ StrChars.Road.words, d ∈ tables_1 := by decide +kernel
theorem pd_14 : parseMethodDescriptor "(JIII)C" = some ⟨[.long, .int, .int, .int], (some .char)⟩ := by decide +kernel
theorem pd_15 : parseMethodDescriptor "([C)V" = some ⟨[(.array .char)], none⟩ := by decide +kernel
theorem pd_16 : parseMethodDescriptor "(Ljava/lang/String;)Ljava/lang/String;" = some ⟨[(.object "java/lang/String")], (some (.object "java/lang/String"))⟩ := by decide +kernel
theorem pd_17 : parseMethodDescriptor "(Ljava/lang/String;[CII)Z" = some ⟨[(.object "java/lang/String"), (.array .char), .int, .int], (some .boolean)⟩ := by decide +kernel
def QLaw (n0 : Nat) (v : Option Value) (h : Heap) (L : List Loc) : Prop := v = some (.int 1) ∧ Fr n0 L
theorem pn_19 : plainFor x = true := by first | exact plainFor_of_name (by first | (simp [plainName, overriddenIn]; done) | decide +kernel) | decide +kernel
theorem ef_IIJ_9 (m : MethodId) (y0 : Int32) (y1 : Int32) (y2 : Int64) : entryFrame m #[(.int y0), (.int y1), (.long y2)] 9 = mkF m 0 #[.val (.int y0), .val (.int y1), .val (.long y2), .second, .unset, .unset, .unset, .unset, .unset] [] := by first | (simp [entryFrame, mkF, argsToLocals, Value.category]; done) | rfl
set_option maxRecDepth 65536 in
set_option maxHeartbeats 40000000 in
theorem met_law (l : Launch) (Z : State) (a0 : Array Value) (hw : ∀ d ∈ tables_1, d.before a0 Z = true) (ws : List Jvm.Cond) (p0 p1 : Int32) (p2 : Int64) (z : Int32) (fm : Value) (n0 : Nat) (h0 : Heap) (O : Old Z n0 h0) (Sc : Stat Z z) (Sf : StF Z fm) :
    MetFree l x (head1 (Jvm.Cond.code x code maxLocals ret :: ws) room_1) (fun aa U => aa = #[(.int p0), (.int p1), (.long p2)] ∧ Z.Warmed39 U.vm ∧ U.heap = h0) (fun _ _ _ _ _ => True) (fun _ U o U' => ∃ v L, o = .returned v ∧ QLaw n0 v U'.heap L ∧ FrameEnd U o U' L room_1.cells room_1.slots) := by
  refine openP (y := x) pn_19 ?_
  intro p e s m below meth c T hx hby hml hret hlk hnm hZ hown X hT
  refine Go.st (fun _ k => castTop (ef_IIJ_9 m p0 p1 p2) k) ?_
  show Go p e below _ (T.setTop (mkF m 0 #[.val (.int p0), .val (.int p1), .val (.long p2), .second, .unset, .unset, .unset, .unset, .unset] []))
  have N := Fr.nil n0
  refine Go.st (fun _ k => XS.iloadN X.here hx rfl (hb hby at_0) rfl k) ?_
  show Go p e below _ (T.setTop (mkF m 1 #[.val (.int p0), .val (.int p1), .val (.long p2), .second, .unset, .unset, .unset, .unset, .unset] [(.int p0)]))
  refine Go.st (fun _ k => X.ldcI hx hown (mvT hZ (hw _ (List.mem_of_getElem? (i := 0) rfl))) rfl (hb hby at_1) k) ?_
  show Go p e below _ (T.setTop (mkF m 3 #[.val (.int p0), .val (.int p1), .val (.long p2), .second, .unset, .unset, .unset, .unset, .unset] [(.int (2147483647 : Int32)), (.int p0)]))
  refine Go.st (fun _ k => XS.iand X.here hx rfl (hb hby at_3) rfl k) ?_
  show Go p e below _ (T.setTop (mkF m 4 #[.val (.int p0), .val (.int p1), .val (.long p2), .second, .unset, .unset, .unset, .unset, .unset] [(.int (p0 &&& (2147483647 : Int32)))]))
  refine Go.st (fun _ k => XS.bipush X.here hx rfl (hb hby at_4) k) ?_
  show Go p e below _ (T.setTop (mkF m 6 #[.val (.int p0), .val (.int p1), .val (.long p2), .second, .unset, .unset, .unset, .unset, .unset] [(.int (7 : Int32)), (.int (p0 &&& (2147483647 : Int32)))]))
  refine Go.st (fun _ k => iremM X hx rfl (hb hby at_6) rfl (by decide) k) ?_
  show Go p e below _ (T.setTop (mkF m 7 #[.val (.int p0), .val (.int p1), .val (.long p2), .second, .unset, .unset, .unset, .unset, .unset] [(.int ((p0 &&& (2147483647 : Int32)) % (7 : Int32)))]))
  obtain ⟨q1, hq1, e1⟩ := own_p1 p0
  rw [e1]
  show Go p e below _ (T.setTop (mkF m 7 #[.val (.int p0), .val (.int p1), .val (.long p2), .second, .unset, .unset, .unset, .unset, .unset] [(.int (Int32.ofNat q1))]))
  refine Go.st (fun _ k => XS.istore X.here hx rfl (hb hby at_7) rfl (l' := #[.val (.int p0), .val (.int p1), .val (.long p2), .second, .val (.int (Int32.ofNat q1)), .unset, .unset, .unset, .unset]) rfl k) ?_
  show Go p e below _ (T.setTop (mkF m 9 #[.val (.int p0), .val (.int p1), .val (.long p2), .second, .val (.int (Int32.ofNat q1)), .unset, .unset, .unset, .unset] []))
  refine Go.st (fun _ k => XS.iload X.here hx rfl (hb hby at_9) rfl k) ?_
  show Go p e below _ (T.setTop (mkF m 11 #[.val (.int p0), .val (.int p1), .val (.long p2), .second, .val (.int (Int32.ofNat q1)), .unset, .unset, .unset, .unset] [(.int (Int32.ofNat q1))]))
  refine Go.st (fun _ k => XS.iconst X.here hx rfl (hb hby at_11) k) ?_
  show Go p e below _ (T.setTop (mkF m 12 #[.val (.int p0), .val (.int p1), .val (.long p2), .second, .val (.int (Int32.ofNat q1)), .unset, .unset, .unset, .unset] [(.int (1 : Int32)), (.int (Int32.ofNat q1))]))
  refine Go.st (fun _ k => XS.iadd X.here hx rfl (hb hby at_12) rfl k) ?_
  show Go p e below _ (T.setTop (mkF m 13 #[.val (.int p0), .val (.int p1), .val (.long p2), .second, .val (.int (Int32.ofNat q1)), .unset, .unset, .unset, .unset] [(.int ((Int32.ofNat q1) + (1 : Int32)))]))
  refine Go.st (fun _ k => XS.iloadN X.here hx rfl (hb hby at_13) rfl k) ?_
  show Go p e below _ (T.setTop (mkF m 14 #[.val (.int p0), .val (.int p1), .val (.long p2), .second, .val (.int (Int32.ofNat q1)), .unset, .unset, .unset, .unset] [(.int p1), (.int ((Int32.ofNat q1) + (1 : Int32)))]))
  refine Go.st (fun _ k => X.ldcI hx hown (mvT hZ (hw _ (List.mem_of_getElem? (i := 0) rfl))) rfl (hb hby at_14) k) ?_
  show Go p e below _ (T.setTop (mkF m 16 #[.val (.int p0), .val (.int p1), .val (.long p2), .second, .val (.int (Int32.ofNat q1)), .unset, .unset, .unset, .unset] [(.int (2147483647 : Int32)), (.int p1), (.int ((Int32.ofNat q1) + (1 : Int32)))]))
  refine Go.st (fun _ k => XS.iand X.here hx rfl (hb hby at_16) rfl k) ?_
  show Go p e below _ (T.setTop (mkF m 17 #[.val (.int p0), .val (.int p1), .val (.long p2), .second, .val (.int (Int32.ofNat q1)), .unset, .unset, .unset, .unset] [(.int (p1 &&& (2147483647 : Int32))), (.int ((Int32.ofNat q1) + (1 : Int32)))]))
  refine Go.st (fun _ k => XS.bipush X.here hx rfl (hb hby at_17) k) ?_
  show Go p e below _ (T.setTop (mkF m 19 #[.val (.int p0), .val (.int p1), .val (.long p2), .second, .val (.int (Int32.ofNat q1)), .unset, .unset, .unset, .unset] [(.int (7 : Int32)), (.int (p1 &&& (2147483647 : Int32))), (.int ((Int32.ofNat q1) + (1 : Int32)))]))
  refine Go.st (fun _ k => XS.iload X.here hx rfl (hb hby at_19) rfl k) ?_
  show Go p e below _ (T.setTop (mkF m 21 #[.val (.int p0), .val (.int p1), .val (.long p2), .second, .val (.int (Int32.ofNat q1)), .unset, .unset, .unset, .unset] [(.int (Int32.ofNat q1)), (.int (7 : Int32)), (.int (p1 &&& (2147483647 : Int32))), (.int ((Int32.ofNat q1) + (1 : Int32)))]))
  refine Go.st (fun _ k => XS.isub X.here hx rfl (hb hby at_21) rfl k) ?_
  show Go p e below _ (T.setTop (mkF m 22 #[.val (.int p0), .val (.int p1), .val (.long p2), .second, .val (.int (Int32.ofNat q1)), .unset, .unset, .unset, .unset] [(.int ((7 : Int32) - (Int32.ofNat q1))), (.int (p1 &&& (2147483647 : Int32))), (.int ((Int32.ofNat q1) + (1 : Int32)))]))
  refine Go.st (fun _ k => iremM X hx rfl (hb hby at_22) rfl (own_p2nz hq1) k) ?_
  show Go p e below _ (T.setTop (mkF m 23 #[.val (.int p0), .val (.int p1), .val (.long p2), .second, .val (.int (Int32.ofNat q1)), .unset, .unset, .unset, .unset] [(.int ((p1 &&& (2147483647 : Int32)) % ((7 : Int32) - (Int32.ofNat q1)))), (.int ((Int32.ofNat q1) + (1 : Int32)))]))
  refine Go.st (fun _ k => XS.iadd X.here hx rfl (hb hby at_23) rfl k) ?_
  show Go p e below _ (T.setTop (mkF m 24 #[.val (.int p0), .val (.int p1), .val (.long p2), .second, .val (.int (Int32.ofNat q1)), .unset, .unset, .unset, .unset] [(.int (((Int32.ofNat q1) + (1 : Int32)) + ((p1 &&& (2147483647 : Int32)) % ((7 : Int32) - (Int32.ofNat q1)))))]))
  obtain ⟨q2, h12, hq2, e2⟩ := own_p2 p1 hq1
  rw [e2]
  show Go p e below _ (T.setTop (mkF m 24 #[.val (.int p0), .val (.int p1), .val (.long p2), .second, .val (.int (Int32.ofNat q1)), .unset, .unset, .unset, .unset] [(.int (Int32.ofNat q2))]))
  refine Go.st (fun _ k => XS.istore X.here hx rfl (hb hby at_24) rfl (l' := #[.val (.int p0), .val (.int p1), .val (.long p2), .second, .val (.int (Int32.ofNat q1)), .val (.int (Int32.ofNat q2)), .unset, .unset, .unset]) rfl k) ?_
  show Go p e below _ (T.setTop (mkF m 26 #[.val (.int p0), .val (.int p1), .val (.long p2), .second, .val (.int (Int32.ofNat q1)), .val (.int (Int32.ofNat q2)), .unset, .unset, .unset] []))
  refine Go.st (fun _ k => XS.bipush X.here hx rfl (hb hby at_26) k) ?_
  show Go p e below _ (T.setTop (mkF m 28 #[.val (.int p0), .val (.int p1), .val (.long p2), .second, .val (.int (Int32.ofNat q1)), .val (.int (Int32.ofNat q2)), .unset, .unset, .unset] [(.int (8 : Int32))]))
  obtain ⟨T, h1, k_b, X, hT, Ex0, A_b, st⟩ := newP X hx hZ (hw _ (List.mem_of_getElem? (i := 1) rfl)) hT (g := (mkF m 28 #[.val (.int p0), .val (.int p1), .val (.long p2), .second, .val (.int (Int32.ofNat q1)), .val (.int (Int32.ofNat q2)), .unset, .unset, .unset] [(.int (8 : Int32))])) rfl (hb hby at_28) rfl (by decide : ¬ ((8 : Int32) < (0 : Int32))) (cap := 8) (by decide) (by decide) (by decide) (by decide)
  obtain ⟨b, g_b⟩ : ∃ z, z = h0.size := ⟨_, rfl⟩
  rw [← g_b] at A_b st
  refine Go.st st ?_
  have ge_b : n0 ≤ b := Nat.le_trans (own_le (O)) (Nat.le_of_eq g_b.symm)
  have gk_b : h0.size ≤ b := Nat.le_trans (Keep.refl h0 []).1 (Nat.le_of_eq g_b.symm)
  have KB := (Keep.refl h0 []).ext Ex0
  have V_b : Arv Z _ b k_b .char (8 : Int32) [(.int (0 : Int32)), (.int (0 : Int32)), (.int (0 : Int32)), (.int (0 : Int32)), (.int (0 : Int32)), (.int (0 : Int32)), (.int (0 : Int32)), (.int (0 : Int32))] (.int (0 : Int32)) := (Arv.new A_b (by decide)).pad (pad_rep [] (.int (0 : Int32)) 8)
  show Go p e below _ (T.setTop (mkF m 30 #[.val (.int p0), .val (.int p1), .val (.long p2), .second, .val (.int (Int32.ofNat q1)), .val (.int (Int32.ofNat q2)), .unset, .unset, .unset] [(.ref b)]))
  refine Go.st (fun _ k => XS.astore X.here hx rfl (hb hby at_30) rfl rfl (l' := #[.val (.int p0), .val (.int p1), .val (.long p2), .second, .val (.int (Int32.ofNat q1)), .val (.int (Int32.ofNat q2)), .val (.ref b), .unset, .unset]) rfl k) ?_
  show Go p e below _ (T.setTop (mkF m 32 #[.val (.int p0), .val (.int p1), .val (.long p2), .second, .val (.int (Int32.ofNat q1)), .val (.int (Int32.ofNat q2)), .val (.ref b), .unset, .unset] []))
  refine Go.st (fun _ k => XS.aload X.here hx rfl (hb hby at_32) rfl rfl k) ?_
  show Go p e below _ (T.setTop (mkF m 34 #[.val (.int p0), .val (.int p1), .val (.long p2), .second, .val (.int (Int32.ofNat q1)), .val (.int (Int32.ofNat q2)), .val (.ref b), .unset, .unset] [(.ref b)]))
  refine Go.st (fun _ k => XS.iconst X.here hx rfl (hb hby at_34) k) ?_
  show Go p e below _ (T.setTop (mkF m 35 #[.val (.int p0), .val (.int p1), .val (.long p2), .second, .val (.int (Int32.ofNat q1)), .val (.int (Int32.ofNat q2)), .val (.ref b), .unset, .unset] [(.int (0 : Int32)), (.ref b)]))
  refine Go.st (fun _ k => XS.lloadN X.here hx rfl (hb hby at_35) rfl k) ?_
  show Go p e below _ (T.setTop (mkF m 36 #[.val (.int p0), .val (.int p1), .val (.long p2), .second, .val (.int (Int32.ofNat q1)), .val (.int (Int32.ofNat q2)), .val (.ref b), .unset, .unset] [(.long p2), (.int (0 : Int32)), (.ref b)]))
  refine Go.st (fun _ k => XS.iconst X.here hx rfl (hb hby at_36) k) ?_
  show Go p e below _ (T.setTop (mkF m 37 #[.val (.int p0), .val (.int p1), .val (.long p2), .second, .val (.int (Int32.ofNat q1)), .val (.int (Int32.ofNat q2)), .val (.ref b), .unset, .unset] [(.int (0 : Int32)), (.long p2), (.int (0 : Int32)), (.ref b)]))
  refine Go.st (fun _ k => XS.iload X.here hx rfl (hb hby at_37) rfl k) ?_
  show Go p e below _ (T.setTop (mkF m 39 #[.val (.int p0), .val (.int p1), .val (.long p2), .second, .val (.int (Int32.ofNat q1)), .val (.int (Int32.ofNat q2)), .val (.ref b), .unset, .unset] [(.int (Int32.ofNat q1)), (.int (0 : Int32)), (.long p2), (.int (0 : Int32)), (.ref b)]))
  refine Go.st (fun _ k => XS.iload X.here hx rfl (hb hby at_39) rfl k) ?_
  show Go p e below _ (T.setTop (mkF m 41 #[.val (.int p0), .val (.int p1), .val (.long p2), .second, .val (.int (Int32.ofNat q1)), .val (.int (Int32.ofNat q2)), .val (.ref b), .unset, .unset] [(.int (Int32.ofNat q2)), (.int (Int32.ofNat q1)), (.int (0 : Int32)), (.long p2), (.int (0 : Int32)), (.ref b)]))
  refine Go.callV (argsL := [(.long p2), (.int (0 : Int32)), (.int (Int32.ofNat q1)), (.int (Int32.ofNat q2))]) (rest := [(.int (0 : Int32)), (.ref b)]) (W := 2) X hx hZ hown (hml.trans rfl) hT (hw _ (List.mem_of_getElem? (i := 2) rfl)) (hw _ (List.mem_of_getElem? (i := 3) rfl)) (hw _ (List.mem_of_getElem? (i := 4) rfl)) (hw _ (List.mem_of_getElem? (i := 5) rfl)) (by decide) pd_14 rfl rfl (Nat.le_of_ble_eq_true rfl) (hb hby at_41) (backOf (W := 2) (met_draw l Z a0 hw [] p2 (0 : Int32) (Int32.ofNat q1) (Int32.ofNat q2) _) hZ (hw _ (List.mem_of_getElem? (i := 5) rfl)) (hw _ (List.mem_of_getElem? (i := 4) rfl)) (by decide) (by decide)) (by decide) (by decide) ?_
  intro T hT X
  show Go p e below _ (T.setTop (mkF m 44 #[.val (.int p0), .val (.int p1), .val (.long p2), .second, .val (.int (Int32.ofNat q1)), .val (.int (Int32.ofNat q2)), .val (.ref b), .unset, .unset] [(.int (f_draw p2 (0 : Int32) (Int32.ofNat q1) (Int32.ofNat q2))), (.int (0 : Int32)), (.ref b)]))
  obtain ⟨d0, hd0⟩ : ∃ z, z = (f_draw p2 (0 : Int32) (Int32.ofNat q1) (Int32.ofNat q2)) := ⟨_, rfl⟩
  rw [← hd0]
  show Go p e below _ (T.setTop (mkF m 44 #[.val (.int p0), .val (.int p1), .val (.long p2), .second, .val (.int (Int32.ofNat q1)), .val (.int (Int32.ofNat q2)), .val (.ref b), .unset, .unset] [(.int d0), (.int (0 : Int32)), (.ref b)]))
  have l0 : L8 d0 := hd0 ▸ own_drawL8 _ _ _ _
  obtain ⟨cl0, Ar0, q0, S0, M0, H0, U0⟩ := id V_b
  obtain ⟨T, h2, X, hT, Wr0, st⟩ := stC X hx hZ hT Ar0 (j := (0 : Int32)) (inb_of S0 ⟨(by decide : ¬ ((0 : Int32) < (0 : Int32))), (by decide : (0 : Int32) < (8 : Int32))⟩) (g := (mkF m 44 #[.val (.int p0), .val (.int p1), .val (.long p2), .second, .val (.int (Int32.ofNat q1)), .val (.int (Int32.ofNat q2)), .val (.ref b), .unset, .unset] [(.int d0), (.int (0 : Int32)), (.ref b)])) rfl rfl (hb hby at_44)
  refine Go.st st ?_
  have N := Fr.snoc X N ge_b
  have KB := (KB).wr Wr0 (Or.inr gk_b)
  have V_b : Arv Z _ b k_b .char (8 : Int32) [(.int (nar .char d0)), (.int (0 : Int32)), (.int (0 : Int32)), (.int (0 : Int32)), (.int (0 : Int32)), (.int (0 : Int32)), (.int (0 : Int32)), (.int (0 : Int32))] (.int (0 : Int32)) := Arv.set Ar0 q0 S0 M0 H0 U0 (fits_nar_char _) Wr0 0 rfl (Nat.le_of_ble_eq_true rfl)
  show Go p e below _ (T.setTop (mkF m 45 #[.val (.int p0), .val (.int p1), .val (.long p2), .second, .val (.int (Int32.ofNat q1)), .val (.int (Int32.ofNat q2)), .val (.ref b), .unset, .unset] []))
  refine Go.st (fun _ k => XS.aload X.here hx rfl (hb hby at_45) rfl rfl k) ?_
  show Go p e below _ (T.setTop (mkF m 47 #[.val (.int p0), .val (.int p1), .val (.long p2), .second, .val (.int (Int32.ofNat q1)), .val (.int (Int32.ofNat q2)), .val (.ref b), .unset, .unset] [(.ref b)]))
  refine Go.st (fun _ k => XS.iconst X.here hx rfl (hb hby at_47) k) ?_
  show Go p e below _ (T.setTop (mkF m 48 #[.val (.int p0), .val (.int p1), .val (.long p2), .second, .val (.int (Int32.ofNat q1)), .val (.int (Int32.ofNat q2)), .val (.ref b), .unset, .unset] [(.int (1 : Int32)), (.ref b)]))
  refine Go.st (fun _ k => XS.lloadN X.here hx rfl (hb hby at_48) rfl k) ?_
  show Go p e below _ (T.setTop (mkF m 49 #[.val (.int p0), .val (.int p1), .val (.long p2), .second, .val (.int (Int32.ofNat q1)), .val (.int (Int32.ofNat q2)), .val (.ref b), .unset, .unset] [(.long p2), (.int (1 : Int32)), (.ref b)]))
  refine Go.st (fun _ k => XS.iconst X.here hx rfl (hb hby at_49) k) ?_
  show Go p e below _ (T.setTop (mkF m 50 #[.val (.int p0), .val (.int p1), .val (.long p2), .second, .val (.int (Int32.ofNat q1)), .val (.int (Int32.ofNat q2)), .val (.ref b), .unset, .unset] [(.int (1 : Int32)), (.long p2), (.int (1 : Int32)), (.ref b)]))
  refine Go.st (fun _ k => XS.iload X.here hx rfl (hb hby at_50) rfl k) ?_
  show Go p e below _ (T.setTop (mkF m 52 #[.val (.int p0), .val (.int p1), .val (.long p2), .second, .val (.int (Int32.ofNat q1)), .val (.int (Int32.ofNat q2)), .val (.ref b), .unset, .unset] [(.int (Int32.ofNat q1)), (.int (1 : Int32)), (.long p2), (.int (1 : Int32)), (.ref b)]))
  refine Go.st (fun _ k => XS.iload X.here hx rfl (hb hby at_52) rfl k) ?_
  show Go p e below _ (T.setTop (mkF m 54 #[.val (.int p0), .val (.int p1), .val (.long p2), .second, .val (.int (Int32.ofNat q1)), .val (.int (Int32.ofNat q2)), .val (.ref b), .unset, .unset] [(.int (Int32.ofNat q2)), (.int (Int32.ofNat q1)), (.int (1 : Int32)), (.long p2), (.int (1 : Int32)), (.ref b)]))
  refine Go.callV (argsL := [(.long p2), (.int (1 : Int32)), (.int (Int32.ofNat q1)), (.int (Int32.ofNat q2))]) (rest := [(.int (1 : Int32)), (.ref b)]) (W := 2) X hx hZ hown (hml.trans rfl) hT (hw _ (List.mem_of_getElem? (i := 2) rfl)) (hw _ (List.mem_of_getElem? (i := 3) rfl)) (hw _ (List.mem_of_getElem? (i := 4) rfl)) (hw _ (List.mem_of_getElem? (i := 5) rfl)) (by decide) pd_14 rfl rfl (Nat.le_of_ble_eq_true rfl) (hb hby at_54) (backOf (W := 2) (met_draw l Z a0 hw [] p2 (1 : Int32) (Int32.ofNat q1) (Int32.ofNat q2) _) hZ (hw _ (List.mem_of_getElem? (i := 5) rfl)) (hw _ (List.mem_of_getElem? (i := 4) rfl)) (by decide) (by decide)) (by decide) (by decide) ?_
  intro T hT X
  show Go p e below _ (T.setTop (mkF m 57 #[.val (.int p0), .val (.int p1), .val (.long p2), .second, .val (.int (Int32.ofNat q1)), .val (.int (Int32.ofNat q2)), .val (.ref b), .unset, .unset] [(.int (f_draw p2 (1 : Int32) (Int32.ofNat q1) (Int32.ofNat q2))), (.int (1 : Int32)), (.ref b)]))
  obtain ⟨d1, hd1⟩ : ∃ z, z = (f_draw p2 (1 : Int32) (Int32.ofNat q1) (Int32.ofNat q2)) := ⟨_, rfl⟩
  rw [← hd1]
  show Go p e below _ (T.setTop (mkF m 57 #[.val (.int p0), .val (.int p1), .val (.long p2), .second, .val (.int (Int32.ofNat q1)), .val (.int (Int32.ofNat q2)), .val (.ref b), .unset, .unset] [(.int d1), (.int (1 : Int32)), (.ref b)]))
  have l1 : L8 d1 := hd1 ▸ own_drawL8 _ _ _ _
  obtain ⟨cl0, Ar0, q0, S0, M0, H0, U0⟩ := id V_b
  obtain ⟨T, h3, X, hT, Wr0, st⟩ := stC X hx hZ hT Ar0 (j := (1 : Int32)) (inb_of S0 ⟨(by decide : ¬ ((1 : Int32) < (0 : Int32))), (by decide : (1 : Int32) < (8 : Int32))⟩) (g := (mkF m 57 #[.val (.int p0), .val (.int p1), .val (.long p2), .second, .val (.int (Int32.ofNat q1)), .val (.int (Int32.ofNat q2)), .val (.ref b), .unset, .unset] [(.int d1), (.int (1 : Int32)), (.ref b)])) rfl rfl (hb hby at_57)
  refine Go.st st ?_
  have N := Fr.snoc X N ge_b
  have KB := (KB).wr Wr0 (Or.inr gk_b)
  have V_b : Arv Z _ b k_b .char (8 : Int32) [(.int (nar .char d0)), (.int (nar .char d1)), (.int (0 : Int32)), (.int (0 : Int32)), (.int (0 : Int32)), (.int (0 : Int32)), (.int (0 : Int32)), (.int (0 : Int32))] (.int (0 : Int32)) := Arv.set Ar0 q0 S0 M0 H0 U0 (fits_nar_char _) Wr0 1 rfl (Nat.le_of_ble_eq_true rfl)
  show Go p e below _ (T.setTop (mkF m 58 #[.val (.int p0), .val (.int p1), .val (.long p2), .second, .val (.int (Int32.ofNat q1)), .val (.int (Int32.ofNat q2)), .val (.ref b), .unset, .unset] []))
  refine Go.st (fun _ k => XS.aload X.here hx rfl (hb hby at_58) rfl rfl k) ?_
  show Go p e below _ (T.setTop (mkF m 60 #[.val (.int p0), .val (.int p1), .val (.long p2), .second, .val (.int (Int32.ofNat q1)), .val (.int (Int32.ofNat q2)), .val (.ref b), .unset, .unset] [(.ref b)]))
  refine Go.st (fun _ k => XS.iconst X.here hx rfl (hb hby at_60) k) ?_
  show Go p e below _ (T.setTop (mkF m 61 #[.val (.int p0), .val (.int p1), .val (.long p2), .second, .val (.int (Int32.ofNat q1)), .val (.int (Int32.ofNat q2)), .val (.ref b), .unset, .unset] [(.int (2 : Int32)), (.ref b)]))
  refine Go.st (fun _ k => XS.lloadN X.here hx rfl (hb hby at_61) rfl k) ?_
  show Go p e below _ (T.setTop (mkF m 62 #[.val (.int p0), .val (.int p1), .val (.long p2), .second, .val (.int (Int32.ofNat q1)), .val (.int (Int32.ofNat q2)), .val (.ref b), .unset, .unset] [(.long p2), (.int (2 : Int32)), (.ref b)]))
  refine Go.st (fun _ k => XS.iconst X.here hx rfl (hb hby at_62) k) ?_
  show Go p e below _ (T.setTop (mkF m 63 #[.val (.int p0), .val (.int p1), .val (.long p2), .second, .val (.int (Int32.ofNat q1)), .val (.int (Int32.ofNat q2)), .val (.ref b), .unset, .unset] [(.int (2 : Int32)), (.long p2), (.int (2 : Int32)), (.ref b)]))
  refine Go.st (fun _ k => XS.iload X.here hx rfl (hb hby at_63) rfl k) ?_
  show Go p e below _ (T.setTop (mkF m 65 #[.val (.int p0), .val (.int p1), .val (.long p2), .second, .val (.int (Int32.ofNat q1)), .val (.int (Int32.ofNat q2)), .val (.ref b), .unset, .unset] [(.int (Int32.ofNat q1)), (.int (2 : Int32)), (.long p2), (.int (2 : Int32)), (.ref b)]))
  refine Go.st (fun _ k => XS.iload X.here hx rfl (hb hby at_65) rfl k) ?_
  show Go p e below _ (T.setTop (mkF m 67 #[.val (.int p0), .val (.int p1), .val (.long p2), .second, .val (.int (Int32.ofNat q1)), .val (.int (Int32.ofNat q2)), .val (.ref b), .unset, .unset] [(.int (Int32.ofNat q2)), (.int (Int32.ofNat q1)), (.int (2 : Int32)), (.long p2), (.int (2 : Int32)), (.ref b)]))
  refine Go.callV (argsL := [(.long p2), (.int (2 : Int32)), (.int (Int32.ofNat q1)), (.int (Int32.ofNat q2))]) (rest := [(.int (2 : Int32)), (.ref b)]) (W := 2) X hx hZ hown (hml.trans rfl) hT (hw _ (List.mem_of_getElem? (i := 2) rfl)) (hw _ (List.mem_of_getElem? (i := 3) rfl)) (hw _ (List.mem_of_getElem? (i := 4) rfl)) (hw _ (List.mem_of_getElem? (i := 5) rfl)) (by decide) pd_14 rfl rfl (Nat.le_of_ble_eq_true rfl) (hb hby at_67) (backOf (W := 2) (met_draw l Z a0 hw [] p2 (2 : Int32) (Int32.ofNat q1) (Int32.ofNat q2) _) hZ (hw _ (List.mem_of_getElem? (i := 5) rfl)) (hw _ (List.mem_of_getElem? (i := 4) rfl)) (by decide) (by decide)) (by decide) (by decide) ?_
  intro T hT X
  show Go p e below _ (T.setTop (mkF m 70 #[.val (.int p0), .val (.int p1), .val (.long p2), .second, .val (.int (Int32.ofNat q1)), .val (.int (Int32.ofNat q2)), .val (.ref b), .unset, .unset] [(.int (f_draw p2 (2 : Int32) (Int32.ofNat q1) (Int32.ofNat q2))), (.int (2 : Int32)), (.ref b)]))
  obtain ⟨d2, hd2⟩ : ∃ z, z = (f_draw p2 (2 : Int32) (Int32.ofNat q1) (Int32.ofNat q2)) := ⟨_, rfl⟩
  rw [← hd2]
  show Go p e below _ (T.setTop (mkF m 70 #[.val (.int p0), .val (.int p1), .val (.long p2), .second, .val (.int (Int32.ofNat q1)), .val (.int (Int32.ofNat q2)), .val (.ref b), .unset, .unset] [(.int d2), (.int (2 : Int32)), (.ref b)]))
  have l2 : L8 d2 := hd2 ▸ own_drawL8 _ _ _ _
  obtain ⟨cl0, Ar0, q0, S0, M0, H0, U0⟩ := id V_b
  obtain ⟨T, h4, X, hT, Wr0, st⟩ := stC X hx hZ hT Ar0 (j := (2 : Int32)) (inb_of S0 ⟨(by decide : ¬ ((2 : Int32) < (0 : Int32))), (by decide : (2 : Int32) < (8 : Int32))⟩) (g := (mkF m 70 #[.val (.int p0), .val (.int p1), .val (.long p2), .second, .val (.int (Int32.ofNat q1)), .val (.int (Int32.ofNat q2)), .val (.ref b), .unset, .unset] [(.int d2), (.int (2 : Int32)), (.ref b)])) rfl rfl (hb hby at_70)
  refine Go.st st ?_
  have N := Fr.snoc X N ge_b
  have KB := (KB).wr Wr0 (Or.inr gk_b)
  have V_b : Arv Z _ b k_b .char (8 : Int32) [(.int (nar .char d0)), (.int (nar .char d1)), (.int (nar .char d2)), (.int (0 : Int32)), (.int (0 : Int32)), (.int (0 : Int32)), (.int (0 : Int32)), (.int (0 : Int32))] (.int (0 : Int32)) := Arv.set Ar0 q0 S0 M0 H0 U0 (fits_nar_char _) Wr0 2 rfl (Nat.le_of_ble_eq_true rfl)
  show Go p e below _ (T.setTop (mkF m 71 #[.val (.int p0), .val (.int p1), .val (.long p2), .second, .val (.int (Int32.ofNat q1)), .val (.int (Int32.ofNat q2)), .val (.ref b), .unset, .unset] []))
  refine Go.st (fun _ k => XS.aload X.here hx rfl (hb hby at_71) rfl rfl k) ?_
  show Go p e below _ (T.setTop (mkF m 73 #[.val (.int p0), .val (.int p1), .val (.long p2), .second, .val (.int (Int32.ofNat q1)), .val (.int (Int32.ofNat q2)), .val (.ref b), .unset, .unset] [(.ref b)]))
  refine Go.st (fun _ k => XS.iconst X.here hx rfl (hb hby at_73) k) ?_
  show Go p e below _ (T.setTop (mkF m 74 #[.val (.int p0), .val (.int p1), .val (.long p2), .second, .val (.int (Int32.ofNat q1)), .val (.int (Int32.ofNat q2)), .val (.ref b), .unset, .unset] [(.int (3 : Int32)), (.ref b)]))
  refine Go.st (fun _ k => XS.lloadN X.here hx rfl (hb hby at_74) rfl k) ?_
  show Go p e below _ (T.setTop (mkF m 75 #[.val (.int p0), .val (.int p1), .val (.long p2), .second, .val (.int (Int32.ofNat q1)), .val (.int (Int32.ofNat q2)), .val (.ref b), .unset, .unset] [(.long p2), (.int (3 : Int32)), (.ref b)]))
  refine Go.st (fun _ k => XS.iconst X.here hx rfl (hb hby at_75) k) ?_
  show Go p e below _ (T.setTop (mkF m 76 #[.val (.int p0), .val (.int p1), .val (.long p2), .second, .val (.int (Int32.ofNat q1)), .val (.int (Int32.ofNat q2)), .val (.ref b), .unset, .unset] [(.int (3 : Int32)), (.long p2), (.int (3 : Int32)), (.ref b)]))
  refine Go.st (fun _ k => XS.iload X.here hx rfl (hb hby at_76) rfl k) ?_
  show Go p e below _ (T.setTop (mkF m 78 #[.val (.int p0), .val (.int p1), .val (.long p2), .second, .val (.int (Int32.ofNat q1)), .val (.int (Int32.ofNat q2)), .val (.ref b), .unset, .unset] [(.int (Int32.ofNat q1)), (.int (3 : Int32)), (.long p2), (.int (3 : Int32)), (.ref b)]))
  refine Go.st (fun _ k => XS.iload X.here hx rfl (hb hby at_78) rfl k) ?_
  show Go p e below _ (T.setTop (mkF m 80 #[.val (.int p0), .val (.int p1), .val (.long p2), .second, .val (.int (Int32.ofNat q1)), .val (.int (Int32.ofNat q2)), .val (.ref b), .unset, .unset] [(.int (Int32.ofNat q2)), (.int (Int32.ofNat q1)), (.int (3 : Int32)), (.long p2), (.int (3 : Int32)), (.ref b)]))
  refine Go.callV (argsL := [(.long p2), (.int (3 : Int32)), (.int (Int32.ofNat q1)), (.int (Int32.ofNat q2))]) (rest := [(.int (3 : Int32)), (.ref b)]) (W := 2) X hx hZ hown (hml.trans rfl) hT (hw _ (List.mem_of_getElem? (i := 2) rfl)) (hw _ (List.mem_of_getElem? (i := 3) rfl)) (hw _ (List.mem_of_getElem? (i := 4) rfl)) (hw _ (List.mem_of_getElem? (i := 5) rfl)) (by decide) pd_14 rfl rfl (Nat.le_of_ble_eq_true rfl) (hb hby at_80) (backOf (W := 2) (met_draw l Z a0 hw [] p2 (3 : Int32) (Int32.ofNat q1) (Int32.ofNat q2) _) hZ (hw _ (List.mem_of_getElem? (i := 5) rfl)) (hw _ (List.mem_of_getElem? (i := 4) rfl)) (by decide) (by decide)) (by decide) (by decide) ?_
  intro T hT X
  show Go p e below _ (T.setTop (mkF m 83 #[.val (.int p0), .val (.int p1), .val (.long p2), .second, .val (.int (Int32.ofNat q1)), .val (.int (Int32.ofNat q2)), .val (.ref b), .unset, .unset] [(.int (f_draw p2 (3 : Int32) (Int32.ofNat q1) (Int32.ofNat q2))), (.int (3 : Int32)), (.ref b)]))
  obtain ⟨d3, hd3⟩ : ∃ z, z = (f_draw p2 (3 : Int32) (Int32.ofNat q1) (Int32.ofNat q2)) := ⟨_, rfl⟩
  rw [← hd3]
  show Go p e below _ (T.setTop (mkF m 83 #[.val (.int p0), .val (.int p1), .val (.long p2), .second, .val (.int (Int32.ofNat q1)), .val (.int (Int32.ofNat q2)), .val (.ref b), .unset, .unset] [(.int d3), (.int (3 : Int32)), (.ref b)]))
  have l3 : L8 d3 := hd3 ▸ own_drawL8 _ _ _ _
  obtain ⟨cl0, Ar0, q0, S0, M0, H0, U0⟩ := id V_b
  obtain ⟨T, h5, X, hT, Wr0, st⟩ := stC X hx hZ hT Ar0 (j := (3 : Int32)) (inb_of S0 ⟨(by decide : ¬ ((3 : Int32) < (0 : Int32))), (by decide : (3 : Int32) < (8 : Int32))⟩) (g := (mkF m 83 #[.val (.int p0), .val (.int p1), .val (.long p2), .second, .val (.int (Int32.ofNat q1)), .val (.int (Int32.ofNat q2)), .val (.ref b), .unset, .unset] [(.int d3), (.int (3 : Int32)), (.ref b)])) rfl rfl (hb hby at_83)
  refine Go.st st ?_
  have N := Fr.snoc X N ge_b
  have KB := (KB).wr Wr0 (Or.inr gk_b)
  have V_b : Arv Z _ b k_b .char (8 : Int32) [(.int (nar .char d0)), (.int (nar .char d1)), (.int (nar .char d2)), (.int (nar .char d3)), (.int (0 : Int32)), (.int (0 : Int32)), (.int (0 : Int32)), (.int (0 : Int32))] (.int (0 : Int32)) := Arv.set Ar0 q0 S0 M0 H0 U0 (fits_nar_char _) Wr0 3 rfl (Nat.le_of_ble_eq_true rfl)
  show Go p e below _ (T.setTop (mkF m 84 #[.val (.int p0), .val (.int p1), .val (.long p2), .second, .val (.int (Int32.ofNat q1)), .val (.int (Int32.ofNat q2)), .val (.ref b), .unset, .unset] []))
  refine Go.st (fun _ k => XS.aload X.here hx rfl (hb hby at_84) rfl rfl k) ?_
  show Go p e below _ (T.setTop (mkF m 86 #[.val (.int p0), .val (.int p1), .val (.long p2), .second, .val (.int (Int32.ofNat q1)), .val (.int (Int32.ofNat q2)), .val (.ref b), .unset, .unset] [(.ref b)]))
  refine Go.st (fun _ k => XS.iconst X.here hx rfl (hb hby at_86) k) ?_
  show Go p e below _ (T.setTop (mkF m 87 #[.val (.int p0), .val (.int p1), .val (.long p2), .second, .val (.int (Int32.ofNat q1)), .val (.int (Int32.ofNat q2)), .val (.ref b), .unset, .unset] [(.int (4 : Int32)), (.ref b)]))
  refine Go.st (fun _ k => XS.lloadN X.here hx rfl (hb hby at_87) rfl k) ?_
  show Go p e below _ (T.setTop (mkF m 88 #[.val (.int p0), .val (.int p1), .val (.long p2), .second, .val (.int (Int32.ofNat q1)), .val (.int (Int32.ofNat q2)), .val (.ref b), .unset, .unset] [(.long p2), (.int (4 : Int32)), (.ref b)]))
  refine Go.st (fun _ k => XS.iconst X.here hx rfl (hb hby at_88) k) ?_
  show Go p e below _ (T.setTop (mkF m 89 #[.val (.int p0), .val (.int p1), .val (.long p2), .second, .val (.int (Int32.ofNat q1)), .val (.int (Int32.ofNat q2)), .val (.ref b), .unset, .unset] [(.int (4 : Int32)), (.long p2), (.int (4 : Int32)), (.ref b)]))
  refine Go.st (fun _ k => XS.iload X.here hx rfl (hb hby at_89) rfl k) ?_
  show Go p e below _ (T.setTop (mkF m 91 #[.val (.int p0), .val (.int p1), .val (.long p2), .second, .val (.int (Int32.ofNat q1)), .val (.int (Int32.ofNat q2)), .val (.ref b), .unset, .unset] [(.int (Int32.ofNat q1)), (.int (4 : Int32)), (.long p2), (.int (4 : Int32)), (.ref b)]))
  refine Go.st (fun _ k => XS.iload X.here hx rfl (hb hby at_91) rfl k) ?_
  show Go p e below _ (T.setTop (mkF m 93 #[.val (.int p0), .val (.int p1), .val (.long p2), .second, .val (.int (Int32.ofNat q1)), .val (.int (Int32.ofNat q2)), .val (.ref b), .unset, .unset] [(.int (Int32.ofNat q2)), (.int (Int32.ofNat q1)), (.int (4 : Int32)), (.long p2), (.int (4 : Int32)), (.ref b)]))
  refine Go.callV (argsL := [(.long p2), (.int (4 : Int32)), (.int (Int32.ofNat q1)), (.int (Int32.ofNat q2))]) (rest := [(.int (4 : Int32)), (.ref b)]) (W := 2) X hx hZ hown (hml.trans rfl) hT (hw _ (List.mem_of_getElem? (i := 2) rfl)) (hw _ (List.mem_of_getElem? (i := 3) rfl)) (hw _ (List.mem_of_getElem? (i := 4) rfl)) (hw _ (List.mem_of_getElem? (i := 5) rfl)) (by decide) pd_14 rfl rfl (Nat.le_of_ble_eq_true rfl) (hb hby at_93) (backOf (W := 2) (met_draw l Z a0 hw [] p2 (4 : Int32) (Int32.ofNat q1) (Int32.ofNat q2) _) hZ (hw _ (List.mem_of_getElem? (i := 5) rfl)) (hw _ (List.mem_of_getElem? (i := 4) rfl)) (by decide) (by decide)) (by decide) (by decide) ?_
  intro T hT X
  show Go p e below _ (T.setTop (mkF m 96 #[.val (.int p0), .val (.int p1), .val (.long p2), .second, .val (.int (Int32.ofNat q1)), .val (.int (Int32.ofNat q2)), .val (.ref b), .unset, .unset] [(.int (f_draw p2 (4 : Int32) (Int32.ofNat q1) (Int32.ofNat q2))), (.int (4 : Int32)), (.ref b)]))
  obtain ⟨d4, hd4⟩ : ∃ z, z = (f_draw p2 (4 : Int32) (Int32.ofNat q1) (Int32.ofNat q2)) := ⟨_, rfl⟩
  rw [← hd4]
  show Go p e below _ (T.setTop (mkF m 96 #[.val (.int p0), .val (.int p1), .val (.long p2), .second, .val (.int (Int32.ofNat q1)), .val (.int (Int32.ofNat q2)), .val (.ref b), .unset, .unset] [(.int d4), (.int (4 : Int32)), (.ref b)]))
  have l4 : L8 d4 := hd4 ▸ own_drawL8 _ _ _ _
  obtain ⟨cl0, Ar0, q0, S0, M0, H0, U0⟩ := id V_b
  obtain ⟨T, h6, X, hT, Wr0, st⟩ := stC X hx hZ hT Ar0 (j := (4 : Int32)) (inb_of S0 ⟨(by decide : ¬ ((4 : Int32) < (0 : Int32))), (by decide : (4 : Int32) < (8 : Int32))⟩) (g := (mkF m 96 #[.val (.int p0), .val (.int p1), .val (.long p2), .second, .val (.int (Int32.ofNat q1)), .val (.int (Int32.ofNat q2)), .val (.ref b), .unset, .unset] [(.int d4), (.int (4 : Int32)), (.ref b)])) rfl rfl (hb hby at_96)
  refine Go.st st ?_
  have N := Fr.snoc X N ge_b
  have KB := (KB).wr Wr0 (Or.inr gk_b)
  have V_b : Arv Z _ b k_b .char (8 : Int32) [(.int (nar .char d0)), (.int (nar .char d1)), (.int (nar .char d2)), (.int (nar .char d3)), (.int (nar .char d4)), (.int (0 : Int32)), (.int (0 : Int32)), (.int (0 : Int32))] (.int (0 : Int32)) := Arv.set Ar0 q0 S0 M0 H0 U0 (fits_nar_char _) Wr0 4 rfl (Nat.le_of_ble_eq_true rfl)
  show Go p e below _ (T.setTop (mkF m 97 #[.val (.int p0), .val (.int p1), .val (.long p2), .second, .val (.int (Int32.ofNat q1)), .val (.int (Int32.ofNat q2)), .val (.ref b), .unset, .unset] []))
  refine Go.st (fun _ k => XS.aload X.here hx rfl (hb hby at_97) rfl rfl k) ?_
  show Go p e below _ (T.setTop (mkF m 99 #[.val (.int p0), .val (.int p1), .val (.long p2), .second, .val (.int (Int32.ofNat q1)), .val (.int (Int32.ofNat q2)), .val (.ref b), .unset, .unset] [(.ref b)]))
  refine Go.st (fun _ k => XS.iconst X.here hx rfl (hb hby at_99) k) ?_
  show Go p e below _ (T.setTop (mkF m 100 #[.val (.int p0), .val (.int p1), .val (.long p2), .second, .val (.int (Int32.ofNat q1)), .val (.int (Int32.ofNat q2)), .val (.ref b), .unset, .unset] [(.int (5 : Int32)), (.ref b)]))
  refine Go.st (fun _ k => XS.lloadN X.here hx rfl (hb hby at_100) rfl k) ?_
  show Go p e below _ (T.setTop (mkF m 101 #[.val (.int p0), .val (.int p1), .val (.long p2), .second, .val (.int (Int32.ofNat q1)), .val (.int (Int32.ofNat q2)), .val (.ref b), .unset, .unset] [(.long p2), (.int (5 : Int32)), (.ref b)]))
  refine Go.st (fun _ k => XS.iconst X.here hx rfl (hb hby at_101) k) ?_
  show Go p e below _ (T.setTop (mkF m 102 #[.val (.int p0), .val (.int p1), .val (.long p2), .second, .val (.int (Int32.ofNat q1)), .val (.int (Int32.ofNat q2)), .val (.ref b), .unset, .unset] [(.int (5 : Int32)), (.long p2), (.int (5 : Int32)), (.ref b)]))
  refine Go.st (fun _ k => XS.iload X.here hx rfl (hb hby at_102) rfl k) ?_
  show Go p e below _ (T.setTop (mkF m 104 #[.val (.int p0), .val (.int p1), .val (.long p2), .second, .val (.int (Int32.ofNat q1)), .val (.int (Int32.ofNat q2)), .val (.ref b), .unset, .unset] [(.int (Int32.ofNat q1)), (.int (5 : Int32)), (.long p2), (.int (5 : Int32)), (.ref b)]))
  refine Go.st (fun _ k => XS.iload X.here hx rfl (hb hby at_104) rfl k) ?_
  show Go p e below _ (T.setTop (mkF m 106 #[.val (.int p0), .val (.int p1), .val (.long p2), .second, .val (.int (Int32.ofNat q1)), .val (.int (Int32.ofNat q2)), .val (.ref b), .unset, .unset] [(.int (Int32.ofNat q2)), (.int (Int32.ofNat q1)), (.int (5 : Int32)), (.long p2), (.int (5 : Int32)), (.ref b)]))
  refine Go.callV (argsL := [(.long p2), (.int (5 : Int32)), (.int (Int32.ofNat q1)), (.int (Int32.ofNat q2))]) (rest := [(.int (5 : Int32)), (.ref b)]) (W := 2) X hx hZ hown (hml.trans rfl) hT (hw _ (List.mem_of_getElem? (i := 2) rfl)) (hw _ (List.mem_of_getElem? (i := 3) rfl)) (hw _ (List.mem_of_getElem? (i := 4) rfl)) (hw _ (List.mem_of_getElem? (i := 5) rfl)) (by decide) pd_14 rfl rfl (Nat.le_of_ble_eq_true rfl) (hb hby at_106) (backOf (W := 2) (met_draw l Z a0 hw [] p2 (5 : Int32) (Int32.ofNat q1) (Int32.ofNat q2) _) hZ (hw _ (List.mem_of_getElem? (i := 5) rfl)) (hw _ (List.mem_of_getElem? (i := 4) rfl)) (by decide) (by decide)) (by decide) (by decide) ?_
  intro T hT X
  show Go p e below _ (T.setTop (mkF m 109 #[.val (.int p0), .val (.int p1), .val (.long p2), .second, .val (.int (Int32.ofNat q1)), .val (.int (Int32.ofNat q2)), .val (.ref b), .unset, .unset] [(.int (f_draw p2 (5 : Int32) (Int32.ofNat q1) (Int32.ofNat q2))), (.int (5 : Int32)), (.ref b)]))
  obtain ⟨d5, hd5⟩ : ∃ z, z = (f_draw p2 (5 : Int32) (Int32.ofNat q1) (Int32.ofNat q2)) := ⟨_, rfl⟩
  rw [← hd5]
  show Go p e below _ (T.setTop (mkF m 109 #[.val (.int p0), .val (.int p1), .val (.long p2), .second, .val (.int (Int32.ofNat q1)), .val (.int (Int32.ofNat q2)), .val (.ref b), .unset, .unset] [(.int d5), (.int (5 : Int32)), (.ref b)]))
  have l5 : L8 d5 := hd5 ▸ own_drawL8 _ _ _ _
  obtain ⟨cl0, Ar0, q0, S0, M0, H0, U0⟩ := id V_b
  obtain ⟨T, h7, X, hT, Wr0, st⟩ := stC X hx hZ hT Ar0 (j := (5 : Int32)) (inb_of S0 ⟨(by decide : ¬ ((5 : Int32) < (0 : Int32))), (by decide : (5 : Int32) < (8 : Int32))⟩) (g := (mkF m 109 #[.val (.int p0), .val (.int p1), .val (.long p2), .second, .val (.int (Int32.ofNat q1)), .val (.int (Int32.ofNat q2)), .val (.ref b), .unset, .unset] [(.int d5), (.int (5 : Int32)), (.ref b)])) rfl rfl (hb hby at_109)
  refine Go.st st ?_
  have N := Fr.snoc X N ge_b
  have KB := (KB).wr Wr0 (Or.inr gk_b)
  have V_b : Arv Z _ b k_b .char (8 : Int32) [(.int (nar .char d0)), (.int (nar .char d1)), (.int (nar .char d2)), (.int (nar .char d3)), (.int (nar .char d4)), (.int (nar .char d5)), (.int (0 : Int32)), (.int (0 : Int32))] (.int (0 : Int32)) := Arv.set Ar0 q0 S0 M0 H0 U0 (fits_nar_char _) Wr0 5 rfl (Nat.le_of_ble_eq_true rfl)
  show Go p e below _ (T.setTop (mkF m 110 #[.val (.int p0), .val (.int p1), .val (.long p2), .second, .val (.int (Int32.ofNat q1)), .val (.int (Int32.ofNat q2)), .val (.ref b), .unset, .unset] []))
  refine Go.st (fun _ k => XS.aload X.here hx rfl (hb hby at_110) rfl rfl k) ?_
  show Go p e below _ (T.setTop (mkF m 112 #[.val (.int p0), .val (.int p1), .val (.long p2), .second, .val (.int (Int32.ofNat q1)), .val (.int (Int32.ofNat q2)), .val (.ref b), .unset, .unset] [(.ref b)]))
  refine Go.st (fun _ k => XS.bipush X.here hx rfl (hb hby at_112) k) ?_
  show Go p e below _ (T.setTop (mkF m 114 #[.val (.int p0), .val (.int p1), .val (.long p2), .second, .val (.int (Int32.ofNat q1)), .val (.int (Int32.ofNat q2)), .val (.ref b), .unset, .unset] [(.int (6 : Int32)), (.ref b)]))
  refine Go.st (fun _ k => XS.lloadN X.here hx rfl (hb hby at_114) rfl k) ?_
  show Go p e below _ (T.setTop (mkF m 115 #[.val (.int p0), .val (.int p1), .val (.long p2), .second, .val (.int (Int32.ofNat q1)), .val (.int (Int32.ofNat q2)), .val (.ref b), .unset, .unset] [(.long p2), (.int (6 : Int32)), (.ref b)]))
  refine Go.st (fun _ k => XS.bipush X.here hx rfl (hb hby at_115) k) ?_
  show Go p e below _ (T.setTop (mkF m 117 #[.val (.int p0), .val (.int p1), .val (.long p2), .second, .val (.int (Int32.ofNat q1)), .val (.int (Int32.ofNat q2)), .val (.ref b), .unset, .unset] [(.int (6 : Int32)), (.long p2), (.int (6 : Int32)), (.ref b)]))
  refine Go.st (fun _ k => XS.iload X.here hx rfl (hb hby at_117) rfl k) ?_
  show Go p e below _ (T.setTop (mkF m 119 #[.val (.int p0), .val (.int p1), .val (.long p2), .second, .val (.int (Int32.ofNat q1)), .val (.int (Int32.ofNat q2)), .val (.ref b), .unset, .unset] [(.int (Int32.ofNat q1)), (.int (6 : Int32)), (.long p2), (.int (6 : Int32)), (.ref b)]))
  refine Go.st (fun _ k => XS.iload X.here hx rfl (hb hby at_119) rfl k) ?_
  show Go p e below _ (T.setTop (mkF m 121 #[.val (.int p0), .val (.int p1), .val (.long p2), .second, .val (.int (Int32.ofNat q1)), .val (.int (Int32.ofNat q2)), .val (.ref b), .unset, .unset] [(.int (Int32.ofNat q2)), (.int (Int32.ofNat q1)), (.int (6 : Int32)), (.long p2), (.int (6 : Int32)), (.ref b)]))
  refine Go.callV (argsL := [(.long p2), (.int (6 : Int32)), (.int (Int32.ofNat q1)), (.int (Int32.ofNat q2))]) (rest := [(.int (6 : Int32)), (.ref b)]) (W := 2) X hx hZ hown (hml.trans rfl) hT (hw _ (List.mem_of_getElem? (i := 2) rfl)) (hw _ (List.mem_of_getElem? (i := 3) rfl)) (hw _ (List.mem_of_getElem? (i := 4) rfl)) (hw _ (List.mem_of_getElem? (i := 5) rfl)) (by decide) pd_14 rfl rfl (Nat.le_of_ble_eq_true rfl) (hb hby at_121) (backOf (W := 2) (met_draw l Z a0 hw [] p2 (6 : Int32) (Int32.ofNat q1) (Int32.ofNat q2) _) hZ (hw _ (List.mem_of_getElem? (i := 5) rfl)) (hw _ (List.mem_of_getElem? (i := 4) rfl)) (by decide) (by decide)) (by decide) (by decide) ?_
  intro T hT X
  show Go p e below _ (T.setTop (mkF m 124 #[.val (.int p0), .val (.int p1), .val (.long p2), .second, .val (.int (Int32.ofNat q1)), .val (.int (Int32.ofNat q2)), .val (.ref b), .unset, .unset] [(.int (f_draw p2 (6 : Int32) (Int32.ofNat q1) (Int32.ofNat q2))), (.int (6 : Int32)), (.ref b)]))
  obtain ⟨d6, hd6⟩ : ∃ z, z = (f_draw p2 (6 : Int32) (Int32.ofNat q1) (Int32.ofNat q2)) := ⟨_, rfl⟩
  rw [← hd6]
  show Go p e below _ (T.setTop (mkF m 124 #[.val (.int p0), .val (.int p1), .val (.long p2), .second, .val (.int (Int32.ofNat q1)), .val (.int (Int32.ofNat q2)), .val (.ref b), .unset, .unset] [(.int d6), (.int (6 : Int32)), (.ref b)]))
  have l6 : L8 d6 := hd6 ▸ own_drawL8 _ _ _ _
  obtain ⟨cl0, Ar0, q0, S0, M0, H0, U0⟩ := id V_b
  obtain ⟨T, h8, X, hT, Wr0, st⟩ := stC X hx hZ hT Ar0 (j := (6 : Int32)) (inb_of S0 ⟨(by decide : ¬ ((6 : Int32) < (0 : Int32))), (by decide : (6 : Int32) < (8 : Int32))⟩) (g := (mkF m 124 #[.val (.int p0), .val (.int p1), .val (.long p2), .second, .val (.int (Int32.ofNat q1)), .val (.int (Int32.ofNat q2)), .val (.ref b), .unset, .unset] [(.int d6), (.int (6 : Int32)), (.ref b)])) rfl rfl (hb hby at_124)
  refine Go.st st ?_
  have N := Fr.snoc X N ge_b
  have KB := (KB).wr Wr0 (Or.inr gk_b)
  have V_b : Arv Z _ b k_b .char (8 : Int32) [(.int (nar .char d0)), (.int (nar .char d1)), (.int (nar .char d2)), (.int (nar .char d3)), (.int (nar .char d4)), (.int (nar .char d5)), (.int (nar .char d6)), (.int (0 : Int32))] (.int (0 : Int32)) := Arv.set Ar0 q0 S0 M0 H0 U0 (fits_nar_char _) Wr0 6 rfl (Nat.le_of_ble_eq_true rfl)
  show Go p e below _ (T.setTop (mkF m 125 #[.val (.int p0), .val (.int p1), .val (.long p2), .second, .val (.int (Int32.ofNat q1)), .val (.int (Int32.ofNat q2)), .val (.ref b), .unset, .unset] []))
  refine Go.st (fun _ k => XS.aload X.here hx rfl (hb hby at_125) rfl rfl k) ?_
  show Go p e below _ (T.setTop (mkF m 127 #[.val (.int p0), .val (.int p1), .val (.long p2), .second, .val (.int (Int32.ofNat q1)), .val (.int (Int32.ofNat q2)), .val (.ref b), .unset, .unset] [(.ref b)]))
  refine Go.st (fun _ k => XS.bipush X.here hx rfl (hb hby at_127) k) ?_
  show Go p e below _ (T.setTop (mkF m 129 #[.val (.int p0), .val (.int p1), .val (.long p2), .second, .val (.int (Int32.ofNat q1)), .val (.int (Int32.ofNat q2)), .val (.ref b), .unset, .unset] [(.int (7 : Int32)), (.ref b)]))
  refine Go.st (fun _ k => XS.lloadN X.here hx rfl (hb hby at_129) rfl k) ?_
  show Go p e below _ (T.setTop (mkF m 130 #[.val (.int p0), .val (.int p1), .val (.long p2), .second, .val (.int (Int32.ofNat q1)), .val (.int (Int32.ofNat q2)), .val (.ref b), .unset, .unset] [(.long p2), (.int (7 : Int32)), (.ref b)]))
  refine Go.st (fun _ k => XS.bipush X.here hx rfl (hb hby at_130) k) ?_
  show Go p e below _ (T.setTop (mkF m 132 #[.val (.int p0), .val (.int p1), .val (.long p2), .second, .val (.int (Int32.ofNat q1)), .val (.int (Int32.ofNat q2)), .val (.ref b), .unset, .unset] [(.int (7 : Int32)), (.long p2), (.int (7 : Int32)), (.ref b)]))
  refine Go.st (fun _ k => XS.iload X.here hx rfl (hb hby at_132) rfl k) ?_
  show Go p e below _ (T.setTop (mkF m 134 #[.val (.int p0), .val (.int p1), .val (.long p2), .second, .val (.int (Int32.ofNat q1)), .val (.int (Int32.ofNat q2)), .val (.ref b), .unset, .unset] [(.int (Int32.ofNat q1)), (.int (7 : Int32)), (.long p2), (.int (7 : Int32)), (.ref b)]))
  refine Go.st (fun _ k => XS.iload X.here hx rfl (hb hby at_134) rfl k) ?_
  show Go p e below _ (T.setTop (mkF m 136 #[.val (.int p0), .val (.int p1), .val (.long p2), .second, .val (.int (Int32.ofNat q1)), .val (.int (Int32.ofNat q2)), .val (.ref b), .unset, .unset] [(.int (Int32.ofNat q2)), (.int (Int32.ofNat q1)), (.int (7 : Int32)), (.long p2), (.int (7 : Int32)), (.ref b)]))
  refine Go.callV (argsL := [(.long p2), (.int (7 : Int32)), (.int (Int32.ofNat q1)), (.int (Int32.ofNat q2))]) (rest := [(.int (7 : Int32)), (.ref b)]) (W := 2) X hx hZ hown (hml.trans rfl) hT (hw _ (List.mem_of_getElem? (i := 2) rfl)) (hw _ (List.mem_of_getElem? (i := 3) rfl)) (hw _ (List.mem_of_getElem? (i := 4) rfl)) (hw _ (List.mem_of_getElem? (i := 5) rfl)) (by decide) pd_14 rfl rfl (Nat.le_of_ble_eq_true rfl) (hb hby at_136) (backOf (W := 2) (met_draw l Z a0 hw [] p2 (7 : Int32) (Int32.ofNat q1) (Int32.ofNat q2) _) hZ (hw _ (List.mem_of_getElem? (i := 5) rfl)) (hw _ (List.mem_of_getElem? (i := 4) rfl)) (by decide) (by decide)) (by decide) (by decide) ?_
  intro T hT X
  show Go p e below _ (T.setTop (mkF m 139 #[.val (.int p0), .val (.int p1), .val (.long p2), .second, .val (.int (Int32.ofNat q1)), .val (.int (Int32.ofNat q2)), .val (.ref b), .unset, .unset] [(.int (f_draw p2 (7 : Int32) (Int32.ofNat q1) (Int32.ofNat q2))), (.int (7 : Int32)), (.ref b)]))
  obtain ⟨d7, hd7⟩ : ∃ z, z = (f_draw p2 (7 : Int32) (Int32.ofNat q1) (Int32.ofNat q2)) := ⟨_, rfl⟩
  rw [← hd7]
  show Go p e below _ (T.setTop (mkF m 139 #[.val (.int p0), .val (.int p1), .val (.long p2), .second, .val (.int (Int32.ofNat q1)), .val (.int (Int32.ofNat q2)), .val (.ref b), .unset, .unset] [(.int d7), (.int (7 : Int32)), (.ref b)]))
  have l7 : L8 d7 := hd7 ▸ own_drawL8 _ _ _ _
  obtain ⟨cl0, Ar0, q0, S0, M0, H0, U0⟩ := id V_b
  obtain ⟨T, h9, X, hT, Wr0, st⟩ := stC X hx hZ hT Ar0 (j := (7 : Int32)) (inb_of S0 ⟨(by decide : ¬ ((7 : Int32) < (0 : Int32))), (by decide : (7 : Int32) < (8 : Int32))⟩) (g := (mkF m 139 #[.val (.int p0), .val (.int p1), .val (.long p2), .second, .val (.int (Int32.ofNat q1)), .val (.int (Int32.ofNat q2)), .val (.ref b), .unset, .unset] [(.int d7), (.int (7 : Int32)), (.ref b)])) rfl rfl (hb hby at_139)
  refine Go.st st ?_
  have N := Fr.snoc X N ge_b
  have KB := (KB).wr Wr0 (Or.inr gk_b)
  have V_b : Arv Z _ b k_b .char (8 : Int32) [(.int (nar .char d0)), (.int (nar .char d1)), (.int (nar .char d2)), (.int (nar .char d3)), (.int (nar .char d4)), (.int (nar .char d5)), (.int (nar .char d6)), (.int (nar .char d7))] (.int (0 : Int32)) := Arv.set Ar0 q0 S0 M0 H0 U0 (fits_nar_char _) Wr0 7 rfl (Nat.le_of_ble_eq_true rfl)
  show Go p e below _ (T.setTop (mkF m 140 #[.val (.int p0), .val (.int p1), .val (.long p2), .second, .val (.int (Int32.ofNat q1)), .val (.int (Int32.ofNat q2)), .val (.ref b), .unset, .unset] []))
  obtain ⟨T, h10, X, hT, Ex0, A_x, D_x, -, st⟩ := newO X hx hZ hown (hw _ (List.mem_of_getElem? (i := 7) rfl)) (hw _ (List.mem_of_getElem? (i := 8) rfl)) (hw _ (List.mem_of_getElem? (i := 9) rfl)) hT (g := (mkF m 140 #[.val (.int p0), .val (.int p1), .val (.long p2), .second, .val (.int (Int32.ofNat q1)), .val (.int (Int32.ofNat q2)), .val (.ref b), .unset, .unset] [])) rfl (hb hby at_140) (by decide) (by decide)
  obtain ⟨x, g_x⟩ : ∃ z, z = h9.size := ⟨_, rfl⟩
  rw [← g_x] at A_x D_x st
  refine Go.st st ?_
  have ge_x : n0 ≤ x := Nat.le_trans (own_le (O.keep KB all0)) (Nat.le_of_eq g_x.symm)
  have gk_x : h0.size ≤ x := Nat.le_trans (KB).1 (Nat.le_of_eq g_x.symm)
  have V_b := V_b.ext Ex0
  have KB := (KB).ext Ex0
  have F_x_coder := D_x (Or.inr (hw _ (List.mem_of_getElem? (i := 33) rfl))) (ty := .byte) (by decide)
  have F_x_value := D_x (Or.inr (hw _ (List.mem_of_getElem? (i := 35) rfl))) (ty := (.array .byte)) (by decide)
  have ne_x_b : x ≠ b := Exa.neArv A_x V_b (hw _ (List.mem_of_getElem? (i := 8) rfl))
  show Go p e below _ (T.setTop (mkF m 143 #[.val (.int p0), .val (.int p1), .val (.long p2), .second, .val (.int (Int32.ofNat q1)), .val (.int (Int32.ofNat q2)), .val (.ref b), .unset, .unset] [(.ref x)]))
  refine Go.st (fun _ k => XS.dup X.here hx rfl (hb hby at_143) rfl rfl k) ?_
  show Go p e below _ (T.setTop (mkF m 144 #[.val (.int p0), .val (.int p1), .val (.long p2), .second, .val (.int (Int32.ofNat q1)), .val (.int (Int32.ofNat q2)), .val (.ref b), .unset, .unset] [(.ref x), (.ref x)]))
  refine Go.st (fun _ k => XS.aload X.here hx rfl (hb hby at_144) rfl rfl k) ?_
  show Go p e below _ (T.setTop (mkF m 146 #[.val (.int p0), .val (.int p1), .val (.long p2), .second, .val (.int (Int32.ofNat q1)), .val (.int (Int32.ofNat q2)), .val (.ref b), .unset, .unset] [(.ref b), (.ref x), (.ref x)]))
  obtain ⟨cs, hcs⟩ : ∃ z : List Int32, z = [d0, d1, d2, d3, d4, d5, d6, d7] := ⟨_, rfl⟩
  have V_b : Arv Z h10 b k_b .char (Int32.ofNat cs.length) (cs.map Value.int) (.int 0) := by subst hcs; simpa [own_narc l0, own_narc l1, own_narc l2, own_narc l3, own_narc l4, own_narc l5, own_narc l6, own_narc l7] using V_b
  have hlat : Lat cs := by subst hcs; intro c hc; simp only [List.mem_cons, List.not_mem_nil, or_false] at hc; rcases hc with rfl | rfl | rfl | rfl | rfl | rfl | rfl | rfl <;> assumption
  have hlen : cs.length = 8 := by subst hcs; rfl
  have hws : ∀ d ∈ StrChars.Road.words, d.before a0 Z = true := fun d hd => hw d (own_words d hd)
  have O2 := O.keep KB all0
  refine Go.specP (argsL := [.ref b]) (rest := [(.ref x)]) (W := 1) (ck := 1) (sk := 8) X hx hZ hown (hml.trans rfl) hT rfl (hw _ (List.mem_of_getElem? (i := 10) rfl)) (hw _ (List.mem_of_getElem? (i := 11) rfl)) (hw _ (List.mem_of_getElem? (i := 12) rfl)) (by decide) pd_15 rfl rfl (Nat.le_of_ble_eq_true rfl) (hb hby at_146) (StrChars.Road.backV (W := 1) hZ hws (kI := 4) (hw _ (List.mem_of_getElem? (i := 8) rfl)) (cs := cs) (n := 8) ge_x (own_le O2) A_x F_x_value F_x_coder V_b (Sc.1.ext O2.2) Sc.2 hlen (by rw [hlen]) (by decide) (by decide) hlat rfl (by decide) (by decide)) (by decide) (by decide) ?_
  intro v T h11 L hT hQ X
  obtain ⟨rfl, N0, K0, E0, C0, tt, kt, u1, u2, u3, F0, V0⟩ := hQ
  have N := Fr.app N N0
  have V_b := V_b.keep K0 (ninS ne_x_b.symm nin0)
  have KB := (KB).trans K0 (allS (Or.inr gk_x) all0)
  have S_x : Str Z h11 x cs := own_lat_str hlat (by omega) E0 F0 C0 (by rw [List.map_map] at V0; exact V0)
  have O := O.keep KB all0
  show Go p e below _ (T.setTop (mkF m 149 #[.val (.int p0), .val (.int p1), .val (.long p2), .second, .val (.int (Int32.ofNat q1)), .val (.int (Int32.ofNat q2)), .val (.ref b), .unset, .unset] [(.ref x)]))
  refine Go.st (fun _ k => XS.astore X.here hx rfl (hb hby at_149) rfl rfl (l' := #[.val (.int p0), .val (.int p1), .val (.long p2), .second, .val (.int (Int32.ofNat q1)), .val (.int (Int32.ofNat q2)), .val (.ref b), .val (.ref x), .unset]) rfl k) ?_
  show Go p e below _ (T.setTop (mkF m 151 #[.val (.int p0), .val (.int p1), .val (.long p2), .second, .val (.int (Int32.ofNat q1)), .val (.int (Int32.ofNat q2)), .val (.ref b), .val (.ref x), .unset] []))
  refine Go.st (fun _ k => XS.aload X.here hx rfl (hb hby at_151) rfl rfl k) ?_
  show Go p e below _ (T.setTop (mkF m 153 #[.val (.int p0), .val (.int p1), .val (.long p2), .second, .val (.int (Int32.ofNat q1)), .val (.int (Int32.ofNat q2)), .val (.ref b), .val (.ref x), .unset] [(.ref x)]))
  have hD : ∀ j : Nat, j < 8 → cs.getD j 0 = f_draw p2 (Int32.ofNat j) (Int32.ofNat q1) (Int32.ofNat q2) := by
    subst hcs; intro j hj
    match j, hj with
    | 0, _ => exact hd0
    | 1, _ => exact hd1
    | 2, _ => exact hd2
    | 3, _ => exact hd3
    | 4, _ => exact hd4
    | 5, _ => exact hd5
    | 6, _ => exact hd6
    | 7, _ => exact hd7
  refine Go.callP (argsL := [(.ref x)]) (rest := []) (W := 0) (ck := 2) (sk := 12) X hx hZ hown (hml.trans rfl) hT (hw _ (List.mem_of_getElem? (i := 36) rfl)) (hw _ (List.mem_of_getElem? (i := 37) rfl)) (hw _ (List.mem_of_getElem? (i := 38) rfl)) (hw _ (List.mem_of_getElem? (i := 39) rfl)) (by decide) pd_16 rfl rfl (Nat.le_of_ble_eq_true rfl) (hb hby at_153) (backOf (W := 0) (met_mn l Z a0 hw [] z fm n0 x cs q1 q2 _ O Sc Sf S_x hlat (by omega) h12 (by omega) (by rw [hD q1 (by omega)]; exact own_draw46 _ (by omega) (by omega) (by omega) (Or.inl rfl)) (fun j _ hj => by rw [hD j (by omega)]; exact own_drawn _ (by omega) (by omega) (by omega) (by omega) (by omega)) (by rw [hD q2 (by omega)]; exact own_draw46 _ (by omega) (by omega) (by omega) (Or.inr rfl)) (fun j _ hj => by rw [hD j (by omega)]; exact own_drawn _ (by omega) (by omega) (by omega) (by omega) (by omega))) hZ (hw _ (List.mem_of_getElem? (i := 39) rfl)) (hw _ (List.mem_of_getElem? (i := 38) rfl)) (by decide) (by decide)) (by decide) (by decide) ?_
  intro v T h12 L hT hQ X
  obtain ⟨o1, rfl, N0, Ex0, S_o1⟩ := hQ
  have N := Fr.app N N0
  have KB := (Keep.refl h11 []).ext Ex0
  have O := O.keep KB all0
  have S_x := S_x.ext (keepE KB)
  have V_b := V_b.keep KB nin0
  show Go p e below _ (T.setTop (mkF m 156 #[.val (.int p0), .val (.int p1), .val (.long p2), .second, .val (.int (Int32.ofNat q1)), .val (.int (Int32.ofNat q2)), .val (.ref b), .val (.ref x), .unset] [(.ref o1)]))
  refine Go.st (fun _ k => XS.astore X.here hx rfl (hb hby at_156) rfl rfl (l' := #[.val (.int p0), .val (.int p1), .val (.long p2), .second, .val (.int (Int32.ofNat q1)), .val (.int (Int32.ofNat q2)), .val (.ref b), .val (.ref x), .val (.ref o1)]) rfl k) ?_
  show Go p e below _ (T.setTop (mkF m 158 #[.val (.int p0), .val (.int p1), .val (.long p2), .second, .val (.int (Int32.ofNat q1)), .val (.int (Int32.ofNat q2)), .val (.ref b), .val (.ref x), .val (.ref o1)] []))
  refine Go.st (fun _ k => XS.aload X.here hx rfl (hb hby at_158) rfl rfl k) ?_
  show Go p e below _ (T.setTop (mkF m 160 #[.val (.int p0), .val (.int p1), .val (.long p2), .second, .val (.int (Int32.ofNat q1)), .val (.int (Int32.ofNat q2)), .val (.ref b), .val (.ref x), .val (.ref o1)] [(.ref o1)]))
  refine Go.virtV (K := "java/lang/String") (z := (⟨"java/lang/String", "length", "()I"⟩ : MethodName)) (argsL := []) (rest := []) (W := 0) (w := (.int (Int32.ofNat (cs.take q2).length))) X hx hZ hown (hml.trans rfl) hT S_o1.exa (hw _ (List.mem_of_getElem? (i := 118) rfl)) (hw _ (List.mem_of_getElem? (i := 56) rfl)) (hw _ (List.mem_of_getElem? (i := 58) rfl)) (hw _ (List.mem_of_getElem? (i := 57) rfl)) (by decide) pd_5 rfl rfl (Nat.le_of_ble_eq_true rfl) (hb hby at_160) (notFace_of_selects (args := #[]) (mvT hZ (hw _ (List.mem_of_getElem? (i := 58) rfl)))) (own_len (W := 0) hw hZ O Sc S_o1 (by decide) (by decide)) (by decide) (by decide) ?_
  intro T hT X
  show Go p e below _ (T.setTop (mkF m 163 #[.val (.int p0), .val (.int p1), .val (.long p2), .second, .val (.int (Int32.ofNat q1)), .val (.int (Int32.ofNat q2)), .val (.ref b), .val (.ref x), .val (.ref o1)] [(.int (Int32.ofNat (cs.take q2).length))]))
  refine Go.st (fun _ k => XS.iload X.here hx rfl (hb hby at_163) rfl k) ?_
  show Go p e below _ (T.setTop (mkF m 165 #[.val (.int p0), .val (.int p1), .val (.long p2), .second, .val (.int (Int32.ofNat q1)), .val (.int (Int32.ofNat q2)), .val (.ref b), .val (.ref x), .val (.ref o1)] [(.int (Int32.ofNat q2)), (.int (Int32.ofNat (cs.take q2).length))]))
  refine Go.st (fun _ k => XS.icmpNo X.here hx rfl (hb hby at_165) rfl (Jvm.Free.XT.ii_ne_f (by rw [List.length_take, Nat.min_eq_left (by omega)] : (Int32.ofNat (cs.take q2).length) = (Int32.ofNat q2))) k) ?_
  show Go p e below _ (T.setTop (mkF m 168 #[.val (.int p0), .val (.int p1), .val (.long p2), .second, .val (.int (Int32.ofNat q1)), .val (.int (Int32.ofNat q2)), .val (.ref b), .val (.ref x), .val (.ref o1)] []))
  refine Go.st (fun _ k => XS.aload X.here hx rfl (hb hby at_168) rfl rfl k) ?_
  show Go p e below _ (T.setTop (mkF m 170 #[.val (.int p0), .val (.int p1), .val (.long p2), .second, .val (.int (Int32.ofNat q1)), .val (.int (Int32.ofNat q2)), .val (.ref b), .val (.ref x), .val (.ref o1)] [(.ref o1)]))
  refine Go.st (fun _ k => XS.aload X.here hx rfl (hb hby at_170) rfl rfl k) ?_
  show Go p e below _ (T.setTop (mkF m 172 #[.val (.int p0), .val (.int p1), .val (.long p2), .second, .val (.int (Int32.ofNat q1)), .val (.int (Int32.ofNat q2)), .val (.ref b), .val (.ref x), .val (.ref o1)] [(.ref b), (.ref o1)]))
  refine Go.st (fun _ k => XS.iconst X.here hx rfl (hb hby at_172) k) ?_
  show Go p e below _ (T.setTop (mkF m 173 #[.val (.int p0), .val (.int p1), .val (.long p2), .second, .val (.int (Int32.ofNat q1)), .val (.int (Int32.ofNat q2)), .val (.ref b), .val (.ref x), .val (.ref o1)] [(.int (0 : Int32)), (.ref b), (.ref o1)]))
  refine Go.st (fun _ k => XS.iload X.here hx rfl (hb hby at_173) rfl k) ?_
  show Go p e below _ (T.setTop (mkF m 175 #[.val (.int p0), .val (.int p1), .val (.long p2), .second, .val (.int (Int32.ofNat q1)), .val (.int (Int32.ofNat q2)), .val (.ref b), .val (.ref x), .val (.ref o1)] [(.int (Int32.ofNat q2)), (.int (0 : Int32)), (.ref b), (.ref o1)]))
  refine Go.callV (argsL := [(.ref o1), (.ref b), (.int (0 : Int32)), (.int (Int32.ofNat q2))]) (rest := []) (W := 0) X hx hZ hown (hml.trans rfl) hT (hw _ (List.mem_of_getElem? (i := 119) rfl)) (hw _ (List.mem_of_getElem? (i := 120) rfl)) (hw _ (List.mem_of_getElem? (i := 4) rfl)) (hw _ (List.mem_of_getElem? (i := 121) rfl)) (by decide) pd_17 rfl rfl (Nat.le_of_ble_eq_true rfl) (hb hby at_175) (backOf (W := 0) (met_same l Z a0 hw [] z fm n0 o1 b k_b cs 0 q2 _ O Sc Sf S_o1 hlat V_b (by omega) (by omega) (by omega)) hZ (hw _ (List.mem_of_getElem? (i := 121) rfl)) (hw _ (List.mem_of_getElem? (i := 4) rfl)) (by decide) (by decide)) (by decide) (by decide) ?_
  intro T hT X
  show Go p e below _ (T.setTop (mkF m 178 #[.val (.int p0), .val (.int p1), .val (.long p2), .second, .val (.int (Int32.ofNat q1)), .val (.int (Int32.ofNat q2)), .val (.ref b), .val (.ref x), .val (.ref o1)] [(.int (1 : Int32))]))
  refine Go.st (fun _ k => XS.ifNo X.here hx rfl (hb hby at_178) rfl (Jvm.Free.XT.i0_eq_f (by decide : ¬ ((1 : Int32) = (0 : Int32)))) k) ?_
  show Go p e below _ (T.setTop (mkF m 181 #[.val (.int p0), .val (.int p1), .val (.long p2), .second, .val (.int (Int32.ofNat q1)), .val (.int (Int32.ofNat q2)), .val (.ref b), .val (.ref x), .val (.ref o1)] []))
  refine Go.st (fun _ k => XS.aload X.here hx rfl (hb hby at_181) rfl rfl k) ?_
  show Go p e below _ (T.setTop (mkF m 183 #[.val (.int p0), .val (.int p1), .val (.long p2), .second, .val (.int (Int32.ofNat q1)), .val (.int (Int32.ofNat q2)), .val (.ref b), .val (.ref x), .val (.ref o1)] [(.ref o1)]))
  refine Go.st (fun _ k => XS.aload X.here hx rfl (hb hby at_183) rfl rfl k) ?_
  show Go p e below _ (T.setTop (mkF m 185 #[.val (.int p0), .val (.int p1), .val (.long p2), .second, .val (.int (Int32.ofNat q1)), .val (.int (Int32.ofNat q2)), .val (.ref b), .val (.ref x), .val (.ref o1)] [(.ref b), (.ref o1)]))
  refine Go.st (fun _ k => XS.iconst X.here hx rfl (hb hby at_185) k) ?_
  show Go p e below _ (T.setTop (mkF m 186 #[.val (.int p0), .val (.int p1), .val (.long p2), .second, .val (.int (Int32.ofNat q1)), .val (.int (Int32.ofNat q2)), .val (.ref b), .val (.ref x), .val (.ref o1)] [(.int (1 : Int32)), (.ref b), (.ref o1)]))
  refine Go.st (fun _ k => XS.iload X.here hx rfl (hb hby at_186) rfl k) ?_
  show Go p e below _ (T.setTop (mkF m 188 #[.val (.int p0), .val (.int p1), .val (.long p2), .second, .val (.int (Int32.ofNat q1)), .val (.int (Int32.ofNat q2)), .val (.ref b), .val (.ref x), .val (.ref o1)] [(.int (Int32.ofNat q2)), (.int (1 : Int32)), (.ref b), (.ref o1)]))
  refine Go.callV (argsL := [(.ref o1), (.ref b), (.int (1 : Int32)), (.int (Int32.ofNat q2))]) (rest := []) (W := 0) X hx hZ hown (hml.trans rfl) hT (hw _ (List.mem_of_getElem? (i := 119) rfl)) (hw _ (List.mem_of_getElem? (i := 120) rfl)) (hw _ (List.mem_of_getElem? (i := 4) rfl)) (hw _ (List.mem_of_getElem? (i := 121) rfl)) (by decide) pd_17 rfl rfl (Nat.le_of_ble_eq_true rfl) (hb hby at_188) (backOf (W := 0) (met_same l Z a0 hw [] z fm n0 o1 b k_b cs 1 q2 _ O Sc Sf S_o1 hlat V_b (by omega) (by omega) (by omega)) hZ (hw _ (List.mem_of_getElem? (i := 121) rfl)) (hw _ (List.mem_of_getElem? (i := 4) rfl)) (by decide) (by decide)) (by decide) (by decide) ?_
  intro T hT X
  show Go p e below _ (T.setTop (mkF m 191 #[.val (.int p0), .val (.int p1), .val (.long p2), .second, .val (.int (Int32.ofNat q1)), .val (.int (Int32.ofNat q2)), .val (.ref b), .val (.ref x), .val (.ref o1)] [(.int (1 : Int32))]))
  refine Go.st (fun _ k => XS.ifNo X.here hx rfl (hb hby at_191) rfl (Jvm.Free.XT.i0_eq_f (by decide : ¬ ((1 : Int32) = (0 : Int32)))) k) ?_
  show Go p e below _ (T.setTop (mkF m 194 #[.val (.int p0), .val (.int p1), .val (.long p2), .second, .val (.int (Int32.ofNat q1)), .val (.int (Int32.ofNat q2)), .val (.ref b), .val (.ref x), .val (.ref o1)] []))
  refine Go.st (fun _ k => XS.aload X.here hx rfl (hb hby at_194) rfl rfl k) ?_
  show Go p e below _ (T.setTop (mkF m 196 #[.val (.int p0), .val (.int p1), .val (.long p2), .second, .val (.int (Int32.ofNat q1)), .val (.int (Int32.ofNat q2)), .val (.ref b), .val (.ref x), .val (.ref o1)] [(.ref o1)]))
  refine Go.st (fun _ k => XS.aload X.here hx rfl (hb hby at_196) rfl rfl k) ?_
  show Go p e below _ (T.setTop (mkF m 198 #[.val (.int p0), .val (.int p1), .val (.long p2), .second, .val (.int (Int32.ofNat q1)), .val (.int (Int32.ofNat q2)), .val (.ref b), .val (.ref x), .val (.ref o1)] [(.ref b), (.ref o1)]))
  refine Go.st (fun _ k => XS.iconst X.here hx rfl (hb hby at_198) k) ?_
  show Go p e below _ (T.setTop (mkF m 199 #[.val (.int p0), .val (.int p1), .val (.long p2), .second, .val (.int (Int32.ofNat q1)), .val (.int (Int32.ofNat q2)), .val (.ref b), .val (.ref x), .val (.ref o1)] [(.int (2 : Int32)), (.ref b), (.ref o1)]))
  refine Go.st (fun _ k => XS.iload X.here hx rfl (hb hby at_199) rfl k) ?_
  show Go p e below _ (T.setTop (mkF m 201 #[.val (.int p0), .val (.int p1), .val (.long p2), .second, .val (.int (Int32.ofNat q1)), .val (.int (Int32.ofNat q2)), .val (.ref b), .val (.ref x), .val (.ref o1)] [(.int (Int32.ofNat q2)), (.int (2 : Int32)), (.ref b), (.ref o1)]))
  refine Go.callV (argsL := [(.ref o1), (.ref b), (.int (2 : Int32)), (.int (Int32.ofNat q2))]) (rest := []) (W := 0) X hx hZ hown (hml.trans rfl) hT (hw _ (List.mem_of_getElem? (i := 119) rfl)) (hw _ (List.mem_of_getElem? (i := 120) rfl)) (hw _ (List.mem_of_getElem? (i := 4) rfl)) (hw _ (List.mem_of_getElem? (i := 121) rfl)) (by decide) pd_17 rfl rfl (Nat.le_of_ble_eq_true rfl) (hb hby at_201) (backOf (W := 0) (met_same l Z a0 hw [] z fm n0 o1 b k_b cs 2 q2 _ O Sc Sf S_o1 hlat V_b (by omega) (by omega) (by omega)) hZ (hw _ (List.mem_of_getElem? (i := 121) rfl)) (hw _ (List.mem_of_getElem? (i := 4) rfl)) (by decide) (by decide)) (by decide) (by decide) ?_
  intro T hT X
  show Go p e below _ (T.setTop (mkF m 204 #[.val (.int p0), .val (.int p1), .val (.long p2), .second, .val (.int (Int32.ofNat q1)), .val (.int (Int32.ofNat q2)), .val (.ref b), .val (.ref x), .val (.ref o1)] [(.int (1 : Int32))]))
  refine Go.st (fun _ k => XS.ifNo X.here hx rfl (hb hby at_204) rfl (Jvm.Free.XT.i0_eq_f (by decide : ¬ ((1 : Int32) = (0 : Int32)))) k) ?_
  show Go p e below _ (T.setTop (mkF m 207 #[.val (.int p0), .val (.int p1), .val (.long p2), .second, .val (.int (Int32.ofNat q1)), .val (.int (Int32.ofNat q2)), .val (.ref b), .val (.ref x), .val (.ref o1)] []))
  refine Go.st (fun _ k => XS.aload X.here hx rfl (hb hby at_207) rfl rfl k) ?_
  show Go p e below _ (T.setTop (mkF m 209 #[.val (.int p0), .val (.int p1), .val (.long p2), .second, .val (.int (Int32.ofNat q1)), .val (.int (Int32.ofNat q2)), .val (.ref b), .val (.ref x), .val (.ref o1)] [(.ref o1)]))
  refine Go.st (fun _ k => XS.aload X.here hx rfl (hb hby at_209) rfl rfl k) ?_
  show Go p e below _ (T.setTop (mkF m 211 #[.val (.int p0), .val (.int p1), .val (.long p2), .second, .val (.int (Int32.ofNat q1)), .val (.int (Int32.ofNat q2)), .val (.ref b), .val (.ref x), .val (.ref o1)] [(.ref b), (.ref o1)]))
  refine Go.st (fun _ k => XS.iconst X.here hx rfl (hb hby at_211) k) ?_
  show Go p e below _ (T.setTop (mkF m 212 #[.val (.int p0), .val (.int p1), .val (.long p2), .second, .val (.int (Int32.ofNat q1)), .val (.int (Int32.ofNat q2)), .val (.ref b), .val (.ref x), .val (.ref o1)] [(.int (3 : Int32)), (.ref b), (.ref o1)]))
  refine Go.st (fun _ k => XS.iload X.here hx rfl (hb hby at_212) rfl k) ?_
  show Go p e below _ (T.setTop (mkF m 214 #[.val (.int p0), .val (.int p1), .val (.long p2), .second, .val (.int (Int32.ofNat q1)), .val (.int (Int32.ofNat q2)), .val (.ref b), .val (.ref x), .val (.ref o1)] [(.int (Int32.ofNat q2)), (.int (3 : Int32)), (.ref b), (.ref o1)]))
  refine Go.callV (argsL := [(.ref o1), (.ref b), (.int (3 : Int32)), (.int (Int32.ofNat q2))]) (rest := []) (W := 0) X hx hZ hown (hml.trans rfl) hT (hw _ (List.mem_of_getElem? (i := 119) rfl)) (hw _ (List.mem_of_getElem? (i := 120) rfl)) (hw _ (List.mem_of_getElem? (i := 4) rfl)) (hw _ (List.mem_of_getElem? (i := 121) rfl)) (by decide) pd_17 rfl rfl (Nat.le_of_ble_eq_true rfl) (hb hby at_214) (backOf (W := 0) (met_same l Z a0 hw [] z fm n0 o1 b k_b cs 3 q2 _ O Sc Sf S_o1 hlat V_b (by omega) (by omega) (by omega)) hZ (hw _ (List.mem_of_getElem? (i := 121) rfl)) (hw _ (List.mem_of_getElem? (i := 4) rfl)) (by decide) (by decide)) (by decide) (by decide) ?_
  intro T hT X
  show Go p e below _ (T.setTop (mkF m 217 #[.val (.int p0), .val (.int p1), .val (.long p2), .second, .val (.int (Int32.ofNat q1)), .val (.int (Int32.ofNat q2)), .val (.ref b), .val (.ref x), .val (.ref o1)] [(.int (1 : Int32))]))
  refine Go.st (fun _ k => XS.ifNo X.here hx rfl (hb hby at_217) rfl (Jvm.Free.XT.i0_eq_f (by decide : ¬ ((1 : Int32) = (0 : Int32)))) k) ?_
  show Go p e below _ (T.setTop (mkF m 220 #[.val (.int p0), .val (.int p1), .val (.long p2), .second, .val (.int (Int32.ofNat q1)), .val (.int (Int32.ofNat q2)), .val (.ref b), .val (.ref x), .val (.ref o1)] []))
  refine Go.st (fun _ k => XS.aload X.here hx rfl (hb hby at_220) rfl rfl k) ?_
  show Go p e below _ (T.setTop (mkF m 222 #[.val (.int p0), .val (.int p1), .val (.long p2), .second, .val (.int (Int32.ofNat q1)), .val (.int (Int32.ofNat q2)), .val (.ref b), .val (.ref x), .val (.ref o1)] [(.ref o1)]))
  refine Go.st (fun _ k => XS.aload X.here hx rfl (hb hby at_222) rfl rfl k) ?_
  show Go p e below _ (T.setTop (mkF m 224 #[.val (.int p0), .val (.int p1), .val (.long p2), .second, .val (.int (Int32.ofNat q1)), .val (.int (Int32.ofNat q2)), .val (.ref b), .val (.ref x), .val (.ref o1)] [(.ref b), (.ref o1)]))
  refine Go.st (fun _ k => XS.iconst X.here hx rfl (hb hby at_224) k) ?_
  show Go p e below _ (T.setTop (mkF m 225 #[.val (.int p0), .val (.int p1), .val (.long p2), .second, .val (.int (Int32.ofNat q1)), .val (.int (Int32.ofNat q2)), .val (.ref b), .val (.ref x), .val (.ref o1)] [(.int (4 : Int32)), (.ref b), (.ref o1)]))
  refine Go.st (fun _ k => XS.iload X.here hx rfl (hb hby at_225) rfl k) ?_
  show Go p e below _ (T.setTop (mkF m 227 #[.val (.int p0), .val (.int p1), .val (.long p2), .second, .val (.int (Int32.ofNat q1)), .val (.int (Int32.ofNat q2)), .val (.ref b), .val (.ref x), .val (.ref o1)] [(.int (Int32.ofNat q2)), (.int (4 : Int32)), (.ref b), (.ref o1)]))
  refine Go.callV (argsL := [(.ref o1), (.ref b), (.int (4 : Int32)), (.int (Int32.ofNat q2))]) (rest := []) (W := 0) X hx hZ hown (hml.trans rfl) hT (hw _ (List.mem_of_getElem? (i := 119) rfl)) (hw _ (List.mem_of_getElem? (i := 120) rfl)) (hw _ (List.mem_of_getElem? (i := 4) rfl)) (hw _ (List.mem_of_getElem? (i := 121) rfl)) (by decide) pd_17 rfl rfl (Nat.le_of_ble_eq_true rfl) (hb hby at_227) (backOf (W := 0) (met_same l Z a0 hw [] z fm n0 o1 b k_b cs 4 q2 _ O Sc Sf S_o1 hlat V_b (by omega) (by omega) (by omega)) hZ (hw _ (List.mem_of_getElem? (i := 121) rfl)) (hw _ (List.mem_of_getElem? (i := 4) rfl)) (by decide) (by decide)) (by decide) (by decide) ?_
  intro T hT X
  show Go p e below _ (T.setTop (mkF m 230 #[.val (.int p0), .val (.int p1), .val (.long p2), .second, .val (.int (Int32.ofNat q1)), .val (.int (Int32.ofNat q2)), .val (.ref b), .val (.ref x), .val (.ref o1)] [(.int (1 : Int32))]))
  refine Go.st (fun _ k => XS.ifNo X.here hx rfl (hb hby at_230) rfl (Jvm.Free.XT.i0_eq_f (by decide : ¬ ((1 : Int32) = (0 : Int32)))) k) ?_
  show Go p e below _ (T.setTop (mkF m 233 #[.val (.int p0), .val (.int p1), .val (.long p2), .second, .val (.int (Int32.ofNat q1)), .val (.int (Int32.ofNat q2)), .val (.ref b), .val (.ref x), .val (.ref o1)] []))
  refine Go.st (fun _ k => XS.aload X.here hx rfl (hb hby at_233) rfl rfl k) ?_
  show Go p e below _ (T.setTop (mkF m 235 #[.val (.int p0), .val (.int p1), .val (.long p2), .second, .val (.int (Int32.ofNat q1)), .val (.int (Int32.ofNat q2)), .val (.ref b), .val (.ref x), .val (.ref o1)] [(.ref o1)]))
  refine Go.st (fun _ k => XS.aload X.here hx rfl (hb hby at_235) rfl rfl k) ?_
  show Go p e below _ (T.setTop (mkF m 237 #[.val (.int p0), .val (.int p1), .val (.long p2), .second, .val (.int (Int32.ofNat q1)), .val (.int (Int32.ofNat q2)), .val (.ref b), .val (.ref x), .val (.ref o1)] [(.ref b), (.ref o1)]))
  refine Go.st (fun _ k => XS.iconst X.here hx rfl (hb hby at_237) k) ?_
  show Go p e below _ (T.setTop (mkF m 238 #[.val (.int p0), .val (.int p1), .val (.long p2), .second, .val (.int (Int32.ofNat q1)), .val (.int (Int32.ofNat q2)), .val (.ref b), .val (.ref x), .val (.ref o1)] [(.int (5 : Int32)), (.ref b), (.ref o1)]))
  refine Go.st (fun _ k => XS.iload X.here hx rfl (hb hby at_238) rfl k) ?_
  show Go p e below _ (T.setTop (mkF m 240 #[.val (.int p0), .val (.int p1), .val (.long p2), .second, .val (.int (Int32.ofNat q1)), .val (.int (Int32.ofNat q2)), .val (.ref b), .val (.ref x), .val (.ref o1)] [(.int (Int32.ofNat q2)), (.int (5 : Int32)), (.ref b), (.ref o1)]))
  refine Go.callV (argsL := [(.ref o1), (.ref b), (.int (5 : Int32)), (.int (Int32.ofNat q2))]) (rest := []) (W := 0) X hx hZ hown (hml.trans rfl) hT (hw _ (List.mem_of_getElem? (i := 119) rfl)) (hw _ (List.mem_of_getElem? (i := 120) rfl)) (hw _ (List.mem_of_getElem? (i := 4) rfl)) (hw _ (List.mem_of_getElem? (i := 121) rfl)) (by decide) pd_17 rfl rfl (Nat.le_of_ble_eq_true rfl) (hb hby at_240) (backOf (W := 0) (met_same l Z a0 hw [] z fm n0 o1 b k_b cs 5 q2 _ O Sc Sf S_o1 hlat V_b (by omega) (by omega) (by omega)) hZ (hw _ (List.mem_of_getElem? (i := 121) rfl)) (hw _ (List.mem_of_getElem? (i := 4) rfl)) (by decide) (by decide)) (by decide) (by decide) ?_
  intro T hT X
  show Go p e below _ (T.setTop (mkF m 243 #[.val (.int p0), .val (.int p1), .val (.long p2), .second, .val (.int (Int32.ofNat q1)), .val (.int (Int32.ofNat q2)), .val (.ref b), .val (.ref x), .val (.ref o1)] [(.int (1 : Int32))]))
  refine Go.st (fun _ k => XS.ifNo X.here hx rfl (hb hby at_243) rfl (Jvm.Free.XT.i0_eq_f (by decide : ¬ ((1 : Int32) = (0 : Int32)))) k) ?_
  show Go p e below _ (T.setTop (mkF m 246 #[.val (.int p0), .val (.int p1), .val (.long p2), .second, .val (.int (Int32.ofNat q1)), .val (.int (Int32.ofNat q2)), .val (.ref b), .val (.ref x), .val (.ref o1)] []))
  refine Go.st (fun _ k => XS.aload X.here hx rfl (hb hby at_246) rfl rfl k) ?_
  show Go p e below _ (T.setTop (mkF m 248 #[.val (.int p0), .val (.int p1), .val (.long p2), .second, .val (.int (Int32.ofNat q1)), .val (.int (Int32.ofNat q2)), .val (.ref b), .val (.ref x), .val (.ref o1)] [(.ref o1)]))
  refine Go.st (fun _ k => XS.aload X.here hx rfl (hb hby at_248) rfl rfl k) ?_
  show Go p e below _ (T.setTop (mkF m 250 #[.val (.int p0), .val (.int p1), .val (.long p2), .second, .val (.int (Int32.ofNat q1)), .val (.int (Int32.ofNat q2)), .val (.ref b), .val (.ref x), .val (.ref o1)] [(.ref b), (.ref o1)]))
  refine Go.st (fun _ k => XS.bipush X.here hx rfl (hb hby at_250) k) ?_
  show Go p e below _ (T.setTop (mkF m 252 #[.val (.int p0), .val (.int p1), .val (.long p2), .second, .val (.int (Int32.ofNat q1)), .val (.int (Int32.ofNat q2)), .val (.ref b), .val (.ref x), .val (.ref o1)] [(.int (6 : Int32)), (.ref b), (.ref o1)]))
  refine Go.st (fun _ k => XS.iload X.here hx rfl (hb hby at_252) rfl k) ?_
  show Go p e below _ (T.setTop (mkF m 254 #[.val (.int p0), .val (.int p1), .val (.long p2), .second, .val (.int (Int32.ofNat q1)), .val (.int (Int32.ofNat q2)), .val (.ref b), .val (.ref x), .val (.ref o1)] [(.int (Int32.ofNat q2)), (.int (6 : Int32)), (.ref b), (.ref o1)]))
  refine Go.callV (argsL := [(.ref o1), (.ref b), (.int (6 : Int32)), (.int (Int32.ofNat q2))]) (rest := []) (W := 0) X hx hZ hown (hml.trans rfl) hT (hw _ (List.mem_of_getElem? (i := 119) rfl)) (hw _ (List.mem_of_getElem? (i := 120) rfl)) (hw _ (List.mem_of_getElem? (i := 4) rfl)) (hw _ (List.mem_of_getElem? (i := 121) rfl)) (by decide) pd_17 rfl rfl (Nat.le_of_ble_eq_true rfl) (hb hby at_254) (backOf (W := 0) (met_same l Z a0 hw [] z fm n0 o1 b k_b cs 6 q2 _ O Sc Sf S_o1 hlat V_b (by omega) (by omega) (by omega)) hZ (hw _ (List.mem_of_getElem? (i := 121) rfl)) (hw _ (List.mem_of_getElem? (i := 4) rfl)) (by decide) (by decide)) (by decide) (by decide) ?_
  intro T hT X
  show Go p e below _ (T.setTop (mkF m 257 #[.val (.int p0), .val (.int p1), .val (.long p2), .second, .val (.int (Int32.ofNat q1)), .val (.int (Int32.ofNat q2)), .val (.ref b), .val (.ref x), .val (.ref o1)] [(.int (1 : Int32))]))
  refine Go.st (fun _ k => XS.ifNo X.here hx rfl (hb hby at_257) rfl (Jvm.Free.XT.i0_eq_f (by decide : ¬ ((1 : Int32) = (0 : Int32)))) k) ?_
  show Go p e below _ (T.setTop (mkF m 260 #[.val (.int p0), .val (.int p1), .val (.long p2), .second, .val (.int (Int32.ofNat q1)), .val (.int (Int32.ofNat q2)), .val (.ref b), .val (.ref x), .val (.ref o1)] []))
  refine Go.st (fun _ k => XS.aload X.here hx rfl (hb hby at_260) rfl rfl k) ?_
  show Go p e below _ (T.setTop (mkF m 262 #[.val (.int p0), .val (.int p1), .val (.long p2), .second, .val (.int (Int32.ofNat q1)), .val (.int (Int32.ofNat q2)), .val (.ref b), .val (.ref x), .val (.ref o1)] [(.ref o1)]))
  refine Go.st (fun _ k => XS.aload X.here hx rfl (hb hby at_262) rfl rfl k) ?_
  show Go p e below _ (T.setTop (mkF m 264 #[.val (.int p0), .val (.int p1), .val (.long p2), .second, .val (.int (Int32.ofNat q1)), .val (.int (Int32.ofNat q2)), .val (.ref b), .val (.ref x), .val (.ref o1)] [(.ref b), (.ref o1)]))
  refine Go.st (fun _ k => XS.bipush X.here hx rfl (hb hby at_264) k) ?_
  show Go p e below _ (T.setTop (mkF m 266 #[.val (.int p0), .val (.int p1), .val (.long p2), .second, .val (.int (Int32.ofNat q1)), .val (.int (Int32.ofNat q2)), .val (.ref b), .val (.ref x), .val (.ref o1)] [(.int (7 : Int32)), (.ref b), (.ref o1)]))
  refine Go.st (fun _ k => XS.iload X.here hx rfl (hb hby at_266) rfl k) ?_
  show Go p e below _ (T.setTop (mkF m 268 #[.val (.int p0), .val (.int p1), .val (.long p2), .second, .val (.int (Int32.ofNat q1)), .val (.int (Int32.ofNat q2)), .val (.ref b), .val (.ref x), .val (.ref o1)] [(.int (Int32.ofNat q2)), (.int (7 : Int32)), (.ref b), (.ref o1)]))
  refine Go.callV (argsL := [(.ref o1), (.ref b), (.int (7 : Int32)), (.int (Int32.ofNat q2))]) (rest := []) (W := 0) X hx hZ hown (hml.trans rfl) hT (hw _ (List.mem_of_getElem? (i := 119) rfl)) (hw _ (List.mem_of_getElem? (i := 120) rfl)) (hw _ (List.mem_of_getElem? (i := 4) rfl)) (hw _ (List.mem_of_getElem? (i := 121) rfl)) (by decide) pd_17 rfl rfl (Nat.le_of_ble_eq_true rfl) (hb hby at_268) (backOf (W := 0) (met_same l Z a0 hw [] z fm n0 o1 b k_b cs 7 q2 _ O Sc Sf S_o1 hlat V_b (by omega) (by omega) (by omega)) hZ (hw _ (List.mem_of_getElem? (i := 121) rfl)) (hw _ (List.mem_of_getElem? (i := 4) rfl)) (by decide) (by decide)) (by decide) (by decide) ?_
  intro T hT X
  show Go p e below _ (T.setTop (mkF m 271 #[.val (.int p0), .val (.int p1), .val (.long p2), .second, .val (.int (Int32.ofNat q1)), .val (.int (Int32.ofNat q2)), .val (.ref b), .val (.ref x), .val (.ref o1)] [(.int (1 : Int32))]))
  refine Go.st (fun _ k => XS.ifNo X.here hx rfl (hb hby at_271) rfl (Jvm.Free.XT.i0_eq_f (by decide : ¬ ((1 : Int32) = (0 : Int32)))) k) ?_
  show Go p e below _ (T.setTop (mkF m 274 #[.val (.int p0), .val (.int p1), .val (.long p2), .second, .val (.int (Int32.ofNat q1)), .val (.int (Int32.ofNat q2)), .val (.ref b), .val (.ref x), .val (.ref o1)] []))
  refine Go.st (fun _ k => XS.iconst X.here hx rfl (hb hby at_274) k) ?_
  show Go p e below _ (T.setTop (mkF m 275 #[.val (.int p0), .val (.int p1), .val (.long p2), .second, .val (.int (Int32.ofNat q1)), .val (.int (Int32.ofNat q2)), .val (.ref b), .val (.ref x), .val (.ref o1)] [(.int (1 : Int32))]))
  refine Go.st (fun _ k => XS.goto X.here hx rfl (pc0 := 275) (pc' := 279) rfl (hb hby at_275) (by decide) (by decide) k) ?_
  show Go p e below _ (T.setTop (mkF m 279 #[.val (.int p0), .val (.int p1), .val (.long p2), .second, .val (.int (Int32.ofNat q1)), .val (.int (Int32.ofNat q2)), .val (.ref b), .val (.ref x), .val (.ref o1)] [(.int (1 : Int32))]))
  refine Go.ret X hx hlk hT hret (by decide) (riI (by simp)) (hb hby at_279) (by decide) (by decide) ?_
  exact ⟨rfl, N⟩
set_option maxRecDepth 65536 in
set_option maxHeartbeats 40000000 in
theorem comes_1 {Post : Tables → Env → Array Value → State → Outcome → State → Prop} (hpost : ∀ tb e args s v u, (limb_1_1.after args s (.returned v) u = true ∧ limb_1_2.after args s (.returned v) u = true) → FrameEnd s (.returned v) u (Jvm.fieldLocs frame_1_writes args s ++ Jvm.arrayLocs frame_1_arrays args s ++ Jvm.staticLocs frame_1_statics s) 24 128 → Post tb e args s (.returned v) u) :
    ArmFor flags0 classFile x code maxLocals ret World_1 tables_1 room_1 Calls_1 rest_1 Pre_1 Post := by
  intro l hfl _ _ p e ha hc hk s m args below hf hA hF happ hP
  obtain ⟨hcalls, hrest, hpre⟩ := hP
  obtain ⟨-, -, -, hnamed, -, -, -, hat⟩ := (Spec.applies_iff hf).mp happ
  obtain ⟨hg, hn⟩ := and_e (Cond.before_iff.mp (show (Jvm.Cond.and given_1 narrow_1).before args s = true from hpre))
  obtain ⟨hcnt, hg⟩ := and_e hg
  obtain ⟨ha0, hg⟩ := and_e hg
  obtain ⟨ha1, hg⟩ := and_e hg
  have ha2 := hg
  obtain ⟨w0, w1, w2, rfl⟩ : ∃ w0 w1 w2 : Value, args = #[w0, w1, w2] := by
    have hs : args.size = 3 := by simpa [Cond.value, given_1] using hcnt
    obtain ⟨L⟩ := args
    match L, hs with
    | [w0, w1, w2], _ => exact ⟨w0, w1, w2, rfl⟩
  have hw := fun d (hd : d ∈ tables_1) => atoms_spec (ws := Jvm.Cond.code x code maxLocals ret :: tables_1) hat d (List.mem_cons_of_mem _ hd)
  obtain ⟨hsets, hown0⟩ := atoms_of _ (rest_1_c_eq ▸ (show rest_1_c.before _ s = true from hrest))
  obtain ⟨i0, e0⟩ := is_v ha0
  obtain rfl : w0 = (.int i0) := Option.some.inj e0
  obtain ⟨i1, e1⟩ := is_v ha1
  obtain rfl : w1 = (.int i1) := Option.some.inj e1
  obtain ⟨i2, e2⟩ := isL_v ha2
  obtain rfl : w2 = (.long i2) := Option.some.inj e2
  obtain ⟨iz, ez⟩ := is_v (Cond.before_iff.mp (hsets _ (List.mem_of_getElem? (i := 1) rfl)))
  have Sz : Sta s s.heap "java/lang/String" "COMPACT_STRINGS" "Z" (.int iz) := Sta.start ez (Or.inl (hsets _ (List.mem_of_getElem? (i := 0) rfl)))
  have nz : ¬ (iz = (0 : Int32)) := gotF (Cond.eq_ints ez (Term.int_eval (0))) (not_v (Cond.before_iff.mp (hsets _ (List.mem_of_getElem? (i := 2) rfl))))
  have Sc : Stat s iz := ⟨Sz, nz⟩
  obtain ⟨vf, ef, rf⟩ := isR_v (Cond.before_iff.mp (hsets _ (List.mem_of_getElem? (i := 8) rfl)))
  have Sf : StF s vf := ⟨Sta.start ef (Or.inl (hsets _ (List.mem_of_getElem? (i := 7) rfl))), rf⟩
  obtain ⟨n, o, h1, h2, h3, _, L, rfl, ⟨rfl, N⟩, hq⟩ := met_law l s _ hw tables_1 i0 i1 i2 iz vf s.heap.size s.heap (Old.start s) Sc Sf p e ha hc hk s m _ below hf ((Spec.applies_iff_loose hf).mp happ).1 ⟨rfl, State.Warmed39.refl s, rfl⟩ trivial
  refine ⟨n, _, h1, h2, h3, hpost _ _ _ _ _ _ ⟨Cond.after_iff.mpr rfl, Cond.after_iff.mpr (eq_i res_at (Term.int_eval (1)) rfl)⟩ ⟨hq.1, hq.2.1, (hq.2.2.sift fun y hy => Or.inr (N y hy)).mono (by decide) (by decide)⟩⟩
theorem main_1_1 : Claimed_1_1 := comes_1 fun _ _ _ _ _ _ h hF => ⟨h.1, hF⟩
theorem main_1_2 : Claimed_1_2 := comes_1 fun _ _ _ _ _ _ h hF => ⟨h.2, hF⟩
end Jvm.Pilot.@@N@@
namespace Jvm.Pilot.@@N@@
open Jvm Jvm.ClassFile Sem Op Lib Jvm.Free Jvm.Stand Jvm.Pilot.@@N@@.Jvm.D
/-! MADE BY PROGRAM (witnessworld.py) out of the Statement's table words and the real class files: 23 classes; the members and pool entries that the words name. The judged class is class 1, her method 1. -/
namespace start1
open Jvm.ClassFile
def u (s : String) : CpInfo := .utf8 (stringToUtf16 s)
/-- a pool by its gaps: so many unusable entries, then the entry; so many at the end -/
def gap : Nat → List CpInfo → List CpInfo
  | 0, r => r
  | n + 1, r => .unusable :: gap n r
def poolList (es : List (Nat × CpInfo)) (last : Nat) : List CpInfo := es.foldr (fun e r => gap e.1 (e.2 :: r)) (gap last [])
def pool (es : List (Nat × CpInfo)) (last : Nat) : Array CpInfo := ⟨poolList es last⟩
def fileOf (pool : Array CpInfo) (this : Nat) (attrs : Array Attribute := #[]) (ms : Array MethodInfo := #[]) (fl : Nat := 33) (sup : Nat := 0) (ifs : Array Nat := #[]) (fds : Array FieldInfo := #[]) : ClassFile where
  minorVersion := 0
  majorVersion := 65
  constantPool := pool
  accessFlags := fl
  thisClass := this
  superClass := sup
  interfaces := ifs
  fields := fds
  methods := ms
  attributes := attrs
def plain (name : String) (sup : Option ClassId) : Class where
  name := name
  kind := .ordinary
  loader := none
  accessFlags := 33
  super := sup
  interfaces := #[]
  cf := none
  fields := #[]
  methods := #[]
  instanceTypes := #[]
  staticTypes := #[]
  resolved := #[]
  callSites := []
  init := .initialized
  statics := none
  mirror := none

def pool0 : Array CpInfo := pool [(5, u "<init>"), (0, u "()V"), (1, .class_ 10), (1, u "java/lang/Object")] 113

def k0c0 : Code := { maxStack := 0, maxLocals := 1, code := object_method_1_code, exceptionTable := #[], attributes := #[] }
def k0m0 : Method := { name := "<init>", desc := "()V", sig := { parameters := [], returnType := none }, accessFlags := 1, code := some k0c0 }
/-- java/lang/Object -/
def k0 : Class := { plain "java/lang/Object" none with
  accessFlags := 33
  interfaces := #[]
  cf := some (fileOf pool0 8 #[] #[{ accessFlags := 1, nameIndex := 5, descriptorIndex := 6, attributes := #[] }] 33 0 #[] #[])
  fields := #[]
  methods := #[k0m0]
  instanceTypes := #[]
  staticTypes := #[]
  resolved := Array.replicate 124 none
  statics := none }

def pool1 : Array CpInfo := pool [(2, .class_ 4), (1, u "java/lang/Object"), (0, u "<init>"), (0, u "()V"), (0, .integer 2147483647), (0, .methodref 9 10), (0, .class_ 11), (0, .nameAndType 12 13), (0, u "com/example/daugava/daugava/iso20022/Iso20022MessageNamePinLaw"), (0, u "draw"), (0, u "(JIII)C"), (0, .class_ 15), (0, u "java/lang/String"), (0, .methodref 14 17), (0, .nameAndType 5 18), (0, u "([C)V"), (0, .methodref 20 21), (0, .class_ 22), (0, .nameAndType 23 24), (0, u "com/example/daugava/daugava/iso20022/Iso20022"), (0, u "messageName"), (0, u "(Ljava/lang/String;)Ljava/lang/String;"), (0, .methodref 14 26), (0, .nameAndType 27 28), (0, u "length"), (0, u "()I"), (0, .methodref 9 30), (0, .nameAndType 31 32), (0, u "same"), (0, u "(Ljava/lang/String;[CII)Z"), (0, .long 255), (1, .methodref 14 36), (0, .nameAndType 37 38), (0, u "charAt"), (0, u "(I)C"), (2, u "law"), (0, u "(IIJ)Z")] 5

def k1m0 : Method := { name := "<init>", desc := "()V", sig := { parameters := [], returnType := none }, accessFlags := 1, code := none }
def k1c1 : Code := { maxStack := 7, maxLocals := 9, code := code, exceptionTable := #[], attributes := #[] }
def k1m1 : Method := { name := "law", desc := "(IIJ)Z", sig := { parameters := [.int, .int, .long], returnType := some .boolean }, accessFlags := 9, code := some k1c1 }
def k1c2 : Code := { maxStack := 4, maxLocals := 6, code := method_3_code, exceptionTable := #[], attributes := #[] }
def k1m2 : Method := { name := "draw", desc := "(JIII)C", sig := { parameters := [.long, .int, .int, .int], returnType := some .char }, accessFlags := 10, code := some k1c2 }
def k1c3 : Code := { maxStack := 3, maxLocals := 4, code := method_4_code, exceptionTable := #[], attributes := #[] }
def k1m3 : Method := { name := "same", desc := "(Ljava/lang/String;[CII)Z", sig := { parameters := [(.object "java/lang/String"), (.array .char), .int, .int], returnType := some .boolean }, accessFlags := 10, code := some k1c3 }
/-- com/example/daugava/daugava/iso20022/Iso20022MessageNamePinLaw -/
def k1 : Class := { plain "com/example/daugava/daugava/iso20022/Iso20022MessageNamePinLaw" (some 0) with
  accessFlags := 49
  interfaces := #[]
  cf := some (fileOf pool1 9 #[] #[{ accessFlags := 1, nameIndex := 5, descriptorIndex := 6, attributes := #[] }, { accessFlags := 9, nameIndex := 41, descriptorIndex := 42, attributes := #[] }, { accessFlags := 10, nameIndex := 12, descriptorIndex := 13, attributes := #[] }, { accessFlags := 10, nameIndex := 31, descriptorIndex := 32, attributes := #[] }] 49 2 #[] #[])
  fields := #[]
  methods := #[k1m0, k1m1, k1m2, k1m3]
  instanceTypes := #[]
  staticTypes := #[]
  resolved := Array.replicate 48 none
  statics := none }

def pool2 : Array CpInfo := pool [(1, .class_ 2), (0, u "java/io/Serializable"), (0, .class_ 4), (0, u "java/lang/Object")] 2

/-- java/io/Serializable -/
def k2 : Class := { plain "java/io/Serializable" (some 0) with
  accessFlags := 1537
  interfaces := #[]
  cf := some (fileOf pool2 1 #[] #[] 1537 3 #[] #[])
  fields := #[]
  methods := #[]
  instanceTypes := #[]
  staticTypes := #[]
  resolved := Array.replicate 7 none
  statics := none }

def pool3 : Array CpInfo := pool [(1, .class_ 2), (0, u "java/lang/Comparable"), (0, .class_ 4), (0, u "java/lang/Object")] 7

/-- java/lang/Comparable -/
def k3 : Class := { plain "java/lang/Comparable" (some 0) with
  accessFlags := 1537
  interfaces := #[]
  cf := some (fileOf pool3 1 #[] #[] 1537 3 #[] #[])
  fields := #[]
  methods := #[]
  instanceTypes := #[]
  staticTypes := #[]
  resolved := Array.replicate 12 none
  statics := none }

def pool4 : Array CpInfo := pool [(2, .class_ 4), (1, u "java/lang/CharSequence"), (42, .class_ 48), (0, u "java/lang/CharSequence$1CodePointIterator"), (10, .class_ 60), (0, u "java/lang/CharSequence$1CharIterator"), (5, .class_ 67), (0, u "java/lang/Object")] 63

/-- java/lang/CharSequence -/
def k4 : Class := { plain "java/lang/CharSequence" (some 0) with
  accessFlags := 1537
  interfaces := #[]
  cf := some (fileOf pool4 2 #[.nestMembers #[47, 59]] #[] 1537 66 #[] #[])
  fields := #[]
  methods := #[]
  instanceTypes := #[]
  staticTypes := #[]
  resolved := Array.replicate 131 none
  statics := none }

def pool5 : Array CpInfo := pool [(1, .class_ 2), (0, u "java/lang/constant/Constable"), (0, .class_ 4), (0, u "java/lang/Object")] 6

/-- java/lang/constant/Constable -/
def k5 : Class := { plain "java/lang/constant/Constable" (some 0) with
  accessFlags := 1537
  interfaces := #[]
  cf := some (fileOf pool5 1 #[] #[] 1537 3 #[] #[])
  fields := #[]
  methods := #[]
  instanceTypes := #[]
  staticTypes := #[]
  resolved := Array.replicate 11 none
  statics := none }

def pool6 : Array CpInfo := pool [(1, .class_ 2), (0, u "java/lang/constant/ConstantDesc"), (0, .class_ 4), (0, u "java/lang/Object")] 32

/-- java/lang/constant/ConstantDesc -/
def k6 : Class := { plain "java/lang/constant/ConstantDesc" (some 0) with
  accessFlags := 1537
  interfaces := #[]
  cf := some (fileOf pool6 1 #[] #[] 1537 3 #[] #[])
  fields := #[]
  methods := #[]
  instanceTypes := #[]
  staticTypes := #[]
  resolved := Array.replicate 37 none
  statics := none }

def pool7 : Array CpInfo := pool [(1, .methodref 2 3), (0, .class_ 4), (0, .nameAndType 5 6), (0, u "java/lang/Object"), (0, u "<init>"), (0, u "()V"), (2, .fieldref 10 11), (0, .class_ 12), (0, .nameAndType 13 14), (0, u "java/lang/String"), (0, u "value"), (0, u "[B"), (0, .fieldref 10 16), (0, .nameAndType 17 18), (0, u "coder"), (0, u "B"), (2, u "hash"), (0, u "I"), (2, u "hashIsZero"), (0, u "Z"), (0, .methodref 10 28), (0, .nameAndType 5 29), (0, u "([CIILjava/lang/Void;)V"), (8, .fieldref 10 39), (0, .nameAndType 40 26), (0, u "COMPACT_STRINGS"), (1, .class_ 44), (1, u "java/lang/StringUTF16"), (0, u "compress"), (1, .methodref 42 48), (0, .nameAndType 49 50), (0, u "coderFromArrayLen"), (0, u "([BI)B"), (56, .class_ 109), (1, u "java/lang/StringLatin1"), (32, u "()Z"), (34, .methodref 42 178), (0, .nameAndType 45 179), (0, u "([CII)[B"), (31, u "([BB)V"), (122, u "()I"), (0, .methodref 10 336), (0, .nameAndType 17 337), (0, u "()B"), (25, u "([BI)C"), (27, u "(II)V"), (35, u "(I)C"), (64, .methodref 10 493), (0, .nameAndType 494 142), (0, u "isLatin1"), (0, .methodref 107 496), (0, .nameAndType 497 363), (0, u "charAt"), (3, u "checkIndex"), (3, .methodref 10 506), (0, .nameAndType 507 334), (0, u "length"), (5, u "checkFromToIndex"), (7, .methodref 10 522), (0, .nameAndType 523 524), (0, u "checkBoundsBeginEnd"), (0, u "(III)V"), (50, .class_ 576), (0, u "java/lang/CharSequence"), (22, u "CASE_INSENSITIVE_ORDER"), (0, u "Ljava/util/Comparator;"), (32, .methodref 10 634), (0, .nameAndType 635 636), (0, u "indexOf"), (0, u "(II)I"), (0, .methodref 107 638), (0, .nameAndType 635 639), (0, u "([BIII)I"), (43, u "substring"), (0, u "(II)Ljava/lang/String;"), (0, .methodref 107 686), (0, .nameAndType 687 688), (0, u "newString"), (0, u "([BII)Ljava/lang/String;"), (76, u "(I)I"), (244, u "([C)V"), (42, .fieldref 1054 1055), (0, .class_ 1056), (0, .nameAndType 1057 1058), (0, u "jdk/internal/util/Preconditions"), (0, u "SIOOBE_FORMATTER"), (0, u "Ljava/util/function/BiFunction;"), (0, .methodref 1054 1060), (0, .nameAndType 501 1061), (0, u "(IILjava/util/function/BiFunction;)I"), (0, .methodref 1054 1063), (0, .nameAndType 513 1064), (0, u "(IIILjava/util/function/BiFunction;)I"), (36, u "serialPersistentFields"), (0, u "[Ljava/io/ObjectStreamField;"), (0, .class_ 1104), (0, u "java/lang/String$CaseInsensitiveComparator"), (1, .class_ 1107), (0, u "java/io/Serializable"), (0, .class_ 1109), (0, u "java/lang/Comparable"), (0, .class_ 1111), (0, u "java/lang/constant/Constable"), (0, .class_ 1113), (0, u "java/lang/constant/ConstantDesc"), (2, u "serialVersionUID"), (0, u "J"), (3, u "REPL"), (0, u "C"), (2, u "LATIN1"), (1, u "UTF16")] 323

def k7m0 : Method := { name := "<init>", desc := "()V", sig := { parameters := [], returnType := none }, accessFlags := 1, code := none }
def k7c1 : Code := { maxStack := 5, maxLocals := 2, code := jdk_42_method_3_code, exceptionTable := #[], attributes := #[] }
def k7m1 : Method := { name := "<init>", desc := "([C)V", sig := { parameters := [(.array .char)], returnType := none }, accessFlags := 1, code := some k7c1 }
def k7c2 : Code := { maxStack := 2, maxLocals := 1, code := jdk_42_method_54_code, exceptionTable := #[], attributes := #[] }
def k7m2 : Method := { name := "length", desc := "()I", sig := { parameters := [], returnType := some .int }, accessFlags := 1, code := some k7c2 }
def k7c3 : Code := { maxStack := 2, maxLocals := 2, code := jdk_42_method_56_code, exceptionTable := #[], attributes := #[] }
def k7m3 : Method := { name := "charAt", desc := "(I)C", sig := { parameters := [.int], returnType := some .char }, accessFlags := 1, code := some k7c3 }
def k7c4 : Code := { maxStack := 3, maxLocals := 2, code := jdk_42_method_79_code, exceptionTable := #[], attributes := #[] }
def k7m4 : Method := { name := "indexOf", desc := "(I)I", sig := { parameters := [.int], returnType := some .int }, accessFlags := 1, code := some k7c4 }
def k7c5 : Code := { maxStack := 4, maxLocals := 3, code := jdk_42_method_80_code, exceptionTable := #[], attributes := #[] }
def k7m5 : Method := { name := "indexOf", desc := "(II)I", sig := { parameters := [.int, .int], returnType := some .int }, accessFlags := 1, code := some k7c5 }
def k7c6 : Code := { maxStack := 3, maxLocals := 5, code := jdk_42_method_92_code, exceptionTable := #[], attributes := #[] }
def k7m6 : Method := { name := "substring", desc := "(II)Ljava/lang/String;", sig := { parameters := [.int, .int], returnType := some (.object "java/lang/String") }, accessFlags := 1, code := some k7c6 }
def k7c7 : Code := { maxStack := 4, maxLocals := 6, code := jdk_42_method_149_code, exceptionTable := #[], attributes := #[] }
def k7m7 : Method := { name := "<init>", desc := "([CIILjava/lang/Void;)V", sig := { parameters := [(.array .char), .int, .int, (.object "java/lang/Void")], returnType := none }, accessFlags := 2, code := some k7c7 }
def k7c8 : Code := { maxStack := 2, maxLocals := 3, code := jdk_42_method_151_code, exceptionTable := #[], attributes := #[] }
def k7m8 : Method := { name := "<init>", desc := "([BB)V", sig := { parameters := [(.array .byte), .byte], returnType := none }, accessFlags := 0, code := some k7c8 }
def k7c9 : Code := { maxStack := 1, maxLocals := 1, code := jdk_42_method_152_code, exceptionTable := #[], attributes := #[] }
def k7m9 : Method := { name := "coder", desc := "()B", sig := { parameters := [], returnType := some .byte }, accessFlags := 0, code := some k7c9 }
def k7c10 : Code := { maxStack := 1, maxLocals := 1, code := jdk_42_method_154_code, exceptionTable := #[], attributes := #[] }
def k7m10 : Method := { name := "isLatin1", desc := "()Z", sig := { parameters := [], returnType := some .boolean }, accessFlags := 0, code := some k7c10 }
def k7c11 : Code := { maxStack := 3, maxLocals := 2, code := jdk_42_method_155_code, exceptionTable := #[], attributes := #[] }
def k7m11 : Method := { name := "checkIndex", desc := "(II)V", sig := { parameters := [.int, .int], returnType := none }, accessFlags := 8, code := some k7c11 }
def k7c12 : Code := { maxStack := 4, maxLocals := 3, code := jdk_42_method_158_code, exceptionTable := #[], attributes := #[] }
def k7m12 : Method := { name := "checkBoundsBeginEnd", desc := "(III)V", sig := { parameters := [.int, .int, .int], returnType := none }, accessFlags := 8, code := some k7c12 }
/-- java/lang/String -/
def k7 : Class := { plain "java/lang/String" (some 0) with
  accessFlags := 49
  interfaces := #[2, 3, 4, 5, 6]
  cf := some (fileOf pool7 10 #[.nestMembers #[1103]] #[{ accessFlags := 1, nameIndex := 5, descriptorIndex := 6, attributes := #[] }, { accessFlags := 1, nameIndex := 5, descriptorIndex := 1010, attributes := #[] }, { accessFlags := 1, nameIndex := 507, descriptorIndex := 334, attributes := #[] }, { accessFlags := 1, nameIndex := 497, descriptorIndex := 427, attributes := #[] }, { accessFlags := 1, nameIndex := 635, descriptorIndex := 765, attributes := #[] }, { accessFlags := 1, nameIndex := 635, descriptorIndex := 636, attributes := #[] }, { accessFlags := 1, nameIndex := 683, descriptorIndex := 684, attributes := #[] }, { accessFlags := 2, nameIndex := 5, descriptorIndex := 29, attributes := #[] }, { accessFlags := 0, nameIndex := 5, descriptorIndex := 211, attributes := #[] }, { accessFlags := 0, nameIndex := 17, descriptorIndex := 337, attributes := #[] }, { accessFlags := 0, nameIndex := 494, descriptorIndex := 142, attributes := #[] }, { accessFlags := 8, nameIndex := 501, descriptorIndex := 391, attributes := #[] }, { accessFlags := 8, nameIndex := 523, descriptorIndex := 524, attributes := #[] }] 49 2 #[1106, 1108, 575, 1110, 1112] #[{ accessFlags := 18, nameIndex := 13, descriptorIndex := 14, attributes := #[] }, { accessFlags := 18, nameIndex := 17, descriptorIndex := 18, attributes := #[] }, { accessFlags := 2, nameIndex := 21, descriptorIndex := 22, attributes := #[] }, { accessFlags := 2, nameIndex := 25, descriptorIndex := 26, attributes := #[] }, { accessFlags := 26, nameIndex := 1116, descriptorIndex := 1117, attributes := #[] }, { accessFlags := 24, nameIndex := 40, descriptorIndex := 26, attributes := #[] }, { accessFlags := 26, nameIndex := 1101, descriptorIndex := 1102, attributes := #[] }, { accessFlags := 26, nameIndex := 1121, descriptorIndex := 1122, attributes := #[] }, { accessFlags := 25, nameIndex := 599, descriptorIndex := 600, attributes := #[] }, { accessFlags := 24, nameIndex := 1125, descriptorIndex := 18, attributes := #[] }, { accessFlags := 24, nameIndex := 1127, descriptorIndex := 18, attributes := #[] }])
  fields := #[{ name := "value", type := (.array .byte), accessFlags := 18, slot := 0, constantValue := 0 }, { name := "coder", type := .byte, accessFlags := 18, slot := 1, constantValue := 0 }, { name := "hash", type := .int, accessFlags := 2, slot := 2, constantValue := 0 }, { name := "hashIsZero", type := .boolean, accessFlags := 2, slot := 3, constantValue := 0 }, { name := "serialVersionUID", type := .long, accessFlags := 26, slot := 0, constantValue := 0 }, { name := "COMPACT_STRINGS", type := .boolean, accessFlags := 24, slot := 1, constantValue := 0 }, { name := "serialPersistentFields", type := (.array (.object "java/io/ObjectStreamField")), accessFlags := 26, slot := 2, constantValue := 0 }, { name := "REPL", type := .char, accessFlags := 26, slot := 3, constantValue := 0 }, { name := "CASE_INSENSITIVE_ORDER", type := (.object "java/util/Comparator"), accessFlags := 25, slot := 4, constantValue := 0 }, { name := "LATIN1", type := .byte, accessFlags := 24, slot := 5, constantValue := 0 }, { name := "UTF16", type := .byte, accessFlags := 24, slot := 6, constantValue := 0 }]
  methods := #[k7m0, k7m1, k7m2, k7m3, k7m4, k7m5, k7m6, k7m7, k7m8, k7m9, k7m10, k7m11, k7m12]
  instanceTypes := #[(.array .byte), .byte, .int, .boolean]
  staticTypes := #[.long, .boolean, (.array (.object "java/io/ObjectStreamField")), .char, (.object "java/util/Comparator"), .byte, .byte]
  resolved := Array.replicate 1451 none
  statics := some 0 }

def pool8 : Array CpInfo := pool [(6, .class_ 8), (1, u "java/lang/Object"), (0, u "<init>"), (0, u "()V"), (1, .class_ 14), (1, u "java/lang/StringUTF16"), (31, u "$assertionsDisabled"), (0, u "Z"), (13, u "HI_BYTE_SHIFT"), (0, u "I"), (2, u "LO_BYTE_SHIFT"), (49, .methodref 12 116), (0, .nameAndType 117 118), (0, u "compress"), (0, u "([CI[BII)I"), (3, u "([CII)[B"), (138, u "coderFromArrayLen"), (0, u "([BI)B"), (106, .class_ 371), (1, u "java/lang/StringUTF16$LinesSpliterator"), (58, u "MAX_LENGTH"), (196, .class_ 628), (0, u "java/lang/StringUTF16$CodePointsSpliterator"), (0, .class_ 630), (0, u "java/lang/StringUTF16$CharsSpliterator")] 4

def k8m0 : Method := { name := "<init>", desc := "()V", sig := { parameters := [], returnType := none }, accessFlags := 0, code := none }
def k8c1 : Code := { maxStack := 2, maxLocals := 2, code := jdk_52_method_15_code, exceptionTable := #[], attributes := #[] }
def k8m1 : Method := { name := "coderFromArrayLen", desc := "([BI)B", sig := { parameters := [(.array .byte), .int], returnType := some .byte }, accessFlags := 8, code := some k8c1 }
def k8c2 : Code := { maxStack := 5, maxLocals := 6, code := jdk_52_method_16_code, exceptionTable := #[], attributes := #[] }
def k8m2 : Method := { name := "compress", desc := "([CII)[B", sig := { parameters := [(.array .char), .int, .int], returnType := some (.array .byte) }, accessFlags := 9, code := some k8c2 }
def k8c3 : Code := { maxStack := 3, maxLocals := 7, code := jdk_52_method_21_code, exceptionTable := #[], attributes := #[] }
def k8m3 : Method := { name := "compress", desc := "([CI[BII)I", sig := { parameters := [(.array .char), .int, (.array .byte), .int, .int], returnType := some .int }, accessFlags := 9, code := some k8c3 }
/-- java/lang/StringUTF16 -/
def k8 : Class := { plain "java/lang/StringUTF16" (some 0) with
  accessFlags := 48
  interfaces := #[]
  cf := some (fileOf pool8 12 #[.nestMembers #[627, 629, 369]] #[{ accessFlags := 0, nameIndex := 9, descriptorIndex := 10, attributes := #[] }, { accessFlags := 8, nameIndex := 261, descriptorIndex := 262, attributes := #[] }, { accessFlags := 9, nameIndex := 117, descriptorIndex := 122, attributes := #[] }, { accessFlags := 9, nameIndex := 117, descriptorIndex := 118, attributes := #[] }] 48 6 #[] #[{ accessFlags := 26, nameIndex := 61, descriptorIndex := 62, attributes := #[] }, { accessFlags := 26, nameIndex := 65, descriptorIndex := 62, attributes := #[] }, { accessFlags := 24, nameIndex := 430, descriptorIndex := 62, attributes := #[] }, { accessFlags := 4120, nameIndex := 46, descriptorIndex := 47, attributes := #[] }])
  fields := #[{ name := "HI_BYTE_SHIFT", type := .int, accessFlags := 26, slot := 0, constantValue := 0 }, { name := "LO_BYTE_SHIFT", type := .int, accessFlags := 26, slot := 1, constantValue := 0 }, { name := "MAX_LENGTH", type := .int, accessFlags := 24, slot := 2, constantValue := 0 }, { name := "$assertionsDisabled", type := .boolean, accessFlags := 4120, slot := 3, constantValue := 0 }]
  methods := #[k8m0, k8m1, k8m2, k8m3]
  instanceTypes := #[]
  staticTypes := #[.int, .int, .int, .boolean]
  resolved := Array.replicate 635 none
  statics := none }

def pool9 : Array CpInfo := pool [(2, .class_ 4), (1, u "java/lang/Object"), (0, u "<init>"), (0, u "()V"), (1, .class_ 10), (1, u "java/lang/String"), (5, u "(II)I"), (0, .class_ 18), (0, u "com/example/daugava/daugava/iso20022/Iso20022"), (0, .methodref 8 20), (0, .nameAndType 21 22), (0, u "indexOf"), (0, u "(I)I"), (0, .methodref 8 24), (0, .nameAndType 21 16), (0, .methodref 8 26), (0, .nameAndType 27 28), (0, u "substring"), (0, u "(II)Ljava/lang/String;"), (254, u "BIC"), (108, u "NOT_PROVIDED"), (0, u "Ljava/lang/String;"), (3, u "MAX_TEXT"), (0, u "I"), (1, u "BICFI"), (6, u "messageName"), (0, u "(Ljava/lang/String;)Ljava/lang/String;")] 113

def k9m0 : Method := { name := "<init>", desc := "()V", sig := { parameters := [], returnType := none }, accessFlags := 2, code := none }
def k9c1 : Code := { maxStack := 6, maxLocals := 1, code := prog_52_method_3_code, exceptionTable := #[], attributes := #[] }
def k9m1 : Method := { name := "messageName", desc := "(Ljava/lang/String;)Ljava/lang/String;", sig := { parameters := [(.object "java/lang/String")], returnType := some (.object "java/lang/String") }, accessFlags := 9, code := some k9c1 }
/-- com/example/daugava/daugava/iso20022/Iso20022 -/
def k9 : Class := { plain "com/example/daugava/daugava/iso20022/Iso20022" (some 0) with
  accessFlags := 49
  interfaces := #[]
  cf := some (fileOf pool9 17 #[] #[{ accessFlags := 2, nameIndex := 5, descriptorIndex := 6, attributes := #[] }, { accessFlags := 9, nameIndex := 407, descriptorIndex := 408, attributes := #[] }] 49 2 #[] #[{ accessFlags := 25, nameIndex := 392, descriptorIndex := 393, attributes := #[] }, { accessFlags := 25, nameIndex := 397, descriptorIndex := 398, attributes := #[] }, { accessFlags := 25, nameIndex := 283, descriptorIndex := 393, attributes := #[] }, { accessFlags := 25, nameIndex := 400, descriptorIndex := 393, attributes := #[] }])
  fields := #[{ name := "NOT_PROVIDED", type := (.object "java/lang/String"), accessFlags := 25, slot := 0, constantValue := 0 }, { name := "MAX_TEXT", type := .int, accessFlags := 25, slot := 1, constantValue := 0 }, { name := "BIC", type := (.object "java/lang/String"), accessFlags := 25, slot := 2, constantValue := 0 }, { name := "BICFI", type := (.object "java/lang/String"), accessFlags := 25, slot := 3, constantValue := 0 }]
  methods := #[k9m0, k9m1]
  instanceTypes := #[]
  staticTypes := #[(.object "java/lang/String"), .int, (.object "java/lang/String"), (.object "java/lang/String")]
  resolved := Array.replicate 522 none
  statics := none }

def pool10 : Array CpInfo := pool [(1, .class_ 2), (0, u "java/lang/String"), (1, .class_ 6), (1, u "java/lang/Object"), (0, u "<init>"), (0, u "()V"), (0, .methodref 1 10), (0, .nameAndType 11 12), (0, u "checkIndex"), (0, u "(II)V"), (1, .class_ 16), (1, u "java/lang/StringLatin1"), (21, .methodref 39 40), (0, .class_ 41), (0, .nameAndType 42 43), (0, u "java/lang/Math"), (0, u "min"), (0, u "(II)I"), (9, u "([BI)C"), (34, .methodref 14 89), (0, .nameAndType 90 91), (0, u "canEncode"), (0, u "(I)Z"), (0, .methodref 39 93), (0, .nameAndType 94 43), (0, u "max"), (0, .methodref 14 96), (0, .nameAndType 97 98), (0, u "indexOfChar"), (0, u "([BIII)I"), (2, u "indexOf"), (10, .methodref 1 113), (0, .nameAndType 7 114), (0, u "([BB)V"), (6, u "$assertionsDisabled"), (0, u "Z"), (8, .class_ 133), (1, u "java/util/Arrays"), (62, u "newString"), (0, u "([BII)Ljava/lang/String;"), (23, .class_ 223), (1, u "java/lang/StringLatin1$LinesSpliterator"), (8, .methodref 131 233), (0, .nameAndType 234 235), (0, u "copyOfRange"), (0, u "([BII)[B"), (16, u "charAt"), (137, .class_ 391), (0, u "java/lang/StringLatin1$CharsSpliterator")] 3

def k10m0 : Method := { name := "<init>", desc := "()V", sig := { parameters := [], returnType := none }, accessFlags := 0, code := none }
def k10c1 : Code := { maxStack := 2, maxLocals := 2, code := jdk_43_method_2_code, exceptionTable := #[], attributes := #[] }
def k10m1 : Method := { name := "charAt", desc := "([BI)C", sig := { parameters := [(.array .byte), .int], returnType := some .char }, accessFlags := 9, code := some k10c1 }
def k10c2 : Code := { maxStack := 2, maxLocals := 1, code := jdk_43_method_4_code, exceptionTable := #[], attributes := #[] }
def k10m2 : Method := { name := "canEncode", desc := "(I)Z", sig := { parameters := [.int], returnType := some .boolean }, accessFlags := 9, code := some k10c2 }
def k10c3 : Code := { maxStack := 4, maxLocals := 4, code := jdk_43_method_22_code, exceptionTable := #[], attributes := #[] }
def k10m3 : Method := { name := "indexOf", desc := "([BIII)I", sig := { parameters := [(.array .byte), .int, .int, .int], returnType := some .int }, accessFlags := 9, code := some k10c3 }
def k10c4 : Code := { maxStack := 2, maxLocals := 6, code := jdk_43_method_23_code, exceptionTable := #[], attributes := #[] }
def k10m4 : Method := { name := "indexOfChar", desc := "([BIII)I", sig := { parameters := [(.array .byte), .int, .int, .int], returnType := some .int }, accessFlags := 10, code := some k10c4 }
def k10c5 : Code := { maxStack := 6, maxLocals := 3, code := jdk_43_method_47_code, exceptionTable := #[], attributes := #[] }
def k10m5 : Method := { name := "newString", desc := "([BII)Ljava/lang/String;", sig := { parameters := [(.array .byte), .int, .int], returnType := some (.object "java/lang/String") }, accessFlags := 9, code := some k10c5 }
/-- java/lang/StringLatin1 -/
def k10 : Class := { plain "java/lang/StringLatin1" (some 0) with
  accessFlags := 48
  interfaces := #[]
  cf := some (fileOf pool10 14 #[.nestMembers #[390, 221]] #[{ accessFlags := 0, nameIndex := 7, descriptorIndex := 8, attributes := #[] }, { accessFlags := 9, nameIndex := 252, descriptorIndex := 53, attributes := #[] }, { accessFlags := 9, nameIndex := 90, descriptorIndex := 91, attributes := #[] }, { accessFlags := 9, nameIndex := 101, descriptorIndex := 98, attributes := #[] }, { accessFlags := 10, nameIndex := 97, descriptorIndex := 98, attributes := #[] }, { accessFlags := 9, nameIndex := 196, descriptorIndex := 197, attributes := #[] }] 48 4 #[] #[{ accessFlags := 4120, nameIndex := 121, descriptorIndex := 122, attributes := #[] }])
  fields := #[{ name := "$assertionsDisabled", type := .boolean, accessFlags := 4120, slot := 0, constantValue := 0 }]
  methods := #[k10m0, k10m1, k10m2, k10m3, k10m4, k10m5]
  instanceTypes := #[]
  staticTypes := #[.boolean]
  resolved := Array.replicate 395 none
  statics := none }

def pool11 : Array CpInfo := pool [(1, .class_ 2), (0, u "java/lang/Math"), (1, .class_ 6), (1, u "java/lang/Object"), (0, u "<init>"), (0, u "()V"), (89, .class_ 100), (1, u "java/lang/Math$RandomNumberGeneratorHolder"), (71, u "negativeZeroFloatBits"), (0, u "J"), (2, u "negativeZeroDoubleBits"), (21, u "max"), (2, u "min"), (43, u "$assertionsDisabled"), (0, u "Z"), (88, u "(II)I"), (2, u "twoToTheDoubleScaleDown"), (0, u "D"), (4, u "twoToTheDoubleScaleUp"), (9, u "E"), (3, u "PI"), (2, u "TAU"), (2, u "DEGREES_TO_RADIANS"), (0, u "RADIANS_TO_DEGREES")] 94

def k11m0 : Method := { name := "<init>", desc := "()V", sig := { parameters := [], returnType := none }, accessFlags := 2, code := none }
def k11c1 : Code := { maxStack := 2, maxLocals := 2, code := jdk_29_method_65_code, exceptionTable := #[], attributes := #[] }
def k11m1 : Method := { name := "max", desc := "(II)I", sig := { parameters := [.int, .int], returnType := some .int }, accessFlags := 9, code := some k11c1 }
def k11c2 : Code := { maxStack := 2, maxLocals := 2, code := jdk_29_method_69_code, exceptionTable := #[], attributes := #[] }
def k11m2 : Method := { name := "min", desc := "(II)I", sig := { parameters := [.int, .int], returnType := some .int }, accessFlags := 9, code := some k11c2 }
/-- java/lang/Math -/
def k11 : Class := { plain "java/lang/Math" (some 0) with
  accessFlags := 49
  interfaces := #[]
  cf := some (fileOf pool11 1 #[.nestMembers #[98]] #[{ accessFlags := 2, nameIndex := 7, descriptorIndex := 8, attributes := #[] }, { accessFlags := 9, nameIndex := 198, descriptorIndex := 335, attributes := #[] }, { accessFlags := 9, nameIndex := 201, descriptorIndex := 335, attributes := #[] }] 49 4 #[] #[{ accessFlags := 25, nameIndex := 354, descriptorIndex := 339, attributes := #[] }, { accessFlags := 25, nameIndex := 358, descriptorIndex := 339, attributes := #[] }, { accessFlags := 25, nameIndex := 361, descriptorIndex := 339, attributes := #[] }, { accessFlags := 26, nameIndex := 364, descriptorIndex := 339, attributes := #[] }, { accessFlags := 26, nameIndex := 365, descriptorIndex := 339, attributes := #[] }, { accessFlags := 26, nameIndex := 172, descriptorIndex := 173, attributes := #[] }, { accessFlags := 26, nameIndex := 176, descriptorIndex := 173, attributes := #[] }, { accessFlags := 8, nameIndex := 344, descriptorIndex := 339, attributes := #[] }, { accessFlags := 8, nameIndex := 338, descriptorIndex := 339, attributes := #[] }, { accessFlags := 4120, nameIndex := 245, descriptorIndex := 246, attributes := #[] }])
  fields := #[{ name := "E", type := .double, accessFlags := 25, slot := 0, constantValue := 0 }, { name := "PI", type := .double, accessFlags := 25, slot := 1, constantValue := 0 }, { name := "TAU", type := .double, accessFlags := 25, slot := 2, constantValue := 0 }, { name := "DEGREES_TO_RADIANS", type := .double, accessFlags := 26, slot := 3, constantValue := 0 }, { name := "RADIANS_TO_DEGREES", type := .double, accessFlags := 26, slot := 4, constantValue := 0 }, { name := "negativeZeroFloatBits", type := .long, accessFlags := 26, slot := 5, constantValue := 0 }, { name := "negativeZeroDoubleBits", type := .long, accessFlags := 26, slot := 6, constantValue := 0 }, { name := "twoToTheDoubleScaleUp", type := .double, accessFlags := 8, slot := 7, constantValue := 0 }, { name := "twoToTheDoubleScaleDown", type := .double, accessFlags := 8, slot := 8, constantValue := 0 }, { name := "$assertionsDisabled", type := .boolean, accessFlags := 4120, slot := 9, constantValue := 0 }]
  methods := #[k11m0, k11m1, k11m2]
  instanceTypes := #[]
  staticTypes := #[.double, .double, .double, .double, .double, .long, .long, .double, .double, .boolean]
  resolved := Array.replicate 460 none
  statics := none }

def pool12 : Array CpInfo := pool [(2, .class_ 4), (1, u "java/lang/Object"), (0, u "<init>"), (0, u "()V"), (17, .class_ 26), (1, u "jdk/internal/util/Preconditions"), (6, u "checkIndex"), (13, u "checkFromToIndex"), (7, .class_ 56), (0, u "jdk/internal/util/Preconditions$4"), (57, .class_ 115), (0, u "jdk/internal/util/Preconditions$1"), (7, u "SIOOBE_FORMATTER"), (0, u "Ljava/util/function/BiFunction;"), (0, .class_ 126), (0, u "jdk/internal/util/Preconditions$2"), (3, u "AIOOBE_FORMATTER"), (0, .class_ 132), (0, u "jdk/internal/util/Preconditions$3"), (3, u "IOOBE_FORMATTER"), (41, u "(IILjava/util/function/BiFunction;)I"), (4, u "(IIILjava/util/function/BiFunction;)I")] 10

def k12m0 : Method := { name := "<init>", desc := "()V", sig := { parameters := [], returnType := none }, accessFlags := 1, code := none }
def k12c1 : Code := { maxStack := 3, maxLocals := 3, code := jdk_41_method_11_code, exceptionTable := #[], attributes := #[] }
def k12m1 : Method := { name := "checkIndex", desc := "(IILjava/util/function/BiFunction;)I", sig := { parameters := [.int, .int, (.object "java/util/function/BiFunction")], returnType := some .int }, accessFlags := 9, code := some k12c1 }
def k12c2 : Code := { maxStack := 4, maxLocals := 4, code := jdk_41_method_12_code, exceptionTable := #[], attributes := #[] }
def k12m2 : Method := { name := "checkFromToIndex", desc := "(IIILjava/util/function/BiFunction;)I", sig := { parameters := [.int, .int, .int, (.object "java/util/function/BiFunction")], returnType := some .int }, accessFlags := 9, code := some k12c2 }
/-- jdk/internal/util/Preconditions -/
def k12 : Class := { plain "jdk/internal/util/Preconditions" (some 0) with
  accessFlags := 33
  interfaces := #[]
  cf := some (fileOf pool12 24 #[.nestMembers #[55, 131, 125, 114]] #[{ accessFlags := 1, nameIndex := 5, descriptorIndex := 6, attributes := #[] }, { accessFlags := 9, nameIndex := 33, descriptorIndex := 178, attributes := #[] }, { accessFlags := 9, nameIndex := 47, descriptorIndex := 183, attributes := #[] }] 33 2 #[] #[{ accessFlags := 25, nameIndex := 123, descriptorIndex := 124, attributes := #[] }, { accessFlags := 25, nameIndex := 130, descriptorIndex := 124, attributes := #[] }, { accessFlags := 25, nameIndex := 136, descriptorIndex := 124, attributes := #[] }])
  fields := #[{ name := "SIOOBE_FORMATTER", type := (.object "java/util/function/BiFunction"), accessFlags := 25, slot := 0, constantValue := 0 }, { name := "AIOOBE_FORMATTER", type := (.object "java/util/function/BiFunction"), accessFlags := 25, slot := 1, constantValue := 0 }, { name := "IOOBE_FORMATTER", type := (.object "java/util/function/BiFunction"), accessFlags := 25, slot := 2, constantValue := 0 }]
  methods := #[k12m0, k12m1, k12m2]
  instanceTypes := #[]
  staticTypes := #[(.object "java/util/function/BiFunction"), (.object "java/util/function/BiFunction"), (.object "java/util/function/BiFunction")]
  resolved := Array.replicate 194 none
  statics := some 1 }

def pool13 : Array CpInfo := pool [(2, .class_ 4), (1, u "java/lang/Object"), (0, u "<init>"), (0, u "()V"), (7, .class_ 16), (1, u "java/util/Arrays"), (57, .class_ 76), (1, u "java/util/Arrays$NaturalOrder"), (36, .class_ 115), (1, u "java/util/Arrays$LegacyMergeSort"), (1, u "Z"), (21, u "copyOfRange"), (10, .methodref 151 152), (0, .class_ 153), (0, .nameAndType 154 155), (0, u "java/lang/System"), (0, u "arraycopy"), (0, u "(Ljava/lang/Object;ILjava/lang/Object;II)V"), (148, .methodref 305 306), (0, .class_ 307), (0, .nameAndType 308 309), (0, u "java/lang/Math"), (0, u "min"), (0, u "(II)I"), (29, .methodref 14 340), (0, .nameAndType 341 342), (0, u "copyOfRangeByte"), (0, u "([BII)[B"), (0, .methodref 14 344), (0, .nameAndType 345 346), (0, u "checkLength"), (0, u "(II)V"), (28, .class_ 376), (0, u "java/util/Arrays$ArrayList"), (68, u "$assertionsDisabled"), (269, u "MIN_ARRAY_SORT_GRAN"), (0, u "I"), (2, u "INSERTIONSORT_THRESHOLD"), (255, .class_ 976), (0, u "java/util/Arrays$ArrayItr")] 52

def k13m0 : Method := { name := "<init>", desc := "()V", sig := { parameters := [], returnType := none }, accessFlags := 2, code := none }
def k13c1 : Code := { maxStack := 4, maxLocals := 2, code := jdk_65_method_131_code, exceptionTable := #[], attributes := #[] }
def k13m1 : Method := { name := "checkLength", desc := "(II)V", sig := { parameters := [.int, .int], returnType := none }, accessFlags := 10, code := some k13c1 }
def k13c2 : Code := { maxStack := 3, maxLocals := 3, code := jdk_65_method_132_code, exceptionTable := #[], attributes := #[] }
def k13m2 : Method := { name := "copyOfRange", desc := "([BII)[B", sig := { parameters := [(.array .byte), .int, .int], returnType := some (.array .byte) }, accessFlags := 9, code := some k13c2 }
def k13c3 : Code := { maxStack := 6, maxLocals := 5, code := jdk_65_method_133_code, exceptionTable := #[], attributes := #[] }
def k13m3 : Method := { name := "copyOfRangeByte", desc := "([BII)[B", sig := { parameters := [(.array .byte), .int, .int], returnType := some (.array .byte) }, accessFlags := 10, code := some k13c3 }
/-- java/util/Arrays -/
def k13 : Class := { plain "java/util/Arrays" (some 0) with
  accessFlags := 49
  interfaces := #[]
  cf := some (fileOf pool13 14 #[.nestMembers #[975, 375, 113, 74]] #[{ accessFlags := 2, nameIndex := 5, descriptorIndex := 6, attributes := #[] }, { accessFlags := 10, nameIndex := 345, descriptorIndex := 346, attributes := #[] }, { accessFlags := 9, nameIndex := 139, descriptorIndex := 342, attributes := #[] }, { accessFlags := 10, nameIndex := 341, descriptorIndex := 342, attributes := #[] }] 49 2 #[] #[{ accessFlags := 26, nameIndex := 715, descriptorIndex := 716, attributes := #[] }, { accessFlags := 26, nameIndex := 719, descriptorIndex := 716, attributes := #[] }, { accessFlags := 4120, nameIndex := 445, descriptorIndex := 117, attributes := #[] }])
  fields := #[{ name := "MIN_ARRAY_SORT_GRAN", type := .int, accessFlags := 26, slot := 0, constantValue := 0 }, { name := "INSERTIONSORT_THRESHOLD", type := .int, accessFlags := 26, slot := 1, constantValue := 0 }, { name := "$assertionsDisabled", type := .boolean, accessFlags := 4120, slot := 2, constantValue := 0 }]
  methods := #[k13m0, k13m1, k13m2, k13m3]
  instanceTypes := #[]
  staticTypes := #[.int, .int, .boolean]
  resolved := Array.replicate 1029 none
  statics := none }

def pool14 : Array CpInfo := pool [(2, .class_ 4), (1, u "java/lang/Object"), (0, u "<init>"), (0, u "()V"), (1, .class_ 10), (1, u "java/lang/System"), (0, u "allowSecurityManager"), (0, u "I"), (16, u "cons"), (0, u "Ljava/io/Console;"), (77, .class_ 110), (1, u "java/lang/System$CallersHolder"), (43, u "initialErrStream"), (0, u "Ljava/io/PrintStream;"), (19, u "security"), (0, u "Ljava/lang/SecurityManager;"), (31, .class_ 209), (0, u "java/lang/System$1"), (7, u "props"), (0, u "Ljava/util/Properties;"), (2, u "lineSeparator"), (0, u "Ljava/lang/String;"), (96, .class_ 321), (1, u "java/lang/System$LoggerFinder"), (5, .class_ 328), (0, u "java/lang/System$Logger"), (67, u "err"), (2, u "out"), (91, u "notSupportedJnuEncoding"), (15, u "in"), (17, u "initialIn"), (0, u "Ljava/io/InputStream;"), (35, u "bootLayer"), (0, u "Ljava/lang/ModuleLayer;"), (99, .class_ 664), (0, u "java/lang/System$2"), (9, u "NEVER"), (2, u "MAYBE"), (49, u "arraycopy"), (0, u "(Ljava/lang/Object;ILjava/lang/Object;II)V"), (72, .class_ 802), (0, u "java/lang/System$Logger$Level")] 31

def k14m0 : Method := { name := "<init>", desc := "()V", sig := { parameters := [], returnType := none }, accessFlags := 2, code := none }
def k14m1 : Method := { name := "arraycopy", desc := "(Ljava/lang/Object;ILjava/lang/Object;II)V", sig := { parameters := [(.object "java/lang/Object"), .int, (.object "java/lang/Object"), .int, .int], returnType := none }, accessFlags := 265, code := none }
/-- java/lang/System -/
def k14 : Class := { plain "java/lang/System" (some 0) with
  accessFlags := 49
  interfaces := #[]
  cf := some (fileOf pool14 8 #[.nestMembers #[319, 327, 801, 108, 663, 208]] #[{ accessFlags := 2, nameIndex := 5, descriptorIndex := 6, attributes := #[] }, { accessFlags := 265, nameIndex := 727, descriptorIndex := 728, attributes := #[] }] 49 2 #[] #[{ accessFlags := 25, nameIndex := 507, descriptorIndex := 526, attributes := #[] }, { accessFlags := 25, nameIndex := 399, descriptorIndex := 155, attributes := #[] }, { accessFlags := 25, nameIndex := 396, descriptorIndex := 155, attributes := #[] }, { accessFlags := 10, nameIndex := 525, descriptorIndex := 526, attributes := #[] }, { accessFlags := 26, nameIndex := 674, descriptorIndex := 12, attributes := #[] }, { accessFlags := 26, nameIndex := 677, descriptorIndex := 12, attributes := #[] }, { accessFlags := 10, nameIndex := 11, descriptorIndex := 12, attributes := #[] }, { accessFlags := 74, nameIndex := 175, descriptorIndex := 176, attributes := #[] }, { accessFlags := 10, nameIndex := 491, descriptorIndex := 222, attributes := #[] }, { accessFlags := 74, nameIndex := 29, descriptorIndex := 30, attributes := #[] }, { accessFlags := 74, nameIndex := 154, descriptorIndex := 155, attributes := #[] }, { accessFlags := 10, nameIndex := 217, descriptorIndex := 218, attributes := #[] }, { accessFlags := 10, nameIndex := 221, descriptorIndex := 222, attributes := #[] }, { accessFlags := 8, nameIndex := 562, descriptorIndex := 563, attributes := #[] }])
  fields := #[{ name := "in", type := (.object "java/io/InputStream"), accessFlags := 25, slot := 0, constantValue := 0 }, { name := "out", type := (.object "java/io/PrintStream"), accessFlags := 25, slot := 1, constantValue := 0 }, { name := "err", type := (.object "java/io/PrintStream"), accessFlags := 25, slot := 2, constantValue := 0 }, { name := "initialIn", type := (.object "java/io/InputStream"), accessFlags := 10, slot := 3, constantValue := 0 }, { name := "NEVER", type := .int, accessFlags := 26, slot := 4, constantValue := 0 }, { name := "MAYBE", type := .int, accessFlags := 26, slot := 5, constantValue := 0 }, { name := "allowSecurityManager", type := .int, accessFlags := 10, slot := 6, constantValue := 0 }, { name := "security", type := (.object "java/lang/SecurityManager"), accessFlags := 74, slot := 7, constantValue := 0 }, { name := "notSupportedJnuEncoding", type := (.object "java/lang/String"), accessFlags := 10, slot := 8, constantValue := 0 }, { name := "cons", type := (.object "java/io/Console"), accessFlags := 74, slot := 9, constantValue := 0 }, { name := "initialErrStream", type := (.object "java/io/PrintStream"), accessFlags := 74, slot := 10, constantValue := 0 }, { name := "props", type := (.object "java/util/Properties"), accessFlags := 10, slot := 11, constantValue := 0 }, { name := "lineSeparator", type := (.object "java/lang/String"), accessFlags := 10, slot := 12, constantValue := 0 }, { name := "bootLayer", type := (.object "java/lang/ModuleLayer"), accessFlags := 8, slot := 13, constantValue := 0 }]
  methods := #[k14m0, k14m1]
  instanceTypes := #[]
  staticTypes := #[(.object "java/io/InputStream"), (.object "java/io/PrintStream"), (.object "java/io/PrintStream"), (.object "java/io/InputStream"), .int, .int, .int, (.object "java/lang/SecurityManager"), (.object "java/lang/String"), (.object "java/io/Console"), (.object "java/io/PrintStream"), (.object "java/util/Properties"), (.object "java/lang/String"), (.object "java/lang/ModuleLayer")]
  resolved := Array.replicate 834 none
  statics := none }

def pool15 : Array CpInfo := pool [(9, u "<init>"), (6, .class_ 18), (1, u "java/lang/Object"), (0, u "()V"), (1, .class_ 23), (1, u "jdk/internal/util/ArraysSupport"), (0, u "LOG2_ARRAY_LONG_INDEX_SCALE"), (0, u "I"), (2, u "U"), (0, u "Ljdk/internal/misc/Unsafe;"), (8, u "BIG_ENDIAN"), (0, u "Z"), (8, u "LOG2_BYTE_BIT_SIZE"), (4, u "LOG2_ARRAY_INT_INDEX_SCALE"), (54, u "JLA"), (0, u "Ljdk/internal/access/JavaLangAccess;"), (11, u "LOG2_ARRAY_BOOLEAN_INDEX_SCALE"), (9, u "LOG2_ARRAY_BYTE_INDEX_SCALE"), (5, u "LOG2_ARRAY_CHAR_INDEX_SCALE"), (5, u "LOG2_ARRAY_SHORT_INDEX_SCALE"), (18, u "LOG2_ARRAY_FLOAT_INDEX_SCALE"), (24, u "LOG2_ARRAY_DOUBLE_INDEX_SCALE"), (89, u "T_BOOLEAN"), (2, u "T_CHAR"), (1, u "T_FLOAT"), (1, u "T_DOUBLE"), (1, u "T_BYTE"), (1, u "T_SHORT"), (1, u "T_INT"), (1, u "T_LONG"), (1, u "SOFT_MAX_ARRAY_LENGTH")] 83

def k15m0 : Method := { name := "<init>", desc := "()V", sig := { parameters := [], returnType := none }, accessFlags := 2, code := none }
/-- jdk/internal/util/ArraysSupport -/
def k15 : Class := { plain "jdk/internal/util/ArraysSupport" (some 0) with
  accessFlags := 33
  interfaces := #[]
  cf := some (fileOf pool15 21 #[] #[{ accessFlags := 2, nameIndex := 9, descriptorIndex := 19, attributes := #[] }] 33 16 #[] #[{ accessFlags := 24, nameIndex := 28, descriptorIndex := 29, attributes := #[] }, { accessFlags := 26, nameIndex := 38, descriptorIndex := 39, attributes := #[] }, { accessFlags := 25, nameIndex := 121, descriptorIndex := 25, attributes := #[] }, { accessFlags := 25, nameIndex := 131, descriptorIndex := 25, attributes := #[] }, { accessFlags := 25, nameIndex := 137, descriptorIndex := 25, attributes := #[] }, { accessFlags := 25, nameIndex := 143, descriptorIndex := 25, attributes := #[] }, { accessFlags := 25, nameIndex := 53, descriptorIndex := 25, attributes := #[] }, { accessFlags := 25, nameIndex := 24, descriptorIndex := 25, attributes := #[] }, { accessFlags := 25, nameIndex := 162, descriptorIndex := 25, attributes := #[] }, { accessFlags := 25, nameIndex := 187, descriptorIndex := 25, attributes := #[] }, { accessFlags := 26, nameIndex := 48, descriptorIndex := 25, attributes := #[] }, { accessFlags := 25, nameIndex := 277, descriptorIndex := 25, attributes := #[] }, { accessFlags := 25, nameIndex := 280, descriptorIndex := 25, attributes := #[] }, { accessFlags := 25, nameIndex := 282, descriptorIndex := 25, attributes := #[] }, { accessFlags := 25, nameIndex := 284, descriptorIndex := 25, attributes := #[] }, { accessFlags := 25, nameIndex := 286, descriptorIndex := 25, attributes := #[] }, { accessFlags := 25, nameIndex := 288, descriptorIndex := 25, attributes := #[] }, { accessFlags := 25, nameIndex := 290, descriptorIndex := 25, attributes := #[] }, { accessFlags := 25, nameIndex := 292, descriptorIndex := 25, attributes := #[] }, { accessFlags := 26, nameIndex := 108, descriptorIndex := 109, attributes := #[] }, { accessFlags := 25, nameIndex := 294, descriptorIndex := 25, attributes := #[] }])
  fields := #[{ name := "U", type := (.object "jdk/internal/misc/Unsafe"), accessFlags := 24, slot := 0, constantValue := 0 }, { name := "BIG_ENDIAN", type := .boolean, accessFlags := 26, slot := 1, constantValue := 0 }, { name := "LOG2_ARRAY_BOOLEAN_INDEX_SCALE", type := .int, accessFlags := 25, slot := 2, constantValue := 0 }, { name := "LOG2_ARRAY_BYTE_INDEX_SCALE", type := .int, accessFlags := 25, slot := 3, constantValue := 0 }, { name := "LOG2_ARRAY_CHAR_INDEX_SCALE", type := .int, accessFlags := 25, slot := 4, constantValue := 0 }, { name := "LOG2_ARRAY_SHORT_INDEX_SCALE", type := .int, accessFlags := 25, slot := 5, constantValue := 0 }, { name := "LOG2_ARRAY_INT_INDEX_SCALE", type := .int, accessFlags := 25, slot := 6, constantValue := 0 }, { name := "LOG2_ARRAY_LONG_INDEX_SCALE", type := .int, accessFlags := 25, slot := 7, constantValue := 0 }, { name := "LOG2_ARRAY_FLOAT_INDEX_SCALE", type := .int, accessFlags := 25, slot := 8, constantValue := 0 }, { name := "LOG2_ARRAY_DOUBLE_INDEX_SCALE", type := .int, accessFlags := 25, slot := 9, constantValue := 0 }, { name := "LOG2_BYTE_BIT_SIZE", type := .int, accessFlags := 26, slot := 10, constantValue := 0 }, { name := "T_BOOLEAN", type := .int, accessFlags := 25, slot := 11, constantValue := 0 }, { name := "T_CHAR", type := .int, accessFlags := 25, slot := 12, constantValue := 0 }, { name := "T_FLOAT", type := .int, accessFlags := 25, slot := 13, constantValue := 0 }, { name := "T_DOUBLE", type := .int, accessFlags := 25, slot := 14, constantValue := 0 }, { name := "T_BYTE", type := .int, accessFlags := 25, slot := 15, constantValue := 0 }, { name := "T_SHORT", type := .int, accessFlags := 25, slot := 16, constantValue := 0 }, { name := "T_INT", type := .int, accessFlags := 25, slot := 17, constantValue := 0 }, { name := "T_LONG", type := .int, accessFlags := 25, slot := 18, constantValue := 0 }, { name := "JLA", type := (.object "jdk/internal/access/JavaLangAccess"), accessFlags := 26, slot := 19, constantValue := 0 }, { name := "SOFT_MAX_ARRAY_LENGTH", type := .int, accessFlags := 25, slot := 20, constantValue := 0 }]
  methods := #[k15m0]
  instanceTypes := #[]
  staticTypes := #[(.object "jdk/internal/misc/Unsafe"), .boolean, .int, .int, .int, .int, .int, .int, .int, .int, .int, .int, .int, .int, .int, .int, .int, .int, .int, (.object "jdk/internal/access/JavaLangAccess"), .int]
  resolved := Array.replicate 378 none
  statics := none }

def pool16 : Array CpInfo := pool [(1, u "java/lang/Cloneable"), (0, .class_ 1), (0, u "java/lang/Object"), (0, .class_ 3)] 3

/-- java/lang/Cloneable -/
def k16 : Class := { plain "java/lang/Cloneable" (some 0) with
  accessFlags := 1537
  interfaces := #[]
  cf := some (fileOf pool16 2 #[] #[] 1537 4 #[] #[])
  fields := #[]
  methods := #[]
  instanceTypes := #[]
  staticTypes := #[]
  resolved := Array.replicate 8 none
  statics := none }

/-- the primitive byte -/
def k17 : Class := { plain "byte" none with kind := .primitive 'B', accessFlags := 0x411 }
/-- [B -/
def k18 : Class := { plain "[B" (some 0) with kind := .array 17 .byte, interfaces := #[16, 2], accessFlags := 1041 }

/-- the primitive char -/
def k19 : Class := { plain "char" none with kind := .primitive 'C', accessFlags := 0x411 }
/-- [C -/
def k20 : Class := { plain "[C" (some 0) with kind := .array 19 .char, interfaces := #[16, 2], accessFlags := 1041 }

/-- the primitive int -/
def k21 : Class := { plain "int" none with kind := .primitive 'I', accessFlags := 0x411 }
/-- [I -/
def k22 : Class := { plain "[I" (some 0) with kind := .array 21 .int, interfaces := #[16, 2], accessFlags := 1041 }

def heap : Heap := #[{ cls := 7, slots := #[.long 0, .int 1, .null, .int 0, .null, .int 0, .int 0], vm := .statics 7 },
  { cls := 12, slots := #[.null, .null, .null], vm := .statics 12 }]
def classes : Array Class := #[k0, k1, k2, k3, k4, k5, k6, k7, k8, k9, k10, k11, k12, k13, k14, k15, k16, k17, k18, k19, k20, k21, k22]
def interned : List (Array UInt16 × Addr) := []
def slotsUsed : Nat := 10
def theMethod : MethodId := ⟨1, 1⟩
def args0 : Array Value := #[.int 5, .int 5, .long 5]
def aboutOver (below : List Frame) : State where
  vm := { classes := classes, interned := interned.toArray }
  heap := heap
  slotsUsed := slotsUsed
  threads := #[{ frames := .invoking theMethod args0 :: below }]
def below0 : List Frame := [.native { method := ⟨0, 0⟩, args := #[] }]
def about1 : State := aboutOver below0
def p0 : Program := .bare "" "" ""
def e0 : Env := launch0.env 0 0 0
theorem w_frames : about1.frames = Frame.invoking theMethod args0 :: below0 := rfl
set_option maxRecDepth 65536 in
theorem w_args : argsFit about1.vm theMethod args0 = true := by decide +kernel
set_option maxRecDepth 65536 in
theorem w_heap : heapFits about1 = true := by decide +kernel
set_option maxRecDepth 65536 in
theorem w_runnable : about1.curStatus? = some .runnable := by decide +kernel
set_option maxRecDepth 65536 in
theorem w_alone : about1.alone = true := by decide +kernel
set_option maxRecDepth 65536 in
theorem w_named : about1.methodNamed? x = some theMethod := by decide +kernel
set_option maxRecDepth 65536 in
theorem w_hears : about1.hears theMethod below0 = true := by decide +kernel
set_option maxRecDepth 65536 in
theorem w_ripe : about1.ripe theMethod args0 below0 = true := by decide +kernel
theorem w_running : about1.status = .running := rfl
set_option maxRecDepth 65536 in
theorem w_room : about1.hasRoom e0.platform room_1 = true :=
  launch0.hasRoom_least _ room_1 (by decide +kernel) (by decide +kernel) (by decide +kernel) (by decide +kernel) (by decide +kernel) (by decide +kernel)
theorem allAtoms_all (ts : List Jvm.Cond) (a : Array Jvm.Value) (st : Jvm.State) : (allAtoms ts).before a st = ts.all (fun c => c.before a st) := by
  induction ts with
  | nil => rfl
  | cons c t ih =>
    show (Jvm.Cond.and c (allAtoms t)).before a st = _
    rw [Jvm.Cond.before_and, ih, List.all_cons]
def words1 : List Jvm.Cond := Jvm.Cond.code x code maxLocals ret :: tables_1
/-- a 'code' word, met by the world's own term for the bytes: nothing is compared byte by byte -/
theorem code_word {y : MethodName} {bytes : ByteArray} {mx : Nat} {rt : Option FieldType} {a : Array Value} {s : State} {m : MethodId} {meth : Method} {c : Code} (h1 : s.methodNamed? y = some m) (h2 : s.vm.method? m = some meth) (h3 : meth.code = some c) (h4 : c.code = bytes)
    (h5 : (c.maxLocals == mx && c.exceptionTable.isEmpty && decide (c.maxStack ≤ mostOperands) && decide (meth.sig.returnType = rt) && !meth.locks && decide (parseMethodDescriptor y.desc = some meth.sig)) = true) : (Jvm.Cond.code y bytes mx rt).before a s = true := by
  simp only [Bool.and_eq_true, beq_iff_eq, Bool.not_eq_true', decide_eq_true_eq] at h5
  obtain ⟨⟨⟨⟨⟨g1, g2⟩, g3⟩, g4⟩, g5⟩, g6⟩ := h5
  simp [Cond.before, Cond.holds, Cond.value, h1, h2, h3, h4, g1, g2, g3, g4, g5, g6]
def isCode : Jvm.Cond → Bool
  | .code _ _ _ _ => true
  | _ => false
theorem all_split {L : List Jvm.Cond} {P : Jvm.Cond → Bool} (h1 : L.all (fun c => isCode c || P c) = true) (h2 : ∀ c ∈ L.filter isCode, P c = true) : L.all P = true := by
  refine List.all_eq_true.mpr fun c hc => ?_
  have h := List.all_eq_true.mp h1 c hc
  rcases Bool.eq_false_or_eq_true (isCode c) with hi | hi
  · exact h2 c (List.mem_filter.mpr ⟨hc, hi⟩)
  · simpa [hi] using h
set_option maxRecDepth 65536 in
theorem w_c0 : (Jvm.Cond.code x code maxLocals ret).before args0 about1 = true := code_word (m := ⟨1, 1⟩) (meth := k1m1) (c := k1c1) (by decide +kernel) rfl rfl rfl (by decide +kernel)
set_option maxRecDepth 65536 in
theorem w_c1 : (Jvm.Cond.code ({ cls := "com/example/daugava/daugava/iso20022/Iso20022MessageNamePinLaw", name := "draw", desc := "(JIII)C" } : Jvm.MethodName) method_3_code (6 : Nat) (Option.some Jvm.ClassFile.FieldType.char)).before args0 about1 = true := code_word (m := ⟨1, 2⟩) (meth := k1m2) (c := k1c2) (by decide +kernel) rfl rfl rfl (by decide +kernel)
set_option maxRecDepth 65536 in
theorem w_c2 : (Jvm.Cond.code ({ cls := "java/lang/String", name := "<init>", desc := "([C)V" } : Jvm.MethodName) jdk_42_method_3_code (2 : Nat) (Option.none : Option Jvm.ClassFile.FieldType)).before args0 about1 = true := code_word (m := ⟨7, 1⟩) (meth := k7m1) (c := k7c1) (by decide +kernel) rfl rfl rfl (by decide +kernel)
set_option maxRecDepth 65536 in
theorem w_c3 : (Jvm.Cond.code ({ cls := "java/lang/String", name := "<init>", desc := "([CIILjava/lang/Void;)V" } : Jvm.MethodName) jdk_42_method_149_code (6 : Nat) (Option.none : Option Jvm.ClassFile.FieldType)).before args0 about1 = true := code_word (m := ⟨7, 7⟩) (meth := k7m7) (c := k7c7) (by decide +kernel) rfl rfl rfl (by decide +kernel)
set_option maxRecDepth 65536 in
theorem w_c4 : (Jvm.Cond.code ({ cls := "java/lang/Object", name := "<init>", desc := "()V" } : Jvm.MethodName) object_method_1_code (1 : Nat) (Option.none : Option Jvm.ClassFile.FieldType)).before args0 about1 = true := code_word (m := ⟨0, 0⟩) (meth := k0m0) (c := k0c0) (by decide +kernel) rfl rfl rfl (by decide +kernel)
set_option maxRecDepth 65536 in
theorem w_c5 : (Jvm.Cond.code ({ cls := "java/lang/StringUTF16", name := "compress", desc := "([CII)[B" } : Jvm.MethodName) jdk_52_method_16_code (6 : Nat) (Option.some (Jvm.ClassFile.FieldType.array Jvm.ClassFile.FieldType.byte))).before args0 about1 = true := code_word (m := ⟨8, 2⟩) (meth := k8m2) (c := k8c2) (by decide +kernel) rfl rfl rfl (by decide +kernel)
set_option maxRecDepth 65536 in
theorem w_c6 : (Jvm.Cond.code ({ cls := "java/lang/StringUTF16", name := "compress", desc := "([CI[BII)I" } : Jvm.MethodName) jdk_52_method_21_code (7 : Nat) (Option.some Jvm.ClassFile.FieldType.int)).before args0 about1 = true := code_word (m := ⟨8, 3⟩) (meth := k8m3) (c := k8c3) (by decide +kernel) rfl rfl rfl (by decide +kernel)
set_option maxRecDepth 65536 in
theorem w_c7 : (Jvm.Cond.code ({ cls := "java/lang/StringUTF16", name := "coderFromArrayLen", desc := "([BI)B" } : Jvm.MethodName) jdk_52_method_15_code (2 : Nat) (Option.some Jvm.ClassFile.FieldType.byte)).before args0 about1 = true := code_word (m := ⟨8, 1⟩) (meth := k8m1) (c := k8c1) (by decide +kernel) rfl rfl rfl (by decide +kernel)
set_option maxRecDepth 65536 in
theorem w_c8 : (Jvm.Cond.code ({ cls := "com/example/daugava/daugava/iso20022/Iso20022", name := "messageName", desc := "(Ljava/lang/String;)Ljava/lang/String;" } : Jvm.MethodName) prog_52_method_3_code (1 : Nat) (Option.some (Jvm.ClassFile.FieldType.object "java/lang/String"))).before args0 about1 = true := code_word (m := ⟨9, 1⟩) (meth := k9m1) (c := k9c1) (by decide +kernel) rfl rfl rfl (by decide +kernel)
set_option maxRecDepth 65536 in
theorem w_c9 : (Jvm.Cond.code ({ cls := "java/lang/String", name := "indexOf", desc := "(I)I" } : Jvm.MethodName) jdk_42_method_79_code (2 : Nat) (Option.some Jvm.ClassFile.FieldType.int)).before args0 about1 = true := code_word (m := ⟨7, 4⟩) (meth := k7m4) (c := k7c4) (by decide +kernel) rfl rfl rfl (by decide +kernel)
set_option maxRecDepth 65536 in
theorem w_c10 : (Jvm.Cond.code ({ cls := "java/lang/String", name := "indexOf", desc := "(II)I" } : Jvm.MethodName) jdk_42_method_80_code (3 : Nat) (Option.some Jvm.ClassFile.FieldType.int)).before args0 about1 = true := code_word (m := ⟨7, 5⟩) (meth := k7m5) (c := k7c5) (by decide +kernel) rfl rfl rfl (by decide +kernel)
set_option maxRecDepth 65536 in
theorem w_c11 : (Jvm.Cond.code ({ cls := "java/lang/String", name := "isLatin1", desc := "()Z" } : Jvm.MethodName) jdk_42_method_154_code (1 : Nat) (Option.some Jvm.ClassFile.FieldType.boolean)).before args0 about1 = true := code_word (m := ⟨7, 10⟩) (meth := k7m10) (c := k7c10) (by decide +kernel) rfl rfl rfl (by decide +kernel)
set_option maxRecDepth 65536 in
theorem w_c12 : (Jvm.Cond.code ({ cls := "java/lang/String", name := "length", desc := "()I" } : Jvm.MethodName) jdk_42_method_54_code (1 : Nat) (Option.some Jvm.ClassFile.FieldType.int)).before args0 about1 = true := code_word (m := ⟨7, 2⟩) (meth := k7m2) (c := k7c2) (by decide +kernel) rfl rfl rfl (by decide +kernel)
set_option maxRecDepth 65536 in
theorem w_c13 : (Jvm.Cond.code ({ cls := "java/lang/String", name := "coder", desc := "()B" } : Jvm.MethodName) jdk_42_method_152_code (1 : Nat) (Option.some Jvm.ClassFile.FieldType.byte)).before args0 about1 = true := code_word (m := ⟨7, 9⟩) (meth := k7m9) (c := k7c9) (by decide +kernel) rfl rfl rfl (by decide +kernel)
set_option maxRecDepth 65536 in
theorem w_c14 : (Jvm.Cond.code ({ cls := "java/lang/StringLatin1", name := "indexOf", desc := "([BIII)I" } : Jvm.MethodName) jdk_43_method_22_code (4 : Nat) (Option.some Jvm.ClassFile.FieldType.int)).before args0 about1 = true := code_word (m := ⟨10, 3⟩) (meth := k10m3) (c := k10c3) (by decide +kernel) rfl rfl rfl (by decide +kernel)
set_option maxRecDepth 65536 in
theorem w_c15 : (Jvm.Cond.code ({ cls := "java/lang/StringLatin1", name := "canEncode", desc := "(I)Z" } : Jvm.MethodName) jdk_43_method_4_code (1 : Nat) (Option.some Jvm.ClassFile.FieldType.boolean)).before args0 about1 = true := code_word (m := ⟨10, 2⟩) (meth := k10m2) (c := k10c2) (by decide +kernel) rfl rfl rfl (by decide +kernel)
set_option maxRecDepth 65536 in
theorem w_c16 : (Jvm.Cond.code ({ cls := "java/lang/Math", name := "max", desc := "(II)I" } : Jvm.MethodName) jdk_29_method_65_code (2 : Nat) (Option.some Jvm.ClassFile.FieldType.int)).before args0 about1 = true := code_word (m := ⟨11, 1⟩) (meth := k11m1) (c := k11c1) (by decide +kernel) rfl rfl rfl (by decide +kernel)
set_option maxRecDepth 65536 in
theorem w_c17 : (Jvm.Cond.code ({ cls := "java/lang/Math", name := "min", desc := "(II)I" } : Jvm.MethodName) jdk_29_method_69_code (2 : Nat) (Option.some Jvm.ClassFile.FieldType.int)).before args0 about1 = true := code_word (m := ⟨11, 2⟩) (meth := k11m2) (c := k11c2) (by decide +kernel) rfl rfl rfl (by decide +kernel)
set_option maxRecDepth 65536 in
theorem w_c18 : (Jvm.Cond.code ({ cls := "java/lang/StringLatin1", name := "indexOfChar", desc := "([BIII)I" } : Jvm.MethodName) jdk_43_method_23_code (6 : Nat) (Option.some Jvm.ClassFile.FieldType.int)).before args0 about1 = true := code_word (m := ⟨10, 4⟩) (meth := k10m4) (c := k10c4) (by decide +kernel) rfl rfl rfl (by decide +kernel)
set_option maxRecDepth 65536 in
theorem w_c19 : (Jvm.Cond.code ({ cls := "java/lang/String", name := "substring", desc := "(II)Ljava/lang/String;" } : Jvm.MethodName) jdk_42_method_92_code (5 : Nat) (Option.some (Jvm.ClassFile.FieldType.object "java/lang/String"))).before args0 about1 = true := code_word (m := ⟨7, 6⟩) (meth := k7m6) (c := k7c6) (by decide +kernel) rfl rfl rfl (by decide +kernel)
set_option maxRecDepth 65536 in
theorem w_c20 : (Jvm.Cond.code ({ cls := "java/lang/String", name := "checkBoundsBeginEnd", desc := "(III)V" } : Jvm.MethodName) jdk_42_method_158_code (3 : Nat) (Option.none : Option Jvm.ClassFile.FieldType)).before args0 about1 = true := code_word (m := ⟨7, 12⟩) (meth := k7m12) (c := k7c12) (by decide +kernel) rfl rfl rfl (by decide +kernel)
set_option maxRecDepth 65536 in
theorem w_c21 : (Jvm.Cond.code ({ cls := "jdk/internal/util/Preconditions", name := "checkFromToIndex", desc := "(IIILjava/util/function/BiFunction;)I" } : Jvm.MethodName) jdk_41_method_12_code (4 : Nat) (Option.some Jvm.ClassFile.FieldType.int)).before args0 about1 = true := code_word (m := ⟨12, 2⟩) (meth := k12m2) (c := k12c2) (by decide +kernel) rfl rfl rfl (by decide +kernel)
set_option maxRecDepth 65536 in
theorem w_c22 : (Jvm.Cond.code ({ cls := "java/lang/StringLatin1", name := "newString", desc := "([BII)Ljava/lang/String;" } : Jvm.MethodName) jdk_43_method_47_code (3 : Nat) (Option.some (Jvm.ClassFile.FieldType.object "java/lang/String"))).before args0 about1 = true := code_word (m := ⟨10, 5⟩) (meth := k10m5) (c := k10c5) (by decide +kernel) rfl rfl rfl (by decide +kernel)
set_option maxRecDepth 65536 in
theorem w_c23 : (Jvm.Cond.code ({ cls := "java/util/Arrays", name := "copyOfRange", desc := "([BII)[B" } : Jvm.MethodName) jdk_65_method_132_code (3 : Nat) (Option.some (Jvm.ClassFile.FieldType.array Jvm.ClassFile.FieldType.byte))).before args0 about1 = true := code_word (m := ⟨13, 2⟩) (meth := k13m2) (c := k13c2) (by decide +kernel) rfl rfl rfl (by decide +kernel)
set_option maxRecDepth 65536 in
theorem w_c24 : (Jvm.Cond.code ({ cls := "java/util/Arrays", name := "copyOfRangeByte", desc := "([BII)[B" } : Jvm.MethodName) jdk_65_method_133_code (5 : Nat) (Option.some (Jvm.ClassFile.FieldType.array Jvm.ClassFile.FieldType.byte))).before args0 about1 = true := code_word (m := ⟨13, 3⟩) (meth := k13m3) (c := k13c3) (by decide +kernel) rfl rfl rfl (by decide +kernel)
set_option maxRecDepth 65536 in
theorem w_c25 : (Jvm.Cond.code ({ cls := "java/util/Arrays", name := "checkLength", desc := "(II)V" } : Jvm.MethodName) jdk_65_method_131_code (2 : Nat) (Option.none : Option Jvm.ClassFile.FieldType)).before args0 about1 = true := code_word (m := ⟨13, 1⟩) (meth := k13m1) (c := k13c1) (by decide +kernel) rfl rfl rfl (by decide +kernel)
set_option maxRecDepth 65536 in
theorem w_c26 : (Jvm.Cond.code ({ cls := "java/lang/String", name := "<init>", desc := "([BB)V" } : Jvm.MethodName) jdk_42_method_151_code (3 : Nat) (Option.none : Option Jvm.ClassFile.FieldType)).before args0 about1 = true := code_word (m := ⟨7, 8⟩) (meth := k7m8) (c := k7c8) (by decide +kernel) rfl rfl rfl (by decide +kernel)
set_option maxRecDepth 65536 in
theorem w_c27 : (Jvm.Cond.code ({ cls := "com/example/daugava/daugava/iso20022/Iso20022MessageNamePinLaw", name := "same", desc := "(Ljava/lang/String;[CII)Z" } : Jvm.MethodName) method_4_code (4 : Nat) (Option.some Jvm.ClassFile.FieldType.boolean)).before args0 about1 = true := code_word (m := ⟨1, 3⟩) (meth := k1m3) (c := k1c3) (by decide +kernel) rfl rfl rfl (by decide +kernel)
set_option maxRecDepth 65536 in
theorem w_c28 : (Jvm.Cond.code ({ cls := "java/lang/String", name := "charAt", desc := "(I)C" } : Jvm.MethodName) jdk_42_method_56_code (2 : Nat) (Option.some Jvm.ClassFile.FieldType.char)).before args0 about1 = true := code_word (m := ⟨7, 3⟩) (meth := k7m3) (c := k7c3) (by decide +kernel) rfl rfl rfl (by decide +kernel)
set_option maxRecDepth 65536 in
theorem w_c29 : (Jvm.Cond.code ({ cls := "java/lang/StringLatin1", name := "charAt", desc := "([BI)C" } : Jvm.MethodName) jdk_43_method_2_code (2 : Nat) (Option.some Jvm.ClassFile.FieldType.char)).before args0 about1 = true := code_word (m := ⟨10, 1⟩) (meth := k10m1) (c := k10c1) (by decide +kernel) rfl rfl rfl (by decide +kernel)
set_option maxRecDepth 65536 in
theorem w_c30 : (Jvm.Cond.code ({ cls := "java/lang/String", name := "checkIndex", desc := "(II)V" } : Jvm.MethodName) jdk_42_method_155_code (2 : Nat) (Option.none : Option Jvm.ClassFile.FieldType)).before args0 about1 = true := code_word (m := ⟨7, 11⟩) (meth := k7m11) (c := k7c11) (by decide +kernel) rfl rfl rfl (by decide +kernel)
set_option maxRecDepth 65536 in
theorem w_c31 : (Jvm.Cond.code ({ cls := "jdk/internal/util/Preconditions", name := "checkIndex", desc := "(IILjava/util/function/BiFunction;)I" } : Jvm.MethodName) jdk_41_method_11_code (3 : Nat) (Option.some Jvm.ClassFile.FieldType.int)).before args0 about1 = true := code_word (m := ⟨12, 1⟩) (meth := k12m1) (c := k12c1) (by decide +kernel) rfl rfl rfl (by decide +kernel)
def codes1 : List Jvm.Cond := [Jvm.Cond.code x code maxLocals ret, Jvm.Cond.code ({ cls := "com/example/daugava/daugava/iso20022/Iso20022MessageNamePinLaw", name := "draw", desc := "(JIII)C" } : Jvm.MethodName) method_3_code (6 : Nat) (Option.some Jvm.ClassFile.FieldType.char), Jvm.Cond.code ({ cls := "java/lang/String", name := "<init>", desc := "([C)V" } : Jvm.MethodName) jdk_42_method_3_code (2 : Nat) (Option.none : Option Jvm.ClassFile.FieldType), Jvm.Cond.code ({ cls := "java/lang/String", name := "<init>", desc := "([CIILjava/lang/Void;)V" } : Jvm.MethodName) jdk_42_method_149_code (6 : Nat) (Option.none : Option Jvm.ClassFile.FieldType), Jvm.Cond.code ({ cls := "java/lang/Object", name := "<init>", desc := "()V" } : Jvm.MethodName) object_method_1_code (1 : Nat) (Option.none : Option Jvm.ClassFile.FieldType), Jvm.Cond.code ({ cls := "java/lang/StringUTF16", name := "compress", desc := "([CII)[B" } : Jvm.MethodName) jdk_52_method_16_code (6 : Nat) (Option.some (Jvm.ClassFile.FieldType.array Jvm.ClassFile.FieldType.byte)), Jvm.Cond.code ({ cls := "java/lang/StringUTF16", name := "compress", desc := "([CI[BII)I" } : Jvm.MethodName) jdk_52_method_21_code (7 : Nat) (Option.some Jvm.ClassFile.FieldType.int), Jvm.Cond.code ({ cls := "java/lang/StringUTF16", name := "coderFromArrayLen", desc := "([BI)B" } : Jvm.MethodName) jdk_52_method_15_code (2 : Nat) (Option.some Jvm.ClassFile.FieldType.byte), Jvm.Cond.code ({ cls := "com/example/daugava/daugava/iso20022/Iso20022", name := "messageName", desc := "(Ljava/lang/String;)Ljava/lang/String;" } : Jvm.MethodName) prog_52_method_3_code (1 : Nat) (Option.some (Jvm.ClassFile.FieldType.object "java/lang/String")), Jvm.Cond.code ({ cls := "java/lang/String", name := "indexOf", desc := "(I)I" } : Jvm.MethodName) jdk_42_method_79_code (2 : Nat) (Option.some Jvm.ClassFile.FieldType.int), Jvm.Cond.code ({ cls := "java/lang/String", name := "indexOf", desc := "(II)I" } : Jvm.MethodName) jdk_42_method_80_code (3 : Nat) (Option.some Jvm.ClassFile.FieldType.int), Jvm.Cond.code ({ cls := "java/lang/String", name := "isLatin1", desc := "()Z" } : Jvm.MethodName) jdk_42_method_154_code (1 : Nat) (Option.some Jvm.ClassFile.FieldType.boolean), Jvm.Cond.code ({ cls := "java/lang/String", name := "length", desc := "()I" } : Jvm.MethodName) jdk_42_method_54_code (1 : Nat) (Option.some Jvm.ClassFile.FieldType.int), Jvm.Cond.code ({ cls := "java/lang/String", name := "coder", desc := "()B" } : Jvm.MethodName) jdk_42_method_152_code (1 : Nat) (Option.some Jvm.ClassFile.FieldType.byte), Jvm.Cond.code ({ cls := "java/lang/StringLatin1", name := "indexOf", desc := "([BIII)I" } : Jvm.MethodName) jdk_43_method_22_code (4 : Nat) (Option.some Jvm.ClassFile.FieldType.int), Jvm.Cond.code ({ cls := "java/lang/StringLatin1", name := "canEncode", desc := "(I)Z" } : Jvm.MethodName) jdk_43_method_4_code (1 : Nat) (Option.some Jvm.ClassFile.FieldType.boolean), Jvm.Cond.code ({ cls := "java/lang/Math", name := "max", desc := "(II)I" } : Jvm.MethodName) jdk_29_method_65_code (2 : Nat) (Option.some Jvm.ClassFile.FieldType.int), Jvm.Cond.code ({ cls := "java/lang/Math", name := "min", desc := "(II)I" } : Jvm.MethodName) jdk_29_method_69_code (2 : Nat) (Option.some Jvm.ClassFile.FieldType.int), Jvm.Cond.code ({ cls := "java/lang/StringLatin1", name := "indexOfChar", desc := "([BIII)I" } : Jvm.MethodName) jdk_43_method_23_code (6 : Nat) (Option.some Jvm.ClassFile.FieldType.int), Jvm.Cond.code ({ cls := "java/lang/String", name := "substring", desc := "(II)Ljava/lang/String;" } : Jvm.MethodName) jdk_42_method_92_code (5 : Nat) (Option.some (Jvm.ClassFile.FieldType.object "java/lang/String")), Jvm.Cond.code ({ cls := "java/lang/String", name := "checkBoundsBeginEnd", desc := "(III)V" } : Jvm.MethodName) jdk_42_method_158_code (3 : Nat) (Option.none : Option Jvm.ClassFile.FieldType), Jvm.Cond.code ({ cls := "jdk/internal/util/Preconditions", name := "checkFromToIndex", desc := "(IIILjava/util/function/BiFunction;)I" } : Jvm.MethodName) jdk_41_method_12_code (4 : Nat) (Option.some Jvm.ClassFile.FieldType.int), Jvm.Cond.code ({ cls := "java/lang/StringLatin1", name := "newString", desc := "([BII)Ljava/lang/String;" } : Jvm.MethodName) jdk_43_method_47_code (3 : Nat) (Option.some (Jvm.ClassFile.FieldType.object "java/lang/String")), Jvm.Cond.code ({ cls := "java/util/Arrays", name := "copyOfRange", desc := "([BII)[B" } : Jvm.MethodName) jdk_65_method_132_code (3 : Nat) (Option.some (Jvm.ClassFile.FieldType.array Jvm.ClassFile.FieldType.byte)), Jvm.Cond.code ({ cls := "java/util/Arrays", name := "copyOfRangeByte", desc := "([BII)[B" } : Jvm.MethodName) jdk_65_method_133_code (5 : Nat) (Option.some (Jvm.ClassFile.FieldType.array Jvm.ClassFile.FieldType.byte)), Jvm.Cond.code ({ cls := "java/util/Arrays", name := "checkLength", desc := "(II)V" } : Jvm.MethodName) jdk_65_method_131_code (2 : Nat) (Option.none : Option Jvm.ClassFile.FieldType), Jvm.Cond.code ({ cls := "java/lang/String", name := "<init>", desc := "([BB)V" } : Jvm.MethodName) jdk_42_method_151_code (3 : Nat) (Option.none : Option Jvm.ClassFile.FieldType), Jvm.Cond.code ({ cls := "com/example/daugava/daugava/iso20022/Iso20022MessageNamePinLaw", name := "same", desc := "(Ljava/lang/String;[CII)Z" } : Jvm.MethodName) method_4_code (4 : Nat) (Option.some Jvm.ClassFile.FieldType.boolean), Jvm.Cond.code ({ cls := "java/lang/String", name := "charAt", desc := "(I)C" } : Jvm.MethodName) jdk_42_method_56_code (2 : Nat) (Option.some Jvm.ClassFile.FieldType.char), Jvm.Cond.code ({ cls := "java/lang/StringLatin1", name := "charAt", desc := "([BI)C" } : Jvm.MethodName) jdk_43_method_2_code (2 : Nat) (Option.some Jvm.ClassFile.FieldType.char), Jvm.Cond.code ({ cls := "java/lang/String", name := "checkIndex", desc := "(II)V" } : Jvm.MethodName) jdk_42_method_155_code (2 : Nat) (Option.none : Option Jvm.ClassFile.FieldType), Jvm.Cond.code ({ cls := "jdk/internal/util/Preconditions", name := "checkIndex", desc := "(IILjava/util/function/BiFunction;)I" } : Jvm.MethodName) jdk_41_method_11_code (3 : Nat) (Option.some Jvm.ClassFile.FieldType.int)]
set_option maxRecDepth 65536 in
theorem codes_eq : words1.filter isCode = codes1 := rfl
theorem w_codes : ∀ c ∈ words1.filter isCode, c.before args0 about1 = true := by
  rw [codes_eq]
  intro c hc
  simp only [codes1, List.mem_cons, List.not_mem_nil, or_false] at hc
  rcases hc with rfl | rfl | rfl | rfl | rfl | rfl | rfl | rfl | rfl | rfl | rfl | rfl | rfl | rfl | rfl | rfl | rfl | rfl | rfl | rfl | rfl | rfl | rfl | rfl | rfl | rfl | rfl | rfl | rfl | rfl | rfl | rfl
  · exact w_c0
  · exact w_c1
  · exact w_c2
  · exact w_c3
  · exact w_c4
  · exact w_c5
  · exact w_c6
  · exact w_c7
  · exact w_c8
  · exact w_c9
  · exact w_c10
  · exact w_c11
  · exact w_c12
  · exact w_c13
  · exact w_c14
  · exact w_c15
  · exact w_c16
  · exact w_c17
  · exact w_c18
  · exact w_c19
  · exact w_c20
  · exact w_c21
  · exact w_c22
  · exact w_c23
  · exact w_c24
  · exact w_c25
  · exact w_c26
  · exact w_c27
  · exact w_c28
  · exact w_c29
  · exact w_c30
  · exact w_c31
set_option maxRecDepth 65536 in
theorem w_t1 : (words1.take 24).all (fun c => isCode c || c.before args0 about1) = true := by decide +kernel
set_option maxRecDepth 65536 in
theorem w_t2 : ((words1.drop 24).take 24).all (fun c => isCode c || c.before args0 about1) = true := by decide +kernel
set_option maxRecDepth 65536 in
theorem w_t3 : (((words1.drop 24).drop 24).take 24).all (fun c => isCode c || c.before args0 about1) = true := by decide +kernel
set_option maxRecDepth 65536 in
theorem w_t4 : ((((words1.drop 24).drop 24).drop 24).take 24).all (fun c => isCode c || c.before args0 about1) = true := by decide +kernel
set_option maxRecDepth 65536 in
theorem w_t5 : (((((words1.drop 24).drop 24).drop 24).drop 24).take 24).all (fun c => isCode c || c.before args0 about1) = true := by decide +kernel
set_option maxRecDepth 65536 in
theorem w_t6 : (((((words1.drop 24).drop 24).drop 24).drop 24).drop 24).all (fun c => isCode c || c.before args0 about1) = true := by decide +kernel
theorem w_tables : (allAtoms (Jvm.Cond.code x code maxLocals ret :: tables_1)).before args0 about1 = true := by
  rw [allAtoms_all]
  show words1.all (fun c => c.before args0 about1) = true
  refine all_split ?_ w_codes
  rw [← List.take_append_drop 24 words1, List.all_append, w_t1, ← List.take_append_drop 24 (words1.drop 24), List.all_append, w_t2, ← List.take_append_drop 24 ((words1.drop 24).drop 24), List.all_append, w_t3, ← List.take_append_drop 24 (((words1.drop 24).drop 24).drop 24), List.all_append, w_t4, ← List.take_append_drop 24 ((((words1.drop 24).drop 24).drop 24).drop 24), List.all_append, w_t5, w_t6]
  rfl
set_option maxRecDepth 65536 in
theorem w_rest : rest_1_c.before args0 about1 = true := by decide +kernel
set_option maxRecDepth 65536 in
theorem w_case : (Jvm.Cond.and given_1 narrow_1).before args0 about1 = true := by decide +kernel
theorem w_applies : (headSpec (Jvm.Cond.code x code maxLocals ret :: tables_1) room_1).applies x e0.platform about1 = true :=
  (Spec.applies_iff w_frames).mpr ⟨w_running, w_runnable, w_alone, w_named, w_hears, w_ripe, w_room, w_tables⟩
theorem atStart : AtStart classFile x code maxLocals ret World_1 tables_1 room_1 Calls_1 rest_1 Pre_1 launch0 p0 e0 about1 theMethod args0 below0 :=
  ⟨lists_1, trivial, launch0.admits_env _ _ _, launch0.least_env, fairChoices_fair.cas, fairChoices_fair.clock, w_frames, w_args, w_heap, w_applies, trivial, w_rest, w_case⟩
end start1
theorem witness_1 : WitnessClaimed_1 := ⟨start1.p0, start1.e0, start1.about1, start1.theMethod, start1.args0, start1.below0, start1.atStart⟩
end Jvm.Pilot.@@N@@
