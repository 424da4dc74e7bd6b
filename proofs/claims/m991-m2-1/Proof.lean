import JvmDerived
import JvmDerived.Pilot.@@N@@Statement
import JvmDerived.Pilot.@@N@@Code
set_option linter.unusedVariables false
set_option linter.unusedSimpArgs false
namespace Jvm.Own
open Sem ClassFile Op Lib Bundle Jvm.Stand Jvm.Free Jvm.LawKit Jvm.RoadKit
/-- the run from V comes to an end of which Φ holds -/
def Go (p : Program) (e : Env) (below : List Frame) (Φ : Outcome → State → Prop) (V : State) : Prop :=
  ∃ s₂ o, Steps p.tables e below V s₂ ∧ s₂.status = .running ∧ Ended s₂ below o ∧ Φ o s₂
/-- the end of a walk that interns nothing -/
def EndP (s : State) (Q : Option Value → Heap → List Loc → Prop) (C S : Nat) (o : Outcome) (U : State) : Prop :=
  ∃ v L, o = .returned v ∧ Q v U.heap L ∧ FrameEnd s o U L C S
/-- the end of a walk that may intern constants of EL -/
def EndH (Z : State) (EL : List (String × Nat)) (s : State) (Q : Option Value → Heap → List Loc → Prop) (C S : Nat) (o : Outcome) (U : State) : Prop :=
  ∃ v L, o = .returned v ∧ Q v U.heap L ∧ CHr Z EL s.vm s.heap U.vm U.heap ∧ ReturnedEndW s o U L C S
/-- what such a walk bears along -/
def HW (Z : State) (EL : List (String × Nat)) (s : State) (vm : Vm) (h : Heap) : Prop :=
  (∃ k0, s.Since vm k0 ∧ k0 ≤ h.size) ∧ CHr Z EL s.vm s.heap vm h
section G
variable {p : Program} {l : Launch} {e : Env} {R : Room} {s : State} {m : MethodId} {args : Array Value} {below : List Frame} {meth : Method} {c : Code} {T : State} {locs : List Loc} {cells slots : Nat}
  {Φ : Outcome → State → Prop} {V V' : State} {Z : State} {a0 : Array Value} {h h' : Heap} {EL : List (String × Nat)} {vm : Vm} {Q : Option Value → Heap → List Loc → Prop} {C S : Nat}
theorem Go.st (k : ∀ target, Steps p.tables e below V' target → Steps p.tables e below V target) (g : Go p e below Φ V') : Go p e below Φ V := by
  obtain ⟨s₂, o, h1, h2⟩ := g
  exact ⟨s₂, o, k _ h1, h2⟩
theorem Go.tr (k : Steps p.tables e below V V') (g : Go p e below Φ V') : Go p e below Φ V := by
  obtain ⟨s₂, o, h1, h2⟩ := g
  exact ⟨s₂, o, k.trans h1, h2⟩
theorem HW.ext (H : HW Z EL s vm h) (E : Ext h h') : HW Z EL s vm h' := by
  obtain ⟨⟨k0, h1, h2⟩, h3⟩ := H
  exact ⟨⟨k0, h1, Nat.le_trans h2 E.1⟩, h3.trans (CHr.ext E h3.1)⟩
theorem HW.wr (H : HW Z EL s vm h) {a : Addr} {sl : Nat} {v : Value} (W : Wr h h' a sl v) (S : Safe Z EL vm h a) : HW Z EL s vm h' := by
  obtain ⟨⟨k0, h1, h2⟩, h3⟩ := H
  exact ⟨⟨k0, h1, by rw [W.size]; exact h2⟩, h3.trans (CHr.wr W S h3.1)⟩
theorem HW.keep (H : HW Z EL s vm h) {ws : List Addr} (K : Keep h h' ws) (S : ∀ x ∈ ws, Safe Z EL vm h x) : HW Z EL s vm h' := by
  obtain ⟨⟨k0, h1, h2⟩, h3⟩ := H
  exact ⟨⟨k0, h1, Nat.le_trans h2 K.1⟩, h3.trans (CHr.keep K S h3.1)⟩
theorem keepE (K : Keep h h' []) : Ext h h' := ⟨K.1, fun a c q => K.2.1 a c q (fun z => nomatch z)⟩
theorem extK (E : Ext h h') : Keep h h' [] := (Keep.refl h []).ext E
/-- a String under construction, its value still null, is no booked one -/
theorem Safe.blank {x : Addr} (hal : Z.vm.Alike vm) (E : Exa Z h x "java/lang/String") (F : Fld Z h x "java/lang/String" "value" "[B" .null) : Safe Z EL vm h x := by
  rintro ⟨p, hp, u, a, hb, q, hq, F0, hy⟩
  obtain ⟨cS, ⟨⟨s1, s2, s3, ⟨cv, kv, iv, s4, s4'⟩, ⟨cc, kc, ic, s5, s5'⟩, s6, s7, s8, s9, s10, s11, s12, s13, s14, s15, s16⟩, hfS, hcS⟩, ⟨kS, k1, k2, k3⟩, hB, hbyt⟩ := F0
  rcases hy with rfl | rfl
  · obtain ⟨kv', z4⟩ := ff_back (U := Wst Z vm h) hal s4
    obtain ⟨cell, cf, k, i, f, f1, f2, f3, f4, f5, f6, f7⟩ := F
    cases f2.symm.trans z4
    have s1 : h[q.sa]? = some q.sC := s1
    cases f1.symm.trans s1
    have := f7.symm.trans s8
    simp at this
  · obtain ⟨cell, k, e1, e2, e3, e4, e5⟩ := E
    have s10 : h[q.sd]? = some q.SA := s10
    cases e1.symm.trans s10
    have hB : vm.findClass "[B" = some q.SA.cls := hB
    have hBZ : Z.vm.findClass "[B" = some q.SA.cls := by rw [← hal.findClass]; exact hB
    exact absurd (ids_ne e2 hBZ (by decide) rfl) (fun z => z)
/-- the contract of a body that interns nothing, from its walk -/
theorem openP {y : MethodName} {bytes : ByteArray} {maxL : Nat} {ret : Option FieldType} {ws : List Cond} {rm : Room} {as' : Array Value} (hp : plainName y.cls = true)
    (body : ∀ (p : Program) (e : Env) (s : State) (m : MethodId) (below : List Frame) (meth : Method) (c : Code) (T : State), p.tables.exec = Jvm.exec → c.code = bytes → c.maxLocals = maxL → meth.sig.returnType = ret → meth.locks = false → meth.name = y.name →
      Z.Warmed39 s.vm → s.vm.findClass y.cls = some m.cls → Stand p l e rm s m as' below meth c T [] 0 0 → T.heap = h → Go p e below (EndP s Q rm.cells rm.slots) (T.setTop (entryFrame m as' maxL))) :
    MetFree l y (head1 (Cond.code y bytes maxL ret :: ws) rm) (fun a U => a = as' ∧ Z.Warmed39 U.vm ∧ U.heap = h) (fun _ _ _ _ _ => True) (fun _ U o U' => ∃ v L, o = .returned v ∧ Q v U'.heap L ∧ FrameEnd U o U' L rm.cells rm.slots) := by
  refine MetFree.of_bodySF (plainFor_of_name hp) hisR ?_
  intro p e s m args below meth c s₁ Bd hml0 hP hK
  obtain ⟨rfl, hZ, hh⟩ := hP
  exact body p e s m below meth c s₁ Bd.exec Bd.bytes hml0 Bd.returns (BodyLoose.notSynchronized Bd) (name_of_methodNamed Bd.named Bd.method).1 hZ (findClass_of_methodNamed Bd.named) (Stand.of_body Bd) (by rw [← hh, Bd.state]; rfl)
/-- the contract of a body that may intern -/
theorem openH {y : MethodName} {bytes : ByteArray} {maxL : Nat} {ret : Option FieldType} {ws : List Cond} {rm : Room} {as' : Array Value} (hp : plainName y.cls = true)
    (body : ∀ (p : Program) (e : Env) (s : State) (m : MethodId) (below : List Frame) (meth : Method) (c : Code) (T : State) (vm : Vm), p.tables.exec = Jvm.exec → c.code = bytes → c.maxLocals = maxL → meth.sig.returnType = ret → meth.locks = false → meth.name = y.name →
      Z.Warmed39 vm → vm.findClass y.cls = some m.cls → Stand p l e rm (s.setVm vm) m as' below meth c T [] 0 0 → T.heap = h → HW Z EL s vm h → Go p e below (EndH Z EL s Q rm.cells rm.slots) (T.setTop (entryFrame m as' maxL))) :
    MetFree l y (head1 (Cond.code y bytes maxL ret :: ws) rm) (fun a U => a = as' ∧ Z.Warmed39 U.vm ∧ U.heap = h ∧ CHv Z EL U.vm h) (fun _ _ _ _ _ => True)
      (fun _ U o U' => ∃ v L, o = .returned v ∧ Q v U'.heap L ∧ CHr Z EL U.vm U.heap U'.vm U'.heap ∧ ReturnedEndW U o U' L rm.cells rm.slots) := by
  refine MetFree.of_bodySF (plainFor_of_name hp) hisR ?_
  intro p e s m args below meth c s₁ Bd hml0 hP hK
  obtain ⟨rfl, hZ, hh, hC⟩ := hP
  have hH : HW Z EL s s.vm h := ⟨⟨0, (State.WarmedH.refl s).since 0, Nat.zero_le _⟩, by rw [hh]; exact CHr.refl hC⟩
  exact body p e s m below meth c s₁ s.vm Bd.exec Bd.bytes hml0 Bd.returns (BodyLoose.notSynchronized Bd) (name_of_methodNamed Bd.named Bd.method).1 hZ (findClass_of_methodNamed Bd.named) (Stand.of_body Bd) (by rw [← hh, Bd.state]; rfl) hH
/-- a value is returned -/
theorem Go.ret (X : Stand p l e R s m args below meth c T locs cells slots) (hx : p.tables.exec = Jvm.exec) (hlk : meth.locks = false) (hT : T.heap = h) {pc : Nat} {Ls : Array Slot} {w : Value} {t : FieldType} {i : Instr} {rest : List Value} (hret : meth.sig.returnType = some t) (hn : narrow t w = w)
    (hi : (i = .ireturn ∧ (t = .int ∨ t = .boolean ∨ t = .byte ∨ t = .char ∨ t = .short) ∧ ∃ z, w = .int z) ∨ (i = .lreturn ∧ t = .long ∧ ∃ z, w = .long z) ∨ (i = .dreturn ∧ t = .double ∧ ∃ z, w = .double z) ∨ (i = .freturn ∧ t = .float ∧ ∃ z, w = .float z) ∨ (i = .areturn ∧ t.isReference = true ∧ w.isRef = true))
    (hd : decode c.code pc = .ok (i, 1)) (hc : cells ≤ C) (hs : slots ≤ S) (hQ : Q (some w) h locs) : Go p e below (EndP s Q C S) (T.setTop (mkF m pc Ls (w :: rest))) := by
  obtain ⟨fs, hr, hrun, hended, hW, hsame⟩ := X.leave (v := some w) (fun h => by rw [hret] at h; cases h) hlk
  refine ⟨_, _, retOut X hx hret hn hi hd hr, hrun, hended, _, _, rfl, ?_, ⟨_, rfl⟩, hW, hsame.mono hc hs⟩
  show Q (some w) T.heap locs
  rw [hT]; exact hQ
theorem Go.retV (X : Stand p l e R s m args below meth c T locs cells slots) (hx : p.tables.exec = Jvm.exec) (hlk : meth.locks = false) (hT : T.heap = h) {pc : Nat} {Ls : Array Slot} (hret : meth.sig.returnType = none)
    (hd : decode c.code pc = .ok (.return_, 1)) (hc : cells ≤ C) (hs : slots ≤ S) (hQ : Q none h locs) : Go p e below (EndP s Q C S) (T.setTop (mkF m pc Ls [])) := by
  obtain ⟨fs, hr, hrun, hended, hW, hsame⟩ := X.leave (v := none) (fun _ => rfl) hlk
  refine ⟨_, _, X.returnOut hx hret hd hr, hrun, hended, _, _, rfl, ?_, ⟨_, rfl⟩, hW, hsame.mono hc hs⟩
  show Q none T.heap locs
  rw [hT]; exact hQ
theorem endW_mono {o : Outcome} {U : State} {L : List Loc} {k n : Nat} (q : ReturnedEndW s o U L k n) (hc : k ≤ C) (hs : n ≤ S) : ReturnedEndW s o U L C S := ⟨q.1, q.2.1, q.2.2.1, q.2.2.2.mono hc hs⟩
theorem Go.retH (hEL : EW Z a0 EL) (H : HW Z EL s vm h) (hZ : Z.Warmed39 vm) (X : Stand p l e R (s.setVm vm) m args below meth c T locs cells slots) (hx : p.tables.exec = Jvm.exec) (hlk : meth.locks = false) (hT : T.heap = h) {pc : Nat} {Ls : Array Slot} {w : Value} {t : FieldType} {i : Instr} {rest : List Value} (hret : meth.sig.returnType = some t) (hn : narrow t w = w)
    (hi : (i = .ireturn ∧ (t = .int ∨ t = .boolean ∨ t = .byte ∨ t = .char ∨ t = .short) ∧ ∃ z, w = .int z) ∨ (i = .lreturn ∧ t = .long ∧ ∃ z, w = .long z) ∨ (i = .dreturn ∧ t = .double ∧ ∃ z, w = .double z) ∨ (i = .freturn ∧ t = .float ∧ ∃ z, w = .float z) ∨ (i = .areturn ∧ t.isReference = true ∧ w.isRef = true))
    (hd : decode c.code pc = .ok (i, 1)) (hc : cells ≤ C) (hs : slots ≤ S) (hQ : Q (some w) h locs) : Go p e below (EndH Z EL s Q C S) (T.setTop (mkF m pc Ls (w :: rest))) := by
  obtain ⟨⟨k0, h1, h2⟩, h3⟩ := H
  obtain ⟨fs, hr, hrun, hended, hE⟩ := X.leaveW h1 (by rw [hT]; exact h2) (v := some w) (fun h => by rw [hret] at h; cases h) hlk
  refine ⟨_, _, retOut X hx hret hn hi hd hr, hrun, hended, _, _, rfl, ?_, ?_, endW_mono hE hc hs⟩
  · show Q (some w) T.heap locs
    rw [hT]; exact hQ
  · show CHr Z EL s.vm s.heap T.vm T.heap
    rw [hT]; exact h3.trans (CHv.at X hZ hEL h3.1)
theorem Go.retVH (hEL : EW Z a0 EL) (H : HW Z EL s vm h) (hZ : Z.Warmed39 vm) (X : Stand p l e R (s.setVm vm) m args below meth c T locs cells slots) (hx : p.tables.exec = Jvm.exec) (hlk : meth.locks = false) (hT : T.heap = h) {pc : Nat} {Ls : Array Slot} (hret : meth.sig.returnType = none)
    (hd : decode c.code pc = .ok (.return_, 1)) (hc : cells ≤ C) (hs : slots ≤ S) (hQ : Q none h locs) : Go p e below (EndH Z EL s Q C S) (T.setTop (mkF m pc Ls [])) := by
  obtain ⟨⟨k0, h1, h2⟩, h3⟩ := H
  obtain ⟨fs, hr, hrun, hended, hE⟩ := X.leaveW h1 (by rw [hT]; exact h2) (v := none) (fun _ => rfl) hlk
  refine ⟨_, _, X.returnOut hx hret hd hr, hrun, hended, _, _, rfl, ?_, ?_, endW_mono hE hc hs⟩
  · show Q none T.heap locs
    rw [hT]; exact hQ
  · show CHr Z EL s.vm s.heap T.vm T.heap
    rw [hT]; exact h3.trans (CHv.at X hZ hEL h3.1)
theorem riI {z : Int32} {t : FieldType} (ht : t = .int ∨ t = .boolean ∨ t = .byte ∨ t = .char ∨ t = .short) : ((Instr.ireturn = .ireturn ∧ (t = .int ∨ t = .boolean ∨ t = .byte ∨ t = .char ∨ t = .short) ∧ ∃ z', Value.int z = .int z') ∨ (Instr.ireturn = .lreturn ∧ t = .long ∧ ∃ z', Value.int z = .long z') ∨ (Instr.ireturn = .dreturn ∧ t = .double ∧ ∃ z', Value.int z = .double z') ∨ (Instr.ireturn = .freturn ∧ t = .float ∧ ∃ z', Value.int z = .float z') ∨ (Instr.ireturn = .areturn ∧ t.isReference = true ∧ (Value.int z).isRef = true)) := Or.inl ⟨rfl, ht, z, rfl⟩
theorem riA {w : Value} {t : FieldType} (ht : t.isReference = true) (hw : w.isRef = true) : ((Instr.areturn = .ireturn ∧ (t = .int ∨ t = .boolean ∨ t = .byte ∨ t = .char ∨ t = .short) ∧ ∃ z', w = .int z') ∨ (Instr.areturn = .lreturn ∧ t = .long ∧ ∃ z', w = .long z') ∨ (Instr.areturn = .dreturn ∧ t = .double ∧ ∃ z', w = .double z') ∨ (Instr.areturn = .freturn ∧ t = .float ∧ ∃ z', w = .float z') ∨ (Instr.areturn = .areturn ∧ t.isReference = true ∧ w.isRef = true)) := Or.inr (Or.inr (Or.inr (Or.inr ⟨rfl, ht, hw⟩)))
/-- the shape that every payer here has -/
abbrev PB (l : Launch) (R : Room) (p : Program) (e : Env) (below : List Frame) (s : State) (args : Array Value) (y : MethodName) (W : Nat) (as' : Array Value) (h : Heap) (ck sk : Nat) (Q : Option Value → Heap → List Loc → Prop) : Prop :=
  Back l R p e below s args y 3 W (fun A a => a = as' ∧ A.U.heap = h ∧ A.cells + ck ≤ R.cells ∧ A.slots + sk ≤ R.slots) (fun A _ v B => ∃ L, Q v B.U.heap L ∧ B.locs = A.locs ++ L ∧ B.cells = A.cells + ck ∧ B.slots = A.slots + sk)
variable {own : String} {index W ck sk pc : Nat} {y : MethodName} {bytes : ByteArray} {maxL : Nat} {ret : Option FieldType} {Ls : Array Slot} {argsL rest st : List Value} {ps : List FieldType} {rr : Option FieldType} {a : Addr}
/-- invokestatic of a callee that interns nothing -/
theorem Go.callP (X : Stand p l e R s m args below meth c T locs cells slots) (hx : p.tables.exec = Jvm.exec) (hZ : Z.Warmed39 s.vm) (hown : s.vm.findClass own = some m.cls) (hml : c.maxLocals = Ls.size) (hT : T.heap = h)
    (w1 : (Cond.methodLink own index y).before a0 Z = true) (w2 : (Cond.static y).before a0 Z = true) (w3 : (Cond.initialized y.cls).before a0 Z = true) (w4 : (Cond.code y bytes maxL ret).before a0 Z = true) (hy : y.cls ≠ "java/lang/invoke/MethodHandle" ∧ y.cls ≠ "java/lang/invoke/VarHandle")
    (hpd : parseMethodDescriptor y.desc = some ⟨ps, rr⟩) (hlen : argsL.length = ps.length) (hst : st = argsL.reverse ++ rest) (hW : (rest.map fun v => v.category).sum ≤ W) (hd : decode c.code pc = .ok (.invokestatic index, 3))
    (hB : PB l R p e below s args y W argsL.toArray h ck sk Q) (hc : cells + ck ≤ R.cells) (hs : slots + sk ≤ R.slots)
    (k : ∀ (v : Option Value) (T' : State) (h' : Heap) (L : List Loc), T'.heap = h' → Q v h' L → Stand p l e R s m args below meth c T' (locs ++ L) (cells + ck) (slots + sk) → Go p e below Φ (T'.setTop (mkF m (pc + 3) Ls (v.toList ++ rest)))) :
    Go p e below Φ (T.setTop (mkF m pc Ls st)) := by
  subst hst
  obtain ⟨v, vm₁, ⟨T', L', k', n'⟩, -, X', ⟨L, hQ, l', y', z'⟩, st⟩ := Jvm.LawKit.callS X hx (y := y) hown (mvT hZ w1) (mvT hZ w2) (mvT hZ w3) (mvT hZ w4) hy hB (g := mkF m pc Ls (argsL.reverse ++ rest)) rfl hml.symm (argsL := argsL) (rest := rest) (lenOf hpd hlen) rfl (by show 2 * 0 + _ ≤ _; omega) hd (fun _ _ => ⟨rfl, hT, hc, hs⟩)
  dsimp only [Pt.U, Pt.locs, Pt.cells, Pt.slots] at X' l' y' z' st hQ
  subst l' y' z'
  exact Go.st st (k v T' _ L rfl hQ X')
/-- invokespecial of a constructor that interns nothing -/
theorem Go.specP (X : Stand p l e R s m args below meth c T locs cells slots) (hx : p.tables.exec = Jvm.exec) (hZ : Z.Warmed39 s.vm) (hown : s.vm.findClass own = some m.cls) (hml : c.maxLocals = Ls.size) (hT : T.heap = h) (hy1 : y.name = "<init>")
    (w1 : (Cond.methodLink own index y).before a0 Z = true) (w2 : (Cond.instanceMethod y).before a0 Z = true) (w4 : (Cond.code y bytes maxL none).before a0 Z = true) (hy : y.cls ≠ "java/lang/invoke/MethodHandle" ∧ y.cls ≠ "java/lang/invoke/VarHandle")
    (hpd : parseMethodDescriptor y.desc = some ⟨ps, rr⟩) (hlen : argsL.length = ps.length) (hst : st = argsL.reverse ++ .ref a :: rest) (hW : (rest.map fun v => v.category).sum ≤ W) (hd : decode c.code pc = .ok (.invokespecial index, 3))
    (hB : PB l R p e below s args y W (.ref a :: argsL).toArray h ck sk Q) (hc : cells + ck ≤ R.cells) (hs : slots + sk ≤ R.slots)
    (k : ∀ (v : Option Value) (T' : State) (h' : Heap) (L : List Loc), T'.heap = h' → Q v h' L → Stand p l e R s m args below meth c T' (locs ++ L) (cells + ck) (slots + sk) → Go p e below Φ (T'.setTop (mkF m (pc + 3) Ls (v.toList ++ rest)))) :
    Go p e below Φ (T.setTop (mkF m pc Ls st)) := by
  subst hst
  obtain ⟨v, vm₁, ⟨T', L', k', n'⟩, -, X', ⟨L, hQ, l', y', z'⟩, st⟩ := X.specialBack hx (y := y) hy1 hown (mvT hZ w1) (mvT hZ w2) (mvT hZ w4) hy hB (g := mkF m pc Ls (argsL.reverse ++ .ref a :: rest)) rfl hml.symm (Steps.refl _) (a := a) (argsL := argsL) (rest := rest) (lenOf hpd hlen) rfl (by show 2 * 0 + _ ≤ _; omega) hd (fun _ _ => ⟨rfl, hT, hc, hs⟩)
  dsimp only [Pt.U, Pt.locs, Pt.cells, Pt.slots] at X' l' y' z' st hQ
  subst l' y' z'
  exact Go.tr st (k v T' _ L rfl hQ X')
/-- invokevirtual of a callee that interns nothing, on an object exactly of class K -/
theorem Go.virtP {K : String} {z : MethodName} (X : Stand p l e R s m args below meth c T locs cells slots) (hx : p.tables.exec = Jvm.exec) (hZ : Z.Warmed39 s.vm) (hown : s.vm.findClass own = some m.cls) (hml : c.maxLocals = Ls.size) (hT : T.heap = h) (E : Exa Z h a K)
    (w1 : (Cond.methodLink own index y).before a0 Z = true) (w2 : (Cond.declares y).before a0 Z = true) (w3 : (Cond.selects K y z).before a0 Z = true) (w4 : (Cond.instanceMethod z).before a0 Z = true) (hy : y.cls ≠ "java/lang/invoke/MethodHandle" ∧ y.cls ≠ "java/lang/invoke/VarHandle")
    (hpd : parseMethodDescriptor y.desc = some ⟨ps, rr⟩) (hlen : argsL.length = ps.length) (hst : st = argsL.reverse ++ .ref a :: rest) (hW : (rest.map fun v => v.category).sum ≤ W) (hd : decode c.code pc = .ok (.invokevirtual index, 3))
    (hnf : NotFace s y)
    (hB : PB l R p e below s args z W (.ref a :: argsL).toArray h ck sk Q) (hc : cells + ck ≤ R.cells) (hs : slots + sk ≤ R.slots)
    (k : ∀ (v : Option Value) (T' : State) (h' : Heap) (L : List Loc), T'.heap = h' → Q v h' L → Stand p l e R s m args below meth c T' (locs ++ L) (cells + ck) (slots + sk) → Go p e below Φ (T'.setTop (mkF m (pc + 3) Ls (v.toList ++ rest)))) :
    Go p e below Φ (T.setTop (mkF m pc Ls st)) := by
  subst hst
  obtain ⟨cq, kq, qa, qb, qc⟩ := isOf (s := s) (T := T) hZ hT E
  obtain ⟨v, vm₁, ⟨T', L', k', n'⟩, -, X', ⟨L, hQ, l', y', z'⟩, st⟩ := X.virtualBack hx (y := y) (z := z) hown (mvT hZ w1) (mvT hZ w2) hnf (mvT hZ w3) (mvT hZ w4) hy hB qa qc (g := mkF m pc Ls (argsL.reverse ++ .ref a :: rest)) rfl hml.symm (Steps.refl _) (argsL := argsL) (rest := rest) (lenOf hpd hlen) rfl (by show 2 * 0 + _ ≤ _; omega) hd (fun _ _ => ⟨rfl, hT, hc, hs⟩)
  dsimp only [Pt.U, Pt.locs, Pt.cells, Pt.slots] at X' l' y' z' st hQ
  subst l' y' z'
  exact Go.tr st (k v T' _ L rfl hQ X')
/-- the shape of a payer that may intern -/
abbrev PBH (Z : State) (EL : List (String × Nat)) (l : Launch) (R : Room) (p : Program) (e : Env) (below : List Frame) (s : State) (vm : Vm) (args : Array Value) (y : MethodName) (W : Nat) (as' : Array Value) (h : Heap) (ck sk : Nat) (Q : Option Value → Heap → List Loc → Prop) : Prop :=
  BackS l R p e below (s.setVm vm) args y 3 W (fun A a => a = as' ∧ A.U.heap = h ∧ A.cells + ck ≤ R.cells ∧ A.slots + sk ≤ R.slots) (fun A _ v B => ∃ L, Q v B.U.heap L ∧ B.locs = A.locs ++ L ∧ B.cells = A.cells + ck ∧ B.slots = A.slots + sk ∧ CHr Z EL vm h B.U.vm B.U.heap)
theorem HW.call (H : HW Z EL s vm h) (hT : T.heap = h) {U : State} (h1 : (s.setVm vm).Since U.vm U.heap.size) (h2 : T.heap.size ≤ U.heap.size) (h3 : CHr Z EL vm h U.vm U.heap) : HW Z EL s U.vm U.heap := by
  obtain ⟨⟨k0, g1, g2⟩, g3⟩ := H
  exact ⟨⟨_, g1.trans h1 (Nat.le_trans g2 (by rw [← hT]; exact h2)), Nat.le_refl _⟩, g3.trans h3⟩
/-- invokestatic of a callee that may intern -/
theorem Go.callH (H : HW Z EL s vm h) (X : Stand p l e R (s.setVm vm) m args below meth c T locs cells slots) (hx : p.tables.exec = Jvm.exec) (hZ : Z.Warmed39 vm) (hown : vm.findClass own = some m.cls) (hml : c.maxLocals = Ls.size) (hT : T.heap = h)
    (w1 : (Cond.methodLink own index y).before a0 Z = true) (w2 : (Cond.static y).before a0 Z = true) (w3 : (Cond.initialized y.cls).before a0 Z = true) (w4 : (Cond.code y bytes maxL ret).before a0 Z = true) (hy : y.cls ≠ "java/lang/invoke/MethodHandle" ∧ y.cls ≠ "java/lang/invoke/VarHandle")
    (hpd : parseMethodDescriptor y.desc = some ⟨ps, rr⟩) (hlen : argsL.length = ps.length) (hst : st = argsL.reverse ++ rest) (hW : (rest.map fun v => v.category).sum ≤ W) (hd : decode c.code pc = .ok (.invokestatic index, 3))
    (hB : PBH Z EL l R p e below s vm args y W argsL.toArray h ck sk Q) (hc : cells + ck ≤ R.cells) (hs : slots + sk ≤ R.slots)
    (k : ∀ (v : Option Value) (T' : State) (h' : Heap) (L : List Loc) (vm' : Vm), T'.heap = h' → Q v h' L → Z.Warmed39 vm' → vm'.findClass own = some m.cls → HW Z EL s vm' h' → CHr Z EL vm h vm' h' → Stand p l e R (s.setVm vm') m args below meth c T' (locs ++ L) (cells + ck) (slots + sk) → Go p e below Φ (T'.setTop (mkF m (pc + 3) Ls (v.toList ++ rest)))) :
    Go p e below Φ (T.setTop (mkF m pc Ls st)) := by
  subst hst
  obtain ⟨v, vm₁, ⟨T', L', k', n'⟩, -, X', hS', hG', ⟨L, hQ, l', y', z', hR⟩, st⟩ := callSS X hx (y := y) hown (mvT (s := s.setVm vm) hZ w1) (mvT (s := s.setVm vm) hZ w2) (mvT (s := s.setVm vm) hZ w3) (mvT (s := s.setVm vm) hZ w4) hy hB (g := mkF m pc Ls (argsL.reverse ++ rest)) rfl hml.symm (argsL := argsL) (rest := rest) (lenOf hpd hlen) rfl (by show 2 * 0 + _ ≤ _; omega) hd (fun _ _ => ⟨rfl, hT, hc, hs⟩)
  dsimp only [Pt.U, Pt.locs, Pt.cells, Pt.slots] at X' l' y' z' st hQ hS' hG' hR
  subst l' y' z'
  have hW' : Z.Warmed39 T'.vm := State.Warmed39.trans (t := s.setVm vm) hZ hS'.1
  exact Go.tr st (k v T' _ L T'.vm rfl hQ hW' ((hS'.1.alike.findClass _ _).trans hown) (H.call hT hS' hG' hR) hR X')
/-- invokespecial of a constructor that may intern -/
theorem Go.specH (H : HW Z EL s vm h) (X : Stand p l e R (s.setVm vm) m args below meth c T locs cells slots) (hx : p.tables.exec = Jvm.exec) (hZ : Z.Warmed39 vm) (hown : vm.findClass own = some m.cls) (hml : c.maxLocals = Ls.size) (hT : T.heap = h) (hy1 : y.name = "<init>")
    (w1 : (Cond.methodLink own index y).before a0 Z = true) (w2 : (Cond.instanceMethod y).before a0 Z = true) (w4 : (Cond.code y bytes maxL none).before a0 Z = true) (hy : y.cls ≠ "java/lang/invoke/MethodHandle" ∧ y.cls ≠ "java/lang/invoke/VarHandle")
    (hpd : parseMethodDescriptor y.desc = some ⟨ps, rr⟩) (hlen : argsL.length = ps.length) (hst : st = argsL.reverse ++ .ref a :: rest) (hW : (rest.map fun v => v.category).sum ≤ W) (hd : decode c.code pc = .ok (.invokespecial index, 3))
    (hB : PBH Z EL l R p e below s vm args y W (.ref a :: argsL).toArray h ck sk Q) (hc : cells + ck ≤ R.cells) (hs : slots + sk ≤ R.slots)
    (k : ∀ (v : Option Value) (T' : State) (h' : Heap) (L : List Loc) (vm' : Vm), T'.heap = h' → Q v h' L → Z.Warmed39 vm' → vm'.findClass own = some m.cls → HW Z EL s vm' h' → CHr Z EL vm h vm' h' → Stand p l e R (s.setVm vm') m args below meth c T' (locs ++ L) (cells + ck) (slots + sk) → Go p e below Φ (T'.setTop (mkF m (pc + 3) Ls (v.toList ++ rest)))) :
    Go p e below Φ (T.setTop (mkF m pc Ls st)) := by
  subst hst
  obtain ⟨v, vm₁, ⟨T', L', k', n'⟩, -, X', hS', hG', ⟨L, hQ, l', y', z', hR⟩, st⟩ := X.specialBackS hx (y := y) hy1 hown (mvT (s := s.setVm vm) hZ w1) (mvT (s := s.setVm vm) hZ w2) (mvT (s := s.setVm vm) hZ w4) hy hB (g := mkF m pc Ls (argsL.reverse ++ .ref a :: rest)) rfl hml.symm (Steps.refl _) (a := a) (argsL := argsL) (rest := rest) (lenOf hpd hlen) rfl (by show 2 * 0 + _ ≤ _; omega) hd (fun _ _ => ⟨rfl, hT, hc, hs⟩)
  dsimp only [Pt.U, Pt.locs, Pt.cells, Pt.slots] at X' l' y' z' st hQ hS' hG' hR
  subst l' y' z'
  have hW' : Z.Warmed39 T'.vm := State.Warmed39.trans (t := s.setVm vm) hZ hS'.1
  exact Go.tr st (k v T' _ L T'.vm rfl hQ hW' ((hS'.1.alike.findClass _ _).trans hown) (H.call hT hS' hG' hR) hR X')
/-- what a body leaves that answers w and touches nothing -/
abbrev QV (w : Value) (h0 : Heap) (v : Option Value) (h : Heap) (L : List Loc) : Prop := v = some w ∧ L = [] ∧ h = h0
/-- invokestatic of such a body -/
theorem Go.callV {w : Value} (X : Stand p l e R s m args below meth c T locs cells slots) (hx : p.tables.exec = Jvm.exec) (hZ : Z.Warmed39 s.vm) (hown : s.vm.findClass own = some m.cls) (hml : c.maxLocals = Ls.size) (hT : T.heap = h)
    (w1 : (Cond.methodLink own index y).before a0 Z = true) (w2 : (Cond.static y).before a0 Z = true) (w3 : (Cond.initialized y.cls).before a0 Z = true) (w4 : (Cond.code y bytes maxL ret).before a0 Z = true) (hy : y.cls ≠ "java/lang/invoke/MethodHandle" ∧ y.cls ≠ "java/lang/invoke/VarHandle")
    (hpd : parseMethodDescriptor y.desc = some ⟨ps, rr⟩) (hlen : argsL.length = ps.length) (hst : st = argsL.reverse ++ rest) (hW : (rest.map fun v => v.category).sum ≤ W) (hd : decode c.code pc = .ok (.invokestatic index, 3))
    (hB : PB l R p e below s args y W argsL.toArray h 0 0 (QV w h)) (hc : cells ≤ R.cells) (hs : slots ≤ R.slots)
    (k : ∀ (T' : State), T'.heap = h → Stand p l e R s m args below meth c T' locs cells slots → Go p e below Φ (T'.setTop (mkF m (pc + 3) Ls (w :: rest)))) :
    Go p e below Φ (T.setTop (mkF m pc Ls st)) := by
  refine Go.callP X hx hZ hown hml hT w1 w2 w3 w4 hy hpd hlen hst hW hd hB hc hs ?_
  rintro v T' h' L hT' ⟨rfl, rfl, rfl⟩ X'
  rw [List.append_nil] at X'
  exact k T' hT' X'
/-- invokevirtual of such a body -/
theorem Go.virtV {K : String} {z : MethodName} {w : Value} (X : Stand p l e R s m args below meth c T locs cells slots) (hx : p.tables.exec = Jvm.exec) (hZ : Z.Warmed39 s.vm) (hown : s.vm.findClass own = some m.cls) (hml : c.maxLocals = Ls.size) (hT : T.heap = h) (E : Exa Z h a K)
    (w1 : (Cond.methodLink own index y).before a0 Z = true) (w2 : (Cond.declares y).before a0 Z = true) (w3 : (Cond.selects K y z).before a0 Z = true) (w4 : (Cond.instanceMethod z).before a0 Z = true) (hy : y.cls ≠ "java/lang/invoke/MethodHandle" ∧ y.cls ≠ "java/lang/invoke/VarHandle")
    (hpd : parseMethodDescriptor y.desc = some ⟨ps, rr⟩) (hlen : argsL.length = ps.length) (hst : st = argsL.reverse ++ .ref a :: rest) (hW : (rest.map fun v => v.category).sum ≤ W) (hd : decode c.code pc = .ok (.invokevirtual index, 3))
    (hnf : NotFace s y)
    (hB : PB l R p e below s args z W (.ref a :: argsL).toArray h 0 0 (QV w h)) (hc : cells ≤ R.cells) (hs : slots ≤ R.slots)
    (k : ∀ (T' : State), T'.heap = h → Stand p l e R s m args below meth c T' locs cells slots → Go p e below Φ (T'.setTop (mkF m (pc + 3) Ls (w :: rest)))) :
    Go p e below Φ (T.setTop (mkF m pc Ls st)) := by
  refine Go.virtP X hx hZ hown hml hT E w1 w2 w3 w4 hy hpd hlen hst hW hd hnf hB hc hs ?_
  rintro v T' h' L hT' ⟨rfl, rfl, rfl⟩ X'
  rw [List.append_nil] at X'
  exact k T' hT' X'
/-- ldc of a String constant of EL, its text read -/
theorem Go.ldcS (H : HW Z EL s vm h) (X : Stand p l e R (s.setVm vm) m args below meth c T locs cells slots) (hx : p.tables.exec = Jvm.exec) (hZ : Z.Warmed39 vm) (hown : vm.findClass own = some m.cls) (hT : T.heap = h) {text : String}
    (w : (Cond.stringLink own index text).before a0 Z = true) (wS : ∀ a ∈ Bundle.stringAtoms, a.before a0 Z = true) (hEL : EW Z a0 EL) (hmem : (own, index) ∈ EL) {vs : List Value} {z : Int32}
    (ht : (∀ c ∈ text.toList, c.toNat < 256) ∧ text.toList.map (fun c => Value.int (Jvm.Lit.byteI c.toNat.toUInt16)) = vs) (hz : ¬ z < 0) (hl : z.toNatClampNeg = vs.length) (hd : decode c.code pc = .ok (.ldc index, 2)) {n : Nat} (hn : 4 * text.toList.length ≤ n) (hbig : n ≤ 536870912) (hc : cells + 2 ≤ R.cells) (hl' : slots + (n + 4) ≤ R.slots)
    (k : ∀ (a : Addr) (T' : State) (h' : Heap) (vm' : Vm) (b : Addr) (kb : ClassId), T'.heap = h' → Ext h h' → Z.Warmed39 vm' → vm'.findClass own = some m.cls → HW Z EL s vm' h' → CHr Z EL vm h vm' h' →
      Exa Z h' a "java/lang/String" → Fld Z h' a "java/lang/String" "coder" "B" (.int 0) → Fld Z h' a "java/lang/String" "value" "[B" (.ref b) → Arv Z h' b kb .byte z vs (.int 0) → Stand p l e R (s.setVm vm') m args below meth c T' locs (cells + 2) (slots + (n + 4)) → Go p e below Φ (T'.setTop (mkF m (pc + 2) Ls (.ref a :: st)))) :
    Go p e below Φ (T.setTop (mkF m pc Ls st)) := by
  obtain ⟨⟨k0, g1, g2⟩, g3⟩ := H
  obtain ⟨a, T', h', k1, b, kb, X', hT', E', hS', hk', hZ', hown', LE, LC, LV, LA, -, -, hR, -, -, st'⟩ := ldcCH X hx hZ hown w wS hT g1 g2 hEL hmem g3.1 ht hz hl (g := mkF m pc Ls st) rfl hd hn hbig hc hl'
  exact Go.st st' (k a T' h' T'.vm b kb hT' E' hZ' hown' ⟨⟨k1, hS', hk'⟩, g3.trans hR⟩ hR LE LC LV LA X')
/-- roads that meet: what differs becomes a variable -/
theorem own_cutT {h : Heap} (X : Stand p l e R s m args below meth c T locs cells slots) (hT : T.heap = h) (F : Int32 → JFrame) (a : Int32)
    (K : ∀ (v : Int32) (T' : State), v = a → T'.heap = h → Stand p l e R s m args below meth c T' locs cells slots → Go p e below Φ (T'.setTop (F v)))
    (g : (∀ (v : Int32) (T' : State), v = a → T'.heap = h → Stand p l e R s m args below meth c T' locs cells slots → Go p e below Φ (T'.setTop (F v))) → Go p e below Φ V) : Go p e below Φ V := g K
/-! arrays, by natural indices -/
theorem own_int {n : Nat} (h : n < 2147483648) : (Int32.ofNat n).toInt = n := Int32.toInt_ofNat_small h
theorem own_clamp {n : Nat} (h : n < 2147483648) : (Int32.ofNat n).toNatClampNeg = n := by
  rw [Int32.toNatClampNeg, own_int h]; rfl
theorem own_nn {n : Nat} (h : n < 2147483648) : ¬ Int32.ofNat n < 0 := by
  rw [Int32.lt_iff_toInt_lt, own_int h]; show ¬ (n : Int) < 0; omega
theorem own_lt {a b : Nat} (ha : a < 2147483648) (hb : b < 2147483648) : Int32.ofNat a < Int32.ofNat b ↔ a < b := by
  rw [Int32.lt_iff_toInt_lt, own_int ha, own_int hb]; omega
theorem own_eqN {a b : Nat} (ha : a < 2147483648) (hb : b < 2147483648) : Int32.ofNat a = Int32.ofNat b ↔ a = b := by
  rw [← Int32.toInt_inj, own_int ha, own_int hb]; omega
theorem own_succ (n : Nat) : Int32.ofNat n + (1 : Int32) = Int32.ofNat (n + 1) := by
  show _ + Int32.ofNat 1 = _
  rw [← Int32.ofNat_add]
theorem own_dbl {n : Nat} (h : 2 * n < 2147483648) : Int32.ofNat n <<< ((1 : Int32) &&& 31) = Int32.ofNat (2 * n) := by
  rw [shlm (x := Int32.ofNat n) (k := 1) (m := 2) (by decide)]
  show _ * Int32.ofNat 2 = _
  rw [← Int32.ofNat_mul, Nat.mul_comm]
variable {k : ClassId} {N : Int32} {vs : List Value} {dv : Value} {ty : FieldType} {i : Nat} {w : Value}
theorem Go.caloadN (X : Stand p l e R s m args below meth c T locs cells slots) (hx : p.tables.exec = Jvm.exec) (hZ : Z.Warmed39 s.vm) (hT : T.heap = h) (F : Arv Z h a k .char N vs dv) (hi : i < N.toNatClampNeg) (hi2 : i < 2147483648) (hv : vs.getD i dv = w) (hd : decode c.code pc = .ok (.caload, 1))
    (g : Go p e below Φ (T.setTop (mkF m (pc + 1) Ls (w :: rest)))) : Go p e below Φ (T.setTop (mkF m pc Ls (.int (Int32.ofNat i) :: .ref a :: rest))) := by
  obtain ⟨cl, A, -, S0, M0, H0, U0⟩ := F
  have hin : ¬ (Int32.ofNat i < 0 ∨ cl.slots.size ≤ (Int32.ofNat i).toNatClampNeg) := by
    rw [own_clamp hi2, S0]; rintro (q | q)
    · exact own_nn hi2 q
    · omega
  have hat : cl.slots[(Int32.ofNat i).toNatClampNeg]? = some w := H0.at hin (by rw [own_clamp hi2]; exact hv)
  exact Go.st (fun t kk => X.caload hx (j := Int32.ofNat i) (v := w) (by rw [hT]; exact A.1) (State.isArrayOf_alike hZ.alike A.2.1) A.2.2 hin hat (g := mkF m pc Ls (.int (Int32.ofNat i) :: .ref a :: rest)) rfl rfl hd t kk) g
theorem Go.baloadN (X : Stand p l e R s m args below meth c T locs cells slots) (hx : p.tables.exec = Jvm.exec) (hZ : Z.Warmed39 s.vm) (hT : T.heap = h) (F : Arv Z h a k .byte N vs dv) (hi : i < N.toNatClampNeg) (hi2 : i < 2147483648) (hv : vs.getD i dv = w) (hd : decode c.code pc = .ok (.baload, 1))
    (g : Go p e below Φ (T.setTop (mkF m (pc + 1) Ls (w :: rest)))) : Go p e below Φ (T.setTop (mkF m pc Ls (.int (Int32.ofNat i) :: .ref a :: rest))) := by
  obtain ⟨cl, A, -, S0, M0, H0, U0⟩ := F
  have hin : ¬ (Int32.ofNat i < 0 ∨ cl.slots.size ≤ (Int32.ofNat i).toNatClampNeg) := by
    rw [own_clamp hi2, S0]; rintro (q | q)
    · exact own_nn hi2 q
    · omega
  have hat : cl.slots[(Int32.ofNat i).toNatClampNeg]? = some w := H0.at hin (by rw [own_clamp hi2]; exact hv)
  exact Go.st (fun t kk => X.baloadBytes hx (j := Int32.ofNat i) (v := w) (by rw [hT]; exact A.1) (State.isArrayOf_alike hZ.alike A.2.1) A.2.2 hin hat (g := mkF m pc Ls (.int (Int32.ofNat i) :: .ref a :: rest)) rfl rfl hd t kk) g
theorem Go.alen (X : Stand p l e R s m args below meth c T locs cells slots) (hx : p.tables.exec = Jvm.exec) (hZ : Z.Warmed39 s.vm) (hT : T.heap = h) (F : Arv Z h a k ty N vs dv) (hd : decode c.code pc = .ok (.arraylength, 1))
    (g : Go p e below Φ (T.setTop (mkF m (pc + 1) Ls (.int N :: rest)))) : Go p e below Φ (T.setTop (mkF m pc Ls (.ref a :: rest))) := by
  obtain ⟨cl, A, -, S0, M0, H0, U0⟩ := F
  refine Go.st (fun t kk => X.arraylength hx (by rw [hT]; exact A.1) (State.isArrayOf_alike hZ.alike A.2.1) (g := mkF m pc Ls (.ref a :: rest)) rfl rfl hd t kk) ?_
  rw [len_of S0 M0]; exact g
theorem own_getD_set (vs : List Value) (i : Nat) (x dv : Value) (h : i < vs.length) : ∀ j, (vs.set i x).getD j dv = if j = i then x else vs.getD j dv := fun j => by
  simp only [List.getD_eq_getElem?_getD, List.getElem?_set]
  by_cases q : i = j
  · subst q; simp [h]
  · rw [if_neg q, if_neg (fun z => q z.symm)]
/-- bastore at a natural index -/
theorem Go.stBN {x : Int32} (X : Stand p l e R s m args below meth c T locs cells slots) (hx : p.tables.exec = Jvm.exec) (hZ : Z.Warmed39 s.vm) (hT : T.heap = h) (F : Arv Z h a k .byte N vs dv) (hi : i < N.toNatClampNeg) (hi2 : i < 2147483648) (hl : i < vs.length) (hd : decode c.code pc = .ok (.bastore, 1))
    (g : ∀ (T' : State) (h' : Heap), T'.heap = h' → Wr h h' a i (.int x.toInt8.toInt32) → Arv Z h' a k .byte N (vs.set i (.int x.toInt8.toInt32)) dv → Stand p l e R s m args below meth c T' (locs ++ [⟨a, i⟩]) cells slots → Go p e below Φ (T'.setTop (mkF m (pc + 1) Ls rest))) :
    Go p e below Φ (T.setTop (mkF m pc Ls (.int x :: .int (Int32.ofNat i) :: .ref a :: rest))) := by
  obtain ⟨cl, A, q0, S0, M0, H0, U0⟩ := F
  have hin : ¬ (Int32.ofNat i < 0 ∨ cl.slots.size ≤ (Int32.ofNat i).toNatClampNeg) := by
    rw [own_clamp hi2, S0]; rintro (q | q)
    · exact own_nn hi2 q
    · omega
  obtain ⟨T', h', X', hT', W', st⟩ := stB X hx hZ hT A (j := Int32.ofNat i) hin (g := mkF m pc Ls (.int x :: .int (Int32.ofNat i) :: .ref a :: rest)) rfl rfl hd
  have V' := Arv.set A q0 S0 M0 H0 U0 (fits_nar_byte x) W' i (own_clamp hi2) hl
  rw [own_clamp hi2] at W' X'
  exact Go.st st (g T' h' hT' W' V' X')
/-- castore at a natural index -/
theorem Go.stCN {x : Int32} (X : Stand p l e R s m args below meth c T locs cells slots) (hx : p.tables.exec = Jvm.exec) (hZ : Z.Warmed39 s.vm) (hT : T.heap = h) (F : Arv Z h a k .char N vs dv) (hi : i < N.toNatClampNeg) (hi2 : i < 2147483648) (hl : i < vs.length) (hd : decode c.code pc = .ok (.castore, 1))
    (g : ∀ (T' : State) (h' : Heap), T'.heap = h' → Wr h h' a i (.int (nar .char x)) → Arv Z h' a k .char N (vs.set i (.int (nar .char x))) dv → Stand p l e R s m args below meth c T' (locs ++ [⟨a, i⟩]) cells slots → Go p e below Φ (T'.setTop (mkF m (pc + 1) Ls rest))) :
    Go p e below Φ (T.setTop (mkF m pc Ls (.int x :: .int (Int32.ofNat i) :: .ref a :: rest))) := by
  obtain ⟨cl, A, q0, S0, M0, H0, U0⟩ := F
  have hin : ¬ (Int32.ofNat i < 0 ∨ cl.slots.size ≤ (Int32.ofNat i).toNatClampNeg) := by
    rw [own_clamp hi2, S0]; rintro (q | q)
    · exact own_nn hi2 q
    · omega
  obtain ⟨T', h', X', hT', W', st⟩ := stC X hx hZ hT A (j := Int32.ofNat i) hin (g := mkF m pc Ls (.int x :: .int (Int32.ofNat i) :: .ref a :: rest)) rfl rfl hd
  have V' := Arv.set A q0 S0 M0 H0 U0 (fits_nar_char x) W' i (own_clamp hi2) hl
  rw [own_clamp hi2] at W' X'
  exact Go.st st (g T' h' hT' W' V' X')
/-- newarray of n components -/
theorem Go.newA {aty : ArrayType} {n cap : Nat} (X : Stand p l e R s m args below meth c T locs cells slots) (hx : p.tables.exec = Jvm.exec) (hZ : Z.Warmed39 s.vm) (hT : T.heap = h) (w : (Cond.arrayClass (newarray.typeOf aty)).before a0 Z = true) (hd : decode c.code pc = .ok (.newarray aty, 2))
    (hn : n < 2147483648) (hcap : n ≤ cap) (hb : cap * 8 ≤ 536870912) (hc : cells + 1 ≤ R.cells) (hl : slots + cap ≤ R.slots)
    (g : ∀ (b : Addr) (T' : State) (h' : Heap) (kb : ClassId), b = h.size → T'.heap = h' → Ext h h' → Arv Z h' b kb (newarray.typeOf aty) (Int32.ofNat n) [] (defaultValue (newarray.typeOf aty)) → Stand p l e R s m args below meth c T' locs (cells + 1) (slots + cap) → Go p e below Φ (T'.setTop (mkF m (pc + 2) Ls (.ref b :: rest)))) :
    Go p e below Φ (T.setTop (mkF m pc Ls (.int (Int32.ofNat n) :: rest))) := by
  obtain ⟨T', h', kb, X', hT', E', A', st⟩ := newP X hx hZ w hT (g := mkF m pc Ls (.int (Int32.ofNat n) :: rest)) rfl hd rfl (own_nn hn) (cap := cap) (by rw [own_clamp hn]; exact hcap) hb hc hl
  exact Go.st st (g _ T' h' kb rfl hT' E' (Arv.new A' (own_nn hn)) X')
end G
end Jvm.Own
/- laws to paste: Road.backV, Road.eqW, Road.codOf (cut by pick.py; bodies as the Statement names them) -/
namespace Jvm.Pilot.@@N@@
namespace StrChars
open Jvm Sem ClassFile Op Lib Jvm.Stand Jvm.Free.XT Jvm.Free.ALB Jvm.Free.JM Jvm.Free
open Jvm.Lib.Cold (StaticIs)
/-- a char array whose places are chars -/
def Ch (a : Addr) (A : Cell) (U : State) : Prop := Arr .char a A U ∧ Typed .char A
theorem Ch.mv {a : Addr} {A : Cell} {U U' : State} (h : Ch a A U) (hal : U.vm.Alike U'.vm) (hh : U'.heap = U.heap) : Ch a A U' := ⟨h.1.mv hal hh, h.2⟩
theorem Ch.keep {a : Addr} {A : Cell} {U U' : State} (h : Ch a A U) (hal : U.vm.Alike U'.vm) (hk : U'.heap[a]? = some A) : Ch a A U' := ⟨h.1.keep hal hk, h.2⟩
/-- what place i of a char[]'s cell holds -/
def cv (A : Cell) (i : Nat) : Int32 := match A.slots[i]? with | some (.int x) => x | _ => 0
theorem Ch.get {a : Addr} {A : Cell} {U : State} (h : Ch a A U) {i : Nat} (hi : i < A.slots.size) : A.slots[i]? = some (.int (cv A i)) := by
  have e := Array.getElem?_eq_getElem hi
  have f := h.2 i _ e
  unfold cv; rw [e]
  generalize A.slots[i] = v at f
  cases v <;> simp [fits] at f ⊢
/-- the byte that i2b leaves of a char -/
def lo8 (x : Int32) : Int32 := x.toInt8.toInt32
theorem fits_lo8 (y : Int32) : fits .byte (.int (lo8 y)) = true := by
  have h1 := y.toInt8.le_toInt
  have h2 := y.toInt8.toInt_lt
  simp only [lo8, fits, Bool.and_eq_true, decide_eq_true_eq, Int32.le_iff_toInt_le, Int8.toInt_toInt32, show (-128 : Int32).toInt = -128 from by decide, show (127 : Int32).toInt = 127 from by decide]
  omega
/-- A' is A but that each place j of lo .. hi - 1 holds f j -/
def Laid (A A' : Cell) (lo hi : Nat) (f : Nat → Value) : Prop := A'.cls = A.cls ∧ A'.vm = A.vm ∧ A'.slots.size = A.slots.size ∧ ∀ i, A'.slots[i]? = if lo ≤ i ∧ i < hi then some (f i) else A.slots[i]?
theorem Laid.zero (A : Cell) (lo : Nat) (f : Nat → Value) : Laid A A lo (lo + 0) f := ⟨rfl, rfl, rfl, fun i => by rw [if_neg (by omega)]⟩
theorem Laid.step {A Ak : Cell} {lo k : Nat} {f : Nat → Value} {v : Value} (h : Laid A Ak lo k f) (hlo : lo ≤ k) (hk : k < Ak.slots.size) (hv : v = f k) : Laid A (Ak.setSlot k v) lo (k + 1) f := by
  refine ⟨h.1, h.2.1, by simpa [Cell.setSlot] using h.2.2.1, fun i => ?_⟩
  by_cases e : k = i
  · subst e; rw [Cell.slots_setSlot_self v hk, if_pos (by omega), hv]
  · rw [Cell.slots_setSlot_ne v e, h.2.2.2 i]
    by_cases q : lo ≤ i ∧ i < k
    · rw [if_pos q, if_pos (by omega)]
    · rw [if_neg q, if_neg (by omega)]
def U16 : String := "java/lang/StringUTF16"
namespace Cmp5
def yN : MethodName := ⟨"java/lang/StringUTF16", "compress", "([CI[BII)I"⟩
abbrev yB : ByteArray := jdk_52_method_21_code
theorem d0 : decode yB 0 = .ok (.iconst 0, 1) := by decide +kernel
theorem d1 : decode yB 1 = .ok (.istore 5, 2) := by decide +kernel
theorem d3 : decode yB 3 = .ok (.iload 5, 2) := by decide +kernel
theorem d5 : decode yB 5 = .ok (.iload 4, 2) := by decide +kernel
theorem d7 : decode yB 7 = .ok (.if_icmp (.ge) 37, 3) := by decide +kernel
theorem d10 : decode yB 10 = .ok (.aload_n 0, 1) := by decide +kernel
theorem d11 : decode yB 11 = .ok (.iload_n 1, 1) := by decide +kernel
theorem d12 : decode yB 12 = .ok (.caload, 1) := by decide +kernel
theorem d13 : decode yB 13 = .ok (.istore 6, 2) := by decide +kernel
theorem d15 : decode yB 15 = .ok (.iload 6, 2) := by decide +kernel
theorem d17 : decode yB 17 = .ok (.sipush 255, 3) := by decide +kernel
theorem d20 : decode yB 20 = .ok (.if_icmp (.le) 6, 3) := by decide +kernel
theorem d26 : decode yB 26 = .ok (.aload_n 2, 1) := by decide +kernel
theorem d27 : decode yB 27 = .ok (.iload_n 3, 1) := by decide +kernel
theorem d28 : decode yB 28 = .ok (.iload 6, 2) := by decide +kernel
theorem d30 : decode yB 30 = .ok (.i2b, 1) := by decide +kernel
theorem d31 : decode yB 31 = .ok (.bastore, 1) := by decide +kernel
theorem d32 : decode yB 32 = .ok (.iinc 1 1, 3) := by decide +kernel
theorem d35 : decode yB 35 = .ok (.iinc 3 1, 3) := by decide +kernel
theorem d38 : decode yB 38 = .ok (.iinc 5 1, 3) := by decide +kernel
theorem d41 : decode yB 41 = .ok (.goto (-38), 3) := by decide +kernel
theorem d44 : decode yB 44 = .ok (.iload 4, 2) := by decide +kernel
theorem d46 : decode yB 46 = .ok (.ireturn, 1) := by decide +kernel
def site : List Cond := []
def tab : Cond := tabOf yN yB 7 (some .int) site
def P (b : Addr) (A : Cell) (d : Addr) (B : Cell) (o q len : Nat) (args : Array Value) (s : State) : Prop := args = #[.ref b, .int (Int32.ofNat o), .ref d, .int (Int32.ofNat q), .int (Int32.ofNat len)] ∧ Ch b A s ∧ Arr .byte d B s ∧ b ≠ d ∧ o + len ≤ A.slots.size ∧ q + len ≤ B.slots.size ∧ ∀ i, i < len → ¬ 255 < cv A (o + i)
def E (b : Addr) (A : Cell) (d : Addr) (B : Cell) (o q len : Nat) (r : Option Value) (s u : State) : Prop := r = some (.int (Int32.ofNat len)) ∧ ∃ B', Put d B' s u ∧ Laid B B' q (q + len) (fun j => Value.int (lo8 (cv A (o + (j - q)))))
/-- no char of the range above 255: len; the places written hold each char's low byte -/
theorem law (l : Launch) (b : Addr) (A : Cell) (d : Addr) (B : Cell) (o q len : Nat) : Law l yN 5 5 0 0 yB 7 (some .int) site (P b A d B o q len) (E b A d B o q len) (copyLocs d q len) 0 0 := by
  refine Law.of_walk (plainFor_of_name (by decide +kernel)) (by decide +kernel) (by decide +kernel) (by decide) (fun _ _ h => by rw [h.1]; rfl) (fun _ U U' hal hh h => ⟨h.1, h.2.1.mv hal hh, h.2.2.1.mv hal hh, h.2.2.2⟩) (fun r U U' V V' h1 hal h2 h => ⟨h.1, h.2.elim fun B' q => ⟨B', q.1.mv h1 h2, q.2⟩⟩) ?_
  intro p e s m args below meth c s₁ X0 hexec hbytes hml hret hlk hnm hown hh0 W hP
  obtain ⟨rfl, hA, hB, hne, l1, l2, hp⟩ := hP
  have c1 : Steps p.tables e below (s₁.setTop (entryFrame m #[.ref b, .int (Int32.ofNat o), .ref d, .int (Int32.ofNat q), .int (Int32.ofNat len)] 7)) (s₁.setTop (mkF m 0 #[.val (.ref b), .val (.int (Int32.ofNat o)), .val (.ref d), .val (.int (Int32.ofNat q)), .val (.int (Int32.ofNat len)), .unset, .unset] [])) := entry rfl
  have hA0 := hA.1.mv X0.warmed.alike hh0
  have hB0 := hB.mv X0.warmed.alike hh0
  have a31 := hA.1.2.2.2
  have c2 : Steps p.tables e below (s₁.setTop (entryFrame m #[.ref b, .int (Int32.ofNat o), .ref d, .int (Int32.ofNat q), .int (Int32.ofNat len)] 7)) (s₁.setTop (mkF m 3 #[.val (.ref b), .val (.int (Int32.ofNat o)), .val (.ref d), .val (.int (Int32.ofNat q)), .val (.int (Int32.ofNat len)), .val (.int 0), .unset] [])) := c1.trans (by
    refine iconstV X0.here hexec rfl 0 (hb hbytes d0) (by decide) ?_
    refine XS.istore X0.here hexec rfl (hb hbytes d1) rfl rfl ?_
    exact Steps.refl _)
  have loop : ∀ (r i : Nat), i + r = len → ∀ (z : Slot), (z = .unset ∨ ∃ w, z = .val w ∧ w.category = 1) → ∀ (Tl : State) (Bk : Cell), Stand p l e { frames := 0, locals := 0, cells := 0, slots := 0 } s m #[.ref b, .int (Int32.ofNat o), .ref d, .int (Int32.ofNat q), .int (Int32.ofNat len)] below meth c Tl ([] ++ copyLocs d q i) 0 0 → Put d Bk s₁ Tl → Laid B Bk q (q + i) (fun j => Value.int (lo8 (cv A (o + (j - q))))) →
      Steps p.tables e below (s₁.setTop (entryFrame m #[.ref b, .int (Int32.ofNat o), .ref d, .int (Int32.ofNat q), .int (Int32.ofNat len)] 7)) (Tl.setTop (mkF m 3 #[.val (.ref b), .val (.int (Int32.ofNat (o + i))), .val (.ref d), .val (.int (Int32.ofNat (q + i))), .val (.int (Int32.ofNat len)), .val (.int (Int32.ofNat i)), z] [])) → ∃ (T' : State) (B' : Cell) (z' : Slot), Stand p l e { frames := 0, locals := 0, cells := 0, slots := 0 } s m #[.ref b, .int (Int32.ofNat o), .ref d, .int (Int32.ofNat q), .int (Int32.ofNat len)] below meth c T' ([] ++ copyLocs d q len) 0 0 ∧ Put d B' s₁ T' ∧ Laid B B' q (q + len) (fun j => Value.int (lo8 (cv A (o + (j - q))))) ∧
      Steps p.tables e below (s₁.setTop (entryFrame m #[.ref b, .int (Int32.ofNat o), .ref d, .int (Int32.ofNat q), .int (Int32.ofNat len)] 7)) (T'.setTop (mkF m 3 #[.val (.ref b), .val (.int (Int32.ofNat (o + len))), .val (.ref d), .val (.int (Int32.ofNat (q + len))), .val (.int (Int32.ofNat len)), .val (.int (Int32.ofNat len)), z'] [])) := by
    intro r
    induction r with
    | zero =>
      intro i hi z hz Tl Bk Xl pl fl cl
      have hil : i = len := by omega
      rw [hil] at Xl fl cl
      exact ⟨Tl, Bk, z, Xl, pl, fl, cl⟩
    | succ r ih =>
      intro i hi z hz Tl Bk Xl pl fl cl
      have all := X0.warmed.alike.symm.trans Xl.warmed.alike
      have hAl := hA0.keep all (pl.other hne hA0.1)
      have hBk := hB0.like all pl.1 fl.1 fl.2.1 fl.2.2.1
      have hlt : q + i < Bk.slots.size := by rw [fl.2.2.1]; omega
      have c3 : Steps p.tables e below (s₁.setTop (entryFrame m #[.ref b, .int (Int32.ofNat o), .ref d, .int (Int32.ofNat q), .int (Int32.ofNat len)] 7)) (Tl.setTop (mkF m 12 #[.val (.ref b), .val (.int (Int32.ofNat (o + i))), .val (.ref d), .val (.int (Int32.ofNat (q + i))), .val (.int (Int32.ofNat len)), .val (.int (Int32.ofNat i)), z] [.int (Int32.ofNat (o + i)), .ref b])) := cl.trans (by
        refine XS.iload Xl.here hexec rfl (hb hbytes d3) rfl ?_
        refine XS.iload Xl.here hexec rfl (hb hbytes d5) rfl ?_
        refine XS.icmpNo Xl.here hexec rfl (hb hbytes d7) rfl (ii_ge_f (lt32 (by omega) (by omega))) ?_
        refine XS.aloadN Xl.here hexec rfl (hb hbytes d10) rfl rfl ?_
        refine XS.iloadN Xl.here hexec rfl (hb hbytes d11) rfl ?_
        exact Steps.refl _)
      have c4 : Steps p.tables e below (s₁.setTop (entryFrame m #[.ref b, .int (Int32.ofNat o), .ref d, .int (Int32.ofNat q), .int (Int32.ofNat len)] 7)) (Tl.setTop (mkF m 13 #[.val (.ref b), .val (.int (Int32.ofNat (o + i))), .val (.ref d), .val (.int (Int32.ofNat (q + i))), .val (.int (Int32.ofNat len)), .val (.int (Int32.ofNat i)), z] [.int (cv A (o + i))])) := c3.trans (by
        refine Xl.aget hexec hAl rfl (hA.get (i := o + i) (by omega)) rfl rfl (hb hbytes d12) ?_
        exact Steps.refl _)
      have c5 : Steps p.tables e below (s₁.setTop (entryFrame m #[.ref b, .int (Int32.ofNat o), .ref d, .int (Int32.ofNat q), .int (Int32.ofNat len)] 7)) (Tl.setTop (mkF m 15 #[.val (.ref b), .val (.int (Int32.ofNat (o + i))), .val (.ref d), .val (.int (Int32.ofNat (q + i))), .val (.int (Int32.ofNat len)), .val (.int (Int32.ofNat i)), .val (.int (cv A (o + i)))] [])) := c4.trans (by
        refine XS.istoreS Xl.here hexec rfl (hb hbytes d13) rfl rfl hz ?_
        exact Steps.refl _)
      have c6 : Steps p.tables e below (s₁.setTop (entryFrame m #[.ref b, .int (Int32.ofNat o), .ref d, .int (Int32.ofNat q), .int (Int32.ofNat len)] 7)) (Tl.setTop (mkF m 31 #[.val (.ref b), .val (.int (Int32.ofNat (o + i))), .val (.ref d), .val (.int (Int32.ofNat (q + i))), .val (.int (Int32.ofNat len)), .val (.int (Int32.ofNat i)), .val (.int (cv A (o + i)))] [.int (lo8 (cv A (o + i))), .int (Int32.ofNat (q + i)), .ref d])) := c5.trans (by
        refine XS.iload Xl.here hexec rfl (hb hbytes d15) rfl ?_
        refine sipushV Xl.here hexec rfl 255 (hb hbytes d17) (by decide) ?_
        refine XS.icmpYes Xl.here hexec rfl (pc0 := 20) rfl (hb hbytes d20) rfl (ii_le_t (hp i (by omega))) (by decide) rfl ?_
        refine XS.aloadN Xl.here hexec rfl (hb hbytes d26) rfl rfl ?_
        refine XS.iloadN Xl.here hexec rfl (hb hbytes d27) rfl ?_
        refine XS.iload Xl.here hexec rfl (hb hbytes d28) rfl ?_
        refine i2b Xl.here hexec rfl (hb hbytes d30) rfl ?_
        exact Steps.refl _)
      obtain ⟨T7, X7, p7, st7⟩ := Xl.aput hexec hBk rfl hlt rfl (fits_lo8 (cv A (o + i))) (g := (mkF m 31 #[.val (.ref b), .val (.int (Int32.ofNat (o + i))), .val (.ref d), .val (.int (Int32.ofNat (q + i))), .val (.int (Int32.ofNat len)), .val (.int (Int32.ofNat i)), .val (.int (cv A (o + i)))] [.int (lo8 (cv A (o + i))), .int (Int32.ofNat (q + i)), .ref d])) rfl (rest := []) rfl (hb hbytes d31)
      have c8 : Steps p.tables e below (s₁.setTop (entryFrame m #[.ref b, .int (Int32.ofNat o), .ref d, .int (Int32.ofNat q), .int (Int32.ofNat len)] 7)) (T7.setTop (mkF m 32 #[.val (.ref b), .val (.int (Int32.ofNat (o + i))), .val (.ref d), .val (.int (Int32.ofNat (q + i))), .val (.int (Int32.ofNat len)), .val (.int (Int32.ofNat i)), .val (.int (cv A (o + i)))] [])) := c6.trans (st7 _ (Steps.refl _))
      have c9 : Steps p.tables e below (s₁.setTop (entryFrame m #[.ref b, .int (Int32.ofNat o), .ref d, .int (Int32.ofNat q), .int (Int32.ofNat len)] 7)) (T7.setTop (mkF m 3 #[.val (.ref b), .val (.int (Int32.ofNat (o + i) + 1)), .val (.ref d), .val (.int (Int32.ofNat (q + i) + 1)), .val (.int (Int32.ofNat len)), .val (.int (Int32.ofNat i + 1)), .val (.int (cv A (o + i)))] [])) := c8.trans (by
        refine iincV X7.here hexec rfl 1 (hb hbytes d32) (by decide) rfl rfl ?_
        refine iincV X7.here hexec rfl 1 (hb hbytes d35) (by decide) rfl rfl ?_
        refine iincV X7.here hexec rfl 1 (hb hbytes d38) (by decide) rfl rfl ?_
        refine XS.goto X7.here hexec rfl (pc0 := 41) rfl (hb hbytes d41) (by decide) rfl ?_
        exact Steps.refl _)
      have c10 : Steps p.tables e below (s₁.setTop (entryFrame m #[.ref b, .int (Int32.ofNat o), .ref d, .int (Int32.ofNat q), .int (Int32.ofNat len)] 7)) (T7.setTop (mkF m 3 #[.val (.ref b), .val (.int (Int32.ofNat (o + (i + 1)))), .val (.ref d), .val (.int (Int32.ofNat (q + (i + 1)))), .val (.int (Int32.ofNat len)), .val (.int (Int32.ofNat (i + 1))), .val (.int (cv A (o + i)))] [])) := by
        have := c9
        rw [succ32, succ32, succ32] at this
        exact this
      exact ih (i + 1) (by omega) _ (Or.inr ⟨_, rfl, rfl⟩) T7 _ (by rw [copyLocs_step, ← List.append_assoc]; exact X7) (pl.trans p7) (fl.step (by omega) hlt (by simp)) c10
  obtain ⟨T9, B9, z9, X9, p9, f9, g9⟩ := loop len 0 (by omega) .unset (Or.inl rfl) s₁ B (by simpa [copyLocs] using X0) ⟨hB0.1, fun _ _ => rfl, rfl⟩ (Laid.zero _ _ _) c2
  have c11 : Steps p.tables e below (s₁.setTop (entryFrame m #[.ref b, .int (Int32.ofNat o), .ref d, .int (Int32.ofNat q), .int (Int32.ofNat len)] 7)) (T9.setTop (mkF m 46 #[.val (.ref b), .val (.int (Int32.ofNat (o + len))), .val (.ref d), .val (.int (Int32.ofNat (q + len))), .val (.int (Int32.ofNat len)), .val (.int (Int32.ofNat len)), z9] [.int (Int32.ofNat len)])) := g9.trans (by
    refine XS.iload X9.here hexec rfl (hb hbytes d3) rfl ?_
    refine XS.iload X9.here hexec rfl (hb hbytes d5) rfl ?_
    refine XS.icmpYes X9.here hexec rfl (pc0 := 7) rfl (hb hbytes d7) rfl (ii_ge_t (nlt32 (by omega) (Nat.le_refl _))) (by decide) rfl ?_
    refine XS.iload X9.here hexec rfl (hb hbytes d44) rfl ?_
    exact Steps.refl _)
  exact ⟨T9, some (.int (Int32.ofNat len)), _, _, _, X9, by simp, rfl, rfl, (fun h => by cases h), ⟨rfl, B9, p9.from hh0, f9⟩, fun fs hl => c11.trans (X9.ireturnOut hexec hret rfl (Or.inl rfl) (hb hbytes d46) hl)⟩
end Cmp5
namespace Cmp3
def yN : MethodName := ⟨"java/lang/StringUTF16", "compress", "([CII)[B"⟩
abbrev yB : ByteArray := jdk_52_method_16_code
theorem d0 : decode yB 0 = .ok (.iload_n 2, 1) := by decide +kernel
theorem d1 : decode yB 1 = .ok (.newarray .byte, 2) := by decide +kernel
theorem d3 : decode yB 3 = .ok (.astore_n 3, 1) := by decide +kernel
theorem d4 : decode yB 4 = .ok (.aload_n 0, 1) := by decide +kernel
theorem d5 : decode yB 5 = .ok (.iload_n 1, 1) := by decide +kernel
theorem d6 : decode yB 6 = .ok (.aload_n 3, 1) := by decide +kernel
theorem d7 : decode yB 7 = .ok (.iconst 0, 1) := by decide +kernel
theorem d8 : decode yB 8 = .ok (.iload_n 2, 1) := by decide +kernel
theorem d9 : decode yB 9 = .ok (.invokestatic 115, 3) := by decide +kernel
theorem d12 : decode yB 12 = .ok (.istore 4, 2) := by decide +kernel
theorem d14 : decode yB 14 = .ok (.iload 4, 2) := by decide +kernel
theorem d16 : decode yB 16 = .ok (.iload_n 2, 1) := by decide +kernel
theorem d17 : decode yB 17 = .ok (.if_icmp (.eq) 40, 3) := by decide +kernel
theorem d57 : decode yB 57 = .ok (.aload_n 3, 1) := by decide +kernel
theorem d58 : decode yB 58 = .ok (.areturn, 1) := by decide +kernel
def site : List Cond := [.arrayClass .byte, Cmp5.tab] ++ staticW U16 115 Cmp5.yN
def tab : Cond := tabOf yN yB 6 (some (.array .byte)) site
def P (b : Addr) (A : Cell) (o len : Nat) (args : Array Value) (s : State) : Prop := args = #[.ref b, .int (Int32.ofNat o), .int (Int32.ofNat len)] ∧ Ch b A s ∧ o + len ≤ A.slots.size ∧ len ≤ 536870912 ∧ ∀ i, i < len → ¬ 255 < cv A (o + i)
def E (b : Addr) (A : Cell) (o len : Nat) (r : Option Value) (s u : State) : Prop := NewArr .byte "[B" len (fun j => .int (lo8 (cv A (o + j)))) r s u ∧ u.heap.size = s.heap.size + 1
/-- no char of the range above 255: a new byte[] of their low bytes -/
theorem law (l : Launch) (b : Addr) (A : Cell) (o len : Nat) : Law l yN 3 3 1 18 yB 6 (some (.array .byte)) site (P b A o len) (E b A o len) [] 1 len := by
  refine Law.of_walk (plainFor_of_name (by decide +kernel)) (by decide +kernel) (by decide +kernel) (by decide) (fun _ _ h => by rw [h.1]; rfl) (fun _ U U' hal hh h => ⟨h.1, h.2.1.mv hal hh, h.2.2⟩) (fun r U U' V V' h1 hal h2 h => ⟨NewArr.mv r U U' V V' h1 hal h2 h.1, by rw [h1, h2]; exact h.2⟩) ?_
  intro p e s m args below meth c s₁ X0 hexec hbytes hml hret hlk hnm hown hh0 W hP
  obtain ⟨rfl, hA, l1, l2, hp⟩ := hP
  have a31 := hA.1.2.2.2
  have c1 : Steps p.tables e below (s₁.setTop (entryFrame m #[.ref b, .int (Int32.ofNat o), .int (Int32.ofNat len)] 6)) (s₁.setTop (mkF m 0 #[.val (.ref b), .val (.int (Int32.ofNat o)), .val (.int (Int32.ofNat len)), .unset, .unset, .unset] [])) := entry rfl
  have c2 : Steps p.tables e below (s₁.setTop (entryFrame m #[.ref b, .int (Int32.ofNat o), .int (Int32.ofNat len)] 6)) (s₁.setTop (mkF m 1 #[.val (.ref b), .val (.int (Int32.ofNat o)), .val (.int (Int32.ofNat len)), .unset, .unset, .unset] [.int (Int32.ofNat len)])) := c1.trans (by
    refine XS.iloadN X0.here hexec rfl (hb hbytes d0) rfl ?_
    exact Steps.refl _)
  obtain ⟨T3, B3, X3, ba3, bs3, bv3, bh3, bf3, st3⟩ := X0.anew hexec (atype := .byte) (wk W (.arrayClass .byte)) rfl (by show len * 1 ≤ _; omega) (by omega) (g := (mkF m 1 #[.val (.ref b), .val (.int (Int32.ofNat o)), .val (.int (Int32.ofNat len)), .unset, .unset, .unset] [.int (Int32.ofNat len)])) rfl (hb hbytes d1) (rest := []) rfl (Nat.le_refl _) (by show 0 + len ≤ len; omega)
  rw [hh0] at ba3 st3
  have kp3 : XT.Kept s T3 := (XT.Kept.of_eq hh0).push bh3
  have hA3 := hA.keep X3.warmed.alike (kp3 _ _ hA.1.1)
  have hne : b ≠ s.heap.size := hA.1.ne
  have c4 : Steps p.tables e below (s₁.setTop (entryFrame m #[.ref b, .int (Int32.ofNat o), .int (Int32.ofNat len)] 6)) (T3.setTop (mkF m 3 #[.val (.ref b), .val (.int (Int32.ofNat o)), .val (.int (Int32.ofNat len)), .unset, .unset, .unset] [.ref s.heap.size])) := c2.trans (st3 _ (Steps.refl _))
  have c5 : Steps p.tables e below (s₁.setTop (entryFrame m #[.ref b, .int (Int32.ofNat o), .int (Int32.ofNat len)] 6)) (T3.setTop (mkF m 9 #[.val (.ref b), .val (.int (Int32.ofNat o)), .val (.int (Int32.ofNat len)), .val (.ref s.heap.size), .unset, .unset] [.int (Int32.ofNat len), .int 0, .ref s.heap.size, .int (Int32.ofNat o), .ref b])) := c4.trans (by
    refine XS.astoreN X3.here hexec rfl (hb hbytes d3) rfl rfl rfl ?_
    refine XS.aloadN X3.here hexec rfl (hb hbytes d4) rfl rfl ?_
    refine XS.iloadN X3.here hexec rfl (hb hbytes d5) rfl ?_
    refine XS.aloadN X3.here hexec rfl (hb hbytes d6) rfl rfl ?_
    refine iconstV X3.here hexec rfl 0 (hb hbytes d7) (by decide) ?_
    refine XS.iloadN X3.here hexec rfl (hb hbytes d8) rfl ?_
    exact Steps.refl _)
  obtain ⟨v6, T6, X6, E6, g6⟩ := X3.callS hexec (Cmp5.law l b A s.heap.size B3 o 0 len) hown (wks W (staticW U16 115 Cmp5.yN)) (wk W Cmp5.tab) (W := 0) (Nat.le_of_ble_eq_true rfl) (Nat.le_of_ble_eq_true rfl) (Nat.le_refl _) (by show 0 + len + 0 ≤ len; omega) (g := (mkF m 9 #[.val (.ref b), .val (.int (Int32.ofNat o)), .val (.int (Int32.ofNat len)), .val (.ref s.heap.size), .unset, .unset] [.int (Int32.ofNat len), .int (Int32.ofNat 0), .ref s.heap.size, .int (Int32.ofNat o), .ref b])) rfl (by rw [hml]; rfl) c5 (argsL := [.ref b, .int (Int32.ofNat o), .ref s.heap.size, .int (Int32.ofNat 0), .int (Int32.ofNat len)]) (rest := []) rfl rfl (by show 2 * 0 + 0 ≤ _; decide) (hb hbytes d9) (⟨rfl, hA3, ba3, hne, l1, by rw [bs3]; simp, hp⟩)
  obtain ⟨rfl, B6, p6, f6⟩ := E6
  have c7 : Steps p.tables e below (s₁.setTop (entryFrame m #[.ref b, .int (Int32.ofNat o), .int (Int32.ofNat len)] 6)) (T6.setTop (mkF m 12 #[.val (.ref b), .val (.int (Int32.ofNat o)), .val (.int (Int32.ofNat len)), .val (.ref s.heap.size), .unset, .unset] [.int (Int32.ofNat len)])) := g6
  have c8 : Steps p.tables e below (s₁.setTop (entryFrame m #[.ref b, .int (Int32.ofNat o), .int (Int32.ofNat len)] 6)) (T6.setTop (mkF m 58 #[.val (.ref b), .val (.int (Int32.ofNat o)), .val (.int (Int32.ofNat len)), .val (.ref s.heap.size), .val (.int (Int32.ofNat len)), .unset] [.ref s.heap.size])) := c7.trans (by
    refine XS.istore X6.here hexec rfl (hb hbytes d12) rfl rfl ?_
    refine XS.iload X6.here hexec rfl (hb hbytes d14) rfl ?_
    refine XS.iloadN X6.here hexec rfl (hb hbytes d16) rfl ?_
    refine XS.icmpYes X6.here hexec rfl (pc0 := 17) rfl (hb hbytes d17) rfl (ii_eq_t rfl) (by decide) rfl ?_
    refine XS.aloadN X6.here hexec rfl (hb hbytes d57) rfl rfl ?_
    exact Steps.refl _)
  have X8 := X6.wide (L' := []) (cells' := 1) (slots' := len) (fun x hx hlt => by
    simp only [List.nil_append, copyLocs, List.mem_map, List.mem_range] at hx
    obtain ⟨i, -, rfl⟩ := hx
    exact absurd hlt (Nat.lt_irrefl _)) (Nat.le_refl _) (by omega)
  exact ⟨T6, some (.ref s.heap.size), _, _, _, X8, rfl, rfl, rfl, (fun h => by cases h), ⟨⟨rfl, B6, ba3.like (X3.warmed.alike.symm.trans X6.warmed.alike) p6.1 f6.1 f6.2.1 f6.2.2.1, f6.2.1.trans bv3, by rw [X6.warmed.alike.findClass, f6.1]; exact bf3, by rw [f6.2.2.1, bs3]; simp, fun j hj => by rw [f6.2.2.2 j, if_pos (by omega)]; rfl, kp3.put p6 (Nat.le_refl _)⟩, by rw [p6.2.2, bh3, hh0]; simp⟩, fun fs hl => c8.trans (X8.areturnOut hexec rfl hret rfl (hb hbytes d58) hl)⟩
end Cmp3
namespace CodL
def yN : MethodName := ⟨"java/lang/StringUTF16", "coderFromArrayLen", "([BI)B"⟩
abbrev yB : ByteArray := jdk_52_method_15_code
theorem d0 : decode yB 0 = .ok (.iload_n 1, 1) := by decide +kernel
theorem d1 : decode yB 1 = .ok (.aload_n 0, 1) := by decide +kernel
theorem d2 : decode yB 2 = .ok (.arraylength, 1) := by decide +kernel
theorem d3 : decode yB 3 = .ok (.isub, 1) := by decide +kernel
theorem d4 : decode yB 4 = .ok (.bipush 31, 2) := by decide +kernel
theorem d6 : decode yB 6 = .ok (.iushr, 1) := by decide +kernel
theorem d7 : decode yB 7 = .ok (.i2b, 1) := by decide +kernel
theorem d8 : decode yB 8 = .ok (.ireturn, 1) := by decide +kernel
def site : List Cond := []
def tab : Cond := tabOf yN yB 2 (some .byte) site
def P (d : Addr) (B : Cell) (args : Array Value) (s : State) : Prop := args = #[.ref d, .int (Int32.ofNat B.slots.size)] ∧ Arr .byte d B s
def E (r : Option Value) (s u : State) : Prop := XT.PureE (some (.int 0)) r s u
/-- an array as long as the number of chars: LATIN1 -/
theorem law (l : Launch) (d : Addr) (B : Cell) : Law l yN 2 2 0 0 yB 2 (some .byte) site (P d B) E [] 0 0 := by
  refine Law.of_walk (plainFor_of_name (by decide +kernel)) (by decide +kernel) (by decide +kernel) (by decide) (fun _ _ h => by rw [h.1]; rfl) (fun _ U U' hal hh h => ⟨h.1, h.2.mv hal hh⟩) (fun r U U' V V' h1 hal h2 h => XT.PureE.mv r U U' V V' h1 hal h2 h) ?_
  intro p e s m args below meth c s₁ X0 hexec hbytes hml hret hlk hnm hown hh0 W hP
  obtain ⟨rfl, hB⟩ := hP
  have hB0 := hB.mv X0.warmed.alike hh0
  have c1 : Steps p.tables e below (s₁.setTop (entryFrame m #[.ref d, .int (Int32.ofNat B.slots.size)] 2)) (s₁.setTop (mkF m 0 #[.val (.ref d), .val (.int (Int32.ofNat B.slots.size))] [])) := entry rfl
  have c2 : Steps p.tables e below (s₁.setTop (entryFrame m #[.ref d, .int (Int32.ofNat B.slots.size)] 2)) (s₁.setTop (mkF m 2 #[.val (.ref d), .val (.int (Int32.ofNat B.slots.size))] [.ref d, .int (Int32.ofNat B.slots.size)])) := c1.trans (by
    refine XS.iloadN X0.here hexec rfl (hb hbytes d0) rfl ?_
    refine XS.aloadN X0.here hexec rfl (hb hbytes d1) rfl rfl ?_
    exact Steps.refl _)
  have c3 : Steps p.tables e below (s₁.setTop (entryFrame m #[.ref d, .int (Int32.ofNat B.slots.size)] 2)) (s₁.setTop (mkF m 8 #[.val (.ref d), .val (.int (Int32.ofNat B.slots.size))] [.int (lo8 (ushr (Int32.ofNat B.slots.size - Int32.ofNat B.slots.size) 31))])) := c2.trans (by
    refine X0.alen hexec hB0 rfl rfl (hb hbytes d2) ?_
    refine XS.isub X0.here hexec rfl (hb hbytes d3) rfl ?_
    refine bipushV X0.here hexec rfl 31 (hb hbytes d4) (by decide) ?_
    refine iushr X0.here hexec rfl (hb hbytes d6) rfl ?_
    refine i2b X0.here hexec rfl (hb hbytes d7) rfl ?_
    exact Steps.refl _)
  have e0 : lo8 (ushr (Int32.ofNat B.slots.size - Int32.ofNat B.slots.size) 31) = 0 := by rw [Int32.sub_self]; decide
  rw [e0] at c3
  exact ⟨s₁, some (.int 0), _, _, _, X0, rfl, rfl, rfl, (fun h => by cases h), ⟨rfl, hh0⟩, fun fs hl => c3.trans (X0.ireturnOut hexec hret rfl (Or.inr (Or.inr (Or.inl rfl))) (hb hbytes d8) hl)⟩
end CodL
/-- the String at a is Latin-1 over a new byte[] (the heap's one new cell): the low bytes of the len chars of A from o on; every cell but a is kept -/
def Got (a : Addr) (D : Cell) (fV fC : Field) (A : Cell) (o len : Nat) (r : Option Value) (s u : State) : Prop := r = none ∧ ∃ D' V : Cell, Blank "java/lang/String" a D' u ∧ Same D D' [fV.slot, fC.slot] ∧ D'.slots[fV.slot]? = some (.ref s.heap.size) ∧ D'.slots[fC.slot]? = some (.int 0) ∧ Arr .byte s.heap.size V u ∧ V.vm = .none ∧ u.vm.findClass "[B" = some V.cls ∧ V.slots.size = len ∧ (∀ j, j < len → V.slots[j]? = some (.int (lo8 (cv A (o + j))))) ∧ (∀ (y : Addr) (c : Cell), y ≠ a → s.heap[y]? = some c → u.heap[y]? = some c) ∧ u.heap.size = s.heap.size + 1
theorem Got.mv {a : Addr} {D A : Cell} {fV fC : Field} {o len : Nat} : ∀ r (U U' V V' : State), U'.heap = U.heap → V.vm.Alike V'.vm → V'.heap = V.heap → Got a D fV fC A o len r U V → Got a D fV fC A o len r U' V' :=
  fun r U U' V V' h1 hal h2 ⟨e0, D', X, a1, a2, a3, a4, a5, a6, a7, a8, a9, a10, a11⟩ => ⟨e0, D', X, a1.mv hal h2, a2, by rw [h1]; exact a3, a4, by rw [h1]; exact a5.mv hal h2, a6, by rw [hal.findClass]; exact a7, a8, a9, by rw [h1, h2]; exact a10, by rw [h1, h2]; exact a11⟩
namespace New4
def yN : MethodName := ⟨"java/lang/String", "<init>", "([CIILjava/lang/Void;)V"⟩
abbrev yB : ByteArray := jdk_42_method_149_code
theorem d0 : decode yB 0 = .ok (.aload_n 0, 1) := by decide +kernel
theorem d1 : decode yB 1 = .ok (.invokespecial 1, 3) := by decide +kernel
theorem d4 : decode yB 4 = .ok (.iload_n 3, 1) := by decide +kernel
theorem d5 : decode yB 5 = .ok (.ifCond (.ne) 22, 3) := by decide +kernel
theorem d27 : decode yB 27 = .ok (.getstatic 38, 3) := by decide +kernel
theorem d30 : decode yB 30 = .ok (.ifCond (.eq) 28, 3) := by decide +kernel
theorem d33 : decode yB 33 = .ok (.aload_n 1, 1) := by decide +kernel
theorem d34 : decode yB 34 = .ok (.iload_n 2, 1) := by decide +kernel
theorem d35 : decode yB 35 = .ok (.iload_n 3, 1) := by decide +kernel
theorem d36 : decode yB 36 = .ok (.invokestatic 177, 3) := by decide +kernel
theorem d39 : decode yB 39 = .ok (.astore 5, 2) := by decide +kernel
theorem d41 : decode yB 41 = .ok (.aload_n 0, 1) := by decide +kernel
theorem d42 : decode yB 42 = .ok (.aload 5, 2) := by decide +kernel
theorem d44 : decode yB 44 = .ok (.iload_n 3, 1) := by decide +kernel
theorem d45 : decode yB 45 = .ok (.invokestatic 47, 3) := by decide +kernel
theorem d48 : decode yB 48 = .ok (.putfield 15, 3) := by decide +kernel
theorem d51 : decode yB 51 = .ok (.aload_n 0, 1) := by decide +kernel
theorem d52 : decode yB 52 = .ok (.aload 5, 2) := by decide +kernel
theorem d54 : decode yB 54 = .ok (.putfield 9, 3) := by decide +kernel
theorem d57 : decode yB 57 = .ok (.return_, 1) := by decide +kernel
def site : List Cond := [.fieldLink "java/lang/String" 38 "java/lang/String" "COMPACT_STRINGS" "Z", Cmp3.tab, CodL.tab, .laysFinal "java/lang/String" "java/lang/String" "value" "[B", .fieldLink "java/lang/String" 9 "java/lang/String" "value" "[B", .laysFinal "java/lang/String" "java/lang/String" "coder" "B", .fieldLink "java/lang/String" 15 "java/lang/String" "coder" "B"] ++ objW "java/lang/String" 1 ++ staticW "java/lang/String" 177 Cmp3.yN ++ staticW "java/lang/String" 47 CodL.yN
def tab : Cond := tabOf yN yB 6 none site
def P (a : Addr) (D : Cell) (fV fC : Field) (b : Addr) (A : Cell) (z : Int32) (o len : Nat) (args : Array Value) (s : State) : Prop := args = #[.ref a, .ref b, .int (Int32.ofNat o), .int (Int32.ofNat len), .null] ∧ Blank "java/lang/String" a D s ∧ Found "java/lang/String" "value" "[B" fV s ∧ Found "java/lang/String" "coder" "B" fC s ∧ Ch b A s ∧ StaticIs s "java/lang/String" "COMPACT_STRINGS" "Z" (.int z) ∧ ¬ z = 0 ∧ 0 < len ∧ o + len ≤ A.slots.size ∧ len ≤ 536870912 ∧ ∀ i, i < len → ¬ 255 < cv A (o + i)
def E (a : Addr) (D : Cell) (fV fC : Field) (A : Cell) (o len : Nat) (r : Option Value) (s u : State) : Prop := Got a D fV fC A o len r s u
/-- len > 0, no char of the range above 255: a Latin-1 String of their low bytes -/
theorem law (l : Launch) (a : Addr) (D : Cell) (fV fC : Field) (b : Addr) (A : Cell) (z : Int32) (o len : Nat) : Law l yN 5 4 2 35 yB 6 none site (P a D fV fC b A z o len) (E a D fV fC A o len) [⟨a, fC.slot⟩, ⟨a, fV.slot⟩] 1 len := by
  refine Law.of_walk (plainFor_of_name (by decide +kernel)) (by decide +kernel) (by decide +kernel) (by decide) (fun _ _ h => by rw [h.1]; rfl) (fun _ U U' hal hh h => ⟨h.1, h.2.1.mv hal hh, h.2.2.1.al hal, h.2.2.2.1.al hal, h.2.2.2.2.1.mv hal hh, h.2.2.2.2.2.1.there hal hh, h.2.2.2.2.2.2⟩) (fun r U U' V V' h1 hal h2 h => Got.mv r U U' V V' h1 hal h2 h) ?_
  intro p e s m args below meth c s₁ X0 hexec hbytes hml hret hlk hnm hown hh0 W hP
  obtain ⟨rfl, hB, f1, f2, hA, s1, hz, l0, l1, l2, hp⟩ := hP
  have a31 := hA.1.2.2.2
  have c1 : Steps p.tables e below (s₁.setTop (entryFrame m #[.ref a, .ref b, .int (Int32.ofNat o), .int (Int32.ofNat len), .null] 6)) (s₁.setTop (mkF m 0 #[.val (.ref a), .val (.ref b), .val (.int (Int32.ofNat o)), .val (.int (Int32.ofNat len)), .val .null, .unset] [])) := entry rfl
  have c2 : Steps p.tables e below (s₁.setTop (entryFrame m #[.ref a, .ref b, .int (Int32.ofNat o), .int (Int32.ofNat len), .null] 6)) (s₁.setTop (mkF m 1 #[.val (.ref a), .val (.ref b), .val (.int (Int32.ofNat o)), .val (.int (Int32.ofNat len)), .val .null, .unset] [.ref a])) := c1.trans (by
    refine XS.aloadN X0.here hexec rfl (hb hbytes d0) rfl rfl ?_
    exact Steps.refl _)
  obtain ⟨T3, X3, q3, st3⟩ := X0.oinit hexec hown (wks W (objW "java/lang/String" 1)) (g := (mkF m 1 #[.val (.ref a), .val (.ref b), .val (.int (Int32.ofNat o)), .val (.int (Int32.ofNat len)), .val .null, .unset] [.ref a])) rfl (by rw [hml]; rfl) (rest := []) rfl (hb hbytes d1) (W := 0) (by show 2 * 0 + 0 ≤ _; decide) (Nat.le_of_ble_eq_true rfl) (Nat.le_of_ble_eq_true rfl)
  have hh3 := q3.trans hh0
  have c4 : Steps p.tables e below (s₁.setTop (entryFrame m #[.ref a, .ref b, .int (Int32.ofNat o), .int (Int32.ofNat len), .null] 6)) (T3.setTop (mkF m 27 #[.val (.ref a), .val (.ref b), .val (.int (Int32.ofNat o)), .val (.int (Int32.ofNat len)), .val .null, .unset] [])) := (c2.trans (st3 _ (Steps.refl _))).trans (by
    refine XS.iloadN X3.here hexec rfl (hb hbytes d4) rfl ?_
    refine XS.ifYes X3.here hexec rfl (pc0 := 5) rfl (hb hbytes d5) rfl (i0_ne_t (nz32 (by omega) l0)) (by decide) rfl ?_
    exact Steps.refl _)
  obtain ⟨T5, X5, q5, st5⟩ := X3.sget hexec hown (wk W (.fieldLink "java/lang/String" 38 "java/lang/String" "COMPACT_STRINGS" "Z")) s1 (fun _ _ h => by rw [hh3]; exact h) (g := (mkF m 27 #[.val (.ref a), .val (.ref b), .val (.int (Int32.ofNat o)), .val (.int (Int32.ofNat len)), .val .null, .unset] [])) rfl (hb hbytes d27)
  have hh5 := q5.trans hh3
  have c6 : Steps p.tables e below (s₁.setTop (entryFrame m #[.ref a, .ref b, .int (Int32.ofNat o), .int (Int32.ofNat len), .null] 6)) (T5.setTop (mkF m 30 #[.val (.ref a), .val (.ref b), .val (.int (Int32.ofNat o)), .val (.int (Int32.ofNat len)), .val .null, .unset] [.int z])) := c4.trans (st5 _ (Steps.refl _))
  have c7 : Steps p.tables e below (s₁.setTop (entryFrame m #[.ref a, .ref b, .int (Int32.ofNat o), .int (Int32.ofNat len), .null] 6)) (T5.setTop (mkF m 36 #[.val (.ref a), .val (.ref b), .val (.int (Int32.ofNat o)), .val (.int (Int32.ofNat len)), .val .null, .unset] [.int (Int32.ofNat len), .int (Int32.ofNat o), .ref b])) := c6.trans (by
    refine XS.ifNo X5.here hexec rfl (hb hbytes d30) rfl (i0_eq_f hz) ?_
    refine XS.aloadN X5.here hexec rfl (hb hbytes d33) rfl rfl ?_
    refine XS.iloadN X5.here hexec rfl (hb hbytes d34) rfl ?_
    refine XS.iloadN X5.here hexec rfl (hb hbytes d35) rfl ?_
    exact Steps.refl _)
  obtain ⟨v8, T8, X8, E8, g8⟩ := X5.callS hexec (Cmp3.law l b A o len) hown (wks W (staticW "java/lang/String" 177 Cmp3.yN)) (wk W Cmp3.tab) (W := 0) (Nat.le_of_ble_eq_true rfl) (Nat.le_of_ble_eq_true rfl) (Nat.le_refl _) (by show 0 + len ≤ len; omega) (g := (mkF m 36 #[.val (.ref a), .val (.ref b), .val (.int (Int32.ofNat o)), .val (.int (Int32.ofNat len)), .val .null, .unset] [.int (Int32.ofNat len), .int (Int32.ofNat o), .ref b])) rfl (by rw [hml]; rfl) c7 (argsL := [.ref b, .int (Int32.ofNat o), .int (Int32.ofNat len)]) (rest := []) rfl rfl (by show 2 * 0 + 0 ≤ _; decide) (hb hbytes d36) (⟨rfl, hA.mv X5.warmed.alike hh5, l1, l2, hp⟩)
  obtain ⟨e8, z8⟩ := E8
  obtain ⟨rfl, N, n1, n2, n3, n4, n5, n6⟩ := NewArr.mv _ T5 s _ _ hh5.symm (Vm.Alike.refl _) rfl e8
  rw [hh5] at z8
  have hB1 := hB.keep X8.warmed.alike (n6 _ _ hB.1)
  have hne : s.heap.size ≠ a := (Nat.ne_of_lt (Array.getElem?_eq_some_iff.mp hB.1).1).symm
  have c9 : Steps p.tables e below (s₁.setTop (entryFrame m #[.ref a, .ref b, .int (Int32.ofNat o), .int (Int32.ofNat len), .null] 6)) (T8.setTop (mkF m 39 #[.val (.ref a), .val (.ref b), .val (.int (Int32.ofNat o)), .val (.int (Int32.ofNat len)), .val .null, .unset] [.ref s.heap.size])) := g8
  have c10 : Steps p.tables e below (s₁.setTop (entryFrame m #[.ref a, .ref b, .int (Int32.ofNat o), .int (Int32.ofNat len), .null] 6)) (T8.setTop (mkF m 45 #[.val (.ref a), .val (.ref b), .val (.int (Int32.ofNat o)), .val (.int (Int32.ofNat len)), .val .null, .val (.ref s.heap.size)] [.int (Int32.ofNat N.slots.size), .ref s.heap.size, .ref a])) := by
    have hc : Steps p.tables e below (s₁.setTop (entryFrame m #[.ref a, .ref b, .int (Int32.ofNat o), .int (Int32.ofNat len), .null] 6)) (T8.setTop (mkF m 45 #[.val (.ref a), .val (.ref b), .val (.int (Int32.ofNat o)), .val (.int (Int32.ofNat len)), .val .null, .val (.ref s.heap.size)] [.int (Int32.ofNat len), .ref s.heap.size, .ref a])) := c9.trans (by
      refine XS.astore X8.here hexec rfl (hb hbytes d39) rfl rfl rfl ?_
      refine XS.aloadN X8.here hexec rfl (hb hbytes d41) rfl rfl ?_
      refine XS.aload X8.here hexec rfl (hb hbytes d42) rfl rfl ?_
      refine XS.iloadN X8.here hexec rfl (hb hbytes d44) rfl ?_
      exact Steps.refl _)
    rw [n4]; exact hc
  obtain ⟨v11, T11, X11, E11, g11⟩ := X8.callS hexec (CodL.law l s.heap.size N) hown (wks W (staticW "java/lang/String" 47 CodL.yN)) (wk W CodL.tab) (W := 1) (Nat.le_of_ble_eq_true rfl) (Nat.le_of_ble_eq_true rfl) (Nat.le_refl _) (by show 0 + len + 0 ≤ len; omega) (g := (mkF m 45 #[.val (.ref a), .val (.ref b), .val (.int (Int32.ofNat o)), .val (.int (Int32.ofNat len)), .val .null, .val (.ref s.heap.size)] [.int (Int32.ofNat N.slots.size), .ref s.heap.size, .ref a])) rfl (by rw [hml]; rfl) c10 (argsL := [.ref s.heap.size, .int (Int32.ofNat N.slots.size)]) (rest := [.ref a]) rfl rfl (by show 2 * 0 + (1 + 0) ≤ _; decide) (hb hbytes d45) (⟨rfl, n1⟩)
  obtain ⟨rfl, q11⟩ := E11
  have hB11 := hB1.mv (X8.warmed.alike.symm.trans X11.warmed.alike) q11
  have c12 : Steps p.tables e below (s₁.setTop (entryFrame m #[.ref a, .ref b, .int (Int32.ofNat o), .int (Int32.ofNat len), .null] 6)) (T11.setTop (mkF m 48 #[.val (.ref a), .val (.ref b), .val (.int (Int32.ofNat o)), .val (.int (Int32.ofNat len)), .val .null, .val (.ref s.heap.size)] [.int 0, .ref a])) := g11
  obtain ⟨T13, X13, p13, bl13, sl13, st13⟩ := X11.finit hexec hown (wk W (.fieldLink "java/lang/String" 15 "java/lang/String" "coder" "B")) (Or.inr ⟨_, (wk W (.laysFinal "java/lang/String" "java/lang/String" "coder" "B"))⟩) (Or.inl ⟨rfl, hnm⟩) f2 (Or.inl rfl) hB11 (t := .byte) (by decide +kernel) rfl (g := (mkF m 48 #[.val (.ref a), .val (.ref b), .val (.int (Int32.ofNat o)), .val (.int (Int32.ofNat len)), .val .null, .val (.ref s.heap.size)] [.int 0, .ref a])) rfl (rest := []) rfl (hb hbytes d48)
  have c14 : Steps p.tables e below (s₁.setTop (entryFrame m #[.ref a, .ref b, .int (Int32.ofNat o), .int (Int32.ofNat len), .null] 6)) (T13.setTop (mkF m 54 #[.val (.ref a), .val (.ref b), .val (.int (Int32.ofNat o)), .val (.int (Int32.ofNat len)), .val .null, .val (.ref s.heap.size)] [.ref s.heap.size, .ref a])) := (c12.trans (st13 _ (Steps.refl _))).trans (by
    refine XS.aloadN X13.here hexec rfl (hb hbytes d51) rfl rfl ?_
    refine XS.aload X13.here hexec rfl (hb hbytes d52) rfl rfl ?_
    exact Steps.refl _)
  obtain ⟨T15, X15, p15, bl15, sl15, st15⟩ := X13.finit hexec hown (wk W (.fieldLink "java/lang/String" 9 "java/lang/String" "value" "[B")) (Or.inr ⟨_, (wk W (.laysFinal "java/lang/String" "java/lang/String" "value" "[B"))⟩) (Or.inl ⟨rfl, hnm⟩) f1 (Or.inl rfl) bl13 (t := (.array .byte)) (by decide +kernel) rfl (g := (mkF m 54 #[.val (.ref a), .val (.ref b), .val (.int (Int32.ofNat o)), .val (.int (Int32.ofNat len)), .val .null, .val (.ref s.heap.size)] [.ref s.heap.size, .ref a])) rfl (rest := []) rfl (hb hbytes d54)
  have c16 : Steps p.tables e below (s₁.setTop (entryFrame m #[.ref a, .ref b, .int (Int32.ofNat o), .int (Int32.ofNat len), .null] 6)) (T15.setTop (mkF m 57 #[.val (.ref a), .val (.ref b), .val (.int (Int32.ofNat o)), .val (.int (Int32.ofNat len)), .val .null, .val (.ref s.heap.size)] [])) := c14.trans (st15 _ (Steps.refl _))
  have ap := apart (Or.inr ⟨_, (wk W (.laysFinal "java/lang/String" "java/lang/String" "value" "[B"))⟩) (Or.inr ⟨_, (wk W (.laysFinal "java/lang/String" "java/lang/String" "coder" "B"))⟩) f1 f2 (t₁ := .array .byte) (t₂ := .byte) (by decide +kernel) (by decide +kernel) (by decide)
  have al := X8.warmed.alike.symm.trans X15.warmed.alike
  have n7 : T11.heap[s.heap.size]? = some N := by rw [q11]; exact n1.1
  exact ⟨T15, none, _, _, _, X15, by simp, rfl, by omega, (fun _ => rfl), ⟨rfl, _, N, bl15, ((Same.refl D _).set _ (by simp)).set _ (by simp), sl15, (Cell.slots_setSlot_ne _ ap).trans sl13, n1.keep al (p15.other hne (p13.other hne n7)), n2, by rw [al.findClass]; exact n3, n4, n5, fun y c h1 h2 => p15.other h1 (p13.other h1 (by rw [q11]; exact n6 y c h2)), by rw [p15.2.2, p13.2.2, q11]; exact z8⟩, fun fs hl => c16.trans (X15.returnOut hexec hret (hb hbytes d57) hl)⟩
end New4
namespace New1
def yN : MethodName := ⟨"java/lang/String", "<init>", "([C)V"⟩
abbrev yB : ByteArray := jdk_42_method_3_code
theorem d0 : decode yB 0 = .ok (.aload_n 0, 1) := by decide +kernel
theorem d1 : decode yB 1 = .ok (.aload_n 1, 1) := by decide +kernel
theorem d2 : decode yB 2 = .ok (.iconst 0, 1) := by decide +kernel
theorem d3 : decode yB 3 = .ok (.aload_n 1, 1) := by decide +kernel
theorem d4 : decode yB 4 = .ok (.arraylength, 1) := by decide +kernel
theorem d5 : decode yB 5 = .ok (.aconst_null, 1) := by decide +kernel
theorem d6 : decode yB 6 = .ok (.invokespecial 27, 3) := by decide +kernel
theorem d9 : decode yB 9 = .ok (.return_, 1) := by decide +kernel
def site : List Cond := [New4.tab] ++ initW "java/lang/String" 27 New4.yN
def tab : Cond := tabOf yN yB 2 none site
def P (a : Addr) (D : Cell) (fV fC : Field) (b : Addr) (A : Cell) (z : Int32) (args : Array Value) (s : State) : Prop := args = #[.ref a, .ref b] ∧ Blank "java/lang/String" a D s ∧ Found "java/lang/String" "value" "[B" fV s ∧ Found "java/lang/String" "coder" "B" fC s ∧ Ch b A s ∧ StaticIs s "java/lang/String" "COMPACT_STRINGS" "Z" (.int z) ∧ ¬ z = 0 ∧ 0 < A.slots.size ∧ A.slots.size ≤ 536870912 ∧ ∀ i, i < A.slots.size → ¬ 255 < cv A i
def E (a : Addr) (D : Cell) (fV fC : Field) (A : Cell) (r : Option Value) (s u : State) : Prop := Got a D fV fC A 0 A.slots.size r s u
/-- new String(chars), not empty, no char above 255: a Latin-1 String of their low bytes -/
theorem law (l : Launch) (a : Addr) (D : Cell) (fV fC : Field) (b : Addr) (A : Cell) (z : Int32) : Law l yN 2 1 3 52 yB 2 none site (P a D fV fC b A z) (E a D fV fC A) [⟨a, fC.slot⟩, ⟨a, fV.slot⟩] 1 A.slots.size := by
  refine Law.of_walk (plainFor_of_name (by decide +kernel)) (by decide +kernel) (by decide +kernel) (by decide) (fun _ _ h => by rw [h.1]; rfl) (fun _ U U' hal hh h => ⟨h.1, h.2.1.mv hal hh, h.2.2.1.al hal, h.2.2.2.1.al hal, h.2.2.2.2.1.mv hal hh, h.2.2.2.2.2.1.there hal hh, h.2.2.2.2.2.2⟩) (fun r U U' V V' h1 hal h2 h => Got.mv r U U' V V' h1 hal h2 h) ?_
  intro p e s m args below meth c s₁ X0 hexec hbytes hml hret hlk hnm hown hh0 W hP
  obtain ⟨rfl, hB, f1, f2, hA, s1, hz, l0, l2, hp⟩ := hP
  have c1 : Steps p.tables e below (s₁.setTop (entryFrame m #[.ref a, .ref b] 2)) (s₁.setTop (mkF m 0 #[.val (.ref a), .val (.ref b)] [])) := entry rfl
  have c2 : Steps p.tables e below (s₁.setTop (entryFrame m #[.ref a, .ref b] 2)) (s₁.setTop (mkF m 6 #[.val (.ref a), .val (.ref b)] [.null, .int (Int32.ofNat A.slots.size), .int 0, .ref b, .ref a])) := c1.trans (by
    refine XS.aloadN X0.here hexec rfl (hb hbytes d0) rfl rfl ?_
    refine XS.aloadN X0.here hexec rfl (hb hbytes d1) rfl rfl ?_
    refine iconstV X0.here hexec rfl 0 (hb hbytes d2) (by decide) ?_
    refine XS.aloadN X0.here hexec rfl (hb hbytes d3) rfl rfl ?_
    refine X0.alen hexec (hA.1.mv X0.warmed.alike hh0) rfl rfl (hb hbytes d4) ?_
    refine XS.aconstNull X0.here hexec rfl (hb hbytes d5) ?_
    exact Steps.refl _)
  obtain ⟨v3, T3, X3, E3, g3⟩ := X0.callN hexec (New4.law l a D fV fC b A z 0 A.slots.size) rfl hown (wks W (initW "java/lang/String" 27 New4.yN)) (W New4.tab (by simp only [site, List.mem_cons, List.mem_append, true_or, or_true])) (W := 0) (Nat.le_of_ble_eq_true rfl) (Nat.le_of_ble_eq_true rfl) (Nat.le_refl _) (by show 0 + A.slots.size ≤ A.slots.size; omega) (g := (mkF m 6 #[.val (.ref a), .val (.ref b)] [.null, .int (Int32.ofNat A.slots.size), .int (Int32.ofNat 0), .ref b, .ref a])) rfl (by rw [hml]; rfl) c2 (argsL := [.ref b, .int (Int32.ofNat 0), .int (Int32.ofNat A.slots.size), .null]) (rest := []) rfl rfl (by show 2 * 0 + 0 ≤ _; decide) (hb hbytes d6) (⟨rfl, hB.mv X0.warmed.alike hh0, f1.al X0.warmed.alike, f2.al X0.warmed.alike, hA.mv X0.warmed.alike hh0, s1.there X0.warmed.alike hh0, hz, l0, by omega, l2, fun i hi => by rw [Nat.zero_add]; exact hp i hi⟩)
  have e0 := Got.mv _ s₁ s _ _ hh0.symm (Vm.Alike.refl _) rfl E3
  obtain rfl := e0.1
  have c4 : Steps p.tables e below (s₁.setTop (entryFrame m #[.ref a, .ref b] 2)) (T3.setTop (mkF m 9 #[.val (.ref a), .val (.ref b)] [])) := g3
  exact ⟨T3, none, _, _, _, X3, by simp, rfl, by omega, (fun _ => rfl), e0, fun fs hl => c4.trans (X3.returnOut hexec hret (hb hbytes d9) hl)⟩
theorem pays {l : Launch} {R : Room} {p : Program} {e : Env} {below : List Frame} {s : State} {sargs : Array Value} {len W : Nat} (a : Addr) (D : Cell) (fV fC : Field) (b : Addr) (A : Cell) (z : Int32) (htab : tab.before sargs s = true) (hfr : 4 ≤ R.frames) (hlo : W + 65 ≤ R.locals) :
    Back l R p e below s sargs yN len W (fun A₁ a₁ => A₁.cells + 1 ≤ R.cells ∧ A₁.slots + A.slots.size ≤ R.slots ∧ P a D fV fC b A z a₁ A₁.U) (fun A₁ _ v₁ B₁ => E a D fV fC A v₁ A₁.U B₁.U ∧ B₁.locs = A₁.locs ++ [⟨a, fC.slot⟩, ⟨a, fV.slot⟩] ∧ B₁.cells = A₁.cells + 1 ∧ B₁.slots = A₁.slots + A.slots.size) :=
  (law l a D fV fC b A z).pays htab hfr (by omega)
end New1
/-- the byte, read back as charAt reads it, is the char -/
theorem lo8_mask {x : Int32} (h0 : ¬ x < 0) (h1 : ¬ 255 < x) : lo8 x &&& 255 = x := by
  have t : ∀ k : Fin 256, lo8 (Int32.ofNat k.val) &&& 255 = Int32.ofNat k.val := by decide +kernel
  rw [Int32.lt_iff_toInt_lt] at h0 h1
  have e0 : (0 : Int32).toInt = 0 := rfl
  have e1 : (255 : Int32).toInt = 255 := rfl
  obtain ⟨k, hk⟩ : ∃ k : Nat, x.toInt = k := ⟨x.toInt.toNat, by omega⟩
  have hx : x = Int32.ofNat k := Int32.toInt_inj.mp (by rw [hk, Int32.toInt_ofNat_small (by omega)])
  rw [hx]
  exact t ⟨k, by omega⟩
end StrChars
namespace StrChars.Road
open Jvm Sem ClassFile Op Lib Jvm.Stand Jvm.Free Jvm.Free.XT
open Jvm.Lib.Cold (StaticIs)
abbrev ST : String := "java/lang/String"
/-- every table word that New1's law asks, flat -/
abbrev words : List Jvm.Cond := [.code New1.yN New1.yB 2 none, .initialized ST, .methodLink ST 27 New4.yN, .instanceMethod New4.yN,
  .code New4.yN New4.yB 6 none, .fieldLink ST 38 ST "COMPACT_STRINGS" "Z", .laysFinal ST ST "value" "[B", .fieldLink ST 9 ST "value" "[B", .laysFinal ST ST "coder" "B", .fieldLink ST 15 ST "coder" "B",
  .methodLink ST 1 Lib.objectInit, .instanceMethod Lib.objectInit, .code Lib.objectInit ⟨#[0xb1]⟩ 1 none, .methodLink ST 177 Cmp3.yN, .static Cmp3.yN, .methodLink ST 47 CodL.yN, .static CodL.yN,
  .code Cmp3.yN Cmp3.yB 6 (some (.array .byte)), .initialized U16, .arrayClass .byte, .methodLink U16 115 Cmp5.yN, .static Cmp5.yN, .code Cmp5.yN Cmp5.yB 7 (some .int), .code CodL.yN CodL.yB 2 (some .byte)]
theorem tab_of {a : Array Value} {s : State} (h : ∀ w ∈ words, w.before a s = true) : New1.tab.before a s = true := by
  have h5 : Cmp5.tab.before a s = true := unparts (wk h (.code Cmp5.yN Cmp5.yB 7 (some .int))) (wks h (.initialized Cmp5.yN.cls :: Cmp5.site))
  have hc : CodL.tab.before a s = true := unparts (wk h (.code CodL.yN CodL.yB 2 (some .byte))) (wks h (.initialized CodL.yN.cls :: CodL.site))
  have q5 : ∀ w ∈ Cmp5.tab :: words, w.before a s = true := fun w hw => (List.mem_cons.mp hw).elim (fun e => e ▸ h5) (h w)
  have h3 : Cmp3.tab.before a s = true := unparts (wk q5 (.code Cmp3.yN Cmp3.yB 6 (some (.array .byte)))) (wks q5 (.initialized Cmp3.yN.cls :: Cmp3.site))
  have q3 : ∀ w ∈ Cmp3.tab :: CodL.tab :: words, w.before a s = true := fun w hw => (List.mem_cons.mp hw).elim (fun e => e ▸ h3) fun hw => (List.mem_cons.mp hw).elim (fun e => e ▸ hc) (h w)
  have h4 : New4.tab.before a s = true := unparts (wk q3 (.code New4.yN New4.yB 6 none)) (wks q3 (.initialized New4.yN.cls :: New4.site))
  have q4 : ∀ w ∈ New4.tab :: words, w.before a s = true := fun w hw => (List.mem_cons.mp hw).elim (fun e => e ▸ h4) (h w)
  exact unparts (wk q4 (.code New1.yN New1.yB 2 none)) (wks q4 (.initialized New1.yN.cls :: New1.site))
/-- the words ride from the start Z to the walk's own state -/
theorem moved {Z s : State} {a0 args : Array Value} (hZ : Z.Warmed39 s.vm) (hw : ∀ d ∈ words, d.before a0 Z = true) : ∀ d ∈ words, d.before args s = true := fun d hd => by
  have q := hw d hd
  have t : ∀ d ∈ words, d = .arrayClass .byte ∨ (d.onTables && d.keepsFace) = true := by decide +kernel
  rcases t d hd with rfl | t
  · exact RoadKit.mvA hZ q
  · exact RoadKit.mv hZ q t
/-- WHAT COMES BACK, over the tables of the start Z: h the heap at the call, h' behind it -/
def Q (Z : State) (x : Addr) (A : Cell) (h : Heap) (v : Option Value) (h' : Heap) (L : List Loc) : Prop := v = none ∧ (∀ y ∈ L, y.base = x) ∧ RoadKit.Keep h h' [x] ∧ h'.size = h.size + 1 ∧ RoadKit.Exa Z h' x ST ∧ RoadKit.Fld Z h' x ST "value" "[B" (.ref h.size) ∧ RoadKit.Fld Z h' x ST "coder" "B" (.int 0) ∧
  (∃ V : Cell, RoadKit.Arr Z h' h.size V .byte ∧ V.vm = .none ∧ Z.vm.findClass "[B" = some V.cls ∧ V.slots.size = A.slots.size ∧ ∀ j, j < A.slots.size → V.slots[j]? = some (.int (lo8 (cv A j)))) ∧
  ∀ (O n d : String) (w : Value), RoadKit.Fld Z h x O n d w → RoadKit.slotOf Z O n d ≠ RoadKit.slotOf Z ST "value" "[B" → RoadKit.slotOf Z O n d ≠ RoadKit.slotOf Z ST "coder" "B" → RoadKit.Fld Z h' x O n d w
/-- **new String(chars) AT A CALL, IN THE ROAD'S FORM**: for specialBack behind newO: x the fresh String, b the char[] with the cell A -/
theorem back {p : Program} {l : Launch} {e : Env} {R : Room} {s : State} {args : Array Value} {below : List Frame} {len W : Nat} {Z : State} {a0 : Array Value} {h : Heap} (hZ : Z.Warmed39 s.vm) (hw : ∀ d ∈ words, d.before a0 Z = true) {kI : Nat} (wi : (Jvm.Cond.instantiable ST kI).before a0 Z = true)
    {x b : Addr} {A : Cell} {z : Int32} {v0 c0 : Value} (E : RoadKit.Exa Z h x ST) (V : RoadKit.Fld Z h x ST "value" "[B" v0) (C : RoadKit.Fld Z h x ST "coder" "B" c0) (K : RoadKit.Arr Z h b A .char) (hty : Typed .char A) (S : RoadKit.Sta Z h ST "COMPACT_STRINGS" "Z" (.int z)) (hz : ¬ z = 0)
    (l0 : 0 < A.slots.size) (l2 : A.slots.size ≤ 536870912) (hp : ∀ i, i < A.slots.size → ¬ 255 < cv A i) (hfr : 4 ≤ R.frames) (hlo : W + 65 ≤ R.locals) :
    Back l R p e below s args New1.yN len W (fun P a => a = #[.ref x, .ref b] ∧ P.U.heap = h ∧ P.cells + 1 ≤ R.cells ∧ P.slots + A.slots.size ≤ R.slots)
      (fun P _ v B => ∃ L, Q Z x A h v B.U.heap L ∧ B.locs = P.locs ++ L ∧ B.cells = P.cells + 1 ∧ B.slots = P.slots + A.slots.size) := by
  intro m meth c P g ig mk a X hg hsize hdg hW hn hp'
  obtain ⟨rfl, rfl, r1, r2⟩ := hp'
  have al : Z.vm.Alike P.U.vm := hZ.alike.trans X.warmed.alike
  obtain ⟨D, cfV, kV, iV, fV, hD, gV, stV, knV, obV, asV, slV⟩ := id V
  obtain ⟨D', cfC, kC, iC, fC, hD', gC, stC, -, -, asC, slC⟩ := id C
  cases hD.symm.trans hD'
  obtain ⟨D2, kD, e1, e2, e3, e4, e5⟩ := id E
  cases hD.symm.trans e1
  obtain ⟨c2, k2, i1, i2, i3, -⟩ := Cond.instantiable_spec wi
  cases e2.symm.trans i1
  cases e3.symm.trans i2
  obtain ⟨kU, u1, u2⟩ := al.2.2 _ _ e3
  have hB : Blank ST x D P.U := ⟨hD, ⟨knV, fun q hq => by rw [hq] at obV; cases obV⟩, by rw [al.findClass]; exact e2, kU, u1, by rw [u2]; exact i3, by rw [u2]; exact e5 i3⟩
  have F1 : Found ST "value" "[B" fV P.U := ⟨SBG.found_only al ⟨cfV, kV, iV, gV⟩, stV⟩
  have F2 : Found ST "coder" "B" fC P.U := ⟨SBG.found_only al ⟨cfC, kC, iC, gC⟩, stC⟩
  have hA : Ch b A P.U := ⟨⟨K.1, State.isArrayOf_alike al K.2.1, K.2.2, by omega⟩, hty⟩
  have hS : StaticIs P.U ST "COMPACT_STRINGS" "Z" (.int z) := by
    obtain ⟨cfS, iS, kS, fS, st, cS, t1, t2, t3, t4, t5, t6, t7⟩ := S
    exact StaticIs.there (s := { Z with heap := P.U.heap }) ⟨cfS, iS, kS, fS, st, cS, t1, t2, t3, t4, t5, (fun q => by rw [q] at t6; cases t6), t7⟩ al rfl
  obtain ⟨v, B, X', ⟨⟨hv, E', V', q1, q2, q3, q4, q5, q6, q7, q8, q9, q10, q11⟩, hl, hc, hs⟩, st⟩ := New1.pays x D fV fC b A z (tab_of (moved hZ hw)) hfr hlo m meth c P g ig mk _ X hg hsize hdg hW hn ⟨r1, r2, rfl, hB, F1, F2, hA, hS, hz, l0, l2, hp⟩
  have al' : Z.vm.Alike B.U.vm := hZ.alike.trans X'.warmed.alike
  have hsz : E'.slots.size = D.slots.size := by
    obtain ⟨-, -, -, kB, w1, w2, w3⟩ := q1
    obtain ⟨kB', y1, y2⟩ := al'.2.2 _ _ e3
    rw [q2.2.1] at w1
    cases w1.symm.trans y1
    rw [w3, e5 i3, y2]
  refine ⟨v, B, X', ⟨_, ⟨hv, ?_, ⟨by omega, fun y cy hy hn' => q10 y cy (by simpa using hn') hy, fun y cy hy => ?_⟩, q11, ⟨E', _, q1.1, by rw [q2.2.1]; exact e2, by rw [q2.2.1]; exact e3, by rw [q2.1]; exact obV, fun _ => by rw [hsz]; exact e5 i3⟩,
    ⟨E', cfV, kV, iV, fV, q1.1, gV, stV, by rw [q2.1]; exact knV, by rw [q2.1]; exact obV, by rw [q2.2.1]; exact asV, q3⟩, ⟨E', cfC, kC, iC, fC, q1.1, gC, stC, by rw [q2.1]; exact knV, by rw [q2.1]; exact obV, by rw [q2.2.1]; exact asC, q4⟩,
    ⟨V', ⟨q5.1, State.isArrayOf_alike al'.symm q5.2.1, q5.2.2.1⟩, q6, by rw [← al'.findClass]; exact q7, q8, fun j hj => by have := q9 j hj; rwa [Nat.zero_add] at this⟩, fun O n d w F n1 n2 => ?_⟩, hl, hc, hs⟩, st⟩
  · intro y hy
    simp only [List.mem_cons, List.not_mem_nil, or_false] at hy
    rcases hy with rfl | rfl <;> rfl
  · by_cases q : y = x
    · subst q
      cases hD.symm.trans hy
      exact ⟨E', q1.1, q2.2.1, q2.1, hsz⟩
    · exact ⟨cy, q10 y cy q hy, rfl, rfl, rfl⟩
  · obtain ⟨D3, cf, k, i, f, g1, g2, g3, g4, g5, g6, g7⟩ := F
    cases hD.symm.trans g1
    simp only [RoadKit.slotOf, g2, gV, gC, Option.map_some, Option.getD_some] at n1 n2
    exact ⟨E', cf, k, i, f, q1.1, g2, g3, by rw [q2.1]; exact g4, by rw [q2.1]; exact g5, by rw [q2.2.1]; exact g6, by rw [q2.2.2 f.slot (by simp [n1, n2])]; exact g7⟩
end StrChars.Road
namespace StrChars.Road
open Jvm Sem ClassFile Op Lib Jvm.Stand Jvm.Free Jvm.Free.XT
/-- WHAT COMES BACK, the byte[] as a list of values -/
def QA (Z : State) (x : Addr) (zn : Int32) (cs : List Int32) (h : Heap) (v : Option Value) (h' : Heap) (L : List Loc) : Prop := v = none ∧ (∀ y ∈ L, y.base = x) ∧ RoadKit.Keep h h' [x] ∧ h'.size = h.size + 1 ∧ RoadKit.Exa Z h' x ST ∧ RoadKit.Fld Z h' x ST "value" "[B" (.ref h.size) ∧ RoadKit.Fld Z h' x ST "coder" "B" (.int 0) ∧
  (∃ kb, Z.vm.findClass "[B" = some kb ∧ RoadKit.Arv Z h' h.size kb .byte zn (cs.map fun c => .int (lo8 c)) (.int 0)) ∧
  ∀ (O n d : String) (w : Value), RoadKit.Fld Z h x O n d w → RoadKit.slotOf Z O n d ≠ RoadKit.slotOf Z ST "value" "[B" → RoadKit.slotOf Z O n d ≠ RoadKit.slotOf Z ST "coder" "B" → RoadKit.Fld Z h' x O n d w
/-- **new String(chars) AT A CALL, THE ARRAYS AS LISTS**: the char[] at b holds cs, not empty, no char above 255 -/
theorem backArv {p : Program} {l : Launch} {e : Env} {R : Room} {s : State} {args : Array Value} {below : List Frame} {len W : Nat} {Z : State} {a0 : Array Value} {h : Heap} (hZ : Z.Warmed39 s.vm) (hw : ∀ d ∈ words, d.before a0 Z = true) {kI : Nat} (wi : (Jvm.Cond.instantiable ST kI).before a0 Z = true)
    {x b : Addr} {k : ClassId} {zn z : Int32} {cs : List Int32} {dv v0 c0 : Value} (E : RoadKit.Exa Z h x ST) (V : RoadKit.Fld Z h x ST "value" "[B" v0) (C : RoadKit.Fld Z h x ST "coder" "B" c0) (K : RoadKit.Arv Z h b k .char zn (cs.map Value.int) dv) (S : RoadKit.Sta Z h ST "COMPACT_STRINGS" "Z" (.int z)) (hz : ¬ z = 0)
    (hlen : zn.toNatClampNeg = cs.length) (h0 : 0 < cs.length) (hbig : cs.length ≤ 536870912) (hall : ∀ c ∈ cs, ¬ 255 < c) (hfr : 4 ≤ R.frames) (hlo : W + 65 ≤ R.locals) :
    Back l R p e below s args New1.yN len W (fun P a => a = #[.ref x, .ref b] ∧ P.U.heap = h ∧ P.cells + 1 ≤ R.cells ∧ P.slots + cs.length ≤ R.slots)
      (fun P _ v B => ∃ L, QA Z x zn cs h v B.U.heap L ∧ B.locs = P.locs ++ L ∧ B.cells = P.cells + 1 ∧ B.slots = P.slots + cs.length) := by
  obtain ⟨A, K1, K2, K3, K4, K5, K6⟩ := K
  have e : A.slots.size = cs.length := K3.trans hlen
  have hat : ∀ (i : Nat) (hi : i < cs.length), A.slots[i]? = some (.int cs[i]) := fun i hi => by rw [K5 i (by omega)]; simp [List.getD_eq_getElem?_getD, hi]
  have hcv : ∀ (i : Nat) (hi : i < cs.length), cv A i = cs[i] := fun i hi => by unfold cv; rw [hat i hi]
  have hty : Typed .char A := fun i v hv => by
    have hi : i < A.slots.size := (Array.getElem?_eq_some_iff.mp hv).1
    have q := K5 i hi
    rw [hv] at q
    rw [Option.some.inj q]
    exact K6 i hi
  refine Back.mono (back hZ hw wi E V C K1 hty S hz (by omega) (by omega) (fun i hi => by rw [hcv i (by omega)]; exact hall _ (List.getElem_mem _)) hfr hlo) (fun P a hp => ⟨hp.1, hp.2.1, hp.2.2.1, by rw [e]; exact hp.2.2.2⟩) (fun P a v B hp hq => ?_)
  obtain ⟨L, ⟨q1, q2, q3, q4, q5, q6, q7, ⟨V', v1, v2, v3, v4, v5⟩, q9⟩, hl, hc, hs⟩ := hq
  refine ⟨L, ⟨q1, q2, q3, q4, q5, q6, q7, ⟨V'.cls, v3, V', v1, rfl, by rw [v4, e, hlen], K4, fun i hi => ?_, fun i hi => ?_⟩, q9⟩, hl, hc, by rw [hs, e]⟩
  · have hi' : i < cs.length := by omega
    rw [v5 i (by omega), hcv i hi']; simp [List.getD_eq_getElem?_getD, hi']
  · have hi' : i < cs.length := by omega
    simp only [List.getD_eq_getElem?_getD, List.getElem?_map, List.getElem?_eq_getElem hi', Option.map_some, Option.getD_some]
    exact fits_lo8 _
end StrChars.Road
namespace StrChars.Road
open Jvm Sem ClassFile Op Lib Jvm.Stand Jvm.Free Jvm.Free.XT
/-- WHAT COMES BACK, in the writer's own shape -/
def QV (Z : State) (x : Addr) (N : Int32) (bs : List Int32) (h : Heap) (n0 : Nat) (v : Option Value) (h' : Heap) (L : List Loc) : Prop := v = none ∧ RoadKit.Fr n0 L ∧ RoadKit.Keep h h' [x] ∧ RoadKit.Exa Z h' x ST ∧ RoadKit.Fld Z h' x ST "coder" "B" (.int 0) ∧
  ∃ (t : Addr) (kb : ClassId), n0 ≤ t ∧ h.size ≤ t ∧ ¬ t = x ∧ RoadKit.Fld Z h' x ST "value" "[B" (.ref t) ∧ RoadKit.Arv Z h' t kb .byte N (bs.map Value.int) (.int 0)
/-- **new String(chars) AT A CALL, FOR THE WRITER**: a char[] of n known ints, each 0 to 255 -/
theorem backV {p : Program} {l : Launch} {e : Env} {R : Room} {s : State} {args : Array Value} {below : List Frame} {len W : Nat} {Z : State} {a0 : Array Value} {h : Heap} (hZ : Z.Warmed39 s.vm) (hw : ∀ d ∈ words, d.before a0 Z = true) {kI : Nat} (wi : (Jvm.Cond.instantiable ST kI).before a0 Z = true)
    {x b : Addr} {kC : ClassId} {cs bs : List Int32} {d v0 c0 : Value} {z N : Int32} {n n0 : Nat} (hx0 : n0 ≤ x) (hh0 : n0 ≤ h.size) (E : RoadKit.Exa Z h x ST) (V : RoadKit.Fld Z h x ST "value" "[B" v0) (C : RoadKit.Fld Z h x ST "coder" "B" c0) (K : RoadKit.Arv Z h b kC .char N (cs.map Value.int) d) (S : RoadKit.Sta Z h ST "COMPACT_STRINGS" "Z" (.int z)) (hz : ¬ z = 0)
    (hn : cs.length = n) (hN : N = Int32.ofNat n) (l0 : 0 < n) (l2 : n ≤ 4000) (hp : ∀ c ∈ cs, ¬ c < 0 ∧ ¬ (255 : Int32) < c) (hb : bs = cs.map (fun c => c.toInt8.toInt32)) (hfr : 4 ≤ R.frames) (hlo : W + 65 ≤ R.locals) :
    Back l R p e below s args (⟨"java/lang/String", "<init>", "([C)V"⟩ : MethodName) len W (fun P a => a = #[.ref x, .ref b] ∧ P.U.heap = h ∧ P.cells + 1 ≤ R.cells ∧ P.slots + n ≤ R.slots)
      (fun P _ v B => ∃ L, QV Z x N bs h n0 v B.U.heap L ∧ B.locs = P.locs ++ L ∧ B.cells = P.cells + 1 ∧ B.slots = P.slots + n) := by
  subst hn hN hb
  refine Back.mono (backArv hZ hw wi E V C K S hz (n32 (by omega)) l0 (by omega) (fun c hc => (hp c hc).2) hfr hlo) (fun P a hp => hp) (fun P a v B hp hq => ?_)
  obtain ⟨L, ⟨q1, q2, q3, q4, q5, q6, q7, ⟨kb, v1, v2⟩, q9⟩, hl, hc, hs⟩ := hq
  exact ⟨L, ⟨q1, fun y hy => by rw [q2 y hy]; exact hx0, q3, q5, q7, h.size, kb, hh0, Nat.le_refl _, Nat.ne_of_gt E.lt, q6, by rw [List.map_map]; exact v2⟩, hl, hc, hs⟩
end StrChars.Road
namespace StrChars
open Jvm Sem ClassFile Op Lib Jvm.Stand Jvm.Free.XT Jvm.Free.ALB Jvm.Free.JM Jvm.Free
open Jvm.Lib.Cold (StaticIs)
def hi8 (x : Int32) : Int32 := lo8 (x >>> ((8 : Int32) &&& 31))
/-- what StringUTF16.getChar makes of two bytes -/
def pairCh (u v : Int32) : Int32 := (((u &&& 255) <<< ((0 : Int32) &&& 31)) ||| ((v &&& 255) <<< ((8 : Int32) &&& 31))).toUInt32.toUInt16.toUInt32.toInt32
theorem lo8_and (x : Int32) : (lo8 x &&& 255).toBitVec.toNat = x.toBitVec.toNat % 256 := by
  have h : (lo8 x).toBitVec = (x.toBitVec.signExtend 8).signExtend 32 := by rw [lo8, Int8.toBitVec_toInt32, Int32.toBitVec_toInt8]
  rw [Int32.toBitVec_and, BitVec.toNat_and, h]
  have e : ((x.toBitVec.signExtend 8).signExtend 32).toNat % 256 = x.toBitVec.toNat % 256 := by
    rw [BitVec.toNat_signExtend]
    have hlt := x.toBitVec.isLt
    simp only [BitVec.toNat_setWidth, BitVec.toNat_signExtend]
    split <;> split <;> omega
  rw [← e]
  exact Nat.and_two_pow_sub_one_eq_mod _ 8
theorem pair_says {c : Int32} (h0 : ¬ c < 0) (h1 : ¬ 65535 < c) : pairCh (lo8 c) (hi8 c) = c := by
  rw [Int32.lt_iff_toInt_lt] at h0 h1
  have e0 : (0 : Int32).toInt = 0 := rfl
  have e1 : (65535 : Int32).toInt = 65535 := rfl
  have hc : c.toInt = c.toBitVec.toNat := by
    have := c.toBitVec.isLt
    have e : c.toInt = c.toBitVec.toInt := rfl
    rw [e] at h0 h1
    rw [e]
    rw [BitVec.toInt_eq_toNat_cond] at h0 h1 ⊢
    split at h0 <;> split <;> omega
  have hn : c.toBitVec.toNat < 65536 := by omega
  have a1 := lo8_and c
  have a2 : (hi8 c &&& 255).toBitVec.toNat = c.toBitVec.toNat / 256 := by
    rw [hi8, lo8_and]
    have e : ((8 : Int32) &&& 31) = 8 := by decide
    rw [e, Int32.toBitVec_shiftRight]
    have e2 : ((8 : Int32).toBitVec.smod 32) = 8#32 := by decide
    rw [e2, BitVec.sshiftRight_eq', BitVec.toNat_sshiftRight_of_msb_false (by rw [BitVec.msb_eq_false_iff_two_mul_lt]; omega)]
    show c.toBitVec.toNat >>> 8 % 256 = _
    rw [Nat.shiftRight_eq_div_pow]
    omega
  unfold pairCh
  apply Int32.toBitVec_inj.mp
  apply BitVec.eq_of_toNat_eq
  have f0 : ((0 : Int32) &&& 31) = 0 := by decide
  have f8 : ((8 : Int32) &&& 31) = 8 := by decide
  rw [f0, f8]
  have g : (((lo8 c &&& 255) <<< (0 : Int32)) ||| ((hi8 c &&& 255) <<< (8 : Int32))).toBitVec.toNat = c.toBitVec.toNat := by
    rw [Int32.toBitVec_or, Int32.toBitVec_shiftLeft, Int32.toBitVec_shiftLeft]
    have s0 : ((0 : Int32).toBitVec.smod 32) = 0#32 := by decide
    have s8 : ((8 : Int32).toBitVec.smod 32) = 8#32 := by decide
    rw [s0, s8, BitVec.toNat_or]
    simp only [BitVec.shiftLeft_eq', BitVec.toNat_shiftLeft, a1, a2]
    show (c.toBitVec.toNat % 256) <<< 0 % 2 ^ 32 ||| (c.toBitVec.toNat / 256) <<< 8 % 2 ^ 32 = _
    rw [Nat.shiftLeft_zero, Nat.mod_eq_of_lt (show c.toBitVec.toNat % 256 < 2 ^ 32 by omega), Nat.mod_eq_of_lt (show (c.toBitVec.toNat / 256) <<< 8 < 2 ^ 32 by rw [Nat.shiftLeft_eq]; omega), Nat.or_comm, ← Nat.shiftLeft_add_eq_or_of_lt (by omega), Nat.shiftLeft_eq]
    omega
  show BitVec.toNat (((((lo8 c &&& 255) <<< (0 : Int32)) ||| ((hi8 c &&& 255) <<< (8 : Int32))).toBitVec.setWidth 16).setWidth 32) = _
  rw [BitVec.toNat_setWidth, BitVec.toNat_setWidth, g]
  omega
end StrChars
namespace StrChars
open Jvm Sem ClassFile Op Lib Jvm.Stand Jvm.Free.XT Jvm.Free.ALB Jvm.Free.JM Jvm.Free
open Jvm.Lib.Cold (StaticIs)
/-- the array's cell V codes the n chars f 0 .. f (n - 1) by the coder cd, as the JDK does: coder 1 just where some char is above 255 -/
def Cod (cd : Int32) (n : Nat) (f : Nat → Int32) (V : Cell) : Prop := (cd = 0 ∧ V.slots.size = n ∧ ∀ j, j < n → V.slots[j]? = some (.int (lo8 (f j))) ∧ ¬ 255 < f j) ∨ (cd = 1 ∧ V.slots.size = 2 * n ∧ (∀ j, j < n → V.slots[2 * j]? = some (.int (lo8 (f j))) ∧ V.slots[2 * j + 1]? = some (.int (hi8 (f j)))) ∧ ∃ j, j < n ∧ 255 < f j)
/-- **x is a String of the n chars f 0 .. f (n - 1)**, Latin-1 or UTF-16; its array at t has the cell V -/
def Txt (x t : Addr) (V : Cell) (cd : Int32) (n : Nat) (f : Nat → Int32) (U : State) : Prop := Exact "java/lang/String" x U ∧ Has x "java/lang/String" "value" "[B" (.ref t) U ∧ Has x "java/lang/String" "coder" "B" (.int cd) U ∧ XT.Arr .byte t V U ∧ Cod cd n f V ∧ ∀ j, j < n → ¬ f j < 0 ∧ ¬ 65535 < f j
theorem Txt.mv {x t : Addr} {V : Cell} {cd : Int32} {n : Nat} {f : Nat → Int32} {U U' : State} (h : Txt x t V cd n f U) (hal : U.vm.Alike U'.vm) (hh : U'.heap = U.heap) : Txt x t V cd n f U' := ⟨h.1.mv hal hh, h.2.1.mv hal hh, h.2.2.1.mv hal hh, h.2.2.2.1.mv hal hh, h.2.2.2.2⟩
end StrChars
namespace StrChars.Road
open Jvm Sem ClassFile Op Lib Jvm.Stand Jvm.Free Jvm.Free.XT
open Jvm.Lib.Cold (StaticIs)
theorem consq {a : Array Value} {s : State} {c : Jvm.Cond} {L : List Jvm.Cond} (h0 : c.before a s = true) (h : ∀ w ∈ L, w.before a s = true) : ∀ w ∈ c :: L, w.before a s = true := fun w hw => (List.mem_cons.mp hw).elim (fun e => e ▸ h0) (h w)
/-- the bytes of the chars cs, low before high -/
def wideBytes : List Int32 → List Value
  | [] => []
  | c :: cs => .int (lo8 c) :: .int (hi8 c) :: wideBytes cs
theorem wide_lo (d : Value) : ∀ (cs : List Int32) (j : Nat), j < cs.length → (wideBytes cs).getD (2 * j) d = .int (lo8 (cs.getD j 0))
  | [], j, h => absurd h (Nat.not_lt_zero j)
  | c :: cs, 0, _ => rfl
  | c :: cs, j + 1, h => by
    have q := wide_lo d cs j (by simpa using h)
    rw [show 2 * (j + 1) = 2 * j + 1 + 1 from by omega]
    simpa [wideBytes] using q
theorem wide_hi (d : Value) : ∀ (cs : List Int32) (j : Nat), j < cs.length → (wideBytes cs).getD (2 * j + 1) d = .int (hi8 (cs.getD j 0))
  | [], j, h => absurd h (Nat.not_lt_zero j)
  | c :: cs, 0, _ => rfl
  | c :: cs, j + 1, h => by
    have q := wide_hi d cs j (by simpa using h)
    rw [show 2 * (j + 1) + 1 = 2 * j + 1 + 1 + 1 from by omega]
    simpa [wideBytes] using q
theorem low_at (d : Value) (cs : List Int32) (j : Nat) (h : j < cs.length) : (cs.map fun c => Value.int (lo8 c)).getD j d = .int (lo8 (cs.getD j 0)) := by
  simp [List.getD_eq_getElem?_getD, h]
/-- an array of N2 bytes vs codes the chars cs by the coder cd -/
def CodA (cs : List Int32) (cd N2 : Int32) (vs : List Value) : Prop := (cd = 0 ∧ N2 = Int32.ofNat cs.length ∧ vs = (cs.map fun c => Value.int (lo8 c)) ∧ ∀ c ∈ cs, ¬ 255 < c) ∨ (cd = 1 ∧ N2 = Int32.ofNat (2 * cs.length) ∧ vs = wideBytes cs ∧ ∃ c ∈ cs, 255 < c)
theorem CodA.cod {cs : List Int32} {cd N2 : Int32} {vs : List Value} {V : Cell} (h : CodA cs cd N2 vs) (hn : 2 * cs.length < 2 ^ 31) (hs : V.slots.size = N2.toNatClampNeg) (hv : RoadKit.Has V vs (.int 0)) : Cod cd cs.length (fun j => cs.getD j 0) V := by
  rcases h with ⟨rfl, rfl, rfl, h⟩ | ⟨rfl, rfl, rfl, c, hc, hw⟩
  · rw [n32 (by omega)] at hs
    exact Or.inl ⟨rfl, hs, fun j hj => ⟨by rw [hv j (by omega), low_at _ _ _ hj], by
      have e : cs.getD j 0 = cs[j] := by simp [List.getD_eq_getElem?_getD, hj]
      show ¬ 255 < cs.getD j 0
      rw [e]; exact h _ (List.getElem_mem _)⟩⟩
  · rw [n32 (by omega)] at hs
    obtain ⟨j, hj, rfl⟩ := List.getElem_of_mem hc
    exact Or.inr ⟨rfl, hs, fun j hj => ⟨by rw [hv _ (by omega), wide_lo _ _ _ hj], by rw [hv _ (by omega), wide_hi _ _ _ hj]⟩, j, hj, by
      have e : cs.getD j 0 = cs[j] := by simp [List.getD_eq_getElem?_getD, hj]
      show 255 < cs.getD j 0
      rw [e]; exact hw⟩
/-- an object of exactly java/lang/String, its two fields found: as the laws ask it -/
theorem strObj {Z U : State} {a0 : Array Value} {kI : Nat} (wi : (Jvm.Cond.instantiable ST kI).before a0 Z = true) (al : Z.vm.Alike U.vm) {x : Addr} {v0 c0 : Value} (E : RoadKit.Exa Z U.heap x ST) (V : RoadKit.Fld Z U.heap x ST "value" "[B" v0) (C : RoadKit.Fld Z U.heap x ST "coder" "B" c0) :
    ∃ (D : Cell) (fV fC : Field), Blank ST x D U ∧ Found ST "value" "[B" fV U ∧ Found ST "coder" "B" fC U ∧ D.slots[fV.slot]? = some v0 ∧ D.slots[fC.slot]? = some c0 ∧ RoadKit.slotOf Z ST "value" "[B" = fV.slot ∧ RoadKit.slotOf Z ST "coder" "B" = fC.slot := by
  obtain ⟨D, cfV, kV, iV, fV, hD, gV, stV, knV, obV, asV, slV⟩ := V
  obtain ⟨D', cfC, kC, iC, fC, hD', gC, stC, -, -, asC, slC⟩ := C
  cases hD.symm.trans hD'
  obtain ⟨D2, kD, e1, e2, e3, e4, e5⟩ := E
  cases hD.symm.trans e1
  obtain ⟨c2, k2, i1, i2, i3, -⟩ := Cond.instantiable_spec wi
  cases e2.symm.trans i1
  cases e3.symm.trans i2
  obtain ⟨kU, u1, u2⟩ := al.2.2 _ _ e3
  exact ⟨D, fV, fC, ⟨hD, ⟨knV, fun q hq => by rw [hq] at obV; cases obV⟩, by rw [al.findClass]; exact e2, kU, u1, by rw [u2]; exact i3, by rw [u2]; exact e5 i3⟩, ⟨SBG.found_only al ⟨cfV, kV, iV, gV⟩, stV⟩, ⟨SBG.found_only al ⟨cfC, kC, iC, gC⟩, stC⟩, slV, slC, by simp [RoadKit.slotOf, gV], by simp [RoadKit.slotOf, gC]⟩
theorem sta_is {Z U : State} (al : Z.vm.Alike U.vm) {C n d : String} {v : Value} (S : RoadKit.Sta Z U.heap C n d v) : StaticIs U C n d v := by
  obtain ⟨cfS, iS, kS, fS, st, cS, t1, t2, t3, t4, t5, t6, t7⟩ := S
  exact StaticIs.there (s := { Z with heap := U.heap }) ⟨cfS, iS, kS, fS, st, cS, t1, t2, t3, t4, t5, (fun q => by rw [q] at t6; cases t6), t7⟩ al rfl
end StrChars.Road
namespace StrChars
open Jvm Sem ClassFile Op Lib Jvm.Stand Jvm.Free.XT Jvm.Free.ALB Jvm.Free.JM Jvm.Free
open Jvm.Lib.Cold (StaticIs)
/-- what place i of a byte[]'s cell holds -/
def yv (A : Cell) (i : Nat) : Int32 := match A.slots[i]? with | some (.int x) => x | _ => 0
theorem yv_get {a : Addr} {A : Cell} {U : State} (h : XT.Arr .byte a A U) (ht : Typed .byte A) {i : Nat} (hi : i < A.slots.size) : A.slots[i]? = some (.int (yv A i)) := by
  have e := Array.getElem?_eq_getElem hi
  have f := ht i _ e
  unfold yv; rw [e]
  generalize A.slots[i] = v at f
  cases v <;> simp [fits] at f ⊢
/-- the two arrays are equal, place for place -/
def EqC (A B : Cell) : Prop := A.slots.size = B.slots.size ∧ ∀ i, i < A.slots.size → yv A i = yv B i
/-- a boolean that says whether p -/
def Says01 (q : Prop) (r : Option Value) (s u : State) : Prop := ∃ v : Int32, r = some (.int v) ∧ u.heap = s.heap ∧ ((v = 1 ∧ q) ∨ (v = 0 ∧ ¬ q))
theorem Says01.mv {q : Prop} : ∀ r (U U' V V' : State), U'.heap = U.heap → V.vm.Alike V'.vm → V'.heap = V.heap → Says01 q r U V → Says01 q r U' V' :=
  fun r U U' V V' h1 _ h2 ⟨v, a, b, c⟩ => ⟨v, a, by rw [h1, h2]; exact b, c⟩
namespace LEq
def yN : MethodName := ⟨"java/lang/StringLatin1", "equals", "([B[B)Z"⟩
abbrev yB : ByteArray := jdk_43_method_13_code
theorem d0 : decode yB 0 = .ok (.aload_n 0, 1) := by decide +kernel
theorem d1 : decode yB 1 = .ok (.arraylength, 1) := by decide +kernel
theorem d2 : decode yB 2 = .ok (.aload_n 1, 1) := by decide +kernel
theorem d3 : decode yB 3 = .ok (.arraylength, 1) := by decide +kernel
theorem d4 : decode yB 4 = .ok (.if_icmp (.ne) 30, 3) := by decide +kernel
theorem d7 : decode yB 7 = .ok (.iconst 0, 1) := by decide +kernel
theorem d8 : decode yB 8 = .ok (.istore_n 2, 1) := by decide +kernel
theorem d9 : decode yB 9 = .ok (.iload_n 2, 1) := by decide +kernel
theorem d10 : decode yB 10 = .ok (.aload_n 0, 1) := by decide +kernel
theorem d11 : decode yB 11 = .ok (.arraylength, 1) := by decide +kernel
theorem d12 : decode yB 12 = .ok (.if_icmp (.ge) 20, 3) := by decide +kernel
theorem d15 : decode yB 15 = .ok (.aload_n 0, 1) := by decide +kernel
theorem d16 : decode yB 16 = .ok (.iload_n 2, 1) := by decide +kernel
theorem d17 : decode yB 17 = .ok (.baload, 1) := by decide +kernel
theorem d18 : decode yB 18 = .ok (.aload_n 1, 1) := by decide +kernel
theorem d19 : decode yB 19 = .ok (.iload_n 2, 1) := by decide +kernel
theorem d20 : decode yB 20 = .ok (.baload, 1) := by decide +kernel
theorem d21 : decode yB 21 = .ok (.if_icmp (.eq) 5, 3) := by decide +kernel
theorem d24 : decode yB 24 = .ok (.iconst 0, 1) := by decide +kernel
theorem d25 : decode yB 25 = .ok (.ireturn, 1) := by decide +kernel
theorem d26 : decode yB 26 = .ok (.iinc 2 1, 3) := by decide +kernel
theorem d29 : decode yB 29 = .ok (.goto (-20), 3) := by decide +kernel
theorem d32 : decode yB 32 = .ok (.iconst 1, 1) := by decide +kernel
theorem d33 : decode yB 33 = .ok (.ireturn, 1) := by decide +kernel
theorem d34 : decode yB 34 = .ok (.iconst 0, 1) := by decide +kernel
theorem d35 : decode yB 35 = .ok (.ireturn, 1) := by decide +kernel
def site : List Cond := []
def tab : Cond := tabOf yN yB 3 (some .boolean) site
def P (a : Addr) (A : Cell) (b : Addr) (B : Cell) (args : Array Value) (s : State) : Prop := args = #[.ref a, .ref b] ∧ XT.Arr .byte a A s ∧ Typed .byte A ∧ XT.Arr .byte b B s ∧ Typed .byte B
/-- whether two byte[] are equal, place for place -/
theorem law (l : Launch) (a : Addr) (A : Cell) (b : Addr) (B : Cell) : Law l yN 2 2 0 0 yB 3 (some .boolean) site (P a A b B) (Says01 (EqC A B)) [] 0 0 := by
  refine Law.of_walk (plainFor_of_name (by decide +kernel)) (by decide +kernel) (by decide +kernel) (by decide) (fun _ _ h => by rw [h.1]; rfl) (fun _ U U' hal hh h => ⟨h.1, h.2.1.mv hal hh, h.2.2.1, h.2.2.2.1.mv hal hh, h.2.2.2.2⟩) (fun r U U' V V' h1 hal h2 h => Says01.mv r U U' V V' h1 hal h2 h) ?_
  intro p e s m args below meth c s₁ X0 hexec hbytes hml hret hlk hnm hown hh0 W hP
  obtain ⟨rfl, hA, tA, hB, tB⟩ := hP
  have a31 := hA.2.2.2
  have b31 := hB.2.2.2
  have hA0 := hA.mv X0.warmed.alike hh0
  have hB0 := hB.mv X0.warmed.alike hh0
  have c1 : Steps p.tables e below (s₁.setTop (entryFrame m #[.ref a, .ref b] 3)) (s₁.setTop (mkF m 0 #[.val (.ref a), .val (.ref b), .unset] [])) := entry rfl
  have c2 : Steps p.tables e below (s₁.setTop (entryFrame m #[.ref a, .ref b] 3)) (s₁.setTop (mkF m 4 #[.val (.ref a), .val (.ref b), .unset] [.int (Int32.ofNat B.slots.size), .int (Int32.ofNat A.slots.size)])) := c1.trans (by
    refine XS.aloadN X0.here hexec rfl (hb hbytes d0) rfl rfl ?_
    refine X0.alen hexec hA0 rfl rfl (hb hbytes d1) ?_
    refine XS.aloadN X0.here hexec rfl (hb hbytes d2) rfl rfl ?_
    refine X0.alen hexec hB0 rfl rfl (hb hbytes d3) ?_
    exact Steps.refl _)
  by_cases hs : A.slots.size = B.slots.size
  · have c3 : Steps p.tables e below (s₁.setTop (entryFrame m #[.ref a, .ref b] 3)) (s₁.setTop (mkF m 9 #[.val (.ref a), .val (.ref b), .val (.int 0)] [])) := c2.trans (by
      refine XS.icmpNo X0.here hexec rfl (hb hbytes d4) rfl (ii_ne_f (by rw [hs])) ?_
      refine iconstV X0.here hexec rfl 0 (hb hbytes d7) (by decide) ?_
      refine XS.istoreN X0.here hexec rfl (hb hbytes d8) rfl rfl ?_
      exact Steps.refl _)
    have loop : ∀ (r i : Nat), i + r = A.slots.size → (∀ j, j < i → yv A j = yv B j) → Steps p.tables e below (s₁.setTop (entryFrame m #[.ref a, .ref b] 3)) (s₁.setTop (mkF m 9 #[.val (.ref a), .val (.ref b), .val (.int (Int32.ofNat i))] [])) → ∃ (pc : Nat) (Ls : Array Slot) (v : Int32), (pc = 25 ∨ pc = 33) ∧ ((v = 1 ∧ EqC A B) ∨ (v = 0 ∧ ¬ EqC A B)) ∧ Steps p.tables e below (s₁.setTop (entryFrame m #[.ref a, .ref b] 3)) (s₁.setTop (mkF m pc Ls [.int v])) := by
      intro r
      induction r with
      | zero =>
        intro i hi he cl
        exact ⟨33, _, 1, Or.inr rfl, Or.inl ⟨rfl, hs, fun j hj => he j (by omega)⟩, cl.trans (by
          refine XS.iloadN X0.here hexec rfl (hb hbytes d9) rfl ?_
          refine XS.aloadN X0.here hexec rfl (hb hbytes d10) rfl rfl ?_
          refine X0.alen hexec hA0 rfl rfl (hb hbytes d11) ?_
          refine XS.icmpYes X0.here hexec rfl (pc0 := 12) rfl (hb hbytes d12) rfl (ii_ge_t (nlt32 (by omega) (by omega))) (by decide) rfl ?_
          refine iconstV X0.here hexec rfl 1 (hb hbytes d32) (by decide) ?_
          exact Steps.refl _)⟩
      | succ r ih =>
        intro i hi he cl
        have c4 : Steps p.tables e below (s₁.setTop (entryFrame m #[.ref a, .ref b] 3)) (s₁.setTop (mkF m 21 #[.val (.ref a), .val (.ref b), .val (.int (Int32.ofNat i))] [.int (yv B i), .int (yv A i)])) := cl.trans (by
          refine XS.iloadN X0.here hexec rfl (hb hbytes d9) rfl ?_
          refine XS.aloadN X0.here hexec rfl (hb hbytes d10) rfl rfl ?_
          refine X0.alen hexec hA0 rfl rfl (hb hbytes d11) ?_
          refine XS.icmpNo X0.here hexec rfl (hb hbytes d12) rfl (ii_ge_f (lt32 (by omega) (by omega))) ?_
          refine XS.aloadN X0.here hexec rfl (hb hbytes d15) rfl rfl ?_
          refine XS.iloadN X0.here hexec rfl (hb hbytes d16) rfl ?_
          refine X0.aget hexec hA0 rfl (yv_get hA tA (i := i) (by omega)) rfl rfl (hb hbytes d17) ?_
          refine XS.aloadN X0.here hexec rfl (hb hbytes d18) rfl rfl ?_
          refine XS.iloadN X0.here hexec rfl (hb hbytes d19) rfl ?_
          refine X0.aget hexec hB0 rfl (yv_get hB tB (i := i) (by omega)) rfl rfl (hb hbytes d20) ?_
          exact Steps.refl _)
        by_cases hv : yv A i = yv B i
        · have c5 : Steps p.tables e below (s₁.setTop (entryFrame m #[.ref a, .ref b] 3)) (s₁.setTop (mkF m 9 #[.val (.ref a), .val (.ref b), .val (.int (Int32.ofNat i + 1))] [])) := c4.trans (by
            refine XS.icmpYes X0.here hexec rfl (pc0 := 21) rfl (hb hbytes d21) rfl (ii_eq_t hv) (by decide) rfl ?_
            refine iincV X0.here hexec rfl 1 (hb hbytes d26) (by decide) rfl rfl ?_
            refine XS.goto X0.here hexec rfl (pc0 := 29) rfl (hb hbytes d29) (by decide) rfl ?_
            exact Steps.refl _)
          rw [succ32] at c5
          exact ih (i + 1) (by omega) (fun j hj => by
            by_cases e : j = i
            · rw [e]; exact hv
            · exact he j (by omega)) c5
        · exact ⟨25, _, 0, Or.inl rfl, Or.inr ⟨rfl, fun q => hv (q.2 i (by omega))⟩, c4.trans (by
            refine XS.icmpNo X0.here hexec rfl (hb hbytes d21) rfl (ii_eq_f hv) ?_
            refine iconstV X0.here hexec rfl 0 (hb hbytes d24) (by decide) ?_
            exact Steps.refl _)⟩
    obtain ⟨pc, Ls, v, hpc, hv, cz⟩ := loop A.slots.size 0 (by omega) (fun j hj => absurd hj (Nat.not_lt_zero j)) c3
    have nv : narrow .boolean (.int v) = .int v := by rcases hv with ⟨rfl, -⟩ | ⟨rfl, -⟩ <;> rfl
    rcases hpc with rfl | rfl
    · exact ⟨s₁, some (.int v), _, _, _, X0, rfl, rfl, rfl, (fun h => by cases h), ⟨v, rfl, hh0, hv⟩, fun fs hl => cz.trans (X0.ireturnOut hexec hret nv (Or.inr (Or.inl rfl)) (hb hbytes d25) hl)⟩
    · exact ⟨s₁, some (.int v), _, _, _, X0, rfl, rfl, rfl, (fun h => by cases h), ⟨v, rfl, hh0, hv⟩, fun fs hl => cz.trans (X0.ireturnOut hexec hret nv (Or.inr (Or.inl rfl)) (hb hbytes d33) hl)⟩
  · have c3 : Steps p.tables e below (s₁.setTop (entryFrame m #[.ref a, .ref b] 3)) (s₁.setTop (mkF m 35 #[.val (.ref a), .val (.ref b), .unset] [.int 0])) := c2.trans (by
      refine XS.icmpYes X0.here hexec rfl (pc0 := 4) rfl (hb hbytes d4) rfl (ii_ne_t (ne32 a31 b31 hs)) (by decide) rfl ?_
      refine iconstV X0.here hexec rfl 0 (hb hbytes d34) (by decide) ?_
      exact Steps.refl _)
    exact ⟨s₁, some (.int 0), _, _, _, X0, rfl, rfl, rfl, (fun h => by cases h), ⟨0, rfl, hh0, Or.inr ⟨rfl, fun q => hs q.1⟩⟩, fun fs hl => c3.trans (X0.ireturnOut hexec hret rfl (Or.inr (Or.inl rfl)) (hb hbytes d35) hl)⟩
end LEq
theorem Cod.ty {cd : Int32} {n : Nat} {f : Nat → Int32} {V : Cell} (h : Cod cd n f V) : Typed .byte V := fun i v hv => by
  have hi : i < V.slots.size := (Array.getElem?_eq_some_iff.mp hv).1
  rcases h with ⟨-, k1, k2⟩ | ⟨-, k1, k2, -⟩
  · rw [(k2 i (by omega)).1] at hv; cases hv; exact fits_lo8 _
  · rcases Nat.mod_two_eq_zero_or_one i with e | e
    · obtain ⟨j, rfl⟩ : ∃ j, i = 2 * j := ⟨i / 2, by omega⟩
      rw [(k2 j (by omega)).1] at hv; cases hv; exact fits_lo8 _
    · obtain ⟨j, rfl⟩ : ∃ j, i = 2 * j + 1 := ⟨i / 2, by omega⟩
      rw [(k2 j (by omega)).2] at hv; cases hv; exact fits_lo8 _
/-- the same text -/
def SameT (n : Nat) (f : Nat → Int32) (k : Nat) (g : Nat → Int32) : Prop := n = k ∧ ∀ j, j < n → f j = g j
theorem lo8_inj {x y : Int32} (h0 : ¬ x < 0) (h1 : ¬ 255 < x) (k0 : ¬ y < 0) (k1 : ¬ 255 < y) (h : lo8 x = lo8 y) : x = y := by
  rw [← lo8_mask h0 h1, ← lo8_mask k0 k1, h]
/-- arrays coded by one coder are equal just where the texts are -/
theorem Cod.eqv {cd : Int32} {n k : Nat} {f g : Nat → Int32} {V V' : Cell} (h : Cod cd n f V) (h' : Cod cd k g V') (hf : ∀ j, j < n → ¬ f j < 0 ∧ ¬ 65535 < f j) (hg : ∀ j, j < k → ¬ g j < 0 ∧ ¬ 65535 < g j) : EqC V V' ↔ SameT n f k g := by
  have yvv : ∀ {W : Cell} {i : Nat} {x : Int32}, W.slots[i]? = some (.int x) → yv W i = x := fun q => by unfold yv; rw [q]
  rcases h with ⟨rfl, k1, k2⟩ | ⟨rfl, k1, k2, -⟩
  · rcases h' with ⟨-, m1, m2⟩ | ⟨e, -⟩
    · constructor
      · rintro ⟨e1, e2⟩
        refine ⟨by omega, fun j hj => ?_⟩
        have q := e2 j (by omega)
        rw [yvv (k2 j hj).1, yvv (m2 j (by omega)).1] at q
        exact lo8_inj (hf j hj).1 (k2 j hj).2 (hg j (by omega)).1 (m2 j (by omega)).2 q
      · rintro ⟨rfl, e2⟩
        refine ⟨by omega, fun j hj => ?_⟩
        rw [yvv (k2 j (by omega)).1, yvv (m2 j (by omega)).1, e2 j (by omega)]
    · exact absurd e (by decide)
  · rcases h' with ⟨e, -⟩ | ⟨-, m1, m2, -⟩
    · exact absurd e (by decide)
    · constructor
      · rintro ⟨e1, e2⟩
        refine ⟨by omega, fun j hj => ?_⟩
        have q1 := e2 (2 * j) (by omega)
        have q2 := e2 (2 * j + 1) (by omega)
        rw [yvv (k2 j hj).1, yvv (m2 j (by omega)).1] at q1
        rw [yvv (k2 j hj).2, yvv (m2 j (by omega)).2] at q2
        rw [← pair_says (hf j hj).1 (hf j hj).2, ← pair_says (hg j (by omega)).1 (hg j (by omega)).2, q1, q2]
      · rintro ⟨rfl, e2⟩
        refine ⟨by omega, fun i hi => ?_⟩
        rcases Nat.mod_two_eq_zero_or_one i with e | e
        · obtain ⟨j, rfl⟩ : ∃ j, i = 2 * j := ⟨i / 2, by omega⟩
          rw [yvv (k2 j (by omega)).1, yvv (m2 j (by omega)).1, e2 j (by omega)]
        · obtain ⟨j, rfl⟩ : ∃ j, i = 2 * j + 1 := ⟨i / 2, by omega⟩
          rw [yvv (k2 j (by omega)).2, yvv (m2 j (by omega)).2, e2 j (by omega)]
/-- two codings differ: so do the texts -/
theorem Cod.dif {cd cd' : Int32} {n k : Nat} {f g : Nat → Int32} {V V' : Cell} (h : Cod cd n f V) (h' : Cod cd' k g V') (hne : ¬ cd = cd') : ¬ SameT n f k g := by
  rintro ⟨rfl, e⟩
  rcases h with ⟨rfl, -, k2⟩ | ⟨rfl, -, -, j, hj, hw⟩
  · rcases h' with ⟨rfl, -⟩ | ⟨-, -, -, j, hj, hw⟩
    · exact hne rfl
    · exact (k2 j hj).2 (by rw [e j hj]; exact hw)
  · rcases h' with ⟨-, -, m2⟩ | ⟨rfl, -⟩
    · exact (m2 j hj).2 (by rw [← e j hj]; exact hw)
    · exact hne rfl
/-- an object of exactly C is an instance of C -/
theorem cinst {p : Program} {l : Launch} {e : Env} {R : Room} {s : State} {m : MethodId} {args : Array Value} {below : List Frame} {meth : Method} {c : Code} {T : State} {locs : List Loc} {cells slots : Nat} (X : Stand p l e R s m args below meth c T locs cells slots) (hexec : p.tables.exec = Jvm.exec) {own C : String} {index : Nat} (hown : s.vm.findClass own = some m.cls) (hlink : (Cond.classLink own index C).before args s = true) {a : Addr} (hE : Exact C a T)
    {g : JFrame} (hg : g.method = m) {rest : List Value} (hstack : g.stack = .ref a :: rest) (hdg : decode c.code g.pc = .ok (.instanceof index, 3)) :
    ∃ T', Stand p l e R s m args below meth c T' locs cells slots ∧ T'.heap = T.heap ∧ ∀ target, Steps p.tables e below (T'.setTop { g with pc := g.pc + 3, stack := .int 1 :: rest }) target → Steps p.tables e below (T.setTop g) target := by
  obtain ⟨cB, h1, D, h2, h3, h4⟩ := hE
  have h1' : s.vm.findClass C = some cB := by rw [← X.warmed.alike.findClass]; exact h1
  obtain ⟨vm', X', st⟩ := X.instanceofYes hexec hown hlink h2 h4 h1' (by rw [h3]; exact Jvm.Free.SB.assignable_self _ _) hg hstack hdg
  exact ⟨_, X', rfl, st⟩
theorem cself {p : Program} {l : Launch} {e : Env} {R : Room} {s : State} {m : MethodId} {args : Array Value} {below : List Frame} {meth : Method} {c : Code} {T : State} {locs : List Loc} {cells slots : Nat} (X : Stand p l e R s m args below meth c T locs cells slots) (hexec : p.tables.exec = Jvm.exec) {own C : String} {index : Nat} (hown : s.vm.findClass own = some m.cls) (hlink : (Cond.classLink own index C).before args s = true) {a : Addr} (hE : Exact C a T)
    {g : JFrame} (hg : g.method = m) {rest : List Value} (hstack : g.stack = .ref a :: rest) (hdg : decode c.code g.pc = .ok (.checkcast index, 3)) :
    ∃ T', Stand p l e R s m args below meth c T' locs cells slots ∧ T'.heap = T.heap ∧ ∀ target, Steps p.tables e below (T'.setTop { g with pc := g.pc + 3, stack := .ref a :: rest }) target → Steps p.tables e below (T.setTop g) target := by
  obtain ⟨cB, h1, D, h2, h3, h4⟩ := hE
  have h1' : s.vm.findClass C = some cB := by rw [← X.warmed.alike.findClass]; exact h1
  obtain ⟨vm', X', st⟩ := X.checkcastYes hexec hown hlink h2 h4 h1' (by rw [h3]; exact Jvm.Free.SB.assignable_self _ _) hg hstack hdg
  exact ⟨_, X', rfl, fun t h => st t (by rw [← hstack] at h; exact h)⟩
namespace SEq
def yN : MethodName := ⟨"java/lang/String", "equals", "(Ljava/lang/Object;)Z"⟩
abbrev yB : ByteArray := jdk_42_method_66_code
theorem d0 : decode yB 0 = .ok (.aload_n 0, 1) := by decide +kernel
theorem d1 : decode yB 1 = .ok (.aload_n 1, 1) := by decide +kernel
theorem d2 : decode yB 2 = .ok (.if_acmp (.ne) 5, 3) := by decide +kernel
theorem d5 : decode yB 5 = .ok (.iconst 1, 1) := by decide +kernel
theorem d6 : decode yB 6 = .ok (.ireturn, 1) := by decide +kernel
theorem d7 : decode yB 7 = .ok (.aload_n 1, 1) := by decide +kernel
theorem d8 : decode yB 8 = .ok (.instanceof 10, 3) := by decide +kernel
theorem d11 : decode yB 11 = .ok (.ifCond (.eq) 43, 3) := by decide +kernel
theorem d14 : decode yB 14 = .ok (.aload_n 1, 1) := by decide +kernel
theorem d15 : decode yB 15 = .ok (.checkcast 10, 3) := by decide +kernel
theorem d18 : decode yB 18 = .ok (.astore_n 2, 1) := by decide +kernel
theorem d19 : decode yB 19 = .ok (.getstatic 38, 3) := by decide +kernel
theorem d22 : decode yB 22 = .ok (.ifCond (.eq) 14, 3) := by decide +kernel
theorem d25 : decode yB 25 = .ok (.aload_n 0, 1) := by decide +kernel
theorem d26 : decode yB 26 = .ok (.getfield 15, 3) := by decide +kernel
theorem d29 : decode yB 29 = .ok (.aload_n 2, 1) := by decide +kernel
theorem d30 : decode yB 30 = .ok (.getfield 15, 3) := by decide +kernel
theorem d33 : decode yB 33 = .ok (.if_icmp (.ne) 21, 3) := by decide +kernel
theorem d36 : decode yB 36 = .ok (.aload_n 0, 1) := by decide +kernel
theorem d37 : decode yB 37 = .ok (.getfield 9, 3) := by decide +kernel
theorem d40 : decode yB 40 = .ok (.aload_n 2, 1) := by decide +kernel
theorem d41 : decode yB 41 = .ok (.getfield 9, 3) := by decide +kernel
theorem d44 : decode yB 44 = .ok (.invokestatic 541, 3) := by decide +kernel
theorem d47 : decode yB 47 = .ok (.ifCond (.eq) 7, 3) := by decide +kernel
theorem d50 : decode yB 50 = .ok (.iconst 1, 1) := by decide +kernel
theorem d51 : decode yB 51 = .ok (.goto 4, 3) := by decide +kernel
theorem d54 : decode yB 54 = .ok (.iconst 0, 1) := by decide +kernel
theorem d55 : decode yB 55 = .ok (.ireturn, 1) := by decide +kernel
def site : List Cond := [.classLink "java/lang/String" 10 "java/lang/String", .fieldLink "java/lang/String" 38 "java/lang/String" "COMPACT_STRINGS" "Z", .fieldLink "java/lang/String" 15 "java/lang/String" "coder" "B", .fieldLink "java/lang/String" 9 "java/lang/String" "value" "[B", LEq.tab] ++ staticW "java/lang/String" 541 LEq.yN
def tab : Cond := tabOf yN yB 3 (some .boolean) site
def P (x t : Addr) (V : Cell) (cd : Int32) (n : Nat) (f : Nat → Int32) (y t' : Addr) (V' : Cell) (cd' : Int32) (k : Nat) (g : Nat → Int32) (z : Int32) (args : Array Value) (s : State) : Prop := args = #[.ref x, .ref y] ∧ Txt x t V cd n f s ∧ Txt y t' V' cd' k g s ∧ StaticIs s "java/lang/String" "COMPACT_STRINGS" "Z" (.int z) ∧ ¬ z = 0
/-- equals(Object) of two Strings: whether the texts are the same -/
theorem law (l : Launch) (x t : Addr) (V : Cell) (cd : Int32) (n : Nat) (f : Nat → Int32) (y t' : Addr) (V' : Cell) (cd' : Int32) (k : Nat) (g : Nat → Int32) (z : Int32) : Law l yN 2 1 1 14 yB 3 (some .boolean) site (P x t V cd n f y t' V' cd' k g z) (Says01 (SameT n f k g)) [] 0 0 := by
  refine Law.of_walk (plainFor_of_name (by decide +kernel)) (by decide +kernel) (by decide +kernel) (by decide) (fun _ _ h => by rw [h.1]; rfl) (fun _ U U' hal hh h => ⟨h.1, h.2.1.mv hal hh, h.2.2.1.mv hal hh, h.2.2.2.1.there hal hh, h.2.2.2.2⟩) (fun r U U' V V' h1 hal h2 h => Says01.mv r U U' V V' h1 hal h2 h) ?_
  intro p e s m args below meth c s₁ X0 hexec hbytes hml hret hlk hnm hown hh0 W hP
  obtain ⟨rfl, hx, hy, s1, hz⟩ := hP
  have c1 : Steps p.tables e below (s₁.setTop (entryFrame m #[.ref x, .ref y] 3)) (s₁.setTop (mkF m 2 #[.val (.ref x), .val (.ref y), .unset] [.ref y, .ref x])) := Steps.trans (entry rfl) (by
    show Steps p.tables e below (s₁.setTop (mkF m 0 #[.val (.ref x), .val (.ref y), .unset] [])) _
    refine XS.aloadN X0.here hexec rfl (hb hbytes d0) rfl rfl ?_
    refine XS.aloadN X0.here hexec rfl (hb hbytes d1) rfl rfl ?_
    exact Steps.refl _)
  by_cases hxy : x = y
  · have c2 : Steps p.tables e below (s₁.setTop (entryFrame m #[.ref x, .ref y] 3)) (s₁.setTop (mkF m 6 #[.val (.ref x), .val (.ref y), .unset] [.int 1])) := c1.trans (by
      refine acmpNo X0.here hexec rfl (hb hbytes d2) rfl rfl rfl (by simp [acmp, hxy]) ?_
      refine iconstV X0.here hexec rfl 1 (hb hbytes d5) (by decide) ?_
      exact Steps.refl _)
    subst hxy
    have ec : cd = cd' := by
      obtain ⟨D, fd, a1, a2, a3⟩ := hx.2.2.1
      obtain ⟨D', fd', b1, b2, b3⟩ := hy.2.2.1
      cases a1.symm.trans b1
      obtain ⟨q1, q2, q3, q4⟩ := a2.1
      obtain ⟨r1, r2, r3, r4⟩ := b2.1
      cases q4.symm.trans r4
      cases a3.symm.trans b3; rfl
    have et : t = t' := by
      obtain ⟨D, fd, a1, a2, a3⟩ := hx.2.1
      obtain ⟨D', fd', b1, b2, b3⟩ := hy.2.1
      cases a1.symm.trans b1
      obtain ⟨q1, q2, q3, q4⟩ := a2.1
      obtain ⟨r1, r2, r3, r4⟩ := b2.1
      cases q4.symm.trans r4
      cases a3.symm.trans b3; rfl
    subst ec et
    have ev : V = V' := by cases hx.2.2.2.1.1.symm.trans hy.2.2.2.1.1; rfl
    subst ev
    have hs : SameT n f k g := (Cod.eqv hx.2.2.2.2.1 hy.2.2.2.2.1 hx.2.2.2.2.2 hy.2.2.2.2.2).mp ⟨rfl, fun _ _ => rfl⟩
    exact ⟨s₁, some (.int 1), _, _, _, X0, rfl, rfl, rfl, (fun h => by cases h), ⟨1, rfl, hh0, Or.inl ⟨rfl, hs⟩⟩, fun fs hl => c2.trans (X0.ireturnOut hexec hret rfl (Or.inr (Or.inl rfl)) (hb hbytes d6) hl)⟩
  · have c2 : Steps p.tables e below (s₁.setTop (entryFrame m #[.ref x, .ref y] 3)) (s₁.setTop (mkF m 8 #[.val (.ref x), .val (.ref y), .unset] [.ref y])) := c1.trans (by
      refine acmpYes X0.here hexec rfl (pc0 := 2) rfl (hb hbytes d2) rfl rfl rfl (by simp [acmp, hxy]) (by decide) rfl ?_
      refine XS.aloadN X0.here hexec rfl (hb hbytes d7) rfl rfl ?_
      exact Steps.refl _)
    obtain ⟨T3, X3, q3, st3⟩ := cinst X0 hexec hown (wk W (.classLink "java/lang/String" 10 "java/lang/String")) (hy.mv X0.warmed.alike hh0).1 (g := (mkF m 8 #[.val (.ref x), .val (.ref y), .unset] [.ref y])) rfl (rest := []) rfl (hb hbytes d8)
    have hh3 := q3.trans hh0
    have c4 : Steps p.tables e below (s₁.setTop (entryFrame m #[.ref x, .ref y] 3)) (T3.setTop (mkF m 15 #[.val (.ref x), .val (.ref y), .unset] [.ref y])) := (c2.trans (st3 _ (Steps.refl _))).trans (by
      refine XS.ifNo X3.here hexec rfl (hb hbytes d11) rfl (i0_eq_f (by decide)) ?_
      refine XS.aloadN X3.here hexec rfl (hb hbytes d14) rfl rfl ?_
      exact Steps.refl _)
    obtain ⟨T5, X5, q5, st5⟩ := cself X3 hexec hown (wk W (.classLink "java/lang/String" 10 "java/lang/String")) (hy.mv X3.warmed.alike hh3).1 (g := (mkF m 15 #[.val (.ref x), .val (.ref y), .unset] [.ref y])) rfl (rest := []) rfl (hb hbytes d15)
    have hh5 := q5.trans hh3
    have c6 : Steps p.tables e below (s₁.setTop (entryFrame m #[.ref x, .ref y] 3)) (T5.setTop (mkF m 19 #[.val (.ref x), .val (.ref y), .val (.ref y)] [])) := (c4.trans (st5 _ (Steps.refl _))).trans (by
      refine XS.astoreN X5.here hexec rfl (hb hbytes d18) rfl rfl rfl ?_
      exact Steps.refl _)
    obtain ⟨T7, X7, q7, st7⟩ := X5.sget hexec hown (wk W (.fieldLink "java/lang/String" 38 "java/lang/String" "COMPACT_STRINGS" "Z")) s1 (fun _ _ h => by rw [hh5]; exact h) (g := (mkF m 19 #[.val (.ref x), .val (.ref y), .val (.ref y)] [])) rfl (hb hbytes d19)
    have hh7 := q7.trans hh5
    have c8 : Steps p.tables e below (s₁.setTop (entryFrame m #[.ref x, .ref y] 3)) (T7.setTop (mkF m 26 #[.val (.ref x), .val (.ref y), .val (.ref y)] [.ref x])) := (c6.trans (st7 _ (Steps.refl _))).trans (by
      refine XS.ifNo X7.here hexec rfl (hb hbytes d22) rfl (i0_eq_f hz) ?_
      refine XS.aloadN X7.here hexec rfl (hb hbytes d25) rfl rfl ?_
      exact Steps.refl _)
    obtain ⟨T9, X9, q9, st9⟩ := X7.hget hexec hown (wk W (.fieldLink "java/lang/String" 15 "java/lang/String" "coder" "B")) (hx.mv X7.warmed.alike hh7).2.2.1 (g := (mkF m 26 #[.val (.ref x), .val (.ref y), .val (.ref y)] [.ref x])) rfl (rest := []) rfl (hb hbytes d26)
    have hh9 := q9.trans hh7
    have c10 : Steps p.tables e below (s₁.setTop (entryFrame m #[.ref x, .ref y] 3)) (T9.setTop (mkF m 30 #[.val (.ref x), .val (.ref y), .val (.ref y)] [.ref y, .int cd])) := (c8.trans (st9 _ (Steps.refl _))).trans (by
      refine XS.aloadN X9.here hexec rfl (hb hbytes d29) rfl rfl ?_
      exact Steps.refl _)
    obtain ⟨T11, X11, q11, st11⟩ := X9.hget hexec hown (wk W (.fieldLink "java/lang/String" 15 "java/lang/String" "coder" "B")) (hy.mv X9.warmed.alike hh9).2.2.1 (g := (mkF m 30 #[.val (.ref x), .val (.ref y), .val (.ref y)] [.ref y, .int cd])) rfl (rest := [.int cd]) rfl (hb hbytes d30)
    have hh11 := q11.trans hh9
    have c12 : Steps p.tables e below (s₁.setTop (entryFrame m #[.ref x, .ref y] 3)) (T11.setTop (mkF m 33 #[.val (.ref x), .val (.ref y), .val (.ref y)] [.int cd', .int cd])) := c10.trans (st11 _ (Steps.refl _))
    by_cases hcd : cd = cd'
    · subst hcd
      have c13 : Steps p.tables e below (s₁.setTop (entryFrame m #[.ref x, .ref y] 3)) (T11.setTop (mkF m 37 #[.val (.ref x), .val (.ref y), .val (.ref y)] [.ref x])) := c12.trans (by
        refine XS.icmpNo X11.here hexec rfl (hb hbytes d33) rfl (ii_ne_f rfl) ?_
        refine XS.aloadN X11.here hexec rfl (hb hbytes d36) rfl rfl ?_
        exact Steps.refl _)
      obtain ⟨T14, X14, q14, st14⟩ := X11.hget hexec hown (wk W (.fieldLink "java/lang/String" 9 "java/lang/String" "value" "[B")) (hx.mv X11.warmed.alike hh11).2.1 (g := (mkF m 37 #[.val (.ref x), .val (.ref y), .val (.ref y)] [.ref x])) rfl (rest := []) rfl (hb hbytes d37)
      have hh14 := q14.trans hh11
      have c15 : Steps p.tables e below (s₁.setTop (entryFrame m #[.ref x, .ref y] 3)) (T14.setTop (mkF m 41 #[.val (.ref x), .val (.ref y), .val (.ref y)] [.ref y, .ref t])) := (c13.trans (st14 _ (Steps.refl _))).trans (by
        refine XS.aloadN X14.here hexec rfl (hb hbytes d40) rfl rfl ?_
        exact Steps.refl _)
      obtain ⟨T16, X16, q16, st16⟩ := X14.hget hexec hown (wk W (.fieldLink "java/lang/String" 9 "java/lang/String" "value" "[B")) (hy.mv X14.warmed.alike hh14).2.1 (g := (mkF m 41 #[.val (.ref x), .val (.ref y), .val (.ref y)] [.ref y, .ref t])) rfl (rest := [.ref t]) rfl (hb hbytes d41)
      have hh16 := q16.trans hh14
      have c17 : Steps p.tables e below (s₁.setTop (entryFrame m #[.ref x, .ref y] 3)) (T16.setTop (mkF m 44 #[.val (.ref x), .val (.ref y), .val (.ref y)] [.ref t', .ref t])) := c15.trans (st16 _ (Steps.refl _))
      obtain ⟨v18, T18, X18, E18, g18⟩ := X16.callS hexec (LEq.law l t V t' V') hown (wks W (staticW "java/lang/String" 541 LEq.yN)) (wk W LEq.tab) (W := 0) (Nat.le_of_ble_eq_true rfl) (Nat.le_of_ble_eq_true rfl) (Nat.le_refl _) (Nat.le_refl _) (g := (mkF m 44 #[.val (.ref x), .val (.ref y), .val (.ref y)] [.ref t', .ref t])) rfl (by rw [hml]; rfl) c17 (argsL := [.ref t, .ref t']) (rest := []) rfl rfl (by show 2 * 0 + 0 ≤ _; decide) (hb hbytes d44) (⟨rfl, hx.2.2.2.1.mv X16.warmed.alike hh16, hx.2.2.2.2.1.ty, hy.2.2.2.1.mv X16.warmed.alike hh16, hy.2.2.2.2.1.ty⟩)
      obtain ⟨v, rfl, q18, hv⟩ := E18
      have iff := Cod.eqv hx.2.2.2.2.1 hy.2.2.2.2.1 hx.2.2.2.2.2 hy.2.2.2.2.2
      rcases hv with ⟨rfl, he⟩ | ⟨rfl, he⟩
      · have c19 : Steps p.tables e below (s₁.setTop (entryFrame m #[.ref x, .ref y] 3)) (T18.setTop (mkF m 55 #[.val (.ref x), .val (.ref y), .val (.ref y)] [.int 1])) := Steps.trans g18 (by
          refine XS.ifNo X18.here hexec rfl (hb hbytes d47) rfl (i0_eq_f (by decide)) ?_
          refine iconstV X18.here hexec rfl 1 (hb hbytes d50) (by decide) ?_
          refine XS.goto X18.here hexec rfl (pc0 := 51) rfl (hb hbytes d51) (by decide) rfl ?_
          exact Steps.refl _)
        exact ⟨T18, some (.int 1), _, _, _, X18, rfl, rfl, rfl, (fun h => by cases h), ⟨1, rfl, q18.trans hh16, Or.inl ⟨rfl, iff.mp he⟩⟩, fun fs hl => c19.trans (X18.ireturnOut hexec hret rfl (Or.inr (Or.inl rfl)) (hb hbytes d55) hl)⟩
      · have c19 : Steps p.tables e below (s₁.setTop (entryFrame m #[.ref x, .ref y] 3)) (T18.setTop (mkF m 55 #[.val (.ref x), .val (.ref y), .val (.ref y)] [.int 0])) := Steps.trans g18 (by
          refine XS.ifYes X18.here hexec rfl (pc0 := 47) rfl (hb hbytes d47) rfl (i0_eq_t rfl) (by decide) rfl ?_
          refine iconstV X18.here hexec rfl 0 (hb hbytes d54) (by decide) ?_
          exact Steps.refl _)
        exact ⟨T18, some (.int 0), _, _, _, X18, rfl, rfl, rfl, (fun h => by cases h), ⟨0, rfl, q18.trans hh16, Or.inr ⟨rfl, fun q => he (iff.mpr q)⟩⟩, fun fs hl => c19.trans (X18.ireturnOut hexec hret rfl (Or.inr (Or.inl rfl)) (hb hbytes d55) hl)⟩
    · have c13 : Steps p.tables e below (s₁.setTop (entryFrame m #[.ref x, .ref y] 3)) (T11.setTop (mkF m 55 #[.val (.ref x), .val (.ref y), .val (.ref y)] [.int 0])) := c12.trans (by
        refine XS.icmpYes X11.here hexec rfl (pc0 := 33) rfl (hb hbytes d33) rfl (ii_ne_t hcd) (by decide) rfl ?_
        refine iconstV X11.here hexec rfl 0 (hb hbytes d54) (by decide) ?_
        exact Steps.refl _)
      exact ⟨T11, some (.int 0), _, _, _, X11, rfl, rfl, rfl, (fun h => by cases h), ⟨0, rfl, hh11, Or.inr ⟨rfl, Cod.dif hx.2.2.2.2.1 hy.2.2.2.2.1 hcd⟩⟩, fun fs hl => c13.trans (X11.ireturnOut hexec hret rfl (Or.inr (Or.inl rfl)) (hb hbytes d55) hl)⟩
theorem pays {l : Launch} {R : Room} {p : Program} {e : Env} {below : List Frame} {s : State} {sargs : Array Value} {len W : Nat} (x t : Addr) (V : Cell) (cd : Int32) (n : Nat) (f : Nat → Int32) (y t' : Addr) (V' : Cell) (cd' : Int32) (k : Nat) (g : Nat → Int32) (z : Int32) (htab : tab.before sargs s = true) (hfr : 2 ≤ R.frames) (hlo : W + 28 ≤ R.locals) :
    Back l R p e below s sargs yN len W (fun A₁ a₁ => A₁.cells + 0 ≤ R.cells ∧ A₁.slots + 0 ≤ R.slots ∧ P x t V cd n f y t' V' cd' k g z a₁ A₁.U) (fun A₁ _ v₁ B₁ => Says01 (SameT n f k g) v₁ A₁.U B₁.U ∧ B₁.locs = A₁.locs ++ [] ∧ B₁.cells = A₁.cells + 0 ∧ B₁.slots = A₁.slots + 0) :=
  (law l x t V cd n f y t' V' cd' k g z).pays htab hfr (by omega)
end SEq
end StrChars
namespace StrChars.Road
open Jvm Sem ClassFile Op Lib Jvm.Stand Jvm.Free Jvm.Free.XT
open Jvm.Lib.Cold (StaticIs)
/-- the words of String.equals(Object) -/
abbrev wordsEq : List Jvm.Cond := [.code SEq.yN SEq.yB 3 (some .boolean), .initialized ST, .classLink ST 10 ST, .fieldLink ST 38 ST "COMPACT_STRINGS" "Z", .fieldLink ST 15 ST "coder" "B", .fieldLink ST 9 ST "value" "[B", .methodLink ST 541 LEq.yN, .static LEq.yN, .code LEq.yN LEq.yB 3 (some .boolean), .initialized "java/lang/StringLatin1"]
theorem tabEq_of {a : Array Value} {s : State} (h : ∀ w ∈ wordsEq, w.before a s = true) : SEq.tab.before a s = true := by
  have hl : LEq.tab.before a s = true := unparts (wk h (.code LEq.yN LEq.yB 3 (some .boolean))) (wks h (.initialized LEq.yN.cls :: LEq.site))
  have q := consq hl h
  exact unparts (wk q (.code SEq.yN SEq.yB 3 (some .boolean))) (wks q (.initialized SEq.yN.cls :: SEq.site))
theorem movedEq {Z s : State} {a0 args : Array Value} (hZ : Z.Warmed39 s.vm) (hw : ∀ d ∈ wordsEq, d.before a0 Z = true) : ∀ d ∈ wordsEq, d.before args s = true := fun d hd => by
  have t : ∀ d ∈ wordsEq, (d.onTables && d.keepsFace) = true := by decide +kernel
  exact RoadKit.mv hZ (hw d hd) (t d hd)
/-- the road's facts of a String, as the laws ask it -/
theorem txt_of {Z U : State} {a0 : Array Value} {kI : Nat} (wi : (Jvm.Cond.instantiable ST kI).before a0 Z = true) (al : Z.vm.Alike U.vm) {x t : Addr} {kb : ClassId} {cs : List Int32} {cd N2 : Int32} {vs : List Value} (E : RoadKit.Exa Z U.heap x ST) (V : RoadKit.Fld Z U.heap x ST "value" "[B" (.ref t)) (C : RoadKit.Fld Z U.heap x ST "coder" "B" (.int cd)) (K : RoadKit.Arv Z U.heap t kb .byte N2 vs (.int 0)) (hc : CodA cs cd N2 vs) (hb : ∀ c ∈ cs, ¬ c < 0 ∧ ¬ (65535 : Int32) < c) (l2 : cs.length ≤ 4000) :
    ∃ A, Txt x t A cd cs.length (fun j => cs.getD j 0) U := by
  obtain ⟨A, K1, K2, K3, K4, K5, K6⟩ := K
  have hcod := hc.cod (by omega) K3 K5
  obtain ⟨D, fV, fC, hB, F1, F2, g1, g2, -, -⟩ := strObj wi al E V C
  exact ⟨A, ⟨_, hB.2.2.1, D, hB.1, rfl, by cases q : D.vm <;> first | rfl | exact absurd q (hB.2.1.2 _)⟩, Has.of hB F1 g1, Has.of hB F2 g2, ⟨K1.1, State.isArrayOf_alike al K1.2.1, K1.2.2, by rcases hcod with ⟨-, q, -⟩ | ⟨-, q, -⟩ <;> omega⟩, hcod, fun j hj => by
    have e : cs.getD j 0 = cs[j] := by simp [List.getD_eq_getElem?_getD, hj]
    show ¬ cs.getD j 0 < 0 ∧ ¬ 65535 < cs.getD j 0
    rw [e]; exact hb _ (List.getElem_mem _)⟩
theorem same_list (cs ds : List Int32) : SameT cs.length (fun j => cs.getD j 0) ds.length (fun j => ds.getD j 0) ↔ cs = ds := by
  constructor
  · rintro ⟨e, q⟩
    refine List.ext_getElem e fun j h1 h2 => ?_
    have := q j h1
    simpa [List.getD_eq_getElem?_getD, h1, h2] using this
  · rintro rfl
    exact ⟨rfl, fun _ _ => rfl⟩
/-- **equals(Object) OF TWO SUCH STRINGS**: 1 just where the chars are the same -/
theorem eqW {p : Program} {l : Launch} {e : Env} {R : Room} {s : State} {args : Array Value} {below : List Frame} {len W : Nat} {Z : State} {a0 : Array Value} {h : Heap} (hZ : Z.Warmed39 s.vm) (hw : ∀ d ∈ wordsEq, d.before a0 Z = true) {kI : Nat} (wi : (Jvm.Cond.instantiable ST kI).before a0 Z = true)
    {x t : Addr} {kb : ClassId} {cs : List Int32} {cd N2 : Int32} {vs : List Value} (E : RoadKit.Exa Z h x ST) (V : RoadKit.Fld Z h x ST "value" "[B" (.ref t)) (C : RoadKit.Fld Z h x ST "coder" "B" (.int cd)) (K : RoadKit.Arv Z h t kb .byte N2 vs (.int 0)) (hc : CodA cs cd N2 vs) (hb : ∀ c ∈ cs, ¬ c < 0 ∧ ¬ (65535 : Int32) < c) (l2 : cs.length ≤ 4000)
    {y t' : Addr} {kb' : ClassId} {ds : List Int32} {cd' N2' : Int32} {vs' : List Value} (E' : RoadKit.Exa Z h y ST) (V' : RoadKit.Fld Z h y ST "value" "[B" (.ref t')) (C' : RoadKit.Fld Z h y ST "coder" "B" (.int cd')) (K' : RoadKit.Arv Z h t' kb' .byte N2' vs' (.int 0)) (hc' : CodA ds cd' N2' vs') (hb' : ∀ c ∈ ds, ¬ c < 0 ∧ ¬ (65535 : Int32) < c) (l2' : ds.length ≤ 4000)
    {z : Int32} (S : RoadKit.Sta Z h ST "COMPACT_STRINGS" "Z" (.int z)) (hz : ¬ z = 0) (hfr : 2 ≤ R.frames) (hlo : W + 28 ≤ R.locals) :
    Back l R p e below s args (⟨"java/lang/String", "equals", "(Ljava/lang/Object;)Z"⟩ : MethodName) len W (fun P a => a = #[.ref x, .ref y] ∧ P.U.heap = h ∧ P.cells + 0 ≤ R.cells ∧ P.slots + 0 ≤ R.slots)
      (fun P _ v B => ∃ L, (((v = some (.int 1) ∧ cs = ds) ∨ (v = some (.int 0) ∧ ¬ cs = ds)) ∧ L = [] ∧ B.U.heap = h) ∧ B.locs = P.locs ++ L ∧ B.cells = P.cells + 0 ∧ B.slots = P.slots + 0) := by
  intro m meth c P g ig mk a X hg hsize hdg hW hn hp'
  obtain ⟨rfl, rfl, r1, r2⟩ := hp'
  have al : Z.vm.Alike P.U.vm := hZ.alike.trans X.warmed.alike
  obtain ⟨A, hx⟩ := txt_of wi al E V C K hc hb l2
  obtain ⟨A', hy⟩ := txt_of wi al E' V' C' K' hc' hb' l2'
  obtain ⟨v, B, X', ⟨⟨w, hv, hh, hq⟩, hl, hk, hs⟩, st⟩ := SEq.pays x t A cd cs.length (fun j => cs.getD j 0) y t' A' cd' ds.length (fun j => ds.getD j 0) z (tabEq_of (movedEq hZ hw)) hfr hlo m meth c P g ig mk _ X hg hsize hdg hW hn ⟨r1, r2, rfl, hx, hy, sta_is al S, hz⟩
  refine ⟨v, B, X', ⟨[], ⟨?_, rfl, hh⟩, hl, hk, hs⟩, st⟩
  rcases hq with ⟨rfl, q⟩ | ⟨rfl, q⟩
  · exact Or.inl ⟨hv, (same_list cs ds).mp q⟩
  · exact Or.inr ⟨hv, fun e => q ((same_list cs ds).mpr e)⟩
end StrChars.Road
namespace StrChars.Road
open Jvm Sem ClassFile Op Lib Jvm.Stand Jvm.Free Jvm.Free.XT
open Jvm.Lib.Cold (StaticIs)
/-- what backV says of its String, as the contracts of this text ask it: cs's low bytes, coder 0 -/
theorem codOf {cs : List Int32} {n : Nat} (hn : cs.length = n) (hb : ∀ c ∈ cs, ¬ 255 < c) : CodA cs 0 (Int32.ofNat n) ((cs.map lo8).map Value.int) := Or.inl ⟨rfl, by rw [hn], by simp [List.map_map, Function.comp_def], hb⟩
end StrChars.Road
end Jvm.Pilot.@@N@@
namespace Jvm.Pilot.@@N@@
open Jvm Jvm.ClassFile Sem Op Lib Jvm.Free Jvm.Stand Jvm.LawKit Jvm.RoadKit Bundle Jvm.Own Jvm.Pilot.@@N@@.Jvm.D
abbrev ST : String := "java/lang/String"
abbrev EL0 : List (String × Nat) := consts_1
/-- x is a String of the chars cs -/
def Str (Z : State) (h : Heap) (x : Addr) (cs : List Int32) : Prop := ∃ (t : Addr) (kb : ClassId) (cd N2 : Int32) (vs : List Value), Exa Z h x ST ∧ Fld Z h x ST "value" "[B" (.ref t) ∧ Fld Z h x ST "coder" "B" (.int cd) ∧ Arv Z h t kb .byte N2 vs (.int 0) ∧
  StrChars.Road.CodA cs cd N2 vs ∧ (∀ c ∈ cs, ¬ c < 0 ∧ ¬ (65535 : Int32) < c) ∧ cs.length ≤ 4000
section S
variable {Z : State} {h h' : Heap} {x a : Addr} {cs ds : List Int32} {C : String} {n : Nat} {a0 : Array Value} {p : Program} {l : Launch} {e : Env} {R : Room} {s : State} {args : Array Value} {below : List Frame} {W : Nat} {z : Int32}
theorem Str.ext (S : Str Z h x cs) (E : Ext h h') : Str Z h' x cs := by
  obtain ⟨t, kb, cd, N2, vs, h1, h2, h3, h4, h5⟩ := S
  exact ⟨t, kb, cd, N2, vs, h1.ext E, h2.ext E, h3.ext E, h4.ext E, h5⟩
theorem Str.exa (S : Str Z h x cs) : Exa Z h x ST := by
  obtain ⟨t, kb, cd, N2, vs, h1, h2, h3, h4, h5⟩ := S
  exact h1
/-- nothing but an object of another class is written -/
theorem Str.keepE (S : Str Z h x cs) (K : Keep h h' [a]) (E : Exa Z h a C) (hC : C ≠ ST) (wi : (Cond.instantiable C n).before a0 Z = true) : Str Z h' x cs := by
  obtain ⟨t, kb, cd, N2, vs, h1, h2, h3, h4, h5⟩ := S
  have q1 : x ≠ a := (ne_exa E h1 hC).symm
  have q2 : t ≠ a := (Exa.neArv E h4 wi).symm
  exact ⟨t, kb, cd, N2, vs, h1.keep K, h2.keep K (ninS q1 nin0), h3.keep K (ninS q1 nin0), h4.keep K (ninS q2 nin0), h5⟩
/-- the statics of String, as the sheet says them -/
def Stat (Z : State) (z : Int32) : Prop := Sta Z Z.heap ST "COMPACT_STRINGS" "Z" (.int z) ∧ ¬ z = 0
end S
end Jvm.Pilot.@@N@@
namespace Jvm.Pilot.@@N@@
open Jvm Jvm.ClassFile Sem Op Lib Jvm.Free Jvm.Stand Jvm.LawKit Jvm.RoadKit Bundle Jvm.Own Jvm.Pilot.@@N@@.Jvm.D
theorem own_le {Z : State} {n0 : Nat} {h : Heap} (O : Old Z n0 h) : n0 ≤ h.size := O.1 ▸ O.2.1
theorem own_nc (x : Int32) : narrow .char (.int x.toUInt32.toUInt16.toUInt32.toInt32) = .int x.toUInt32.toUInt16.toUInt32.toInt32 := Jvm.Free.XT.narrow_c x
theorem own_nar (x : Int32) : nar .char x.toUInt32.toUInt16.toUInt32.toInt32 = x.toUInt32.toUInt16.toUInt32.toInt32 := by simp only [nar, UInt32.toUInt32_toInt32, UInt16.toUInt16_toUInt32]
theorem own_EW {Z : State} {a0 : Array Value} (hw : ∀ d ∈ tables_1, d.before a0 Z = true) : EW Z a0 EL0 := EW.cons (text := "") (hw _ (List.mem_of_getElem? (i := 18) rfl)) (by simp) EW.nil
theorem own_atoms : ∀ d ∈ Bundle.stringAtoms, d ∈ tables_1 := by decide +kernel
theorem own_wS {Z : State} {a0 : Array Value} (hw : ∀ d ∈ tables_1, d.before a0 Z = true) : ∀ d ∈ Bundle.stringAtoms, d.before a0 Z = true := fun d hd => hw d (own_atoms d hd)
def QS (Z : State) (x : Addr) (cs : List Int32) (n0 : Nat) (h0 : Heap) (v : Option Value) (h : Heap) (L : List Loc) : Prop := v = none ∧ Fr n0 L ∧ Keep h0 h [x] ∧ Str Z h x cs
theorem d3_0 : decode jdk_42_method_149_code 0 = .ok (.aload_n 0, 1) := by decide +kernel
theorem d3_1 : decode jdk_42_method_149_code 1 = .ok (.invokespecial 1, 3) := by decide +kernel
theorem d3_4 : decode jdk_42_method_149_code 4 = .ok (.iload_n 3, 1) := by decide +kernel
theorem d3_5 : decode jdk_42_method_149_code 5 = .ok (.ifCond .ne 22, 3) := by decide +kernel
theorem d3_8 : decode jdk_42_method_149_code 8 = .ok (.aload_n 0, 1) := by decide +kernel
theorem d3_9 : decode jdk_42_method_149_code 9 = .ok (.ldc 7, 2) := by decide +kernel
theorem d3_11 : decode jdk_42_method_149_code 11 = .ok (.getfield 9, 3) := by decide +kernel
theorem d3_14 : decode jdk_42_method_149_code 14 = .ok (.putfield 9, 3) := by decide +kernel
theorem d3_17 : decode jdk_42_method_149_code 17 = .ok (.aload_n 0, 1) := by decide +kernel
theorem d3_18 : decode jdk_42_method_149_code 18 = .ok (.ldc 7, 2) := by decide +kernel
theorem d3_20 : decode jdk_42_method_149_code 20 = .ok (.getfield 15, 3) := by decide +kernel
theorem d3_23 : decode jdk_42_method_149_code 23 = .ok (.putfield 15, 3) := by decide +kernel
theorem d3_26 : decode jdk_42_method_149_code 26 = .ok (.return_, 1) := by decide +kernel
theorem pn_0 : plainName "java/lang/String" = true := by first | (simp [plainName, overriddenIn]; done) | decide +kernel
theorem ef_AAIIN_6 (m : MethodId) (y0 : Addr) (y1 : Addr) (y2 : Int32) (y3 : Int32) : entryFrame m #[(.ref y0), (.ref y1), (.int y2), (.int y3), .null] 6 = mkF m 0 #[.val (.ref y0), .val (.ref y1), .val (.int y2), .val (.int y3), .val .null, .unset] [] := by first | (simp [entryFrame, mkF, argsToLocals, Value.category]; done) | rfl
set_option maxRecDepth 65536 in
set_option maxHeartbeats 40000000 in
theorem met_new4e (l : Launch) (Z : State) (a0 : Array Value) (hw : ∀ d ∈ tables_1, d.before a0 Z = true) (ws : List Jvm.Cond) (n0 : Nat) (x b : Addr) (h0 : Heap) (O : Old Z n0 h0) (ge_x : n0 ≤ x) (A_x : Exa Z h0 x ST) (F_x_value : Fld Z h0 x ST "value" "[B" .null) (F_x_coder : Fld Z h0 x ST "coder" "B" (.int (0 : Int32))) :
    MetFree l (⟨"java/lang/String", "<init>", "([CIILjava/lang/Void;)V"⟩ : MethodName) (head1 (Jvm.Cond.code (⟨"java/lang/String", "<init>", "([CIILjava/lang/Void;)V"⟩ : MethodName) jdk_42_method_149_code 6 none :: ws) ({ frames := 1, cells := 4, slots := 8, locals := 12 } : Room)) (fun a U => a = #[(.ref x), (.ref b), (.int (0 : Int32)), (.int (0 : Int32)), .null] ∧ Z.Warmed39 U.vm ∧ U.heap = h0 ∧ CHv Z EL0 U.vm h0) (fun _ _ _ _ _ => True) (fun _ U o U' => ∃ v L, o = .returned v ∧ QS Z x [] n0 h0 v U'.heap L ∧ CHr Z EL0 U.vm U.heap U'.vm U'.heap ∧ ReturnedEndW U o U' L ({ frames := 1, cells := 4, slots := 8, locals := 12 } : Room).cells ({ frames := 1, cells := 4, slots := 8, locals := 12 } : Room).slots) := by
  refine openH (y := (⟨"java/lang/String", "<init>", "([CIILjava/lang/Void;)V"⟩ : MethodName)) pn_0 ?_
  intro p e s m below meth c T vm hx hby hml hret hlk hnm hZ hown X hT H
  have hEL := own_EW hw
  refine Go.st (fun _ k => castTop (ef_AAIIN_6 m x b (0 : Int32) (0 : Int32)) k) ?_
  show Go p e below _ (T.setTop (mkF m 0 #[.val (.ref x), .val (.ref b), .val (.int (0 : Int32)), .val (.int (0 : Int32)), .val .null, .unset] []))
  have N := Fr.nil n0
  have Sf_x : Safe Z EL0 vm h0 x := Safe.blank hZ.alike A_x F_x_value
  refine Go.st (fun _ k => XS.aloadN X.here hx rfl (hb hby d3_0) rfl rfl k) ?_
  show Go p e below _ (T.setTop (mkF m 1 #[.val (.ref x), .val (.ref b), .val (.int (0 : Int32)), .val (.int (0 : Int32)), .val .null, .unset] [(.ref x)]))
  obtain ⟨T, X, hT, st⟩ := initO X hx hZ hown (hw _ (List.mem_of_getElem? (i := 15) rfl)) (hw _ (List.mem_of_getElem? (i := 16) rfl)) (hw _ (List.mem_of_getElem? (i := 17) rfl)) hT (g := (mkF m 1 #[.val (.ref x), .val (.ref b), .val (.int (0 : Int32)), .val (.int (0 : Int32)), .val .null, .unset] [(.ref x)])) rfl (by rw [hml]; rfl) rfl (hb hby d3_1) (by decide) (W := 0) (by show 2 * 0 + _ ≤ _; exact Nat.le_of_ble_eq_true rfl) (by decide)
  refine Go.st st ?_
  show Go p e below _ (T.setTop (mkF m 4 #[.val (.ref x), .val (.ref b), .val (.int (0 : Int32)), .val (.int (0 : Int32)), .val .null, .unset] []))
  refine Go.st (fun _ k => XS.iloadN X.here hx rfl (hb hby d3_4) rfl k) ?_
  show Go p e below _ (T.setTop (mkF m 5 #[.val (.ref x), .val (.ref b), .val (.int (0 : Int32)), .val (.int (0 : Int32)), .val .null, .unset] [(.int (0 : Int32))]))
  refine Go.st (fun _ k => XS.ifNo X.here hx rfl (hb hby d3_5) rfl (Jvm.Free.XT.i0_ne_f (by decide : (0 : Int32) = (0 : Int32))) k) ?_
  show Go p e below _ (T.setTop (mkF m 8 #[.val (.ref x), .val (.ref b), .val (.int (0 : Int32)), .val (.int (0 : Int32)), .val .null, .unset] []))
  refine Go.st (fun _ k => XS.aloadN X.here hx rfl (hb hby d3_8) rfl rfl k) ?_
  show Go p e below _ (T.setTop (mkF m 9 #[.val (.ref x), .val (.ref b), .val (.int (0 : Int32)), .val (.int (0 : Int32)), .val .null, .unset] [(.ref x)]))
  refine Go.ldcS (text := "") (vs := []) (z := (0 : Int32)) (n := 0) H X hx hZ hown hT (hw _ (List.mem_of_getElem? (i := 18) rfl)) (own_wS hw) hEL (List.mem_of_getElem? (i := 0) rfl) ⟨by simp, by simp⟩ (by decide) (by decide) (hb hby d3_9) (by decide) (by decide) (by decide) (by decide) ?_
  intro r1 T h1 vm b_r1 k_r1 hT Ex0 hZ hown H Rc LE LC LV LA X
  have Sf_x := Rc.safe A_x.lt Sf_x
  have A_x := A_x.ext Ex0
  have F_x_value := F_x_value.ext Ex0
  have F_x_coder := F_x_coder.ext Ex0
  have KB := (Keep.refl h0 [x]).ext Ex0
  have LE_r1 := LE
  have LC_r1 := LC
  have LV_r1 := LV
  have LA_r1 := LA
  have ne_x_r1 : x ≠ b_r1 := Exa.neArv A_x LA_r1 (hw _ (List.mem_of_getElem? (i := 5) rfl))
  show Go p e below _ (T.setTop (mkF m 11 #[.val (.ref x), .val (.ref b), .val (.int (0 : Int32)), .val (.int (0 : Int32)), .val .null, .unset] [(.ref r1), (.ref x)]))
  obtain ⟨T, X, hT, st⟩ := getF X hx hZ hown (host := "") (Or.inl (hw _ (List.mem_of_getElem? (i := 24) rfl))) Via.refl hT LV_r1 (g := (mkF m 11 #[.val (.ref x), .val (.ref b), .val (.int (0 : Int32)), .val (.int (0 : Int32)), .val .null, .unset] [(.ref r1), (.ref x)])) rfl rfl (hb hby d3_11)
  refine Go.st st ?_
  show Go p e below _ (T.setTop (mkF m 14 #[.val (.ref x), .val (.ref b), .val (.int (0 : Int32)), .val (.int (0 : Int32)), .val .null, .unset] [(.ref b_r1), (.ref x)]))
  obtain ⟨T, h2, X, hT, Wr0, st⟩ := putF X hx hZ hown (host := "") (Or.inl (hw _ (List.mem_of_getElem? (i := 24) rfl))) Via.refl hT F_x_value A_x (Or.inr ⟨(hw _ (List.mem_of_getElem? (i := 20) rfl)), rfl, hnm⟩) (hw _ (List.mem_of_getElem? (i := 5) rfl)) (ty := (.array .byte)) (by decide) rfl rfl (g := (mkF m 14 #[.val (.ref x), .val (.ref b), .val (.int (0 : Int32)), .val (.int (0 : Int32)), .val .null, .unset] [(.ref b_r1), (.ref x)])) rfl rfl (hb hby d3_14)
  refine Go.st st ?_
  have N := Fr.snoc X N ge_x
  have Sf0 := Sf_x
  have Sf_x := Safe.wr Wr0 Sf0 H.2.1 Sf0
  have H := H.wr Wr0 Sf0
  have A_x := A_x.wr Wr0
  have F_x_value := F_x_value.same Wr0
  have F_x_coder := F_x_coder.other Wr0 (Or.inr (slot_ne (C := "java/lang/String") (Or.inr (hw _ (List.mem_of_getElem? (i := 21) rfl))) (Or.inr (hw _ (List.mem_of_getElem? (i := 20) rfl))) (by decide) (t := .byte) (by decide) (t' := (.array .byte)) (by decide)))
  have LA_r1 := LA_r1.other Wr0 ne_x_r1.symm
  have KB := (KB).wr Wr0 (Or.inl (List.mem_of_getElem? (i := 0) rfl))
  show Go p e below _ (T.setTop (mkF m 17 #[.val (.ref x), .val (.ref b), .val (.int (0 : Int32)), .val (.int (0 : Int32)), .val .null, .unset] []))
  refine Go.st (fun _ k => XS.aloadN X.here hx rfl (hb hby d3_17) rfl rfl k) ?_
  show Go p e below _ (T.setTop (mkF m 18 #[.val (.ref x), .val (.ref b), .val (.int (0 : Int32)), .val (.int (0 : Int32)), .val .null, .unset] [(.ref x)]))
  refine Go.ldcS (text := "") (vs := []) (z := (0 : Int32)) (n := 0) H X hx hZ hown hT (hw _ (List.mem_of_getElem? (i := 18) rfl)) (own_wS hw) hEL (List.mem_of_getElem? (i := 0) rfl) ⟨by simp, by simp⟩ (by decide) (by decide) (hb hby d3_18) (by decide) (by decide) (by decide) (by decide) ?_
  intro r2 T h3 vm b_r2 k_r2 hT Ex0 hZ hown H Rc LE LC LV LA X
  have Sf_x := Rc.safe A_x.lt Sf_x
  have A_x := A_x.ext Ex0
  have F_x_value := F_x_value.ext Ex0
  have F_x_coder := F_x_coder.ext Ex0
  have LA_r1 := LA_r1.ext Ex0
  have KB := (KB).ext Ex0
  have LE_r2 := LE
  have LC_r2 := LC
  have LV_r2 := LV
  have LA_r2 := LA
  have ne_x_r2 : x ≠ b_r2 := Exa.neArv A_x LA_r2 (hw _ (List.mem_of_getElem? (i := 5) rfl))
  show Go p e below _ (T.setTop (mkF m 20 #[.val (.ref x), .val (.ref b), .val (.int (0 : Int32)), .val (.int (0 : Int32)), .val .null, .unset] [(.ref r2), (.ref x)]))
  obtain ⟨T, X, hT, st⟩ := getF X hx hZ hown (host := "") (Or.inl (hw _ (List.mem_of_getElem? (i := 25) rfl))) Via.refl hT LC_r2 (g := (mkF m 20 #[.val (.ref x), .val (.ref b), .val (.int (0 : Int32)), .val (.int (0 : Int32)), .val .null, .unset] [(.ref r2), (.ref x)])) rfl rfl (hb hby d3_20)
  refine Go.st st ?_
  show Go p e below _ (T.setTop (mkF m 23 #[.val (.ref x), .val (.ref b), .val (.int (0 : Int32)), .val (.int (0 : Int32)), .val .null, .unset] [(.int (0 : Int32)), (.ref x)]))
  obtain ⟨T, h4, X, hT, Wr0, st⟩ := putF X hx hZ hown (host := "") (Or.inl (hw _ (List.mem_of_getElem? (i := 25) rfl))) Via.refl hT F_x_coder A_x (Or.inr ⟨(hw _ (List.mem_of_getElem? (i := 21) rfl)), rfl, hnm⟩) (hw _ (List.mem_of_getElem? (i := 5) rfl)) (ty := .byte) (by decide) rfl rfl (g := (mkF m 23 #[.val (.ref x), .val (.ref b), .val (.int (0 : Int32)), .val (.int (0 : Int32)), .val .null, .unset] [(.int (0 : Int32)), (.ref x)])) rfl rfl (hb hby d3_23)
  refine Go.st st ?_
  have N := Fr.snoc X N ge_x
  have Sf0 := Sf_x
  have Sf_x := Safe.wr Wr0 Sf0 H.2.1 Sf0
  have H := H.wr Wr0 Sf0
  have A_x := A_x.wr Wr0
  have F_x_value := F_x_value.other Wr0 (Or.inr (slot_ne (C := "java/lang/String") (Or.inr (hw _ (List.mem_of_getElem? (i := 20) rfl))) (Or.inr (hw _ (List.mem_of_getElem? (i := 21) rfl))) (by decide) (t := (.array .byte)) (by decide) (t' := .byte) (by decide)))
  have F_x_coder := F_x_coder.same Wr0
  have LA_r1 := LA_r1.other Wr0 ne_x_r1.symm
  have LA_r2 := LA_r2.other Wr0 ne_x_r2.symm
  have KB := (KB).wr Wr0 (Or.inl (List.mem_of_getElem? (i := 0) rfl))
  show Go p e below _ (T.setTop (mkF m 26 #[.val (.ref x), .val (.ref b), .val (.int (0 : Int32)), .val (.int (0 : Int32)), .val .null, .unset] []))
  refine Go.retVH hEL H hZ X hx hlk hT hret (hb hby d3_26) (by decide) (by decide) ?_
  exact ⟨rfl, N, KB, b_r1, k_r1, (0 : Int32), (0 : Int32), [], A_x, F_x_value, F_x_coder, LA_r1, Or.inl ⟨rfl, rfl, rfl, (fun _ q => nomatch q)⟩, (fun _ q => nomatch q), Nat.zero_le _⟩
theorem pd_0 : parseMethodDescriptor "([CIILjava/lang/Void;)V" = some ⟨[(.array .char), .int, .int, (.object "java/lang/Void")], none⟩ := by decide +kernel
theorem d2_0 : decode jdk_42_method_3_code 0 = .ok (.aload_n 0, 1) := by decide +kernel
theorem d2_1 : decode jdk_42_method_3_code 1 = .ok (.aload_n 1, 1) := by decide +kernel
theorem d2_2 : decode jdk_42_method_3_code 2 = .ok (.iconst 0, 1) := by decide +kernel
theorem d2_3 : decode jdk_42_method_3_code 3 = .ok (.aload_n 1, 1) := by decide +kernel
theorem d2_4 : decode jdk_42_method_3_code 4 = .ok (.arraylength, 1) := by decide +kernel
theorem d2_5 : decode jdk_42_method_3_code 5 = .ok (.aconst_null, 1) := by decide +kernel
theorem d2_6 : decode jdk_42_method_3_code 6 = .ok (.invokespecial 27, 3) := by decide +kernel
theorem d2_9 : decode jdk_42_method_3_code 9 = .ok (.return_, 1) := by decide +kernel
theorem ef_AA_2 (m : MethodId) (y0 : Addr) (y1 : Addr) : entryFrame m #[(.ref y0), (.ref y1)] 2 = mkF m 0 #[.val (.ref y0), .val (.ref y1)] [] := by first | (simp [entryFrame, mkF, argsToLocals, Value.category]; done) | rfl
set_option maxRecDepth 65536 in
set_option maxHeartbeats 40000000 in
theorem met_new1e (l : Launch) (Z : State) (a0 : Array Value) (hw : ∀ d ∈ tables_1, d.before a0 Z = true) (ws : List Jvm.Cond) (n0 : Nat) (x b : Addr) (kC : ClassId) (h0 : Heap) (O : Old Z n0 h0) (ge_x : n0 ≤ x) (A_x : Exa Z h0 x ST) (F_x_value : Fld Z h0 x ST "value" "[B" .null) (F_x_coder : Fld Z h0 x ST "coder" "B" (.int (0 : Int32))) (Kb : Arv Z h0 b kC .char (0 : Int32) [] (.int 0)) :
    MetFree l (⟨"java/lang/String", "<init>", "([C)V"⟩ : MethodName) (head1 (Jvm.Cond.code (⟨"java/lang/String", "<init>", "([C)V"⟩ : MethodName) jdk_42_method_3_code 2 none :: ws) ({ frames := 2, cells := 4, slots := 8, locals := 29 } : Room)) (fun a U => a = #[(.ref x), (.ref b)] ∧ Z.Warmed39 U.vm ∧ U.heap = h0 ∧ CHv Z EL0 U.vm h0) (fun _ _ _ _ _ => True) (fun _ U o U' => ∃ v L, o = .returned v ∧ QS Z x [] n0 h0 v U'.heap L ∧ CHr Z EL0 U.vm U.heap U'.vm U'.heap ∧ ReturnedEndW U o U' L ({ frames := 2, cells := 4, slots := 8, locals := 29 } : Room).cells ({ frames := 2, cells := 4, slots := 8, locals := 29 } : Room).slots) := by
  refine openH (y := (⟨"java/lang/String", "<init>", "([C)V"⟩ : MethodName)) pn_0 ?_
  intro p e s m below meth c T vm hx hby hml hret hlk hnm hZ hown X hT H
  have hEL := own_EW hw
  refine Go.st (fun _ k => castTop (ef_AA_2 m x b) k) ?_
  show Go p e below _ (T.setTop (mkF m 0 #[.val (.ref x), .val (.ref b)] []))
  refine Go.st (fun _ k => XS.aloadN X.here hx rfl (hb hby d2_0) rfl rfl k) ?_
  show Go p e below _ (T.setTop (mkF m 1 #[.val (.ref x), .val (.ref b)] [(.ref x)]))
  refine Go.st (fun _ k => XS.aloadN X.here hx rfl (hb hby d2_1) rfl rfl k) ?_
  show Go p e below _ (T.setTop (mkF m 2 #[.val (.ref x), .val (.ref b)] [(.ref b), (.ref x)]))
  refine Go.st (fun _ k => XS.iconst X.here hx rfl (hb hby d2_2) k) ?_
  show Go p e below _ (T.setTop (mkF m 3 #[.val (.ref x), .val (.ref b)] [(.int (0 : Int32)), (.ref b), (.ref x)]))
  refine Go.st (fun _ k => XS.aloadN X.here hx rfl (hb hby d2_3) rfl rfl k) ?_
  show Go p e below _ (T.setTop (mkF m 4 #[.val (.ref x), .val (.ref b)] [(.ref b), (.int (0 : Int32)), (.ref b), (.ref x)]))
  obtain ⟨cl0, Ar0, q0, S0, M0, H0, U0⟩ := id Kb
  refine Go.st (fun _ k => X.arraylength hx (by rw [hT]; exact Ar0.1) (State.isArrayOf_alike hZ.alike Ar0.2.1) (g := (mkF m 4 #[.val (.ref x), .val (.ref b)] [(.ref b), (.int (0 : Int32)), (.ref b), (.ref x)])) rfl rfl (hb hby d2_4) _ k) ?_
  rw [len_of S0 M0]
  show Go p e below _ (T.setTop (mkF m 5 #[.val (.ref x), .val (.ref b)] [(.int (0 : Int32)), (.int (0 : Int32)), (.ref b), (.ref x)]))
  refine Go.st (fun _ k => XS.aconstNull X.here hx rfl (hb hby d2_5) k) ?_
  show Go p e below _ (T.setTop (mkF m 6 #[.val (.ref x), .val (.ref b)] [.null, (.int (0 : Int32)), (.int (0 : Int32)), (.ref b), (.ref x)]))
  refine Go.specH (argsL := [(.ref b), (.int (0 : Int32)), (.int (0 : Int32)), .null]) (rest := []) (W := 0) (ck := 4) (sk := 8) H X hx hZ hown (hml.trans rfl) hT rfl (hw _ (List.mem_of_getElem? (i := 11) rfl)) (hw _ (List.mem_of_getElem? (i := 12) rfl)) (hw _ (List.mem_of_getElem? (i := 14) rfl)) (by decide) pd_0 rfl rfl (Nat.le_of_ble_eq_true rfl) (hb hby d2_6) (backOfSH (W := 0) (met_new4e l Z a0 hw [] n0 x b _ O ge_x A_x F_x_value F_x_coder) hZ (hw _ (List.mem_of_getElem? (i := 14) rfl)) (hw _ (List.mem_of_getElem? (i := 6) rfl)) (by decide) (by decide) hEL H.2.1) (by decide) (by decide) ?_
  intro v T h1 L vm hT hQ hZ hown H Rc X
  obtain ⟨rfl, N, KB, S⟩ := hQ
  show Go p e below _ (T.setTop (mkF m 9 #[.val (.ref x), .val (.ref b)] []))
  refine Go.retVH hEL H hZ X hx hlk hT hret (hb hby d2_9) (by decide) (by decide) ?_
  exact ⟨rfl, N, KB, S⟩
theorem own_words : ∀ d ∈ StrChars.Road.words, d ∈ tables_1 := by decide +kernel
theorem pd_1 : parseMethodDescriptor "([C)V" = some ⟨[(.array .char)], none⟩ := by decide +kernel
set_option maxHeartbeats 4000000 in
theorem Go.newS {p : Program} {l : Launch} {e : Env} {R : Room} {s : State} {m : MethodId} {args : Array Value} {below : List Frame} {meth : Method} {c : Code} {T : State} {locs : List Loc} {cells slots : Nat} {Φ : Outcome → State → Prop} {Z : State} {a0 : Array Value} {h : Heap} {vm : Vm} {own : String} {index W pc n n0 : Nat} {Ls : Array Slot} {rest : List Value} {x b : Addr} {kC : ClassId} {cs : List Int32} {N z : Int32}
    (hw : ∀ d ∈ tables_1, d.before a0 Z = true) (H : HW Z EL0 s vm h) (X : Stand p l e R (s.setVm vm) m args below meth c T locs cells slots) (hx : p.tables.exec = Jvm.exec) (hZ : Z.Warmed39 vm) (hown : vm.findClass own = some m.cls) (hml : c.maxLocals = Ls.size) (hT : T.heap = h)
    (w1 : (Cond.methodLink own index (⟨"java/lang/String", "<init>", "([C)V"⟩ : MethodName)).before a0 Z = true) (hd : decode c.code pc = .ok (.invokespecial index, 3))
    (O : Old Z n0 h) (ge_x : n0 ≤ x) (Sc : Stat Z z) (E : Exa Z h x ST) (V : Fld Z h x ST "value" "[B" .null) (C : Fld Z h x ST "coder" "B" (.int (0 : Int32))) (K : Arv Z h b kC .char N (cs.map Value.int) (.int (0 : Int32))) (hN : N = Int32.ofNat cs.length) (hn : cs.length ≤ n) (hn4 : n ≤ 4000)
    (hp : ∀ c ∈ cs, ¬ c < 0 ∧ ¬ (255 : Int32) < c) (hW : (rest.map fun v => v.category).sum ≤ W) (hfr : 4 ≤ R.frames) (hlo : W + 65 ≤ R.locals) (hc : cells + 4 ≤ R.cells) (hs : slots + (n + 8) ≤ R.slots)
    (k : ∀ (T' : State) (h' : Heap) (L : List Loc) (vm' : Vm), T'.heap = h' → Fr n0 L → Keep h h' [x] → Str Z h' x cs → Z.Warmed39 vm' → vm'.findClass own = some m.cls → HW Z EL0 s vm' h' → Stand p l e R (s.setVm vm') m args below meth c T' (locs ++ L) (cells + 4) (slots + (n + 8)) → Go p e below Φ (T'.setTop (mkF m (pc + 3) Ls rest))) :
    Go p e below Φ (T.setTop (mkF m pc Ls (.ref b :: .ref x :: rest))) := by
  have hEL : EW Z a0 EL0 := own_EW hw
  cases cs with
  | nil =>
    subst hN
    refine Go.specH (argsL := [.ref b]) (rest := rest) (W := W) (ck := 4) (sk := 8) H X hx hZ hown hml hT rfl w1 (hw _ (List.mem_of_getElem? (i := 9) rfl)) (hw _ (List.mem_of_getElem? (i := 10) rfl)) (by decide) pd_1 rfl rfl hW hd (backOfSH (W := W) (met_new1e l Z a0 hw [] n0 x b kC _ O ge_x E V C K) hZ (hw _ (List.mem_of_getElem? (i := 10) rfl)) (hw _ (List.mem_of_getElem? (i := 6) rfl)) (by show 2 + 1 ≤ _; omega) (by show W + (2 + 11) + 29 ≤ _; omega) hEL H.2.1) (by omega) (by omega) ?_
    intro v T' h' L vm' hT' hQ hZ' hown' H' Rc X'
    obtain ⟨rfl, N', K', S'⟩ := hQ
    exact k T' h' L vm' hT' N' K' S' hZ' hown' H' (X'.mono (by omega) (by omega))
  | cons c0 cs =>
    have hws : ∀ d ∈ StrChars.Road.words, d.before a0 Z = true := fun d hd => hw d (own_words d hd)
    refine Go.specP (argsL := [.ref b]) (rest := rest) (W := W) (ck := 1) (sk := (c0 :: cs).length) X hx hZ hown hml hT rfl w1 (hw _ (List.mem_of_getElem? (i := 9) rfl)) (hw _ (List.mem_of_getElem? (i := 10) rfl)) (by decide) pd_1 rfl rfl hW hd (StrChars.Road.backV (W := W) hZ hws (kI := 4) (hw _ (List.mem_of_getElem? (i := 5) rfl)) (cs := c0 :: cs) (n := (c0 :: cs).length) ge_x (own_le O) E V C K (Sc.1.ext O.2) Sc.2 rfl hN (Nat.succ_pos _) (Nat.le_trans hn hn4) hp rfl hfr hlo) (by omega) (by omega) ?_
    intro v T' h' L hT' hQ X'
    obtain ⟨rfl, N', K', E', C', t, kb, u1, u2, u3, V', A'⟩ := hQ
    have Sf : Safe Z EL0 vm h x := Safe.blank hZ.alike E V
    refine k T' h' L vm hT' N' K' ⟨t, kb, 0, N, _, E', V', C', A', ?_, fun c hc => ⟨(hp c hc).1, fun q => (hp c hc).2 (Int32.lt_trans (by decide) q)⟩, Nat.le_trans hn hn4⟩ hZ hown (H.keep K' (sfS Sf sf0)) (X'.mono (by omega) (by omega))
    rw [hN]
    exact StrChars.Road.codOf rfl (fun c hc => (hp c hc).2)
def QStr (Z : State) (n0 : Nat) (cs : List Int32) (h0 : Heap) (v : Option Value) (h : Heap) (L : List Loc) : Prop := ∃ r, v = some (.ref r) ∧ Fr n0 L ∧ Ext h0 h ∧ Str Z h r cs
def f_canenc (ch : Int32) : Int32 := (if (255 : Int32) < ch then (0 : Int32) else (1 : Int32))
theorem d9_0 : decode jdk_43_method_3_code 0 = .ok (.iload_n 0, 1) := by decide +kernel
theorem d9_1 : decode jdk_43_method_3_code 1 = .ok (.sipush 255, 3) := by decide +kernel
theorem d9_4 : decode jdk_43_method_3_code 4 = .ok (.if_icmp .gt 7, 3) := by decide +kernel
theorem d9_7 : decode jdk_43_method_3_code 7 = .ok (.iconst 1, 1) := by decide +kernel
theorem d9_8 : decode jdk_43_method_3_code 8 = .ok (.goto 4, 3) := by decide +kernel
theorem d9_11 : decode jdk_43_method_3_code 11 = .ok (.iconst 0, 1) := by decide +kernel
theorem d9_12 : decode jdk_43_method_3_code 12 = .ok (.ireturn, 1) := by decide +kernel
theorem pn_1 : plainName "java/lang/StringLatin1" = true := by first | (simp [plainName, overriddenIn]; done) | decide +kernel
theorem ef_I_1 (m : MethodId) (y0 : Int32) : entryFrame m #[(.int y0)] 1 = mkF m 0 #[.val (.int y0)] [] := by first | (simp [entryFrame, mkF, argsToLocals, Value.category]; done) | rfl
set_option maxRecDepth 65536 in
set_option maxHeartbeats 40000000 in
theorem met_canenc (l : Launch) (Z : State) (a0 : Array Value) (hw : ∀ d ∈ tables_1, d.before a0 Z = true) (ws : List Jvm.Cond) (ch : Int32) (h0 : Heap)  :
    MetFree l (⟨"java/lang/StringLatin1", "canEncode", "(C)Z"⟩ : MethodName) (head1 (Jvm.Cond.code (⟨"java/lang/StringLatin1", "canEncode", "(C)Z"⟩ : MethodName) jdk_43_method_3_code 1 (some .boolean) :: ws) ({ frames := 0, cells := 0, slots := 0, locals := 0 } : Room)) (fun a U => a = #[(.int ch)] ∧ Z.Warmed39 U.vm ∧ U.heap = h0) (fun _ _ _ _ _ => True) (fun _ U o U' => ∃ v L, o = .returned v ∧ QV (.int (f_canenc ch)) h0 v U'.heap L ∧ FrameEnd U o U' L ({ frames := 0, cells := 0, slots := 0, locals := 0 } : Room).cells ({ frames := 0, cells := 0, slots := 0, locals := 0 } : Room).slots) := by
  refine openP (y := (⟨"java/lang/StringLatin1", "canEncode", "(C)Z"⟩ : MethodName)) pn_1 ?_
  intro p e s m below meth c T hx hby hml hret hlk hnm hZ hown X hT
  refine Go.st (fun _ k => castTop (ef_I_1 m ch) k) ?_
  show Go p e below _ (T.setTop (mkF m 0 #[.val (.int ch)] []))
  refine Go.st (fun _ k => XS.iloadN X.here hx rfl (hb hby d9_0) rfl k) ?_
  show Go p e below _ (T.setTop (mkF m 1 #[.val (.int ch)] [(.int ch)]))
  refine Go.st (fun _ k => XS.sipush X.here hx rfl (hb hby d9_1) k) ?_
  show Go p e below _ (T.setTop (mkF m 4 #[.val (.int ch)] [(.int (255 : Int32)), (.int ch)]))
  by_cases hc1 : (255 : Int32) < ch
  · refine Go.st (fun _ k => XS.icmpYes X.here hx rfl (pc0 := 4) (pc' := 11) rfl (hb hby d9_4) rfl (Jvm.Free.XT.ii_gt_t hc1) (by decide) (by decide) k) ?_
    show Go p e below _ (T.setTop (mkF m 11 #[.val (.int ch)] []))
    refine Go.st (fun _ k => XS.iconst X.here hx rfl (hb hby d9_11) k) ?_
    show Go p e below _ (T.setTop (mkF m 12 #[.val (.int ch)] [(.int (0 : Int32))]))
    refine Go.ret X hx hlk hT hret (by decide) (riI (by simp)) (hb hby d9_12) (by decide) (by decide) ?_
    exact ⟨congrArg (fun z => some (Value.int z)) (by rw [f_canenc, if_pos hc1]), rfl, rfl⟩
  · refine Go.st (fun _ k => XS.icmpNo X.here hx rfl (hb hby d9_4) rfl (Jvm.Free.XT.ii_gt_f hc1) k) ?_
    show Go p e below _ (T.setTop (mkF m 7 #[.val (.int ch)] []))
    refine Go.st (fun _ k => XS.iconst X.here hx rfl (hb hby d9_7) k) ?_
    show Go p e below _ (T.setTop (mkF m 8 #[.val (.int ch)] [(.int (1 : Int32))]))
    refine Go.st (fun _ k => XS.goto X.here hx rfl (pc0 := 8) (pc' := 12) rfl (hb hby d9_8) (by decide) (by decide) k) ?_
    show Go p e below _ (T.setTop (mkF m 12 #[.val (.int ch)] [(.int (1 : Int32))]))
    refine Go.ret X hx hlk hT hret (by decide) (riI (by simp)) (hb hby d9_12) (by decide) (by decide) ?_
    exact ⟨congrArg (fun z => some (Value.int z)) (by rw [f_canenc, if_neg hc1]), rfl, rfl⟩
def QTc (Z : State) (n0 : Nat) (ch : Int32) (h0 : Heap) (v : Option Value) (h : Heap) (L : List Loc) : Prop := ∃ (r : Addr) (kr : ClassId), v = some (.ref r) ∧ Fr n0 L ∧ h0.size ≤ r ∧ Ext h0 h ∧ Arv Z h r kr .byte (1 : Int32) [.int (StrChars.lo8 ch)] (.int 0)
theorem d10_0 : decode jdk_43_method_46_code 0 = .ok (.iconst 1, 1) := by decide +kernel
theorem d10_1 : decode jdk_43_method_46_code 1 = .ok (.newarray .byte, 2) := by decide +kernel
theorem d10_3 : decode jdk_43_method_46_code 3 = .ok (.dup, 1) := by decide +kernel
theorem d10_4 : decode jdk_43_method_46_code 4 = .ok (.iconst 0, 1) := by decide +kernel
theorem d10_5 : decode jdk_43_method_46_code 5 = .ok (.iload_n 0, 1) := by decide +kernel
theorem d10_6 : decode jdk_43_method_46_code 6 = .ok (.i2b, 1) := by decide +kernel
theorem d10_7 : decode jdk_43_method_46_code 7 = .ok (.bastore, 1) := by decide +kernel
theorem d10_8 : decode jdk_43_method_46_code 8 = .ok (.areturn, 1) := by decide +kernel
set_option maxRecDepth 65536 in
set_option maxHeartbeats 40000000 in
theorem met_tobc (l : Launch) (Z : State) (a0 : Array Value) (hw : ∀ d ∈ tables_1, d.before a0 Z = true) (ws : List Jvm.Cond) (n0 : Nat) (ch : Int32) (h0 : Heap) (O : Old Z n0 h0) :
    MetFree l (⟨"java/lang/StringLatin1", "toBytes", "(C)[B"⟩ : MethodName) (head1 (Jvm.Cond.code (⟨"java/lang/StringLatin1", "toBytes", "(C)[B"⟩ : MethodName) jdk_43_method_46_code 1 (some (.array .byte)) :: ws) ({ frames := 0, cells := 1, slots := 1, locals := 0 } : Room)) (fun a U => a = #[(.int ch)] ∧ Z.Warmed39 U.vm ∧ U.heap = h0) (fun _ _ _ _ _ => True) (fun _ U o U' => ∃ v L, o = .returned v ∧ QTc Z n0 ch h0 v U'.heap L ∧ FrameEnd U o U' L ({ frames := 0, cells := 1, slots := 1, locals := 0 } : Room).cells ({ frames := 0, cells := 1, slots := 1, locals := 0 } : Room).slots) := by
  refine openP (y := (⟨"java/lang/StringLatin1", "toBytes", "(C)[B"⟩ : MethodName)) pn_1 ?_
  intro p e s m below meth c T hx hby hml hret hlk hnm hZ hown X hT
  refine Go.st (fun _ k => castTop (ef_I_1 m ch) k) ?_
  show Go p e below _ (T.setTop (mkF m 0 #[.val (.int ch)] []))
  have N := Fr.nil n0
  have K0b : Keep h0 h0 [] := Keep.refl _ _
  refine Go.st (fun _ k => XS.iconst X.here hx rfl (hb hby d10_0) k) ?_
  show Go p e below _ (T.setTop (mkF m 1 #[.val (.int ch)] [(.int (1 : Int32))]))
  obtain ⟨T, h1, k_r, X, hT, Ex0, A_r, st⟩ := newP X hx hZ (hw _ (List.mem_of_getElem? (i := 19) rfl)) hT (g := (mkF m 1 #[.val (.int ch)] [(.int (1 : Int32))])) rfl (hb hby d10_1) rfl (by decide : ¬ ((1 : Int32) < (0 : Int32))) (cap := 1) (by decide) (by decide) (by decide) (by decide)
  obtain ⟨r, g_r⟩ : ∃ z, z = h0.size := ⟨_, rfl⟩
  rw [← g_r] at A_r st
  refine Go.st st ?_
  have ge_r : n0 ≤ r := Nat.le_trans (own_le (O)) (Nat.le_of_eq g_r.symm)
  have gk_r : h0.size ≤ r := Nat.le_trans (Keep.refl h0 []).1 (Nat.le_of_eq g_r.symm)
  have KB := (Keep.refl h0 []).ext Ex0
  have V_r : Arv Z _ r k_r .byte (1 : Int32) [(.int (0 : Int32))] (.int (0 : Int32)) := (Arv.new A_r (by decide)).pad (pad_rep [] (.int (0 : Int32)) 1)
  show Go p e below _ (T.setTop (mkF m 3 #[.val (.int ch)] [(.ref r)]))
  refine Go.st (fun _ k => XS.dup X.here hx rfl (hb hby d10_3) rfl rfl k) ?_
  show Go p e below _ (T.setTop (mkF m 4 #[.val (.int ch)] [(.ref r), (.ref r)]))
  refine Go.st (fun _ k => XS.iconst X.here hx rfl (hb hby d10_4) k) ?_
  show Go p e below _ (T.setTop (mkF m 5 #[.val (.int ch)] [(.int (0 : Int32)), (.ref r), (.ref r)]))
  refine Go.st (fun _ k => XS.iloadN X.here hx rfl (hb hby d10_5) rfl k) ?_
  show Go p e below _ (T.setTop (mkF m 6 #[.val (.int ch)] [(.int ch), (.int (0 : Int32)), (.ref r), (.ref r)]))
  refine Go.st (fun _ k => XS.i2b X.here hx rfl (hb hby d10_6) rfl k) ?_
  show Go p e below _ (T.setTop (mkF m 7 #[.val (.int ch)] [(.int (ch.toInt8.toInt32)), (.int (0 : Int32)), (.ref r), (.ref r)]))
  obtain ⟨cl0, Ar0, q0, S0, M0, H0, U0⟩ := id V_r
  obtain ⟨T, h2, X, hT, Wr0, st⟩ := stB X hx hZ hT Ar0 (j := (0 : Int32)) (inb_of S0 ⟨(by decide : ¬ ((0 : Int32) < (0 : Int32))), (by decide : (0 : Int32) < (1 : Int32))⟩) (g := (mkF m 7 #[.val (.int ch)] [(.int (ch.toInt8.toInt32)), (.int (0 : Int32)), (.ref r), (.ref r)])) rfl rfl (hb hby d10_7)
  refine Go.st st ?_
  have N := Fr.snoc X N ge_r
  have KB := (KB).wr Wr0 (Or.inr gk_r)
  have V_r : Arv Z _ r k_r .byte (1 : Int32) [(.int (nar .byte (ch.toInt8.toInt32)))] (.int (0 : Int32)) := Arv.set Ar0 q0 S0 M0 H0 U0 (fits_nar_byte _) Wr0 0 rfl (Nat.le_of_ble_eq_true rfl)
  show Go p e below _ (T.setTop (mkF m 8 #[.val (.int ch)] [(.ref r)]))
  refine Go.ret X hx hlk hT hret rfl (riA rfl rfl) (hb hby d10_8) (by decide) (by decide) ?_
  have gk := gk_r
  have O := O.keep KB all0
  have K0b := K0b.trans KB (fun _ q => nomatch q)
  exact ⟨r, k_r, rfl, N, gk, keepE K0b, by simpa [nar, StrChars.lo8] using V_r⟩
theorem own_ncd {cd : Int32} (h : cd = 0 ∨ cd = 1) : narrow .byte (.int cd) = .int cd := by rcases h with rfl | rfl <;> decide
theorem own_fcd {cd : Int32} (h : cd = 0 ∨ cd = 1) : fits .byte (.int cd) = true := by rcases h with rfl | rfl <;> decide
def QBB (Z : State) (n0 : Nat) (x r : Addr) (cd : Int32) (h0 : Heap) (v : Option Value) (h : Heap) (L : List Loc) : Prop := v = none ∧ Fr n0 L ∧ Keep h0 h [x] ∧ Exa Z h x ST ∧ Fld Z h x ST "value" "[B" (.ref r) ∧ Fld Z h x ST "coder" "B" (.int cd)
theorem d11_0 : decode jdk_42_method_151_code 0 = .ok (.aload_n 0, 1) := by decide +kernel
theorem d11_1 : decode jdk_42_method_151_code 1 = .ok (.invokespecial 1, 3) := by decide +kernel
theorem d11_4 : decode jdk_42_method_151_code 4 = .ok (.aload_n 0, 1) := by decide +kernel
theorem d11_5 : decode jdk_42_method_151_code 5 = .ok (.aload_n 1, 1) := by decide +kernel
theorem d11_6 : decode jdk_42_method_151_code 6 = .ok (.putfield 9, 3) := by decide +kernel
theorem d11_9 : decode jdk_42_method_151_code 9 = .ok (.aload_n 0, 1) := by decide +kernel
theorem d11_10 : decode jdk_42_method_151_code 10 = .ok (.iload_n 2, 1) := by decide +kernel
theorem d11_11 : decode jdk_42_method_151_code 11 = .ok (.putfield 15, 3) := by decide +kernel
theorem d11_14 : decode jdk_42_method_151_code 14 = .ok (.return_, 1) := by decide +kernel
theorem ef_AAI_3 (m : MethodId) (y0 : Addr) (y1 : Addr) (y2 : Int32) : entryFrame m #[(.ref y0), (.ref y1), (.int y2)] 3 = mkF m 0 #[.val (.ref y0), .val (.ref y1), .val (.int y2)] [] := by first | (simp [entryFrame, mkF, argsToLocals, Value.category]; done) | rfl
set_option maxRecDepth 65536 in
set_option maxHeartbeats 40000000 in
theorem met_bb (l : Launch) (Z : State) (a0 : Array Value) (hw : ∀ d ∈ tables_1, d.before a0 Z = true) (ws : List Jvm.Cond) (n0 : Nat) (x r : Addr) (cd : Int32) (h0 : Heap) (hcd : cd = 0 ∨ cd = 1) (ge_x : n0 ≤ x) (A_x : Exa Z h0 x ST) (F_x_value : Fld Z h0 x ST "value" "[B" .null) (F_x_coder : Fld Z h0 x ST "coder" "B" (.int (0 : Int32))) :
    MetFree l (⟨"java/lang/String", "<init>", "([BB)V"⟩ : MethodName) (head1 (Jvm.Cond.code (⟨"java/lang/String", "<init>", "([BB)V"⟩ : MethodName) jdk_42_method_151_code 3 none :: ws) ({ frames := 1, cells := 0, slots := 0, locals := 12 } : Room)) (fun a U => a = #[(.ref x), (.ref r), (.int cd)] ∧ Z.Warmed39 U.vm ∧ U.heap = h0) (fun _ _ _ _ _ => True) (fun _ U o U' => ∃ v L, o = .returned v ∧ QBB Z n0 x r cd h0 v U'.heap L ∧ FrameEnd U o U' L ({ frames := 1, cells := 0, slots := 0, locals := 12 } : Room).cells ({ frames := 1, cells := 0, slots := 0, locals := 12 } : Room).slots) := by
  refine openP (y := (⟨"java/lang/String", "<init>", "([BB)V"⟩ : MethodName)) pn_0 ?_
  intro p e s m below meth c T hx hby hml hret hlk hnm hZ hown X hT
  refine Go.st (fun _ k => castTop (ef_AAI_3 m x r cd) k) ?_
  show Go p e below _ (T.setTop (mkF m 0 #[.val (.ref x), .val (.ref r), .val (.int cd)] []))
  have N := Fr.nil n0
  refine Go.st (fun _ k => XS.aloadN X.here hx rfl (hb hby d11_0) rfl rfl k) ?_
  show Go p e below _ (T.setTop (mkF m 1 #[.val (.ref x), .val (.ref r), .val (.int cd)] [(.ref x)]))
  obtain ⟨T, X, hT, st⟩ := initO X hx hZ hown (hw _ (List.mem_of_getElem? (i := 15) rfl)) (hw _ (List.mem_of_getElem? (i := 16) rfl)) (hw _ (List.mem_of_getElem? (i := 17) rfl)) hT (g := (mkF m 1 #[.val (.ref x), .val (.ref r), .val (.int cd)] [(.ref x)])) rfl (by rw [hml]; rfl) rfl (hb hby d11_1) (by decide) (W := 0) (by show 2 * 0 + _ ≤ _; exact Nat.le_of_ble_eq_true rfl) (by decide)
  refine Go.st st ?_
  show Go p e below _ (T.setTop (mkF m 4 #[.val (.ref x), .val (.ref r), .val (.int cd)] []))
  refine Go.st (fun _ k => XS.aloadN X.here hx rfl (hb hby d11_4) rfl rfl k) ?_
  show Go p e below _ (T.setTop (mkF m 5 #[.val (.ref x), .val (.ref r), .val (.int cd)] [(.ref x)]))
  refine Go.st (fun _ k => XS.aloadN X.here hx rfl (hb hby d11_5) rfl rfl k) ?_
  show Go p e below _ (T.setTop (mkF m 6 #[.val (.ref x), .val (.ref r), .val (.int cd)] [(.ref r), (.ref x)]))
  obtain ⟨T, h1, X, hT, Wr0, st⟩ := putF X hx hZ hown (host := "") (Or.inl (hw _ (List.mem_of_getElem? (i := 24) rfl))) Via.refl hT F_x_value A_x (Or.inr ⟨(hw _ (List.mem_of_getElem? (i := 20) rfl)), rfl, hnm⟩) (hw _ (List.mem_of_getElem? (i := 5) rfl)) (ty := (.array .byte)) (by decide) rfl rfl (g := (mkF m 6 #[.val (.ref x), .val (.ref r), .val (.int cd)] [(.ref r), (.ref x)])) rfl rfl (hb hby d11_6)
  refine Go.st st ?_
  have N := Fr.snoc X N ge_x
  have A_x := A_x.wr Wr0
  have F_x_value := F_x_value.same Wr0
  have F_x_coder := F_x_coder.other Wr0 (Or.inr (slot_ne (C := "java/lang/String") (Or.inr (hw _ (List.mem_of_getElem? (i := 21) rfl))) (Or.inr (hw _ (List.mem_of_getElem? (i := 20) rfl))) (by decide) (t := .byte) (by decide) (t' := (.array .byte)) (by decide)))
  have KB := (Keep.refl h0 [x]).wr Wr0 (Or.inl (List.mem_of_getElem? (i := 0) rfl))
  show Go p e below _ (T.setTop (mkF m 9 #[.val (.ref x), .val (.ref r), .val (.int cd)] []))
  refine Go.st (fun _ k => XS.aloadN X.here hx rfl (hb hby d11_9) rfl rfl k) ?_
  show Go p e below _ (T.setTop (mkF m 10 #[.val (.ref x), .val (.ref r), .val (.int cd)] [(.ref x)]))
  refine Go.st (fun _ k => XS.iloadN X.here hx rfl (hb hby d11_10) rfl k) ?_
  show Go p e below _ (T.setTop (mkF m 11 #[.val (.ref x), .val (.ref r), .val (.int cd)] [(.int cd), (.ref x)]))
  obtain ⟨T, h2, X, hT, Wr0, st⟩ := putF X hx hZ hown (host := "") (Or.inl (hw _ (List.mem_of_getElem? (i := 25) rfl))) Via.refl hT F_x_coder A_x (Or.inr ⟨(hw _ (List.mem_of_getElem? (i := 21) rfl)), rfl, hnm⟩) (hw _ (List.mem_of_getElem? (i := 5) rfl)) (ty := .byte) (by decide) (own_ncd hcd) (own_fcd hcd) (g := (mkF m 11 #[.val (.ref x), .val (.ref r), .val (.int cd)] [(.int cd), (.ref x)])) rfl rfl (hb hby d11_11)
  refine Go.st st ?_
  have N := Fr.snoc X N ge_x
  have A_x := A_x.wr Wr0
  have F_x_value := F_x_value.other Wr0 (Or.inr (slot_ne (C := "java/lang/String") (Or.inr (hw _ (List.mem_of_getElem? (i := 20) rfl))) (Or.inr (hw _ (List.mem_of_getElem? (i := 21) rfl))) (by decide) (t := (.array .byte)) (by decide) (t' := .byte) (by decide)))
  have F_x_coder := F_x_coder.same Wr0
  have KB := (KB).wr Wr0 (Or.inl (List.mem_of_getElem? (i := 0) rfl))
  show Go p e below _ (T.setTop (mkF m 14 #[.val (.ref x), .val (.ref r), .val (.int cd)] []))
  refine Go.retV X hx hlk hT hret (hb hby d11_14) (by decide) (by decide) ?_
  exact ⟨rfl, N, KB, A_x, F_x_value, F_x_coder⟩
theorem pd_2 : parseMethodDescriptor "(C)Z" = some ⟨[.char], (some .boolean)⟩ := by decide +kernel
theorem pd_3 : parseMethodDescriptor "(C)[B" = some ⟨[.char], (some (.array .byte))⟩ := by decide +kernel
theorem pd_4 : parseMethodDescriptor "([BB)V" = some ⟨[(.array .byte), .byte], none⟩ := by decide +kernel
theorem own_one {ch : Int32} (hc0 : ¬ ch < 0) (hc1 : ¬ (255 : Int32) < ch) : ∀ c ∈ [ch], ¬ c < 0 ∧ ¬ (65535 : Int32) < c := fun c q => by cases List.mem_singleton.mp q; exact ⟨hc0, fun z => hc1 (Int32.lt_trans (by decide) z)⟩
theorem d8_0 : decode jdk_42_method_139_code 0 = .ok (.getstatic 38, 3) := by decide +kernel
theorem d8_3 : decode jdk_42_method_139_code 3 = .ok (.ifCond .eq 23, 3) := by decide +kernel
theorem d8_6 : decode jdk_42_method_139_code 6 = .ok (.iload_n 0, 1) := by decide +kernel
theorem d8_7 : decode jdk_42_method_139_code 7 = .ok (.invokestatic 1015, 3) := by decide +kernel
theorem d8_10 : decode jdk_42_method_139_code 10 = .ok (.ifCond .eq 16, 3) := by decide +kernel
theorem d8_13 : decode jdk_42_method_139_code 13 = .ok (.new 10, 3) := by decide +kernel
theorem d8_16 : decode jdk_42_method_139_code 16 = .ok (.dup, 1) := by decide +kernel
theorem d8_17 : decode jdk_42_method_139_code 17 = .ok (.iload_n 0, 1) := by decide +kernel
theorem d8_18 : decode jdk_42_method_139_code 18 = .ok (.invokestatic 1018, 3) := by decide +kernel
theorem d8_21 : decode jdk_42_method_139_code 21 = .ok (.iconst 0, 1) := by decide +kernel
theorem d8_22 : decode jdk_42_method_139_code 22 = .ok (.invokespecial 209, 3) := by decide +kernel
theorem d8_25 : decode jdk_42_method_139_code 25 = .ok (.areturn, 1) := by decide +kernel
set_option maxRecDepth 65536 in
set_option maxHeartbeats 40000000 in
theorem met_valof (l : Launch) (Z : State) (a0 : Array Value) (hw : ∀ d ∈ tables_1, d.before a0 Z = true) (ws : List Jvm.Cond) (n0 : Nat) (ch z : Int32) (h0 : Heap) (O : Old Z n0 h0) (Sc : Stat Z z) (hc0 : ¬ ch < 0) (hc1 : ¬ (255 : Int32) < ch) :
    MetFree l (⟨"java/lang/String", "valueOf", "(C)Ljava/lang/String;"⟩ : MethodName) (head1 (Jvm.Cond.code (⟨"java/lang/String", "valueOf", "(C)Ljava/lang/String;"⟩ : MethodName) jdk_42_method_139_code 1 (some (.object "java/lang/String")) :: ws) ({ frames := 2, cells := 2, slots := 5, locals := 27 } : Room)) (fun a U => a = #[(.int ch)] ∧ Z.Warmed39 U.vm ∧ U.heap = h0) (fun _ _ _ _ _ => True) (fun _ U o U' => ∃ v L, o = .returned v ∧ QStr Z n0 [ch] h0 v U'.heap L ∧ FrameEnd U o U' L ({ frames := 2, cells := 2, slots := 5, locals := 27 } : Room).cells ({ frames := 2, cells := 2, slots := 5, locals := 27 } : Room).slots) := by
  refine openP (y := (⟨"java/lang/String", "valueOf", "(C)Ljava/lang/String;"⟩ : MethodName)) pn_0 ?_
  intro p e s m below meth c T hx hby hml hret hlk hnm hZ hown X hT
  refine Go.st (fun _ k => castTop (ef_I_1 m ch) k) ?_
  show Go p e below _ (T.setTop (mkF m 0 #[.val (.int ch)] []))
  have N := Fr.nil n0
  have K0b : Keep h0 h0 [] := Keep.refl _ _
  obtain ⟨T, X, hT, st⟩ := getS2 X hx hZ hown (host := "") (Or.inl (hw _ (List.mem_of_getElem? (i := 26) rfl))) Via.refl hT (Sc.1.ext O.2) (g := (mkF m 0 #[.val (.int ch)] [])) rfl (hb hby d8_0)
  refine Go.st st ?_
  show Go p e below _ (T.setTop (mkF m 3 #[.val (.int ch)] [(.int z)]))
  refine Go.st (fun _ k => XS.ifNo X.here hx rfl (hb hby d8_3) rfl (Jvm.Free.XT.i0_eq_f (Sc.2 : ¬ (z = (0 : Int32)))) k) ?_
  show Go p e below _ (T.setTop (mkF m 6 #[.val (.int ch)] []))
  refine Go.st (fun _ k => XS.iloadN X.here hx rfl (hb hby d8_6) rfl k) ?_
  show Go p e below _ (T.setTop (mkF m 7 #[.val (.int ch)] [(.int ch)]))
  refine Go.callV (argsL := [(.int ch)]) (rest := []) (W := 0) X hx hZ hown (hml.trans rfl) hT (hw _ (List.mem_of_getElem? (i := 40) rfl)) (hw _ (List.mem_of_getElem? (i := 41) rfl)) (hw _ (List.mem_of_getElem? (i := 42) rfl)) (hw _ (List.mem_of_getElem? (i := 43) rfl)) (by decide) pd_2 rfl rfl (Nat.le_of_ble_eq_true rfl) (hb hby d8_7) (backOf (W := 0) (met_canenc l Z a0 hw [] ch _) hZ (hw _ (List.mem_of_getElem? (i := 43) rfl)) (hw _ (List.mem_of_getElem? (i := 42) rfl)) (by decide) (by decide)) (by decide) (by decide) ?_
  intro T hT X
  show Go p e below _ (T.setTop (mkF m 10 #[.val (.int ch)] [(.int (f_canenc ch))]))
  refine Go.st (fun _ k => XS.ifNo X.here hx rfl (hb hby d8_10) rfl (Jvm.Free.XT.i0_eq_f (by rw [f_canenc, if_neg hc1]; decide : ¬ ((f_canenc ch) = (0 : Int32)))) k) ?_
  show Go p e below _ (T.setTop (mkF m 13 #[.val (.int ch)] []))
  obtain ⟨T, h1, X, hT, Ex0, A_x, D_x, -, st⟩ := newO X hx hZ hown (hw _ (List.mem_of_getElem? (i := 44) rfl)) (hw _ (List.mem_of_getElem? (i := 5) rfl)) (hw _ (List.mem_of_getElem? (i := 6) rfl)) hT (g := (mkF m 13 #[.val (.int ch)] [])) rfl (hb hby d8_13) (by decide) (by decide)
  obtain ⟨x, g_x⟩ : ∃ z, z = h0.size := ⟨_, rfl⟩
  rw [← g_x] at A_x D_x st
  refine Go.st st ?_
  have ge_x : n0 ≤ x := Nat.le_trans (own_le (O)) (Nat.le_of_eq g_x.symm)
  have gk_x : h0.size ≤ x := Nat.le_trans (Keep.refl h0 []).1 (Nat.le_of_eq g_x.symm)
  have KB := (Keep.refl h0 []).ext Ex0
  have F_x_value := D_x (Or.inr (hw _ (List.mem_of_getElem? (i := 20) rfl))) (ty := (.array .byte)) (by decide)
  have F_x_coder := D_x (Or.inr (hw _ (List.mem_of_getElem? (i := 21) rfl))) (ty := .byte) (by decide)
  show Go p e below _ (T.setTop (mkF m 16 #[.val (.int ch)] [(.ref x)]))
  refine Go.st (fun _ k => XS.dup X.here hx rfl (hb hby d8_16) rfl rfl k) ?_
  show Go p e below _ (T.setTop (mkF m 17 #[.val (.int ch)] [(.ref x), (.ref x)]))
  refine Go.st (fun _ k => XS.iloadN X.here hx rfl (hb hby d8_17) rfl k) ?_
  show Go p e below _ (T.setTop (mkF m 18 #[.val (.int ch)] [(.int ch), (.ref x), (.ref x)]))
  refine Go.callP (argsL := [(.int ch)]) (rest := [(.ref x), (.ref x)]) (W := 2) (ck := 1) (sk := 1) X hx hZ hown (hml.trans rfl) hT (hw _ (List.mem_of_getElem? (i := 45) rfl)) (hw _ (List.mem_of_getElem? (i := 46) rfl)) (hw _ (List.mem_of_getElem? (i := 42) rfl)) (hw _ (List.mem_of_getElem? (i := 47) rfl)) (by decide) pd_3 rfl rfl (Nat.le_of_ble_eq_true rfl) (hb hby d8_18) (backOf (W := 2) (met_tobc l Z a0 hw [] n0 ch _ (O.keep KB all0)) hZ (hw _ (List.mem_of_getElem? (i := 47) rfl)) (hw _ (List.mem_of_getElem? (i := 42) rfl)) (by decide) (by decide)) (by decide) (by decide) ?_
  intro v T h2 L hT hQ X
  obtain ⟨r, kr, rfl, N0, gk_r, Ex0, V_r⟩ := hQ
  have N := Fr.app N N0
  have A_x := A_x.ext Ex0
  have F_x_value := F_x_value.ext Ex0
  have F_x_coder := F_x_coder.ext Ex0
  have KB := (KB).ext Ex0
  have ne_x_r : x ≠ r := Exa.neArv A_x V_r (hw _ (List.mem_of_getElem? (i := 5) rfl))
  show Go p e below _ (T.setTop (mkF m 21 #[.val (.int ch)] [(.ref r), (.ref x), (.ref x)]))
  refine Go.st (fun _ k => XS.iconst X.here hx rfl (hb hby d8_21) k) ?_
  show Go p e below _ (T.setTop (mkF m 22 #[.val (.int ch)] [(.int (0 : Int32)), (.ref r), (.ref x), (.ref x)]))
  refine Go.specP (argsL := [(.ref r), (.int (0 : Int32))]) (rest := [(.ref x)]) (W := 1) (ck := 0) (sk := 0) X hx hZ hown (hml.trans rfl) hT rfl (hw _ (List.mem_of_getElem? (i := 48) rfl)) (hw _ (List.mem_of_getElem? (i := 49) rfl)) (hw _ (List.mem_of_getElem? (i := 50) rfl)) (by decide) pd_4 rfl rfl (Nat.le_of_ble_eq_true rfl) (hb hby d8_22) (backOf (W := 1) (met_bb l Z a0 hw [] n0 x r (0 : Int32) _ (Or.inl rfl) ge_x A_x F_x_value F_x_coder) hZ (hw _ (List.mem_of_getElem? (i := 50) rfl)) (hw _ (List.mem_of_getElem? (i := 6) rfl)) (by decide) (by decide)) (by decide) (by decide) ?_
  intro v T h3 L hT hQ X
  obtain ⟨rfl, N0, K0, E0, F0, C0⟩ := hQ
  have N := Fr.app N N0
  have V_r := V_r.keep K0 (ninS ne_x_r.symm nin0)
  have KB := (KB).trans K0 (allS (Or.inr gk_x) all0)
  have S_x : Str Z h3 x [ch] := ⟨_, _, _, _, _, E0, F0, C0, V_r, StrChars.Road.codOf (cs := [ch]) rfl (by simpa using hc1), own_one hc0 hc1, Nat.le_of_ble_eq_true rfl⟩
  have O := O.keep KB all0
  have K0b := K0b.trans KB (fun _ q => nomatch q)
  show Go p e below _ (T.setTop (mkF m 25 #[.val (.int ch)] [(.ref x)]))
  refine Go.ret X hx hlk hT hret rfl (riA rfl rfl) (hb hby d8_25) (by decide) (by decide) ?_
  exact ⟨x, rfl, N, keepE K0b, S_x⟩
theorem own_wordsEq : ∀ d ∈ StrChars.Road.wordsEq, d ∈ tables_1 := by decide +kernel
theorem own_eq {p : Program} {l : Launch} {e : Env} {R : Room} {s : State} {args : Array Value} {below : List Frame} {Z : State} {a0 : Array Value} {h : Heap} {W : Nat} {x y : Addr} {cs ds : List Int32} {z : Int32} {n0 : Nat} (hw : ∀ d ∈ tables_1, d.before a0 Z = true) (hZ : Z.Warmed39 s.vm) (O : Old Z n0 h) (Sc : Stat Z z) (S : Str Z h x cs) (S' : Str Z h y ds) (hfr : 2 ≤ R.frames) (hlo : W + 28 ≤ R.locals) :
    PB l R p e below s args (⟨"java/lang/String", "equals", "(Ljava/lang/Object;)Z"⟩ : MethodName) W #[.ref x, .ref y] h 0 0 (QV (.int (if cs = ds then 1 else 0)) h) := by
  obtain ⟨t, kb, cd, N2, vs, h1, h2, h3, h4, h5, h6, h7⟩ := S
  obtain ⟨t', kb', cd', N2', vs', g1, g2, g3, g4, g5, g6, g7⟩ := S'
  refine Back.mono (StrChars.Road.eqW hZ (fun d hd => hw d (own_wordsEq d hd)) (kI := 4) (hw _ (List.mem_of_getElem? (i := 5) rfl)) h1 h2 h3 h4 h5 h6 h7 g1 g2 g3 g4 g5 g6 g7 (Sc.1.ext O.2) Sc.2 hfr hlo) (fun _ _ q => q) ?_
  rintro P a v B hp ⟨L, ⟨hv, rfl, hh⟩, q⟩
  refine ⟨[], ⟨?_, rfl, hh⟩, q⟩
  rcases hv with ⟨rfl, e⟩ | ⟨rfl, e⟩
  · rw [if_pos e]
  · rw [if_neg e]
abbrev cc (y : Int32) : Int32 := y.toUInt32.toUInt16.toUInt32.toInt32
abbrev L8 (y : Int32) : Prop := ¬ y < 0 ∧ ¬ (255 : Int32) < y
theorem own_narc {y : Int32} (h : L8 y) : nar .char y = y := by
  have h2 := c_i2c y
  have e0 := h.1; have e1 := h.2
  rw [Int32.lt_iff_toInt_lt] at e0 e1
  have f0 : (0 : Int32).toInt = 0 := by decide
  have f1 : (255 : Int32).toInt = 255 := by decide
  rw [f0] at e0; rw [f1] at e1
  show y.toUInt32.toUInt16.toUInt32.toInt32 = y
  apply Int32.toInt_inj.mp
  omega
theorem own_mask (y : Int32) : L8 (cc (y &&& (255 : Int32))) := by
  have h1 := c_and y 255 (by decide)
  have h2 : ((cc (y &&& 255)).toInt - (y &&& 255).toInt) % 65536 = 0 ∧ 0 ≤ (cc (y &&& 255)).toInt ∧ (cc (y &&& 255)).toInt < 65536 := c_i2c (y &&& 255)
  have e1 : (255 : Int32).toInt = 255 := by decide
  rw [e1] at h1
  constructor
  · rw [Int32.lt_iff_toInt_lt]; show ¬ _ < (0 : Int); omega
  · rw [Int32.lt_iff_toInt_lt, e1]; omega
theorem own_all1 {P : Int32 → Prop} {a : Int32} (ha : P a) : ∀ c ∈ [a], P c := fun c q => by cases List.mem_singleton.mp q; exact ha
theorem own_all2 {P : Int32 → Prop} {a b : Int32} (ha : P a) (hb : P b) : ∀ c ∈ [a, b], P c := fun c q => by
  rcases List.mem_cons.mp q with rfl | q
  · exact ha
  · cases List.mem_singleton.mp q; exact hb
def strL (n c0 c1 : Int32) : List Int32 := if n = (0 : Int32) then [] else if n = (1 : Int32) then [c0] else [c0, c1]
theorem d1_0 : decode method_2_code 0 = .ok (.iload_n 0, 1) := by decide +kernel
theorem d1_1 : decode method_2_code 1 = .ok (.ifCond .ne 14, 3) := by decide +kernel
theorem d1_4 : decode method_2_code 4 = .ok (.new 7, 3) := by decide +kernel
theorem d1_7 : decode method_2_code 7 = .ok (.dup, 1) := by decide +kernel
theorem d1_8 : decode method_2_code 8 = .ok (.iconst 0, 1) := by decide +kernel
theorem d1_9 : decode method_2_code 9 = .ok (.newarray .char, 2) := by decide +kernel
theorem d1_11 : decode method_2_code 11 = .ok (.invokespecial 9, 3) := by decide +kernel
theorem d1_14 : decode method_2_code 14 = .ok (.areturn, 1) := by decide +kernel
theorem d1_15 : decode method_2_code 15 = .ok (.iload_n 0, 1) := by decide +kernel
theorem d1_16 : decode method_2_code 16 = .ok (.iconst 1, 1) := by decide +kernel
theorem d1_17 : decode method_2_code 17 = .ok (.if_icmp .ne 18, 3) := by decide +kernel
theorem d1_20 : decode method_2_code 20 = .ok (.new 7, 3) := by decide +kernel
theorem d1_23 : decode method_2_code 23 = .ok (.dup, 1) := by decide +kernel
theorem d1_24 : decode method_2_code 24 = .ok (.iconst 1, 1) := by decide +kernel
theorem d1_25 : decode method_2_code 25 = .ok (.newarray .char, 2) := by decide +kernel
theorem d1_27 : decode method_2_code 27 = .ok (.dup, 1) := by decide +kernel
theorem d1_28 : decode method_2_code 28 = .ok (.iconst 0, 1) := by decide +kernel
theorem d1_29 : decode method_2_code 29 = .ok (.iload_n 1, 1) := by decide +kernel
theorem d1_30 : decode method_2_code 30 = .ok (.castore, 1) := by decide +kernel
theorem d1_31 : decode method_2_code 31 = .ok (.invokespecial 9, 3) := by decide +kernel
theorem d1_34 : decode method_2_code 34 = .ok (.areturn, 1) := by decide +kernel
theorem d1_35 : decode method_2_code 35 = .ok (.new 7, 3) := by decide +kernel
theorem d1_38 : decode method_2_code 38 = .ok (.dup, 1) := by decide +kernel
theorem d1_39 : decode method_2_code 39 = .ok (.iconst 2, 1) := by decide +kernel
theorem d1_40 : decode method_2_code 40 = .ok (.newarray .char, 2) := by decide +kernel
theorem d1_42 : decode method_2_code 42 = .ok (.dup, 1) := by decide +kernel
theorem d1_43 : decode method_2_code 43 = .ok (.iconst 0, 1) := by decide +kernel
theorem d1_44 : decode method_2_code 44 = .ok (.iload_n 1, 1) := by decide +kernel
theorem d1_45 : decode method_2_code 45 = .ok (.castore, 1) := by decide +kernel
theorem d1_46 : decode method_2_code 46 = .ok (.dup, 1) := by decide +kernel
theorem d1_47 : decode method_2_code 47 = .ok (.iconst 1, 1) := by decide +kernel
theorem d1_48 : decode method_2_code 48 = .ok (.iload_n 2, 1) := by decide +kernel
theorem d1_49 : decode method_2_code 49 = .ok (.castore, 1) := by decide +kernel
theorem d1_50 : decode method_2_code 50 = .ok (.invokespecial 9, 3) := by decide +kernel
theorem d1_53 : decode method_2_code 53 = .ok (.areturn, 1) := by decide +kernel
theorem pn_2 : plainName "com/example/rolling_tally/rollingtally/service/TallyKeySameRankingPinLaw" = true := by first | (simp [plainName, overriddenIn]; done) | decide +kernel
theorem ef_III_3 (m : MethodId) (y0 : Int32) (y1 : Int32) (y2 : Int32) : entryFrame m #[(.int y0), (.int y1), (.int y2)] 3 = mkF m 0 #[.val (.int y0), .val (.int y1), .val (.int y2)] [] := by first | (simp [entryFrame, mkF, argsToLocals, Value.category]; done) | rfl
set_option maxRecDepth 65536 in
set_option maxHeartbeats 40000000 in
theorem met_mk (l : Launch) (Z : State) (a0 : Array Value) (hw : ∀ d ∈ tables_1, d.before a0 Z = true) (ws : List Jvm.Cond) (n c0 c1 z : Int32) (n0 : Nat) (h0 : Heap) (O : Old Z n0 h0) (Sc : Stat Z z) (hp0 : L8 c0) (hp1 : L8 c1) :
    MetFree l (⟨"com/example/rolling_tally/rollingtally/service/TallyKeySameRankingPinLaw", "mk", "(ICC)Ljava/lang/String;"⟩ : MethodName) (head1 (Jvm.Cond.code (⟨"com/example/rolling_tally/rollingtally/service/TallyKeySameRankingPinLaw", "mk", "(ICC)Ljava/lang/String;"⟩ : MethodName) method_2_code 3 (some (.object "java/lang/String")) :: ws) ({ frames := 4, cells := 6, slots := 16, locals := 66 } : Room)) (fun a U => a = #[(.int n), (.int c0), (.int c1)] ∧ Z.Warmed39 U.vm ∧ U.heap = h0 ∧ CHv Z EL0 U.vm h0) (fun _ _ _ _ _ => True) (fun _ U o U' => ∃ v L, o = .returned v ∧ QStr Z n0 (strL n c0 c1) h0 v U'.heap L ∧ CHr Z EL0 U.vm U.heap U'.vm U'.heap ∧ ReturnedEndW U o U' L ({ frames := 4, cells := 6, slots := 16, locals := 66 } : Room).cells ({ frames := 4, cells := 6, slots := 16, locals := 66 } : Room).slots) := by
  refine openH (y := (⟨"com/example/rolling_tally/rollingtally/service/TallyKeySameRankingPinLaw", "mk", "(ICC)Ljava/lang/String;"⟩ : MethodName)) pn_2 ?_
  intro p e s m below meth c T vm hx hby hml hret hlk hnm hZ hown X hT H
  have hEL := own_EW hw
  refine Go.st (fun _ k => castTop (ef_III_3 m n c0 c1) k) ?_
  show Go p e below _ (T.setTop (mkF m 0 #[.val (.int n), .val (.int c0), .val (.int c1)] []))
  have N := Fr.nil n0
  have K0b : Keep h0 h0 [] := Keep.refl _ _
  refine Go.st (fun _ k => XS.iloadN X.here hx rfl (hb hby d1_0) rfl k) ?_
  show Go p e below _ (T.setTop (mkF m 1 #[.val (.int n), .val (.int c0), .val (.int c1)] [(.int n)]))
  by_cases hc1 : n = (0 : Int32)
  · refine Go.st (fun _ k => XS.ifNo X.here hx rfl (hb hby d1_1) rfl (Jvm.Free.XT.i0_ne_f hc1) k) ?_
    show Go p e below _ (T.setTop (mkF m 4 #[.val (.int n), .val (.int c0), .val (.int c1)] []))
    obtain ⟨T, h1, X, hT, Ex0, A_o2, D_o2, -, st⟩ := newO X hx hZ hown (hw _ (List.mem_of_getElem? (i := 4) rfl)) (hw _ (List.mem_of_getElem? (i := 5) rfl)) (hw _ (List.mem_of_getElem? (i := 6) rfl)) hT (g := (mkF m 4 #[.val (.int n), .val (.int c0), .val (.int c1)] [])) rfl (hb hby d1_4) (by decide) (by decide)
    obtain ⟨o2, g_o2⟩ : ∃ z, z = h0.size := ⟨_, rfl⟩
    rw [← g_o2] at A_o2 D_o2 st
    refine Go.st st ?_
    have ge_o2 : n0 ≤ o2 := Nat.le_trans (own_le (O)) (Nat.le_of_eq g_o2.symm)
    have gk_o2 : h0.size ≤ o2 := Nat.le_trans (Keep.refl h0 []).1 (Nat.le_of_eq g_o2.symm)
    have Sf_o2 := Safe.ext Ex0 H.2.1 (Safe.new (Nat.le_of_eq g_o2.symm))
    have H := H.ext Ex0
    have KB := (Keep.refl h0 []).ext Ex0
    have F_o2_value := D_o2 (Or.inr (hw _ (List.mem_of_getElem? (i := 20) rfl))) (ty := (.array .byte)) (by decide)
    have F_o2_coder := D_o2 (Or.inr (hw _ (List.mem_of_getElem? (i := 21) rfl))) (ty := .byte) (by decide)
    show Go p e below _ (T.setTop (mkF m 7 #[.val (.int n), .val (.int c0), .val (.int c1)] [(.ref o2)]))
    refine Go.st (fun _ k => XS.dup X.here hx rfl (hb hby d1_7) rfl rfl k) ?_
    show Go p e below _ (T.setTop (mkF m 8 #[.val (.int n), .val (.int c0), .val (.int c1)] [(.ref o2), (.ref o2)]))
    refine Go.st (fun _ k => XS.iconst X.here hx rfl (hb hby d1_8) k) ?_
    show Go p e below _ (T.setTop (mkF m 9 #[.val (.int n), .val (.int c0), .val (.int c1)] [(.int (0 : Int32)), (.ref o2), (.ref o2)]))
    obtain ⟨T, h2, k_o3, X, hT, Ex0, A_o3, st⟩ := newP X hx hZ (hw _ (List.mem_of_getElem? (i := 7) rfl)) hT (g := (mkF m 9 #[.val (.int n), .val (.int c0), .val (.int c1)] [(.int (0 : Int32)), (.ref o2), (.ref o2)])) rfl (hb hby d1_9) rfl (by decide : ¬ ((0 : Int32) < (0 : Int32))) (cap := 0) (by decide) (by decide) (by decide) (by decide)
    obtain ⟨o3, g_o3⟩ : ∃ z, z = h1.size := ⟨_, rfl⟩
    rw [← g_o3] at A_o3 st
    refine Go.st st ?_
    have ge_o3 : n0 ≤ o3 := Nat.le_trans (own_le (O.keep KB all0)) (Nat.le_of_eq g_o3.symm)
    have gk_o3 : h0.size ≤ o3 := Nat.le_trans (KB).1 (Nat.le_of_eq g_o3.symm)
    have H := H.ext Ex0
    have A_o2 := A_o2.ext Ex0
    have F_o2_value := F_o2_value.ext Ex0
    have F_o2_coder := F_o2_coder.ext Ex0
    have KB := (KB).ext Ex0
    have V_o3 : Arv Z _ o3 k_o3 .char (0 : Int32) [] (.int (0 : Int32)) := (Arv.new A_o3 (by decide)).pad (pad_rep [] (.int (0 : Int32)) 0)
    have ne_o2_o3 : o2 ≠ o3 := Exa.neArv A_o2 V_o3 (hw _ (List.mem_of_getElem? (i := 5) rfl))
    show Go p e below _ (T.setTop (mkF m 11 #[.val (.int n), .val (.int c0), .val (.int c1)] [(.ref o3), (.ref o2), (.ref o2)]))
    refine Go.newS (W := 1) (n := 0) (rest := [(.ref o2)]) (cs := []) hw H X hx hZ hown (hml.trans rfl) hT (hw _ (List.mem_of_getElem? (i := 8) rfl)) (hb hby d1_11) (O.keep KB all0) ge_o2 Sc A_o2 F_o2_value F_o2_coder (by have q := V_o3; (try simp only [own_narc hp0, own_narc hp1] at q); exact q) rfl (Nat.le_of_ble_eq_true rfl) (by decide) (fun _ q => nomatch q) (Nat.le_of_ble_eq_true rfl) (by decide) (by decide) (by decide) (by decide) ?_
    intro T h3 L vm hT N0 K0 S_o2 hZ hown H X
    have N := Fr.app N N0
    have KB := (KB).trans K0 (allS (Or.inr gk_o2) all0)
    have O := O.keep KB all0
    have K0b := K0b.trans KB (fun _ q => nomatch q)
    show Go p e below _ (T.setTop (mkF m 14 #[.val (.int n), .val (.int c0), .val (.int c1)] [(.ref o2)]))
    refine Go.retH hEL H hZ X hx hlk hT hret rfl (riA rfl rfl) (hb hby d1_14) (by decide) (by decide) ?_
    refine ⟨_, rfl, N, keepE K0b, ?_⟩
    rw [strL, if_pos hc1]
    exact S_o2
  · refine Go.st (fun _ k => XS.ifYes X.here hx rfl (pc0 := 1) (pc' := 15) rfl (hb hby d1_1) rfl (Jvm.Free.XT.i0_ne_t hc1) (by decide) (by decide) k) ?_
    show Go p e below _ (T.setTop (mkF m 15 #[.val (.int n), .val (.int c0), .val (.int c1)] []))
    refine Go.st (fun _ k => XS.iloadN X.here hx rfl (hb hby d1_15) rfl k) ?_
    show Go p e below _ (T.setTop (mkF m 16 #[.val (.int n), .val (.int c0), .val (.int c1)] [(.int n)]))
    refine Go.st (fun _ k => XS.iconst X.here hx rfl (hb hby d1_16) k) ?_
    show Go p e below _ (T.setTop (mkF m 17 #[.val (.int n), .val (.int c0), .val (.int c1)] [(.int (1 : Int32)), (.int n)]))
    by_cases hc4 : n = (1 : Int32)
    · refine Go.st (fun _ k => XS.icmpNo X.here hx rfl (hb hby d1_17) rfl (Jvm.Free.XT.ii_ne_f hc4) k) ?_
      show Go p e below _ (T.setTop (mkF m 20 #[.val (.int n), .val (.int c0), .val (.int c1)] []))
      obtain ⟨T, h4, X, hT, Ex0, A_o5, D_o5, -, st⟩ := newO X hx hZ hown (hw _ (List.mem_of_getElem? (i := 4) rfl)) (hw _ (List.mem_of_getElem? (i := 5) rfl)) (hw _ (List.mem_of_getElem? (i := 6) rfl)) hT (g := (mkF m 20 #[.val (.int n), .val (.int c0), .val (.int c1)] [])) rfl (hb hby d1_20) (by decide) (by decide)
      obtain ⟨o5, g_o5⟩ : ∃ z, z = h0.size := ⟨_, rfl⟩
      rw [← g_o5] at A_o5 D_o5 st
      refine Go.st st ?_
      have ge_o5 : n0 ≤ o5 := Nat.le_trans (own_le (O)) (Nat.le_of_eq g_o5.symm)
      have gk_o5 : h0.size ≤ o5 := Nat.le_trans (Keep.refl h0 []).1 (Nat.le_of_eq g_o5.symm)
      have Sf_o5 := Safe.ext Ex0 H.2.1 (Safe.new (Nat.le_of_eq g_o5.symm))
      have H := H.ext Ex0
      have KB := (Keep.refl h0 []).ext Ex0
      have F_o5_value := D_o5 (Or.inr (hw _ (List.mem_of_getElem? (i := 20) rfl))) (ty := (.array .byte)) (by decide)
      have F_o5_coder := D_o5 (Or.inr (hw _ (List.mem_of_getElem? (i := 21) rfl))) (ty := .byte) (by decide)
      show Go p e below _ (T.setTop (mkF m 23 #[.val (.int n), .val (.int c0), .val (.int c1)] [(.ref o5)]))
      refine Go.st (fun _ k => XS.dup X.here hx rfl (hb hby d1_23) rfl rfl k) ?_
      show Go p e below _ (T.setTop (mkF m 24 #[.val (.int n), .val (.int c0), .val (.int c1)] [(.ref o5), (.ref o5)]))
      refine Go.st (fun _ k => XS.iconst X.here hx rfl (hb hby d1_24) k) ?_
      show Go p e below _ (T.setTop (mkF m 25 #[.val (.int n), .val (.int c0), .val (.int c1)] [(.int (1 : Int32)), (.ref o5), (.ref o5)]))
      obtain ⟨T, h5, k_o6, X, hT, Ex0, A_o6, st⟩ := newP X hx hZ (hw _ (List.mem_of_getElem? (i := 7) rfl)) hT (g := (mkF m 25 #[.val (.int n), .val (.int c0), .val (.int c1)] [(.int (1 : Int32)), (.ref o5), (.ref o5)])) rfl (hb hby d1_25) rfl (by decide : ¬ ((1 : Int32) < (0 : Int32))) (cap := 1) (by decide) (by decide) (by decide) (by decide)
      obtain ⟨o6, g_o6⟩ : ∃ z, z = h4.size := ⟨_, rfl⟩
      rw [← g_o6] at A_o6 st
      refine Go.st st ?_
      have ge_o6 : n0 ≤ o6 := Nat.le_trans (own_le (O.keep KB all0)) (Nat.le_of_eq g_o6.symm)
      have gk_o6 : h0.size ≤ o6 := Nat.le_trans (KB).1 (Nat.le_of_eq g_o6.symm)
      have H := H.ext Ex0
      have A_o5 := A_o5.ext Ex0
      have F_o5_value := F_o5_value.ext Ex0
      have F_o5_coder := F_o5_coder.ext Ex0
      have KB := (KB).ext Ex0
      have V_o6 : Arv Z _ o6 k_o6 .char (1 : Int32) [(.int (0 : Int32))] (.int (0 : Int32)) := (Arv.new A_o6 (by decide)).pad (pad_rep [] (.int (0 : Int32)) 1)
      have ne_o5_o6 : o5 ≠ o6 := Exa.neArv A_o5 V_o6 (hw _ (List.mem_of_getElem? (i := 5) rfl))
      show Go p e below _ (T.setTop (mkF m 27 #[.val (.int n), .val (.int c0), .val (.int c1)] [(.ref o6), (.ref o5), (.ref o5)]))
      refine Go.st (fun _ k => XS.dup X.here hx rfl (hb hby d1_27) rfl rfl k) ?_
      show Go p e below _ (T.setTop (mkF m 28 #[.val (.int n), .val (.int c0), .val (.int c1)] [(.ref o6), (.ref o6), (.ref o5), (.ref o5)]))
      refine Go.st (fun _ k => XS.iconst X.here hx rfl (hb hby d1_28) k) ?_
      show Go p e below _ (T.setTop (mkF m 29 #[.val (.int n), .val (.int c0), .val (.int c1)] [(.int (0 : Int32)), (.ref o6), (.ref o6), (.ref o5), (.ref o5)]))
      refine Go.st (fun _ k => XS.iloadN X.here hx rfl (hb hby d1_29) rfl k) ?_
      show Go p e below _ (T.setTop (mkF m 30 #[.val (.int n), .val (.int c0), .val (.int c1)] [(.int c0), (.int (0 : Int32)), (.ref o6), (.ref o6), (.ref o5), (.ref o5)]))
      obtain ⟨cl0, Ar0, q0, S0, M0, H0, U0⟩ := id V_o6
      obtain ⟨T, h6, X, hT, Wr0, st⟩ := stC X hx hZ hT Ar0 (j := (0 : Int32)) (inb_of S0 ⟨(by decide : ¬ ((0 : Int32) < (0 : Int32))), (by decide : (0 : Int32) < (1 : Int32))⟩) (g := (mkF m 30 #[.val (.int n), .val (.int c0), .val (.int c1)] [(.int c0), (.int (0 : Int32)), (.ref o6), (.ref o6), (.ref o5), (.ref o5)])) rfl rfl (hb hby d1_30)
      refine Go.st st ?_
      have N := Fr.snoc X N ge_o6
      have H := H.wr Wr0 (Safe.arr hZ.alike Ar0 (by decide))
      have A_o5 := A_o5.wr Wr0
      have F_o5_value := F_o5_value.other Wr0 (Or.inl ne_o5_o6)
      have F_o5_coder := F_o5_coder.other Wr0 (Or.inl ne_o5_o6)
      have KB := (KB).wr Wr0 (Or.inr gk_o6)
      have V_o6 : Arv Z _ o6 k_o6 .char (1 : Int32) [(.int (nar .char c0))] (.int (0 : Int32)) := Arv.set Ar0 q0 S0 M0 H0 U0 (fits_nar_char _) Wr0 0 rfl (Nat.le_of_ble_eq_true rfl)
      show Go p e below _ (T.setTop (mkF m 31 #[.val (.int n), .val (.int c0), .val (.int c1)] [(.ref o6), (.ref o5), (.ref o5)]))
      refine Go.newS (W := 1) (n := 1) (rest := [(.ref o5)]) (cs := [c0]) hw H X hx hZ hown (hml.trans rfl) hT (hw _ (List.mem_of_getElem? (i := 8) rfl)) (hb hby d1_31) (O.keep KB all0) ge_o5 Sc A_o5 F_o5_value F_o5_coder (by have q := V_o6; (try simp only [own_narc hp0, own_narc hp1] at q); exact q) rfl (Nat.le_of_ble_eq_true rfl) (by decide) (own_all1 hp0) (Nat.le_of_ble_eq_true rfl) (by decide) (by decide) (by decide) (by decide) ?_
      intro T h7 L vm hT N0 K0 S_o5 hZ hown H X
      have N := Fr.app N N0
      have KB := (KB).trans K0 (allS (Or.inr gk_o5) all0)
      have O := O.keep KB all0
      have K0b := K0b.trans KB (fun _ q => nomatch q)
      show Go p e below _ (T.setTop (mkF m 34 #[.val (.int n), .val (.int c0), .val (.int c1)] [(.ref o5)]))
      refine Go.retH hEL H hZ X hx hlk hT hret rfl (riA rfl rfl) (hb hby d1_34) (by decide) (by decide) ?_
      refine ⟨_, rfl, N, keepE K0b, ?_⟩
      rw [strL, if_neg hc1, if_pos hc4]
      exact S_o5
    · refine Go.st (fun _ k => XS.icmpYes X.here hx rfl (pc0 := 17) (pc' := 35) rfl (hb hby d1_17) rfl (Jvm.Free.XT.ii_ne_t hc4) (by decide) (by decide) k) ?_
      show Go p e below _ (T.setTop (mkF m 35 #[.val (.int n), .val (.int c0), .val (.int c1)] []))
      obtain ⟨T, h8, X, hT, Ex0, A_o7, D_o7, -, st⟩ := newO X hx hZ hown (hw _ (List.mem_of_getElem? (i := 4) rfl)) (hw _ (List.mem_of_getElem? (i := 5) rfl)) (hw _ (List.mem_of_getElem? (i := 6) rfl)) hT (g := (mkF m 35 #[.val (.int n), .val (.int c0), .val (.int c1)] [])) rfl (hb hby d1_35) (by decide) (by decide)
      obtain ⟨o7, g_o7⟩ : ∃ z, z = h0.size := ⟨_, rfl⟩
      rw [← g_o7] at A_o7 D_o7 st
      refine Go.st st ?_
      have ge_o7 : n0 ≤ o7 := Nat.le_trans (own_le (O)) (Nat.le_of_eq g_o7.symm)
      have gk_o7 : h0.size ≤ o7 := Nat.le_trans (Keep.refl h0 []).1 (Nat.le_of_eq g_o7.symm)
      have Sf_o7 := Safe.ext Ex0 H.2.1 (Safe.new (Nat.le_of_eq g_o7.symm))
      have H := H.ext Ex0
      have KB := (Keep.refl h0 []).ext Ex0
      have F_o7_value := D_o7 (Or.inr (hw _ (List.mem_of_getElem? (i := 20) rfl))) (ty := (.array .byte)) (by decide)
      have F_o7_coder := D_o7 (Or.inr (hw _ (List.mem_of_getElem? (i := 21) rfl))) (ty := .byte) (by decide)
      show Go p e below _ (T.setTop (mkF m 38 #[.val (.int n), .val (.int c0), .val (.int c1)] [(.ref o7)]))
      refine Go.st (fun _ k => XS.dup X.here hx rfl (hb hby d1_38) rfl rfl k) ?_
      show Go p e below _ (T.setTop (mkF m 39 #[.val (.int n), .val (.int c0), .val (.int c1)] [(.ref o7), (.ref o7)]))
      refine Go.st (fun _ k => XS.iconst X.here hx rfl (hb hby d1_39) k) ?_
      show Go p e below _ (T.setTop (mkF m 40 #[.val (.int n), .val (.int c0), .val (.int c1)] [(.int (2 : Int32)), (.ref o7), (.ref o7)]))
      obtain ⟨T, h9, k_o8, X, hT, Ex0, A_o8, st⟩ := newP X hx hZ (hw _ (List.mem_of_getElem? (i := 7) rfl)) hT (g := (mkF m 40 #[.val (.int n), .val (.int c0), .val (.int c1)] [(.int (2 : Int32)), (.ref o7), (.ref o7)])) rfl (hb hby d1_40) rfl (by decide : ¬ ((2 : Int32) < (0 : Int32))) (cap := 2) (by decide) (by decide) (by decide) (by decide)
      obtain ⟨o8, g_o8⟩ : ∃ z, z = h8.size := ⟨_, rfl⟩
      rw [← g_o8] at A_o8 st
      refine Go.st st ?_
      have ge_o8 : n0 ≤ o8 := Nat.le_trans (own_le (O.keep KB all0)) (Nat.le_of_eq g_o8.symm)
      have gk_o8 : h0.size ≤ o8 := Nat.le_trans (KB).1 (Nat.le_of_eq g_o8.symm)
      have H := H.ext Ex0
      have A_o7 := A_o7.ext Ex0
      have F_o7_value := F_o7_value.ext Ex0
      have F_o7_coder := F_o7_coder.ext Ex0
      have KB := (KB).ext Ex0
      have V_o8 : Arv Z _ o8 k_o8 .char (2 : Int32) [(.int (0 : Int32)), (.int (0 : Int32))] (.int (0 : Int32)) := (Arv.new A_o8 (by decide)).pad (pad_rep [] (.int (0 : Int32)) 2)
      have ne_o7_o8 : o7 ≠ o8 := Exa.neArv A_o7 V_o8 (hw _ (List.mem_of_getElem? (i := 5) rfl))
      show Go p e below _ (T.setTop (mkF m 42 #[.val (.int n), .val (.int c0), .val (.int c1)] [(.ref o8), (.ref o7), (.ref o7)]))
      refine Go.st (fun _ k => XS.dup X.here hx rfl (hb hby d1_42) rfl rfl k) ?_
      show Go p e below _ (T.setTop (mkF m 43 #[.val (.int n), .val (.int c0), .val (.int c1)] [(.ref o8), (.ref o8), (.ref o7), (.ref o7)]))
      refine Go.st (fun _ k => XS.iconst X.here hx rfl (hb hby d1_43) k) ?_
      show Go p e below _ (T.setTop (mkF m 44 #[.val (.int n), .val (.int c0), .val (.int c1)] [(.int (0 : Int32)), (.ref o8), (.ref o8), (.ref o7), (.ref o7)]))
      refine Go.st (fun _ k => XS.iloadN X.here hx rfl (hb hby d1_44) rfl k) ?_
      show Go p e below _ (T.setTop (mkF m 45 #[.val (.int n), .val (.int c0), .val (.int c1)] [(.int c0), (.int (0 : Int32)), (.ref o8), (.ref o8), (.ref o7), (.ref o7)]))
      obtain ⟨cl0, Ar0, q0, S0, M0, H0, U0⟩ := id V_o8
      obtain ⟨T, h10, X, hT, Wr0, st⟩ := stC X hx hZ hT Ar0 (j := (0 : Int32)) (inb_of S0 ⟨(by decide : ¬ ((0 : Int32) < (0 : Int32))), (by decide : (0 : Int32) < (2 : Int32))⟩) (g := (mkF m 45 #[.val (.int n), .val (.int c0), .val (.int c1)] [(.int c0), (.int (0 : Int32)), (.ref o8), (.ref o8), (.ref o7), (.ref o7)])) rfl rfl (hb hby d1_45)
      refine Go.st st ?_
      have N := Fr.snoc X N ge_o8
      have H := H.wr Wr0 (Safe.arr hZ.alike Ar0 (by decide))
      have A_o7 := A_o7.wr Wr0
      have F_o7_value := F_o7_value.other Wr0 (Or.inl ne_o7_o8)
      have F_o7_coder := F_o7_coder.other Wr0 (Or.inl ne_o7_o8)
      have KB := (KB).wr Wr0 (Or.inr gk_o8)
      have V_o8 : Arv Z _ o8 k_o8 .char (2 : Int32) [(.int (nar .char c0)), (.int (0 : Int32))] (.int (0 : Int32)) := Arv.set Ar0 q0 S0 M0 H0 U0 (fits_nar_char _) Wr0 0 rfl (Nat.le_of_ble_eq_true rfl)
      show Go p e below _ (T.setTop (mkF m 46 #[.val (.int n), .val (.int c0), .val (.int c1)] [(.ref o8), (.ref o7), (.ref o7)]))
      refine Go.st (fun _ k => XS.dup X.here hx rfl (hb hby d1_46) rfl rfl k) ?_
      show Go p e below _ (T.setTop (mkF m 47 #[.val (.int n), .val (.int c0), .val (.int c1)] [(.ref o8), (.ref o8), (.ref o7), (.ref o7)]))
      refine Go.st (fun _ k => XS.iconst X.here hx rfl (hb hby d1_47) k) ?_
      show Go p e below _ (T.setTop (mkF m 48 #[.val (.int n), .val (.int c0), .val (.int c1)] [(.int (1 : Int32)), (.ref o8), (.ref o8), (.ref o7), (.ref o7)]))
      refine Go.st (fun _ k => XS.iloadN X.here hx rfl (hb hby d1_48) rfl k) ?_
      show Go p e below _ (T.setTop (mkF m 49 #[.val (.int n), .val (.int c0), .val (.int c1)] [(.int c1), (.int (1 : Int32)), (.ref o8), (.ref o8), (.ref o7), (.ref o7)]))
      obtain ⟨cl0, Ar0, q0, S0, M0, H0, U0⟩ := id V_o8
      obtain ⟨T, h11, X, hT, Wr0, st⟩ := stC X hx hZ hT Ar0 (j := (1 : Int32)) (inb_of S0 ⟨(by decide : ¬ ((1 : Int32) < (0 : Int32))), (by decide : (1 : Int32) < (2 : Int32))⟩) (g := (mkF m 49 #[.val (.int n), .val (.int c0), .val (.int c1)] [(.int c1), (.int (1 : Int32)), (.ref o8), (.ref o8), (.ref o7), (.ref o7)])) rfl rfl (hb hby d1_49)
      refine Go.st st ?_
      have N := Fr.snoc X N ge_o8
      have H := H.wr Wr0 (Safe.arr hZ.alike Ar0 (by decide))
      have A_o7 := A_o7.wr Wr0
      have F_o7_value := F_o7_value.other Wr0 (Or.inl ne_o7_o8)
      have F_o7_coder := F_o7_coder.other Wr0 (Or.inl ne_o7_o8)
      have KB := (KB).wr Wr0 (Or.inr gk_o8)
      have V_o8 : Arv Z _ o8 k_o8 .char (2 : Int32) [(.int (nar .char c0)), (.int (nar .char c1))] (.int (0 : Int32)) := Arv.set Ar0 q0 S0 M0 H0 U0 (fits_nar_char _) Wr0 1 rfl (Nat.le_of_ble_eq_true rfl)
      show Go p e below _ (T.setTop (mkF m 50 #[.val (.int n), .val (.int c0), .val (.int c1)] [(.ref o8), (.ref o7), (.ref o7)]))
      refine Go.newS (W := 1) (n := 2) (rest := [(.ref o7)]) (cs := [c0, c1]) hw H X hx hZ hown (hml.trans rfl) hT (hw _ (List.mem_of_getElem? (i := 8) rfl)) (hb hby d1_50) (O.keep KB all0) ge_o7 Sc A_o7 F_o7_value F_o7_coder (by have q := V_o8; (try simp only [own_narc hp0, own_narc hp1] at q); exact q) rfl (Nat.le_of_ble_eq_true rfl) (by decide) (own_all2 hp0 hp1) (Nat.le_of_ble_eq_true rfl) (by decide) (by decide) (by decide) (by decide) ?_
      intro T h12 L vm hT N0 K0 S_o7 hZ hown H X
      have N := Fr.app N N0
      have KB := (KB).trans K0 (allS (Or.inr gk_o7) all0)
      have O := O.keep KB all0
      have K0b := K0b.trans KB (fun _ q => nomatch q)
      show Go p e below _ (T.setTop (mkF m 53 #[.val (.int n), .val (.int c0), .val (.int c1)] [(.ref o7)]))
      refine Go.retH hEL H hZ X hx hlk hT hret rfl (riA rfl rfl) (hb hby d1_53) (by decide) (by decide) ?_
      refine ⟨_, rfl, N, keepE K0b, ?_⟩
      rw [strL, if_neg hc1, if_neg hc4]
      exact S_o7
def f_eq (l1 : Int32) (x0 : Int32) (x1 : Int32) (l2 : Int32) (y0 : Int32) (y1 : Int32) : Int32 := (if l1 = l2 then (if l1 < (1 : Int32) then (if l1 < (2 : Int32) then (1 : Int32) else (if x1 = y1 then (1 : Int32) else (0 : Int32))) else (if x0 = y0 then (if l1 < (2 : Int32) then (1 : Int32) else (if x1 = y1 then (1 : Int32) else (0 : Int32))) else (0 : Int32))) else (0 : Int32))
theorem d13_0 : decode method_3_code 0 = .ok (.iload_n 0, 1) := by decide +kernel
theorem d13_1 : decode method_3_code 1 = .ok (.iload_n 3, 1) := by decide +kernel
theorem d13_2 : decode method_3_code 2 = .ok (.if_icmp .eq 5, 3) := by decide +kernel
theorem d13_5 : decode method_3_code 5 = .ok (.iconst 0, 1) := by decide +kernel
theorem d13_6 : decode method_3_code 6 = .ok (.ireturn, 1) := by decide +kernel
theorem d13_7 : decode method_3_code 7 = .ok (.iload_n 0, 1) := by decide +kernel
theorem d13_8 : decode method_3_code 8 = .ok (.iconst 1, 1) := by decide +kernel
theorem d13_9 : decode method_3_code 9 = .ok (.if_icmp .lt 11, 3) := by decide +kernel
theorem d13_12 : decode method_3_code 12 = .ok (.iload_n 1, 1) := by decide +kernel
theorem d13_13 : decode method_3_code 13 = .ok (.iload 4, 2) := by decide +kernel
theorem d13_15 : decode method_3_code 15 = .ok (.if_icmp .eq 5, 3) := by decide +kernel
theorem d13_18 : decode method_3_code 18 = .ok (.iconst 0, 1) := by decide +kernel
theorem d13_19 : decode method_3_code 19 = .ok (.ireturn, 1) := by decide +kernel
theorem d13_20 : decode method_3_code 20 = .ok (.iload_n 0, 1) := by decide +kernel
theorem d13_21 : decode method_3_code 21 = .ok (.iconst 2, 1) := by decide +kernel
theorem d13_22 : decode method_3_code 22 = .ok (.if_icmp .lt 11, 3) := by decide +kernel
theorem d13_25 : decode method_3_code 25 = .ok (.iload_n 2, 1) := by decide +kernel
theorem d13_26 : decode method_3_code 26 = .ok (.iload 5, 2) := by decide +kernel
theorem d13_28 : decode method_3_code 28 = .ok (.if_icmp .eq 5, 3) := by decide +kernel
theorem d13_31 : decode method_3_code 31 = .ok (.iconst 0, 1) := by decide +kernel
theorem d13_32 : decode method_3_code 32 = .ok (.ireturn, 1) := by decide +kernel
theorem d13_33 : decode method_3_code 33 = .ok (.iconst 1, 1) := by decide +kernel
theorem d13_34 : decode method_3_code 34 = .ok (.ireturn, 1) := by decide +kernel
theorem ef_IIIIII_6 (m : MethodId) (y0 : Int32) (y1 : Int32) (y2 : Int32) (y3 : Int32) (y4 : Int32) (y5 : Int32) : entryFrame m #[(.int y0), (.int y1), (.int y2), (.int y3), (.int y4), (.int y5)] 6 = mkF m 0 #[.val (.int y0), .val (.int y1), .val (.int y2), .val (.int y3), .val (.int y4), .val (.int y5)] [] := by first | (simp [entryFrame, mkF, argsToLocals, Value.category]; done) | rfl
set_option maxRecDepth 65536 in
set_option maxHeartbeats 40000000 in
theorem met_eq (l : Launch) (Z : State) (a0 : Array Value) (hw : ∀ d ∈ tables_1, d.before a0 Z = true) (ws : List Jvm.Cond) (l1 : Int32) (x0 : Int32) (x1 : Int32) (l2 : Int32) (y0 : Int32) (y1 : Int32) (h0 : Heap)  :
    MetFree l (⟨"com/example/rolling_tally/rollingtally/service/TallyKeySameRankingPinLaw", "eq", "(ICCICC)Z"⟩ : MethodName) (head1 (Jvm.Cond.code (⟨"com/example/rolling_tally/rollingtally/service/TallyKeySameRankingPinLaw", "eq", "(ICCICC)Z"⟩ : MethodName) method_3_code 6 (some .boolean) :: ws) ({ frames := 0, cells := 0, slots := 0, locals := 0 } : Room)) (fun a U => a = #[(.int l1), (.int x0), (.int x1), (.int l2), (.int y0), (.int y1)] ∧ Z.Warmed39 U.vm ∧ U.heap = h0) (fun _ _ _ _ _ => True) (fun _ U o U' => ∃ v L, o = .returned v ∧ QV (.int (f_eq l1 x0 x1 l2 y0 y1)) h0 v U'.heap L ∧ FrameEnd U o U' L ({ frames := 0, cells := 0, slots := 0, locals := 0 } : Room).cells ({ frames := 0, cells := 0, slots := 0, locals := 0 } : Room).slots) := by
  refine openP (y := (⟨"com/example/rolling_tally/rollingtally/service/TallyKeySameRankingPinLaw", "eq", "(ICCICC)Z"⟩ : MethodName)) pn_2 ?_
  intro p e s m below meth c T hx hby hml hret hlk hnm hZ hown X hT
  refine Go.st (fun _ k => castTop (ef_IIIIII_6 m l1 x0 x1 l2 y0 y1) k) ?_
  show Go p e below _ (T.setTop (mkF m 0 #[.val (.int l1), .val (.int x0), .val (.int x1), .val (.int l2), .val (.int y0), .val (.int y1)] []))
  refine Go.st (fun _ k => XS.iloadN X.here hx rfl (hb hby d13_0) rfl k) ?_
  show Go p e below _ (T.setTop (mkF m 1 #[.val (.int l1), .val (.int x0), .val (.int x1), .val (.int l2), .val (.int y0), .val (.int y1)] [(.int l1)]))
  refine Go.st (fun _ k => XS.iloadN X.here hx rfl (hb hby d13_1) rfl k) ?_
  show Go p e below _ (T.setTop (mkF m 2 #[.val (.int l1), .val (.int x0), .val (.int x1), .val (.int l2), .val (.int y0), .val (.int y1)] [(.int l2), (.int l1)]))
  by_cases hc1 : l1 = l2
  · refine Go.st (fun _ k => XS.icmpYes X.here hx rfl (pc0 := 2) (pc' := 7) rfl (hb hby d13_2) rfl (Jvm.Free.XT.ii_eq_t hc1) (by decide) (by decide) k) ?_
    show Go p e below _ (T.setTop (mkF m 7 #[.val (.int l1), .val (.int x0), .val (.int x1), .val (.int l2), .val (.int y0), .val (.int y1)] []))
    refine Go.st (fun _ k => XS.iloadN X.here hx rfl (hb hby d13_7) rfl k) ?_
    show Go p e below _ (T.setTop (mkF m 8 #[.val (.int l1), .val (.int x0), .val (.int x1), .val (.int l2), .val (.int y0), .val (.int y1)] [(.int l1)]))
    refine Go.st (fun _ k => XS.iconst X.here hx rfl (hb hby d13_8) k) ?_
    show Go p e below _ (T.setTop (mkF m 9 #[.val (.int l1), .val (.int x0), .val (.int x1), .val (.int l2), .val (.int y0), .val (.int y1)] [(.int (1 : Int32)), (.int l1)]))
    by_cases hc2 : l1 < (1 : Int32)
    · refine Go.st (fun _ k => XS.icmpYes X.here hx rfl (pc0 := 9) (pc' := 20) rfl (hb hby d13_9) rfl (Jvm.Free.XT.ii_lt_t hc2) (by decide) (by decide) k) ?_
      show Go p e below _ (T.setTop (mkF m 20 #[.val (.int l1), .val (.int x0), .val (.int x1), .val (.int l2), .val (.int y0), .val (.int y1)] []))
      refine Go.st (fun _ k => XS.iloadN X.here hx rfl (hb hby d13_20) rfl k) ?_
      show Go p e below _ (T.setTop (mkF m 21 #[.val (.int l1), .val (.int x0), .val (.int x1), .val (.int l2), .val (.int y0), .val (.int y1)] [(.int l1)]))
      refine Go.st (fun _ k => XS.iconst X.here hx rfl (hb hby d13_21) k) ?_
      show Go p e below _ (T.setTop (mkF m 22 #[.val (.int l1), .val (.int x0), .val (.int x1), .val (.int l2), .val (.int y0), .val (.int y1)] [(.int (2 : Int32)), (.int l1)]))
      by_cases hc3 : l1 < (2 : Int32)
      · refine Go.st (fun _ k => XS.icmpYes X.here hx rfl (pc0 := 22) (pc' := 33) rfl (hb hby d13_22) rfl (Jvm.Free.XT.ii_lt_t hc3) (by decide) (by decide) k) ?_
        show Go p e below _ (T.setTop (mkF m 33 #[.val (.int l1), .val (.int x0), .val (.int x1), .val (.int l2), .val (.int y0), .val (.int y1)] []))
        refine Go.st (fun _ k => XS.iconst X.here hx rfl (hb hby d13_33) k) ?_
        show Go p e below _ (T.setTop (mkF m 34 #[.val (.int l1), .val (.int x0), .val (.int x1), .val (.int l2), .val (.int y0), .val (.int y1)] [(.int (1 : Int32))]))
        refine Go.ret X hx hlk hT hret (by decide) (riI (by simp)) (hb hby d13_34) (by decide) (by decide) ?_
        exact ⟨congrArg (fun z => some (Value.int z)) (by rw [f_eq, if_pos hc1, if_pos hc2, if_pos hc3]), rfl, rfl⟩
      · refine Go.st (fun _ k => XS.icmpNo X.here hx rfl (hb hby d13_22) rfl (Jvm.Free.XT.ii_lt_f hc3) k) ?_
        show Go p e below _ (T.setTop (mkF m 25 #[.val (.int l1), .val (.int x0), .val (.int x1), .val (.int l2), .val (.int y0), .val (.int y1)] []))
        refine Go.st (fun _ k => XS.iloadN X.here hx rfl (hb hby d13_25) rfl k) ?_
        show Go p e below _ (T.setTop (mkF m 26 #[.val (.int l1), .val (.int x0), .val (.int x1), .val (.int l2), .val (.int y0), .val (.int y1)] [(.int x1)]))
        refine Go.st (fun _ k => XS.iload X.here hx rfl (hb hby d13_26) rfl k) ?_
        show Go p e below _ (T.setTop (mkF m 28 #[.val (.int l1), .val (.int x0), .val (.int x1), .val (.int l2), .val (.int y0), .val (.int y1)] [(.int y1), (.int x1)]))
        by_cases hc4 : x1 = y1
        · refine Go.st (fun _ k => XS.icmpYes X.here hx rfl (pc0 := 28) (pc' := 33) rfl (hb hby d13_28) rfl (Jvm.Free.XT.ii_eq_t hc4) (by decide) (by decide) k) ?_
          show Go p e below _ (T.setTop (mkF m 33 #[.val (.int l1), .val (.int x0), .val (.int x1), .val (.int l2), .val (.int y0), .val (.int y1)] []))
          refine Go.st (fun _ k => XS.iconst X.here hx rfl (hb hby d13_33) k) ?_
          show Go p e below _ (T.setTop (mkF m 34 #[.val (.int l1), .val (.int x0), .val (.int x1), .val (.int l2), .val (.int y0), .val (.int y1)] [(.int (1 : Int32))]))
          refine Go.ret X hx hlk hT hret (by decide) (riI (by simp)) (hb hby d13_34) (by decide) (by decide) ?_
          exact ⟨congrArg (fun z => some (Value.int z)) (by rw [f_eq, if_pos hc1, if_pos hc2, if_neg hc3, if_pos hc4]), rfl, rfl⟩
        · refine Go.st (fun _ k => XS.icmpNo X.here hx rfl (hb hby d13_28) rfl (Jvm.Free.XT.ii_eq_f hc4) k) ?_
          show Go p e below _ (T.setTop (mkF m 31 #[.val (.int l1), .val (.int x0), .val (.int x1), .val (.int l2), .val (.int y0), .val (.int y1)] []))
          refine Go.st (fun _ k => XS.iconst X.here hx rfl (hb hby d13_31) k) ?_
          show Go p e below _ (T.setTop (mkF m 32 #[.val (.int l1), .val (.int x0), .val (.int x1), .val (.int l2), .val (.int y0), .val (.int y1)] [(.int (0 : Int32))]))
          refine Go.ret X hx hlk hT hret (by decide) (riI (by simp)) (hb hby d13_32) (by decide) (by decide) ?_
          exact ⟨congrArg (fun z => some (Value.int z)) (by rw [f_eq, if_pos hc1, if_pos hc2, if_neg hc3, if_neg hc4]), rfl, rfl⟩
    · refine Go.st (fun _ k => XS.icmpNo X.here hx rfl (hb hby d13_9) rfl (Jvm.Free.XT.ii_lt_f hc2) k) ?_
      show Go p e below _ (T.setTop (mkF m 12 #[.val (.int l1), .val (.int x0), .val (.int x1), .val (.int l2), .val (.int y0), .val (.int y1)] []))
      refine Go.st (fun _ k => XS.iloadN X.here hx rfl (hb hby d13_12) rfl k) ?_
      show Go p e below _ (T.setTop (mkF m 13 #[.val (.int l1), .val (.int x0), .val (.int x1), .val (.int l2), .val (.int y0), .val (.int y1)] [(.int x0)]))
      refine Go.st (fun _ k => XS.iload X.here hx rfl (hb hby d13_13) rfl k) ?_
      show Go p e below _ (T.setTop (mkF m 15 #[.val (.int l1), .val (.int x0), .val (.int x1), .val (.int l2), .val (.int y0), .val (.int y1)] [(.int y0), (.int x0)]))
      by_cases hc5 : x0 = y0
      · refine Go.st (fun _ k => XS.icmpYes X.here hx rfl (pc0 := 15) (pc' := 20) rfl (hb hby d13_15) rfl (Jvm.Free.XT.ii_eq_t hc5) (by decide) (by decide) k) ?_
        show Go p e below _ (T.setTop (mkF m 20 #[.val (.int l1), .val (.int x0), .val (.int x1), .val (.int l2), .val (.int y0), .val (.int y1)] []))
        refine Go.st (fun _ k => XS.iloadN X.here hx rfl (hb hby d13_20) rfl k) ?_
        show Go p e below _ (T.setTop (mkF m 21 #[.val (.int l1), .val (.int x0), .val (.int x1), .val (.int l2), .val (.int y0), .val (.int y1)] [(.int l1)]))
        refine Go.st (fun _ k => XS.iconst X.here hx rfl (hb hby d13_21) k) ?_
        show Go p e below _ (T.setTop (mkF m 22 #[.val (.int l1), .val (.int x0), .val (.int x1), .val (.int l2), .val (.int y0), .val (.int y1)] [(.int (2 : Int32)), (.int l1)]))
        by_cases hc6 : l1 < (2 : Int32)
        · refine Go.st (fun _ k => XS.icmpYes X.here hx rfl (pc0 := 22) (pc' := 33) rfl (hb hby d13_22) rfl (Jvm.Free.XT.ii_lt_t hc6) (by decide) (by decide) k) ?_
          show Go p e below _ (T.setTop (mkF m 33 #[.val (.int l1), .val (.int x0), .val (.int x1), .val (.int l2), .val (.int y0), .val (.int y1)] []))
          refine Go.st (fun _ k => XS.iconst X.here hx rfl (hb hby d13_33) k) ?_
          show Go p e below _ (T.setTop (mkF m 34 #[.val (.int l1), .val (.int x0), .val (.int x1), .val (.int l2), .val (.int y0), .val (.int y1)] [(.int (1 : Int32))]))
          refine Go.ret X hx hlk hT hret (by decide) (riI (by simp)) (hb hby d13_34) (by decide) (by decide) ?_
          exact ⟨congrArg (fun z => some (Value.int z)) (by rw [f_eq, if_pos hc1, if_neg hc2, if_pos hc5, if_pos hc6]), rfl, rfl⟩
        · refine Go.st (fun _ k => XS.icmpNo X.here hx rfl (hb hby d13_22) rfl (Jvm.Free.XT.ii_lt_f hc6) k) ?_
          show Go p e below _ (T.setTop (mkF m 25 #[.val (.int l1), .val (.int x0), .val (.int x1), .val (.int l2), .val (.int y0), .val (.int y1)] []))
          refine Go.st (fun _ k => XS.iloadN X.here hx rfl (hb hby d13_25) rfl k) ?_
          show Go p e below _ (T.setTop (mkF m 26 #[.val (.int l1), .val (.int x0), .val (.int x1), .val (.int l2), .val (.int y0), .val (.int y1)] [(.int x1)]))
          refine Go.st (fun _ k => XS.iload X.here hx rfl (hb hby d13_26) rfl k) ?_
          show Go p e below _ (T.setTop (mkF m 28 #[.val (.int l1), .val (.int x0), .val (.int x1), .val (.int l2), .val (.int y0), .val (.int y1)] [(.int y1), (.int x1)]))
          by_cases hc7 : x1 = y1
          · refine Go.st (fun _ k => XS.icmpYes X.here hx rfl (pc0 := 28) (pc' := 33) rfl (hb hby d13_28) rfl (Jvm.Free.XT.ii_eq_t hc7) (by decide) (by decide) k) ?_
            show Go p e below _ (T.setTop (mkF m 33 #[.val (.int l1), .val (.int x0), .val (.int x1), .val (.int l2), .val (.int y0), .val (.int y1)] []))
            refine Go.st (fun _ k => XS.iconst X.here hx rfl (hb hby d13_33) k) ?_
            show Go p e below _ (T.setTop (mkF m 34 #[.val (.int l1), .val (.int x0), .val (.int x1), .val (.int l2), .val (.int y0), .val (.int y1)] [(.int (1 : Int32))]))
            refine Go.ret X hx hlk hT hret (by decide) (riI (by simp)) (hb hby d13_34) (by decide) (by decide) ?_
            exact ⟨congrArg (fun z => some (Value.int z)) (by rw [f_eq, if_pos hc1, if_neg hc2, if_pos hc5, if_neg hc6, if_pos hc7]), rfl, rfl⟩
          · refine Go.st (fun _ k => XS.icmpNo X.here hx rfl (hb hby d13_28) rfl (Jvm.Free.XT.ii_eq_f hc7) k) ?_
            show Go p e below _ (T.setTop (mkF m 31 #[.val (.int l1), .val (.int x0), .val (.int x1), .val (.int l2), .val (.int y0), .val (.int y1)] []))
            refine Go.st (fun _ k => XS.iconst X.here hx rfl (hb hby d13_31) k) ?_
            show Go p e below _ (T.setTop (mkF m 32 #[.val (.int l1), .val (.int x0), .val (.int x1), .val (.int l2), .val (.int y0), .val (.int y1)] [(.int (0 : Int32))]))
            refine Go.ret X hx hlk hT hret (by decide) (riI (by simp)) (hb hby d13_32) (by decide) (by decide) ?_
            exact ⟨congrArg (fun z => some (Value.int z)) (by rw [f_eq, if_pos hc1, if_neg hc2, if_pos hc5, if_neg hc6, if_neg hc7]), rfl, rfl⟩
      · refine Go.st (fun _ k => XS.icmpNo X.here hx rfl (hb hby d13_15) rfl (Jvm.Free.XT.ii_eq_f hc5) k) ?_
        show Go p e below _ (T.setTop (mkF m 18 #[.val (.int l1), .val (.int x0), .val (.int x1), .val (.int l2), .val (.int y0), .val (.int y1)] []))
        refine Go.st (fun _ k => XS.iconst X.here hx rfl (hb hby d13_18) k) ?_
        show Go p e below _ (T.setTop (mkF m 19 #[.val (.int l1), .val (.int x0), .val (.int x1), .val (.int l2), .val (.int y0), .val (.int y1)] [(.int (0 : Int32))]))
        refine Go.ret X hx hlk hT hret (by decide) (riI (by simp)) (hb hby d13_19) (by decide) (by decide) ?_
        exact ⟨congrArg (fun z => some (Value.int z)) (by rw [f_eq, if_pos hc1, if_neg hc2, if_neg hc5]), rfl, rfl⟩
  · refine Go.st (fun _ k => XS.icmpNo X.here hx rfl (hb hby d13_2) rfl (Jvm.Free.XT.ii_eq_f hc1) k) ?_
    show Go p e below _ (T.setTop (mkF m 5 #[.val (.int l1), .val (.int x0), .val (.int x1), .val (.int l2), .val (.int y0), .val (.int y1)] []))
    refine Go.st (fun _ k => XS.iconst X.here hx rfl (hb hby d13_5) k) ?_
    show Go p e below _ (T.setTop (mkF m 6 #[.val (.int l1), .val (.int x0), .val (.int x1), .val (.int l2), .val (.int y0), .val (.int y1)] [(.int (0 : Int32))]))
    refine Go.ret X hx hlk hT hret (by decide) (riI (by simp)) (hb hby d13_6) (by decide) (by decide) ?_
    exact ⟨congrArg (fun z => some (Value.int z)) (by rw [f_eq, if_neg hc1]), rfl, rfl⟩
def QTk (Z : State) (x y0 y1 y2 y3 : Addr) (n0 : Nat) (h0 : Heap) (v : Option Value) (h : Heap) (L : List Loc) : Prop := v = none ∧ Fr n0 L ∧ Keep h0 h [x] ∧ Exa Z h x "com/example/rolling_tally/rollingtally/service/TallyKey" ∧ Fld Z h x "com/example/rolling_tally/rollingtally/service/TallyKey" "board" "Ljava/lang/String;" (.ref y0) ∧ Fld Z h x "com/example/rolling_tally/rollingtally/service/TallyKey" "category" "Ljava/lang/String;" (.ref y1)
theorem d12_0 : decode prog_46_method_1_code 0 = .ok (.aload_n 0, 1) := by decide +kernel
theorem d12_1 : decode prog_46_method_1_code 1 = .ok (.invokespecial 1, 3) := by decide +kernel
theorem d12_4 : decode prog_46_method_1_code 4 = .ok (.aload_n 0, 1) := by decide +kernel
theorem d12_5 : decode prog_46_method_1_code 5 = .ok (.aload_n 1, 1) := by decide +kernel
theorem d12_6 : decode prog_46_method_1_code 6 = .ok (.putfield 7, 3) := by decide +kernel
theorem d12_9 : decode prog_46_method_1_code 9 = .ok (.aload_n 0, 1) := by decide +kernel
theorem d12_10 : decode prog_46_method_1_code 10 = .ok (.aload_n 2, 1) := by decide +kernel
theorem d12_11 : decode prog_46_method_1_code 11 = .ok (.putfield 13, 3) := by decide +kernel
theorem d12_14 : decode prog_46_method_1_code 14 = .ok (.aload_n 0, 1) := by decide +kernel
theorem d12_15 : decode prog_46_method_1_code 15 = .ok (.aload_n 3, 1) := by decide +kernel
theorem d12_16 : decode prog_46_method_1_code 16 = .ok (.putfield 16, 3) := by decide +kernel
theorem d12_19 : decode prog_46_method_1_code 19 = .ok (.aload_n 0, 1) := by decide +kernel
theorem d12_20 : decode prog_46_method_1_code 20 = .ok (.aload 4, 2) := by decide +kernel
theorem d12_22 : decode prog_46_method_1_code 22 = .ok (.putfield 19, 3) := by decide +kernel
theorem d12_25 : decode prog_46_method_1_code 25 = .ok (.return_, 1) := by decide +kernel
theorem pn_3 : plainName "com/example/rolling_tally/rollingtally/service/TallyKey" = true := by first | (simp [plainName, overriddenIn]; done) | decide +kernel
theorem ef_AAAAA_5 (m : MethodId) (y0 : Addr) (y1 : Addr) (y2 : Addr) (y3 : Addr) (y4 : Addr) : entryFrame m #[(.ref y0), (.ref y1), (.ref y2), (.ref y3), (.ref y4)] 5 = mkF m 0 #[.val (.ref y0), .val (.ref y1), .val (.ref y2), .val (.ref y3), .val (.ref y4)] [] := by first | (simp [entryFrame, mkF, argsToLocals, Value.category]; done) | rfl
set_option maxRecDepth 65536 in
set_option maxHeartbeats 40000000 in
theorem met_tk (l : Launch) (Z : State) (a0 : Array Value) (hw : ∀ d ∈ tables_1, d.before a0 Z = true) (ws : List Jvm.Cond) (n0 : Nat) (x y0 y1 y2 y3 : Addr) (h0 : Heap) (ge_x : n0 ≤ x) (A_x : Exa Z h0 x "com/example/rolling_tally/rollingtally/service/TallyKey") (F_x_board : Fld Z h0 x "com/example/rolling_tally/rollingtally/service/TallyKey" "board" "Ljava/lang/String;" .null) (F_x_category : Fld Z h0 x "com/example/rolling_tally/rollingtally/service/TallyKey" "category" "Ljava/lang/String;" .null) (F_x_bucket : Fld Z h0 x "com/example/rolling_tally/rollingtally/service/TallyKey" "bucket" "Ljava/lang/String;" .null) (F_x_item : Fld Z h0 x "com/example/rolling_tally/rollingtally/service/TallyKey" "item" "Ljava/lang/String;" .null) :
    MetFree l (⟨"com/example/rolling_tally/rollingtally/service/TallyKey", "<init>", "(Ljava/lang/String;Ljava/lang/String;Ljava/lang/String;Ljava/lang/String;)V"⟩ : MethodName) (head1 (Jvm.Cond.code (⟨"com/example/rolling_tally/rollingtally/service/TallyKey", "<init>", "(Ljava/lang/String;Ljava/lang/String;Ljava/lang/String;Ljava/lang/String;)V"⟩ : MethodName) prog_46_method_1_code 5 none :: ws) ({ frames := 1, cells := 0, slots := 0, locals := 12 } : Room)) (fun a U => a = #[(.ref x), (.ref y0), (.ref y1), (.ref y2), (.ref y3)] ∧ Z.Warmed39 U.vm ∧ U.heap = h0) (fun _ _ _ _ _ => True) (fun _ U o U' => ∃ v L, o = .returned v ∧ QTk Z x y0 y1 y2 y3 n0 h0 v U'.heap L ∧ FrameEnd U o U' L ({ frames := 1, cells := 0, slots := 0, locals := 12 } : Room).cells ({ frames := 1, cells := 0, slots := 0, locals := 12 } : Room).slots) := by
  refine openP (y := (⟨"com/example/rolling_tally/rollingtally/service/TallyKey", "<init>", "(Ljava/lang/String;Ljava/lang/String;Ljava/lang/String;Ljava/lang/String;)V"⟩ : MethodName)) pn_3 ?_
  intro p e s m below meth c T hx hby hml hret hlk hnm hZ hown X hT
  refine Go.st (fun _ k => castTop (ef_AAAAA_5 m x y0 y1 y2 y3) k) ?_
  show Go p e below _ (T.setTop (mkF m 0 #[.val (.ref x), .val (.ref y0), .val (.ref y1), .val (.ref y2), .val (.ref y3)] []))
  have N := Fr.nil n0
  refine Go.st (fun _ k => XS.aloadN X.here hx rfl (hb hby d12_0) rfl rfl k) ?_
  show Go p e below _ (T.setTop (mkF m 1 #[.val (.ref x), .val (.ref y0), .val (.ref y1), .val (.ref y2), .val (.ref y3)] [(.ref x)]))
  obtain ⟨T, X, hT, st⟩ := initO X hx hZ hown (hw _ (List.mem_of_getElem? (i := 57) rfl)) (hw _ (List.mem_of_getElem? (i := 16) rfl)) (hw _ (List.mem_of_getElem? (i := 17) rfl)) hT (g := (mkF m 1 #[.val (.ref x), .val (.ref y0), .val (.ref y1), .val (.ref y2), .val (.ref y3)] [(.ref x)])) rfl (by rw [hml]; rfl) rfl (hb hby d12_1) (by decide) (W := 0) (by show 2 * 0 + _ ≤ _; exact Nat.le_of_ble_eq_true rfl) (by decide)
  refine Go.st st ?_
  show Go p e below _ (T.setTop (mkF m 4 #[.val (.ref x), .val (.ref y0), .val (.ref y1), .val (.ref y2), .val (.ref y3)] []))
  refine Go.st (fun _ k => XS.aloadN X.here hx rfl (hb hby d12_4) rfl rfl k) ?_
  show Go p e below _ (T.setTop (mkF m 5 #[.val (.ref x), .val (.ref y0), .val (.ref y1), .val (.ref y2), .val (.ref y3)] [(.ref x)]))
  refine Go.st (fun _ k => XS.aloadN X.here hx rfl (hb hby d12_5) rfl rfl k) ?_
  show Go p e below _ (T.setTop (mkF m 6 #[.val (.ref x), .val (.ref y0), .val (.ref y1), .val (.ref y2), .val (.ref y3)] [(.ref y0), (.ref x)]))
  obtain ⟨T, h1, X, hT, Wr0, st⟩ := putF X hx hZ hown (host := "") (Or.inl (hw _ (List.mem_of_getElem? (i := 58) rfl))) Via.refl hT F_x_board A_x (Or.inr ⟨(hw _ (List.mem_of_getElem? (i := 59) rfl)), rfl, hnm⟩) (hw _ (List.mem_of_getElem? (i := 52) rfl)) (ty := (.object "java/lang/String")) (by decide) rfl rfl (g := (mkF m 6 #[.val (.ref x), .val (.ref y0), .val (.ref y1), .val (.ref y2), .val (.ref y3)] [(.ref y0), (.ref x)])) rfl rfl (hb hby d12_6)
  refine Go.st st ?_
  have N := Fr.snoc X N ge_x
  have A_x := A_x.wr Wr0
  have F_x_board := F_x_board.same Wr0
  have F_x_category := F_x_category.other Wr0 (Or.inr (slot_ne (C := "com/example/rolling_tally/rollingtally/service/TallyKey") (Or.inr (hw _ (List.mem_of_getElem? (i := 61) rfl))) (Or.inr (hw _ (List.mem_of_getElem? (i := 59) rfl))) (by decide) (t := (.object "java/lang/String")) (by decide) (t' := (.object "java/lang/String")) (by decide)))
  have F_x_bucket := F_x_bucket.other Wr0 (Or.inr (slot_ne (C := "com/example/rolling_tally/rollingtally/service/TallyKey") (Or.inr (hw _ (List.mem_of_getElem? (i := 63) rfl))) (Or.inr (hw _ (List.mem_of_getElem? (i := 59) rfl))) (by decide) (t := (.object "java/lang/String")) (by decide) (t' := (.object "java/lang/String")) (by decide)))
  have F_x_item := F_x_item.other Wr0 (Or.inr (slot_ne (C := "com/example/rolling_tally/rollingtally/service/TallyKey") (Or.inr (hw _ (List.mem_of_getElem? (i := 65) rfl))) (Or.inr (hw _ (List.mem_of_getElem? (i := 59) rfl))) (by decide) (t := (.object "java/lang/String")) (by decide) (t' := (.object "java/lang/String")) (by decide)))
  have KB := (Keep.refl h0 [x]).wr Wr0 (Or.inl (List.mem_of_getElem? (i := 0) rfl))
  show Go p e below _ (T.setTop (mkF m 9 #[.val (.ref x), .val (.ref y0), .val (.ref y1), .val (.ref y2), .val (.ref y3)] []))
  refine Go.st (fun _ k => XS.aloadN X.here hx rfl (hb hby d12_9) rfl rfl k) ?_
  show Go p e below _ (T.setTop (mkF m 10 #[.val (.ref x), .val (.ref y0), .val (.ref y1), .val (.ref y2), .val (.ref y3)] [(.ref x)]))
  refine Go.st (fun _ k => XS.aloadN X.here hx rfl (hb hby d12_10) rfl rfl k) ?_
  show Go p e below _ (T.setTop (mkF m 11 #[.val (.ref x), .val (.ref y0), .val (.ref y1), .val (.ref y2), .val (.ref y3)] [(.ref y1), (.ref x)]))
  obtain ⟨T, h2, X, hT, Wr0, st⟩ := putF X hx hZ hown (host := "") (Or.inl (hw _ (List.mem_of_getElem? (i := 60) rfl))) Via.refl hT F_x_category A_x (Or.inr ⟨(hw _ (List.mem_of_getElem? (i := 61) rfl)), rfl, hnm⟩) (hw _ (List.mem_of_getElem? (i := 52) rfl)) (ty := (.object "java/lang/String")) (by decide) rfl rfl (g := (mkF m 11 #[.val (.ref x), .val (.ref y0), .val (.ref y1), .val (.ref y2), .val (.ref y3)] [(.ref y1), (.ref x)])) rfl rfl (hb hby d12_11)
  refine Go.st st ?_
  have N := Fr.snoc X N ge_x
  have A_x := A_x.wr Wr0
  have F_x_board := F_x_board.other Wr0 (Or.inr (slot_ne (C := "com/example/rolling_tally/rollingtally/service/TallyKey") (Or.inr (hw _ (List.mem_of_getElem? (i := 59) rfl))) (Or.inr (hw _ (List.mem_of_getElem? (i := 61) rfl))) (by decide) (t := (.object "java/lang/String")) (by decide) (t' := (.object "java/lang/String")) (by decide)))
  have F_x_category := F_x_category.same Wr0
  have F_x_bucket := F_x_bucket.other Wr0 (Or.inr (slot_ne (C := "com/example/rolling_tally/rollingtally/service/TallyKey") (Or.inr (hw _ (List.mem_of_getElem? (i := 63) rfl))) (Or.inr (hw _ (List.mem_of_getElem? (i := 61) rfl))) (by decide) (t := (.object "java/lang/String")) (by decide) (t' := (.object "java/lang/String")) (by decide)))
  have F_x_item := F_x_item.other Wr0 (Or.inr (slot_ne (C := "com/example/rolling_tally/rollingtally/service/TallyKey") (Or.inr (hw _ (List.mem_of_getElem? (i := 65) rfl))) (Or.inr (hw _ (List.mem_of_getElem? (i := 61) rfl))) (by decide) (t := (.object "java/lang/String")) (by decide) (t' := (.object "java/lang/String")) (by decide)))
  have KB := (KB).wr Wr0 (Or.inl (List.mem_of_getElem? (i := 0) rfl))
  show Go p e below _ (T.setTop (mkF m 14 #[.val (.ref x), .val (.ref y0), .val (.ref y1), .val (.ref y2), .val (.ref y3)] []))
  refine Go.st (fun _ k => XS.aloadN X.here hx rfl (hb hby d12_14) rfl rfl k) ?_
  show Go p e below _ (T.setTop (mkF m 15 #[.val (.ref x), .val (.ref y0), .val (.ref y1), .val (.ref y2), .val (.ref y3)] [(.ref x)]))
  refine Go.st (fun _ k => XS.aloadN X.here hx rfl (hb hby d12_15) rfl rfl k) ?_
  show Go p e below _ (T.setTop (mkF m 16 #[.val (.ref x), .val (.ref y0), .val (.ref y1), .val (.ref y2), .val (.ref y3)] [(.ref y2), (.ref x)]))
  obtain ⟨T, h3, X, hT, Wr0, st⟩ := putF X hx hZ hown (host := "") (Or.inl (hw _ (List.mem_of_getElem? (i := 62) rfl))) Via.refl hT F_x_bucket A_x (Or.inr ⟨(hw _ (List.mem_of_getElem? (i := 63) rfl)), rfl, hnm⟩) (hw _ (List.mem_of_getElem? (i := 52) rfl)) (ty := (.object "java/lang/String")) (by decide) rfl rfl (g := (mkF m 16 #[.val (.ref x), .val (.ref y0), .val (.ref y1), .val (.ref y2), .val (.ref y3)] [(.ref y2), (.ref x)])) rfl rfl (hb hby d12_16)
  refine Go.st st ?_
  have N := Fr.snoc X N ge_x
  have A_x := A_x.wr Wr0
  have F_x_board := F_x_board.other Wr0 (Or.inr (slot_ne (C := "com/example/rolling_tally/rollingtally/service/TallyKey") (Or.inr (hw _ (List.mem_of_getElem? (i := 59) rfl))) (Or.inr (hw _ (List.mem_of_getElem? (i := 63) rfl))) (by decide) (t := (.object "java/lang/String")) (by decide) (t' := (.object "java/lang/String")) (by decide)))
  have F_x_category := F_x_category.other Wr0 (Or.inr (slot_ne (C := "com/example/rolling_tally/rollingtally/service/TallyKey") (Or.inr (hw _ (List.mem_of_getElem? (i := 61) rfl))) (Or.inr (hw _ (List.mem_of_getElem? (i := 63) rfl))) (by decide) (t := (.object "java/lang/String")) (by decide) (t' := (.object "java/lang/String")) (by decide)))
  have F_x_bucket := F_x_bucket.same Wr0
  have F_x_item := F_x_item.other Wr0 (Or.inr (slot_ne (C := "com/example/rolling_tally/rollingtally/service/TallyKey") (Or.inr (hw _ (List.mem_of_getElem? (i := 65) rfl))) (Or.inr (hw _ (List.mem_of_getElem? (i := 63) rfl))) (by decide) (t := (.object "java/lang/String")) (by decide) (t' := (.object "java/lang/String")) (by decide)))
  have KB := (KB).wr Wr0 (Or.inl (List.mem_of_getElem? (i := 0) rfl))
  show Go p e below _ (T.setTop (mkF m 19 #[.val (.ref x), .val (.ref y0), .val (.ref y1), .val (.ref y2), .val (.ref y3)] []))
  refine Go.st (fun _ k => XS.aloadN X.here hx rfl (hb hby d12_19) rfl rfl k) ?_
  show Go p e below _ (T.setTop (mkF m 20 #[.val (.ref x), .val (.ref y0), .val (.ref y1), .val (.ref y2), .val (.ref y3)] [(.ref x)]))
  refine Go.st (fun _ k => XS.aload X.here hx rfl (hb hby d12_20) rfl rfl k) ?_
  show Go p e below _ (T.setTop (mkF m 22 #[.val (.ref x), .val (.ref y0), .val (.ref y1), .val (.ref y2), .val (.ref y3)] [(.ref y3), (.ref x)]))
  obtain ⟨T, h4, X, hT, Wr0, st⟩ := putF X hx hZ hown (host := "") (Or.inl (hw _ (List.mem_of_getElem? (i := 64) rfl))) Via.refl hT F_x_item A_x (Or.inr ⟨(hw _ (List.mem_of_getElem? (i := 65) rfl)), rfl, hnm⟩) (hw _ (List.mem_of_getElem? (i := 52) rfl)) (ty := (.object "java/lang/String")) (by decide) rfl rfl (g := (mkF m 22 #[.val (.ref x), .val (.ref y0), .val (.ref y1), .val (.ref y2), .val (.ref y3)] [(.ref y3), (.ref x)])) rfl rfl (hb hby d12_22)
  refine Go.st st ?_
  have N := Fr.snoc X N ge_x
  have A_x := A_x.wr Wr0
  have F_x_board := F_x_board.other Wr0 (Or.inr (slot_ne (C := "com/example/rolling_tally/rollingtally/service/TallyKey") (Or.inr (hw _ (List.mem_of_getElem? (i := 59) rfl))) (Or.inr (hw _ (List.mem_of_getElem? (i := 65) rfl))) (by decide) (t := (.object "java/lang/String")) (by decide) (t' := (.object "java/lang/String")) (by decide)))
  have F_x_category := F_x_category.other Wr0 (Or.inr (slot_ne (C := "com/example/rolling_tally/rollingtally/service/TallyKey") (Or.inr (hw _ (List.mem_of_getElem? (i := 61) rfl))) (Or.inr (hw _ (List.mem_of_getElem? (i := 65) rfl))) (by decide) (t := (.object "java/lang/String")) (by decide) (t' := (.object "java/lang/String")) (by decide)))
  have F_x_bucket := F_x_bucket.other Wr0 (Or.inr (slot_ne (C := "com/example/rolling_tally/rollingtally/service/TallyKey") (Or.inr (hw _ (List.mem_of_getElem? (i := 63) rfl))) (Or.inr (hw _ (List.mem_of_getElem? (i := 65) rfl))) (by decide) (t := (.object "java/lang/String")) (by decide) (t' := (.object "java/lang/String")) (by decide)))
  have F_x_item := F_x_item.same Wr0
  have KB := (KB).wr Wr0 (Or.inl (List.mem_of_getElem? (i := 0) rfl))
  show Go p e below _ (T.setTop (mkF m 25 #[.val (.ref x), .val (.ref y0), .val (.ref y1), .val (.ref y2), .val (.ref y3)] []))
  refine Go.retV X hx hlk hT hret (hb hby d12_25) (by decide) (by decide) ?_
  exact ⟨rfl, N, KB, A_x, F_x_board, F_x_category⟩
theorem pd_5 : parseMethodDescriptor "(Ljava/lang/Object;)Z" = some ⟨[(.object "java/lang/Object")], (some .boolean)⟩ := by decide +kernel
def f_rank (c0 d0 c1 d1 : List Int32) : Int32 := (if (if c0 = d0 then 1 else 0) = (0 : Int32) then (0 : Int32) else (if (if c1 = d1 then 1 else 0) = (0 : Int32) then (0 : Int32) else (1 : Int32)))
theorem d14_0 : decode prog_46_method_6_code 0 = .ok (.aload_n 0, 1) := by decide +kernel
theorem d14_1 : decode prog_46_method_6_code 1 = .ok (.getfield 7, 3) := by decide +kernel
theorem d14_4 : decode prog_46_method_6_code 4 = .ok (.aload_n 1, 1) := by decide +kernel
theorem d14_5 : decode prog_46_method_6_code 5 = .ok (.getfield 7, 3) := by decide +kernel
theorem d14_8 : decode prog_46_method_6_code 8 = .ok (.invokevirtual 22, 3) := by decide +kernel
theorem d14_11 : decode prog_46_method_6_code 11 = .ok (.ifCond .eq 21, 3) := by decide +kernel
theorem d14_14 : decode prog_46_method_6_code 14 = .ok (.aload_n 0, 1) := by decide +kernel
theorem d14_15 : decode prog_46_method_6_code 15 = .ok (.getfield 13, 3) := by decide +kernel
theorem d14_18 : decode prog_46_method_6_code 18 = .ok (.aload_n 1, 1) := by decide +kernel
theorem d14_19 : decode prog_46_method_6_code 19 = .ok (.getfield 13, 3) := by decide +kernel
theorem d14_22 : decode prog_46_method_6_code 22 = .ok (.invokevirtual 22, 3) := by decide +kernel
theorem d14_25 : decode prog_46_method_6_code 25 = .ok (.ifCond .eq 7, 3) := by decide +kernel
theorem d14_28 : decode prog_46_method_6_code 28 = .ok (.iconst 1, 1) := by decide +kernel
theorem d14_29 : decode prog_46_method_6_code 29 = .ok (.goto 4, 3) := by decide +kernel
theorem d14_32 : decode prog_46_method_6_code 32 = .ok (.iconst 0, 1) := by decide +kernel
theorem d14_33 : decode prog_46_method_6_code 33 = .ok (.ireturn, 1) := by decide +kernel
set_option maxRecDepth 65536 in
set_option maxHeartbeats 40000000 in
theorem met_rank (l : Launch) (Z : State) (a0 : Array Value) (hw : ∀ d ∈ tables_1, d.before a0 Z = true) (ws : List Jvm.Cond) (z : Int32) (n0 : Nat) (u v u0 v0 u1 v1 : Addr) (c0 d0 c1 d1 : List Int32) (h0 : Heap) (O : Old Z n0 h0) (Sc : Stat Z z) (F_u_board : Fld Z h0 u "com/example/rolling_tally/rollingtally/service/TallyKey" "board" "Ljava/lang/String;" (.ref u0)) (F_u_category : Fld Z h0 u "com/example/rolling_tally/rollingtally/service/TallyKey" "category" "Ljava/lang/String;" (.ref u1)) (S_u0 : Str Z h0 u0 c0) (S_u1 : Str Z h0 u1 c1) (F_v_board : Fld Z h0 v "com/example/rolling_tally/rollingtally/service/TallyKey" "board" "Ljava/lang/String;" (.ref v0)) (F_v_category : Fld Z h0 v "com/example/rolling_tally/rollingtally/service/TallyKey" "category" "Ljava/lang/String;" (.ref v1)) (S_v0 : Str Z h0 v0 d0) (S_v1 : Str Z h0 v1 d1) :
    MetFree l (⟨"com/example/rolling_tally/rollingtally/service/TallyKey", "sameRanking", "(Lcom/example/rolling_tally/rollingtally/service/TallyKey;)Z"⟩ : MethodName) (head1 (Jvm.Cond.code (⟨"com/example/rolling_tally/rollingtally/service/TallyKey", "sameRanking", "(Lcom/example/rolling_tally/rollingtally/service/TallyKey;)Z"⟩ : MethodName) prog_46_method_6_code 2 (some .boolean) :: ws) ({ frames := 2, cells := 0, slots := 0, locals := 28 } : Room)) (fun a U => a = #[(.ref u), (.ref v)] ∧ Z.Warmed39 U.vm ∧ U.heap = h0) (fun _ _ _ _ _ => True) (fun _ U o U' => ∃ v L, o = .returned v ∧ QV (.int (f_rank c0 d0 c1 d1)) h0 v U'.heap L ∧ FrameEnd U o U' L ({ frames := 2, cells := 0, slots := 0, locals := 28 } : Room).cells ({ frames := 2, cells := 0, slots := 0, locals := 28 } : Room).slots) := by
  refine openP (y := (⟨"com/example/rolling_tally/rollingtally/service/TallyKey", "sameRanking", "(Lcom/example/rolling_tally/rollingtally/service/TallyKey;)Z"⟩ : MethodName)) pn_3 ?_
  intro p e s m below meth c T hx hby hml hret hlk hnm hZ hown X hT
  refine Go.st (fun _ k => castTop (ef_AA_2 m u v) k) ?_
  show Go p e below _ (T.setTop (mkF m 0 #[.val (.ref u), .val (.ref v)] []))
  refine Go.st (fun _ k => XS.aloadN X.here hx rfl (hb hby d14_0) rfl rfl k) ?_
  show Go p e below _ (T.setTop (mkF m 1 #[.val (.ref u), .val (.ref v)] [(.ref u)]))
  obtain ⟨T, X, hT, st⟩ := getF X hx hZ hown (host := "") (Or.inl (hw _ (List.mem_of_getElem? (i := 58) rfl))) Via.refl hT F_u_board (g := (mkF m 1 #[.val (.ref u), .val (.ref v)] [(.ref u)])) rfl rfl (hb hby d14_1)
  refine Go.st st ?_
  show Go p e below _ (T.setTop (mkF m 4 #[.val (.ref u), .val (.ref v)] [(.ref u0)]))
  refine Go.st (fun _ k => XS.aloadN X.here hx rfl (hb hby d14_4) rfl rfl k) ?_
  show Go p e below _ (T.setTop (mkF m 5 #[.val (.ref u), .val (.ref v)] [(.ref v), (.ref u0)]))
  obtain ⟨T, X, hT, st⟩ := getF X hx hZ hown (host := "") (Or.inl (hw _ (List.mem_of_getElem? (i := 58) rfl))) Via.refl hT F_v_board (g := (mkF m 5 #[.val (.ref u), .val (.ref v)] [(.ref v), (.ref u0)])) rfl rfl (hb hby d14_5)
  refine Go.st st ?_
  show Go p e below _ (T.setTop (mkF m 8 #[.val (.ref u), .val (.ref v)] [(.ref v0), (.ref u0)]))
  refine Go.virtV (K := "java/lang/String") (z := (⟨"java/lang/String", "equals", "(Ljava/lang/Object;)Z"⟩ : MethodName)) (argsL := [(.ref v0)]) (rest := []) (W := 0) (w := (.int (if c0 = d0 then 1 else 0))) X hx hZ hown (hml.trans rfl) hT S_u0.exa (hw _ (List.mem_of_getElem? (i := 74) rfl)) (hw _ (List.mem_of_getElem? (i := 75) rfl)) (hw _ (List.mem_of_getElem? (i := 77) rfl)) (hw _ (List.mem_of_getElem? (i := 76) rfl)) (by decide) pd_5 rfl rfl (Nat.le_of_ble_eq_true rfl) (hb hby d14_8) (notFace_of_selects (args := #[]) (mvT hZ (hw _ (List.mem_of_getElem? (i := 77) rfl)))) (own_eq (W := 0) hw hZ O Sc S_u0 S_v0 (by decide) (by decide)) (by decide) (by decide) ?_
  intro T hT X
  show Go p e below _ (T.setTop (mkF m 11 #[.val (.ref u), .val (.ref v)] [(.int (if c0 = d0 then 1 else 0))]))
  by_cases hc1 : (if c0 = d0 then 1 else 0) = (0 : Int32)
  · refine Go.st (fun _ k => XS.ifYes X.here hx rfl (pc0 := 11) (pc' := 32) rfl (hb hby d14_11) rfl (Jvm.Free.XT.i0_eq_t hc1) (by decide) (by decide) k) ?_
    show Go p e below _ (T.setTop (mkF m 32 #[.val (.ref u), .val (.ref v)] []))
    refine Go.st (fun _ k => XS.iconst X.here hx rfl (hb hby d14_32) k) ?_
    show Go p e below _ (T.setTop (mkF m 33 #[.val (.ref u), .val (.ref v)] [(.int (0 : Int32))]))
    refine Go.ret X hx hlk hT hret (by decide) (riI (by simp)) (hb hby d14_33) (by decide) (by decide) ?_
    exact ⟨congrArg (fun z => some (Value.int z)) (by rw [f_rank, if_pos hc1]), rfl, rfl⟩
  · refine Go.st (fun _ k => XS.ifNo X.here hx rfl (hb hby d14_11) rfl (Jvm.Free.XT.i0_eq_f hc1) k) ?_
    show Go p e below _ (T.setTop (mkF m 14 #[.val (.ref u), .val (.ref v)] []))
    refine Go.st (fun _ k => XS.aloadN X.here hx rfl (hb hby d14_14) rfl rfl k) ?_
    show Go p e below _ (T.setTop (mkF m 15 #[.val (.ref u), .val (.ref v)] [(.ref u)]))
    obtain ⟨T, X, hT, st⟩ := getF X hx hZ hown (host := "") (Or.inl (hw _ (List.mem_of_getElem? (i := 60) rfl))) Via.refl hT F_u_category (g := (mkF m 15 #[.val (.ref u), .val (.ref v)] [(.ref u)])) rfl rfl (hb hby d14_15)
    refine Go.st st ?_
    show Go p e below _ (T.setTop (mkF m 18 #[.val (.ref u), .val (.ref v)] [(.ref u1)]))
    refine Go.st (fun _ k => XS.aloadN X.here hx rfl (hb hby d14_18) rfl rfl k) ?_
    show Go p e below _ (T.setTop (mkF m 19 #[.val (.ref u), .val (.ref v)] [(.ref v), (.ref u1)]))
    obtain ⟨T, X, hT, st⟩ := getF X hx hZ hown (host := "") (Or.inl (hw _ (List.mem_of_getElem? (i := 60) rfl))) Via.refl hT F_v_category (g := (mkF m 19 #[.val (.ref u), .val (.ref v)] [(.ref v), (.ref u1)])) rfl rfl (hb hby d14_19)
    refine Go.st st ?_
    show Go p e below _ (T.setTop (mkF m 22 #[.val (.ref u), .val (.ref v)] [(.ref v1), (.ref u1)]))
    refine Go.virtV (K := "java/lang/String") (z := (⟨"java/lang/String", "equals", "(Ljava/lang/Object;)Z"⟩ : MethodName)) (argsL := [(.ref v1)]) (rest := []) (W := 0) (w := (.int (if c1 = d1 then 1 else 0))) X hx hZ hown (hml.trans rfl) hT S_u1.exa (hw _ (List.mem_of_getElem? (i := 74) rfl)) (hw _ (List.mem_of_getElem? (i := 75) rfl)) (hw _ (List.mem_of_getElem? (i := 77) rfl)) (hw _ (List.mem_of_getElem? (i := 76) rfl)) (by decide) pd_5 rfl rfl (Nat.le_of_ble_eq_true rfl) (hb hby d14_22) (notFace_of_selects (args := #[]) (mvT hZ (hw _ (List.mem_of_getElem? (i := 77) rfl)))) (own_eq (W := 0) hw hZ O Sc S_u1 S_v1 (by decide) (by decide)) (by decide) (by decide) ?_
    intro T hT X
    show Go p e below _ (T.setTop (mkF m 25 #[.val (.ref u), .val (.ref v)] [(.int (if c1 = d1 then 1 else 0))]))
    by_cases hc2 : (if c1 = d1 then 1 else 0) = (0 : Int32)
    · refine Go.st (fun _ k => XS.ifYes X.here hx rfl (pc0 := 25) (pc' := 32) rfl (hb hby d14_25) rfl (Jvm.Free.XT.i0_eq_t hc2) (by decide) (by decide) k) ?_
      show Go p e below _ (T.setTop (mkF m 32 #[.val (.ref u), .val (.ref v)] []))
      refine Go.st (fun _ k => XS.iconst X.here hx rfl (hb hby d14_32) k) ?_
      show Go p e below _ (T.setTop (mkF m 33 #[.val (.ref u), .val (.ref v)] [(.int (0 : Int32))]))
      refine Go.ret X hx hlk hT hret (by decide) (riI (by simp)) (hb hby d14_33) (by decide) (by decide) ?_
      exact ⟨congrArg (fun z => some (Value.int z)) (by rw [f_rank, if_neg hc1, if_pos hc2]), rfl, rfl⟩
    · refine Go.st (fun _ k => XS.ifNo X.here hx rfl (hb hby d14_25) rfl (Jvm.Free.XT.i0_eq_f hc2) k) ?_
      show Go p e below _ (T.setTop (mkF m 28 #[.val (.ref u), .val (.ref v)] []))
      refine Go.st (fun _ k => XS.iconst X.here hx rfl (hb hby d14_28) k) ?_
      show Go p e below _ (T.setTop (mkF m 29 #[.val (.ref u), .val (.ref v)] [(.int (1 : Int32))]))
      refine Go.st (fun _ k => XS.goto X.here hx rfl (pc0 := 29) (pc' := 33) rfl (hb hby d14_29) (by decide) (by decide) k) ?_
      show Go p e below _ (T.setTop (mkF m 33 #[.val (.ref u), .val (.ref v)] [(.int (1 : Int32))]))
      refine Go.ret X hx hlk hT hret (by decide) (riI (by simp)) (hb hby d14_33) (by decide) (by decide) ?_
      exact ⟨congrArg (fun z => some (Value.int z)) (by rw [f_rank, if_neg hc1, if_neg hc2]), rfl, rfl⟩
theorem own_l8 {v y : Int32} (h : v = cc (y &&& (255 : Int32))) : L8 v := h ▸ own_mask y
theorem own_l8i {P : Prop} [Decidable P] {v b y : Int32} (h : v = if P then cc (y &&& (255 : Int32)) else b) (hb : L8 b) : L8 v := by
  rw [h]; split
  · exact own_mask y
  · exact hb
theorem pd_6 : parseMethodDescriptor "(ICC)Ljava/lang/String;" = some ⟨[.int, .char, .char], (some (.object "java/lang/String"))⟩ := by decide +kernel
theorem pd_7 : parseMethodDescriptor "(C)Ljava/lang/String;" = some ⟨[.char], (some (.object "java/lang/String"))⟩ := by decide +kernel
theorem pd_8 : parseMethodDescriptor "(Ljava/lang/String;Ljava/lang/String;Ljava/lang/String;Ljava/lang/String;)V" = some ⟨[(.object "java/lang/String"), (.object "java/lang/String"), (.object "java/lang/String"), (.object "java/lang/String")], none⟩ := by decide +kernel
theorem pd_9 : parseMethodDescriptor "(ICCICC)Z" = some ⟨[.int, .char, .char, .int, .char, .char], (some .boolean)⟩ := by decide +kernel
theorem pd_10 : parseMethodDescriptor "(Lcom/example/rolling_tally/rollingtally/service/TallyKey;)Z" = some ⟨[(.object "com/example/rolling_tally/rollingtally/service/TallyKey")], (some .boolean)⟩ := by decide +kernel
theorem own_3 {v y : Int32} (h : v = (y &&& (3 : Int32)) % (3 : Int32)) : v = 0 ∨ v = 1 ∨ v = 2 := by
  subst h
  have h1 := c_and y 3 (by decide)
  have e3 : (3 : Int32).toInt = 3 := by decide
  rw [e3] at h1
  have h2 := (c_irem (y &&& 3) 3 3 (by decide)).1 h1.1
  have : ((y &&& 3) % 3).toInt = 0 ∨ ((y &&& 3) % 3).toInt = 1 ∨ ((y &&& 3) % 3).toInt = 2 := by omega
  rcases this with q | q | q
  · exact Or.inl (Int32.toInt_inj.mp q)
  · exact Or.inr (Or.inl (Int32.toInt_inj.mp q))
  · exact Or.inr (Or.inr (Int32.toInt_inj.mp q))
theorem own_3i {P : Prop} [Decidable P] {v b y : Int32} (h : v = if P then (y &&& (3 : Int32)) % (3 : Int32) else b) (hb : b = 0 ∨ b = 1 ∨ b = 2) : v = 0 ∨ v = 1 ∨ v = 2 := by
  rw [h]; split
  · exact own_3 rfl
  · exact hb
theorem own_eqL {n a b k d f : Int32} (h1 : n = 0 ∨ n = 1 ∨ n = 2) (h2 : k = 0 ∨ k = 1 ∨ k = 2) : f_eq n a b k d f = if strL n a b = strL k d f then (1 : Int32) else 0 := by
  rw [f_eq]
  simp only [strL]
  rcases h1 with rfl | rfl | rfl <;> rcases h2 with rfl | rfl | rfl <;> simp <;> (by_cases q0 : a = d <;> by_cases q1 : b = f <;> simp_all)
def own_exp_ (p q : Int32) : Int32 := if p = (0 : Int32) then (0 : Int32) else if q = (0 : Int32) then (0 : Int32) else (1 : Int32)
theorem own_exp (p q : Int32) : own_exp_ p q = if p = (0 : Int32) then (0 : Int32) else if q = (0 : Int32) then (0 : Int32) else (1 : Int32) := rfl
theorem own_rank {n a b k d f n' a' b' k' d' f' : Int32} (h1 : n = 0 ∨ n = 1 ∨ n = 2) (h2 : k = 0 ∨ k = 1 ∨ k = 2) (h3 : n' = 0 ∨ n' = 1 ∨ n' = 2) (h4 : k' = 0 ∨ k' = 1 ∨ k' = 2) : f_rank (strL n a b) (strL k d f) (strL n' a' b') (strL k' d' f') = own_exp_ (f_eq n a b k d f) (f_eq n' a' b' k' d' f') := by
  rw [f_rank, own_exp_, own_eqL h1 h2, own_eqL h3 h4]
theorem own_rank2 {n a b k d f n' a' b' k' d' f' : Int32} (h1 : n = 0 ∨ n = 1 ∨ n = 2) (h2 : k = 0 ∨ k = 1 ∨ k = 2) (h3 : n' = 0 ∨ n' = 1 ∨ n' = 2) (h4 : k' = 0 ∨ k' = 1 ∨ k' = 2) : f_rank (strL k d f) (strL n a b) (strL k' d' f') (strL n' a' b') = own_exp_ (f_eq n a b k d f) (f_eq n' a' b' k' d' f') := by
  rw [f_rank, own_exp_, own_eqL h1 h2, own_eqL h3 h4]
  by_cases q0 : strL n a b = strL k d f <;> by_cases q1 : strL n' a' b' = strL k' d' f' <;> simp [q0, q1, eq_comm]
def QLaw (n0 : Nat) (v : Option Value) (h : Heap) (L : List Loc) : Prop := v = some (.int 1) ∧ Fr n0 L
theorem ef_IIIII_28 (m : MethodId) (y0 : Int32) (y1 : Int32) (y2 : Int32) (y3 : Int32) (y4 : Int32) : entryFrame m #[(.int y0), (.int y1), (.int y2), (.int y3), (.int y4)] 28 = mkF m 0 #[.val (.int y0), .val (.int y1), .val (.int y2), .val (.int y3), .val (.int y4), .unset, .unset, .unset, .unset, .unset, .unset, .unset, .unset, .unset, .unset, .unset, .unset, .unset, .unset, .unset, .unset, .unset, .unset, .unset, .unset, .unset, .unset, .unset] [] := by first | (simp [entryFrame, mkF, argsToLocals, Value.category]; done) | rfl
set_option maxRecDepth 65536 in
set_option maxHeartbeats 40000000 in
theorem met_law (l : Launch) (Z : State) (a0 : Array Value) (hw : ∀ d ∈ tables_1, d.before a0 Z = true) (ws : List Jvm.Cond) (p0 p1 p2 p3 p4 z : Int32) (n0 : Nat) (h0 : Heap) (O : Old Z n0 h0) (Sc : Stat Z z) :
    MetFree l x (head1 (Jvm.Cond.code x code maxLocals ret :: ws) room_1) (fun a U => a = #[(.int p0), (.int p1), (.int p2), (.int p3), (.int p4)] ∧ Z.Warmed39 U.vm ∧ U.heap = h0 ∧ CHv Z EL0 U.vm h0) (fun _ _ _ _ _ => True) (fun _ U o U' => ∃ v L, o = .returned v ∧ QLaw n0 v U'.heap L ∧ CHr Z EL0 U.vm U.heap U'.vm U'.heap ∧ ReturnedEndW U o U' L room_1.cells room_1.slots) := by
  refine openH (y := x) pn_2 ?_
  intro p e s m below meth c T vm hx hby hml hret hlk hnm hZ hown X hT H
  have hEL := own_EW hw
  refine Go.st (fun _ k => castTop (ef_IIIII_28 m p0 p1 p2 p3 p4) k) ?_
  show Go p e below _ (T.setTop (mkF m 0 #[.val (.int p0), .val (.int p1), .val (.int p2), .val (.int p3), .val (.int p4), .unset, .unset, .unset, .unset, .unset, .unset, .unset, .unset, .unset, .unset, .unset, .unset, .unset, .unset, .unset, .unset, .unset, .unset, .unset, .unset, .unset, .unset, .unset] []))
  have N := Fr.nil n0
  refine Go.st (fun _ k => XS.iloadN X.here hx rfl (hb hby at_0) rfl k) ?_
  show Go p e below _ (T.setTop (mkF m 1 #[.val (.int p0), .val (.int p1), .val (.int p2), .val (.int p3), .val (.int p4), .unset, .unset, .unset, .unset, .unset, .unset, .unset, .unset, .unset, .unset, .unset, .unset, .unset, .unset, .unset, .unset, .unset, .unset, .unset, .unset, .unset, .unset, .unset] [(.int p0)]))
  refine Go.st (fun _ k => XS.iconst X.here hx rfl (hb hby at_1) k) ?_
  show Go p e below _ (T.setTop (mkF m 2 #[.val (.int p0), .val (.int p1), .val (.int p2), .val (.int p3), .val (.int p4), .unset, .unset, .unset, .unset, .unset, .unset, .unset, .unset, .unset, .unset, .unset, .unset, .unset, .unset, .unset, .unset, .unset, .unset, .unset, .unset, .unset, .unset, .unset] [(.int (3 : Int32)), (.int p0)]))
  refine Go.st (fun _ k => XS.iand X.here hx rfl (hb hby at_2) rfl k) ?_
  show Go p e below _ (T.setTop (mkF m 3 #[.val (.int p0), .val (.int p1), .val (.int p2), .val (.int p3), .val (.int p4), .unset, .unset, .unset, .unset, .unset, .unset, .unset, .unset, .unset, .unset, .unset, .unset, .unset, .unset, .unset, .unset, .unset, .unset, .unset, .unset, .unset, .unset, .unset] [(.int (p0 &&& (3 : Int32)))]))
  refine Go.st (fun _ k => XS.iconst X.here hx rfl (hb hby at_3) k) ?_
  show Go p e below _ (T.setTop (mkF m 4 #[.val (.int p0), .val (.int p1), .val (.int p2), .val (.int p3), .val (.int p4), .unset, .unset, .unset, .unset, .unset, .unset, .unset, .unset, .unset, .unset, .unset, .unset, .unset, .unset, .unset, .unset, .unset, .unset, .unset, .unset, .unset, .unset, .unset] [(.int (3 : Int32)), (.int (p0 &&& (3 : Int32)))]))
  refine Go.st (fun _ k => iremM X hx rfl (hb hby at_4) rfl (by decide) k) ?_
  show Go p e below _ (T.setTop (mkF m 5 #[.val (.int p0), .val (.int p1), .val (.int p2), .val (.int p3), .val (.int p4), .unset, .unset, .unset, .unset, .unset, .unset, .unset, .unset, .unset, .unset, .unset, .unset, .unset, .unset, .unset, .unset, .unset, .unset, .unset, .unset, .unset, .unset, .unset] [(.int ((p0 &&& (3 : Int32)) % (3 : Int32)))]))
  obtain ⟨bl1, hbl1⟩ : ∃ z, z = ((p0 &&& (3 : Int32)) % (3 : Int32)) := ⟨_, rfl⟩
  rw [← hbl1]
  show Go p e below _ (T.setTop (mkF m 5 #[.val (.int p0), .val (.int p1), .val (.int p2), .val (.int p3), .val (.int p4), .unset, .unset, .unset, .unset, .unset, .unset, .unset, .unset, .unset, .unset, .unset, .unset, .unset, .unset, .unset, .unset, .unset, .unset, .unset, .unset, .unset, .unset, .unset] [(.int bl1)]))
  refine Go.st (fun _ k => XS.istore X.here hx rfl (hb hby at_5) rfl (l' := #[.val (.int p0), .val (.int p1), .val (.int p2), .val (.int p3), .val (.int p4), .val (.int bl1), .unset, .unset, .unset, .unset, .unset, .unset, .unset, .unset, .unset, .unset, .unset, .unset, .unset, .unset, .unset, .unset, .unset, .unset, .unset, .unset, .unset, .unset]) rfl k) ?_
  show Go p e below _ (T.setTop (mkF m 7 #[.val (.int p0), .val (.int p1), .val (.int p2), .val (.int p3), .val (.int p4), .val (.int bl1), .unset, .unset, .unset, .unset, .unset, .unset, .unset, .unset, .unset, .unset, .unset, .unset, .unset, .unset, .unset, .unset, .unset, .unset, .unset, .unset, .unset, .unset] []))
  refine Go.st (fun _ k => XS.iloadN X.here hx rfl (hb hby at_7) rfl k) ?_
  show Go p e below _ (T.setTop (mkF m 8 #[.val (.int p0), .val (.int p1), .val (.int p2), .val (.int p3), .val (.int p4), .val (.int bl1), .unset, .unset, .unset, .unset, .unset, .unset, .unset, .unset, .unset, .unset, .unset, .unset, .unset, .unset, .unset, .unset, .unset, .unset, .unset, .unset, .unset, .unset] [(.int p0)]))
  refine Go.st (fun _ k => XS.iconst X.here hx rfl (hb hby at_8) k) ?_
  show Go p e below _ (T.setTop (mkF m 9 #[.val (.int p0), .val (.int p1), .val (.int p2), .val (.int p3), .val (.int p4), .val (.int bl1), .unset, .unset, .unset, .unset, .unset, .unset, .unset, .unset, .unset, .unset, .unset, .unset, .unset, .unset, .unset, .unset, .unset, .unset, .unset, .unset, .unset, .unset] [(.int (2 : Int32)), (.int p0)]))
  refine Go.st (fun _ k => XS.iushr X.here hx rfl (hb hby at_9) rfl k) ?_
  show Go p e below _ (T.setTop (mkF m 10 #[.val (.int p0), .val (.int p1), .val (.int p2), .val (.int p3), .val (.int p4), .val (.int bl1), .unset, .unset, .unset, .unset, .unset, .unset, .unset, .unset, .unset, .unset, .unset, .unset, .unset, .unset, .unset, .unset, .unset, .unset, .unset, .unset, .unset, .unset] [(.int (((p0).toUInt32 >>> ((2 : Int32) &&& 31).toUInt32).toInt32))]))
  refine Go.st (fun _ k => XS.sipush X.here hx rfl (hb hby at_10) k) ?_
  show Go p e below _ (T.setTop (mkF m 13 #[.val (.int p0), .val (.int p1), .val (.int p2), .val (.int p3), .val (.int p4), .val (.int bl1), .unset, .unset, .unset, .unset, .unset, .unset, .unset, .unset, .unset, .unset, .unset, .unset, .unset, .unset, .unset, .unset, .unset, .unset, .unset, .unset, .unset, .unset] [(.int (255 : Int32)), (.int (((p0).toUInt32 >>> ((2 : Int32) &&& 31).toUInt32).toInt32))]))
  refine Go.st (fun _ k => XS.iand X.here hx rfl (hb hby at_13) rfl k) ?_
  show Go p e below _ (T.setTop (mkF m 14 #[.val (.int p0), .val (.int p1), .val (.int p2), .val (.int p3), .val (.int p4), .val (.int bl1), .unset, .unset, .unset, .unset, .unset, .unset, .unset, .unset, .unset, .unset, .unset, .unset, .unset, .unset, .unset, .unset, .unset, .unset, .unset, .unset, .unset, .unset] [(.int ((((p0).toUInt32 >>> ((2 : Int32) &&& 31).toUInt32).toInt32) &&& (255 : Int32)))]))
  refine Go.st (fun _ k => XS.i2c X.here hx rfl (hb hby at_14) rfl k) ?_
  show Go p e below _ (T.setTop (mkF m 15 #[.val (.int p0), .val (.int p1), .val (.int p2), .val (.int p3), .val (.int p4), .val (.int bl1), .unset, .unset, .unset, .unset, .unset, .unset, .unset, .unset, .unset, .unset, .unset, .unset, .unset, .unset, .unset, .unset, .unset, .unset, .unset, .unset, .unset, .unset] [(.int (((((p0).toUInt32 >>> ((2 : Int32) &&& 31).toUInt32).toInt32) &&& (255 : Int32)).toUInt32.toUInt16.toUInt32.toInt32))]))
  obtain ⟨b0, hb0⟩ : ∃ z, z = (((((p0).toUInt32 >>> ((2 : Int32) &&& 31).toUInt32).toInt32) &&& (255 : Int32)).toUInt32.toUInt16.toUInt32.toInt32) := ⟨_, rfl⟩
  rw [← hb0]
  show Go p e below _ (T.setTop (mkF m 15 #[.val (.int p0), .val (.int p1), .val (.int p2), .val (.int p3), .val (.int p4), .val (.int bl1), .unset, .unset, .unset, .unset, .unset, .unset, .unset, .unset, .unset, .unset, .unset, .unset, .unset, .unset, .unset, .unset, .unset, .unset, .unset, .unset, .unset, .unset] [(.int b0)]))
  refine Go.st (fun _ k => XS.istore X.here hx rfl (hb hby at_15) rfl (l' := #[.val (.int p0), .val (.int p1), .val (.int p2), .val (.int p3), .val (.int p4), .val (.int bl1), .val (.int b0), .unset, .unset, .unset, .unset, .unset, .unset, .unset, .unset, .unset, .unset, .unset, .unset, .unset, .unset, .unset, .unset, .unset, .unset, .unset, .unset, .unset]) rfl k) ?_
  show Go p e below _ (T.setTop (mkF m 17 #[.val (.int p0), .val (.int p1), .val (.int p2), .val (.int p3), .val (.int p4), .val (.int bl1), .val (.int b0), .unset, .unset, .unset, .unset, .unset, .unset, .unset, .unset, .unset, .unset, .unset, .unset, .unset, .unset, .unset, .unset, .unset, .unset, .unset, .unset, .unset] []))
  refine Go.st (fun _ k => XS.iloadN X.here hx rfl (hb hby at_17) rfl k) ?_
  show Go p e below _ (T.setTop (mkF m 18 #[.val (.int p0), .val (.int p1), .val (.int p2), .val (.int p3), .val (.int p4), .val (.int bl1), .val (.int b0), .unset, .unset, .unset, .unset, .unset, .unset, .unset, .unset, .unset, .unset, .unset, .unset, .unset, .unset, .unset, .unset, .unset, .unset, .unset, .unset, .unset] [(.int p0)]))
  refine Go.st (fun _ k => XS.bipush X.here hx rfl (hb hby at_18) k) ?_
  show Go p e below _ (T.setTop (mkF m 20 #[.val (.int p0), .val (.int p1), .val (.int p2), .val (.int p3), .val (.int p4), .val (.int bl1), .val (.int b0), .unset, .unset, .unset, .unset, .unset, .unset, .unset, .unset, .unset, .unset, .unset, .unset, .unset, .unset, .unset, .unset, .unset, .unset, .unset, .unset, .unset] [(.int (10 : Int32)), (.int p0)]))
  refine Go.st (fun _ k => XS.iushr X.here hx rfl (hb hby at_20) rfl k) ?_
  show Go p e below _ (T.setTop (mkF m 21 #[.val (.int p0), .val (.int p1), .val (.int p2), .val (.int p3), .val (.int p4), .val (.int bl1), .val (.int b0), .unset, .unset, .unset, .unset, .unset, .unset, .unset, .unset, .unset, .unset, .unset, .unset, .unset, .unset, .unset, .unset, .unset, .unset, .unset, .unset, .unset] [(.int (((p0).toUInt32 >>> ((10 : Int32) &&& 31).toUInt32).toInt32))]))
  refine Go.st (fun _ k => XS.sipush X.here hx rfl (hb hby at_21) k) ?_
  show Go p e below _ (T.setTop (mkF m 24 #[.val (.int p0), .val (.int p1), .val (.int p2), .val (.int p3), .val (.int p4), .val (.int bl1), .val (.int b0), .unset, .unset, .unset, .unset, .unset, .unset, .unset, .unset, .unset, .unset, .unset, .unset, .unset, .unset, .unset, .unset, .unset, .unset, .unset, .unset, .unset] [(.int (255 : Int32)), (.int (((p0).toUInt32 >>> ((10 : Int32) &&& 31).toUInt32).toInt32))]))
  refine Go.st (fun _ k => XS.iand X.here hx rfl (hb hby at_24) rfl k) ?_
  show Go p e below _ (T.setTop (mkF m 25 #[.val (.int p0), .val (.int p1), .val (.int p2), .val (.int p3), .val (.int p4), .val (.int bl1), .val (.int b0), .unset, .unset, .unset, .unset, .unset, .unset, .unset, .unset, .unset, .unset, .unset, .unset, .unset, .unset, .unset, .unset, .unset, .unset, .unset, .unset, .unset] [(.int ((((p0).toUInt32 >>> ((10 : Int32) &&& 31).toUInt32).toInt32) &&& (255 : Int32)))]))
  refine Go.st (fun _ k => XS.i2c X.here hx rfl (hb hby at_25) rfl k) ?_
  show Go p e below _ (T.setTop (mkF m 26 #[.val (.int p0), .val (.int p1), .val (.int p2), .val (.int p3), .val (.int p4), .val (.int bl1), .val (.int b0), .unset, .unset, .unset, .unset, .unset, .unset, .unset, .unset, .unset, .unset, .unset, .unset, .unset, .unset, .unset, .unset, .unset, .unset, .unset, .unset, .unset] [(.int (((((p0).toUInt32 >>> ((10 : Int32) &&& 31).toUInt32).toInt32) &&& (255 : Int32)).toUInt32.toUInt16.toUInt32.toInt32))]))
  obtain ⟨b1, hb1⟩ : ∃ z, z = (((((p0).toUInt32 >>> ((10 : Int32) &&& 31).toUInt32).toInt32) &&& (255 : Int32)).toUInt32.toUInt16.toUInt32.toInt32) := ⟨_, rfl⟩
  rw [← hb1]
  show Go p e below _ (T.setTop (mkF m 26 #[.val (.int p0), .val (.int p1), .val (.int p2), .val (.int p3), .val (.int p4), .val (.int bl1), .val (.int b0), .unset, .unset, .unset, .unset, .unset, .unset, .unset, .unset, .unset, .unset, .unset, .unset, .unset, .unset, .unset, .unset, .unset, .unset, .unset, .unset, .unset] [(.int b1)]))
  refine Go.st (fun _ k => XS.istore X.here hx rfl (hb hby at_26) rfl (l' := #[.val (.int p0), .val (.int p1), .val (.int p2), .val (.int p3), .val (.int p4), .val (.int bl1), .val (.int b0), .val (.int b1), .unset, .unset, .unset, .unset, .unset, .unset, .unset, .unset, .unset, .unset, .unset, .unset, .unset, .unset, .unset, .unset, .unset, .unset, .unset, .unset]) rfl k) ?_
  show Go p e below _ (T.setTop (mkF m 28 #[.val (.int p0), .val (.int p1), .val (.int p2), .val (.int p3), .val (.int p4), .val (.int bl1), .val (.int b0), .val (.int b1), .unset, .unset, .unset, .unset, .unset, .unset, .unset, .unset, .unset, .unset, .unset, .unset, .unset, .unset, .unset, .unset, .unset, .unset, .unset, .unset] []))
  refine Go.st (fun _ k => XS.iloadN X.here hx rfl (hb hby at_28) rfl k) ?_
  show Go p e below _ (T.setTop (mkF m 29 #[.val (.int p0), .val (.int p1), .val (.int p2), .val (.int p3), .val (.int p4), .val (.int bl1), .val (.int b0), .val (.int b1), .unset, .unset, .unset, .unset, .unset, .unset, .unset, .unset, .unset, .unset, .unset, .unset, .unset, .unset, .unset, .unset, .unset, .unset, .unset, .unset] [(.int p1)]))
  refine Go.st (fun _ k => XS.iconst X.here hx rfl (hb hby at_29) k) ?_
  show Go p e below _ (T.setTop (mkF m 30 #[.val (.int p0), .val (.int p1), .val (.int p2), .val (.int p3), .val (.int p4), .val (.int bl1), .val (.int b0), .val (.int b1), .unset, .unset, .unset, .unset, .unset, .unset, .unset, .unset, .unset, .unset, .unset, .unset, .unset, .unset, .unset, .unset, .unset, .unset, .unset, .unset] [(.int (1 : Int32)), (.int p1)]))
  refine Go.st (fun _ k => XS.iand X.here hx rfl (hb hby at_30) rfl k) ?_
  show Go p e below _ (T.setTop (mkF m 31 #[.val (.int p0), .val (.int p1), .val (.int p2), .val (.int p3), .val (.int p4), .val (.int bl1), .val (.int b0), .val (.int b1), .unset, .unset, .unset, .unset, .unset, .unset, .unset, .unset, .unset, .unset, .unset, .unset, .unset, .unset, .unset, .unset, .unset, .unset, .unset, .unset] [(.int (p1 &&& (1 : Int32)))]))
  refine own_cutT X hT (fun bl2 => (mkF m 46 #[.val (.int p0), .val (.int p1), .val (.int p2), .val (.int p3), .val (.int p4), .val (.int bl1), .val (.int b0), .val (.int b1), .unset, .unset, .unset, .unset, .unset, .unset, .unset, .unset, .unset, .unset, .unset, .unset, .unset, .unset, .unset, .unset, .unset, .unset, .unset, .unset] [(.int bl2)])) (if (p1 &&& (1 : Int32)) = (0 : Int32) then (((((p1).toUInt32 >>> ((1 : Int32) &&& 31).toUInt32).toInt32) &&& (3 : Int32)) % (3 : Int32)) else bl1) ?_ ?_
  · intro bl2 T hbl2 hT X
    show Go p e below _ (T.setTop (mkF m 46 #[.val (.int p0), .val (.int p1), .val (.int p2), .val (.int p3), .val (.int p4), .val (.int bl1), .val (.int b0), .val (.int b1), .unset, .unset, .unset, .unset, .unset, .unset, .unset, .unset, .unset, .unset, .unset, .unset, .unset, .unset, .unset, .unset, .unset, .unset, .unset, .unset] [(.int bl2)]))
    refine Go.st (fun _ k => XS.istore X.here hx rfl (hb hby at_46) rfl (l' := #[.val (.int p0), .val (.int p1), .val (.int p2), .val (.int p3), .val (.int p4), .val (.int bl1), .val (.int b0), .val (.int b1), .val (.int bl2), .unset, .unset, .unset, .unset, .unset, .unset, .unset, .unset, .unset, .unset, .unset, .unset, .unset, .unset, .unset, .unset, .unset, .unset, .unset]) rfl k) ?_
    show Go p e below _ (T.setTop (mkF m 48 #[.val (.int p0), .val (.int p1), .val (.int p2), .val (.int p3), .val (.int p4), .val (.int bl1), .val (.int b0), .val (.int b1), .val (.int bl2), .unset, .unset, .unset, .unset, .unset, .unset, .unset, .unset, .unset, .unset, .unset, .unset, .unset, .unset, .unset, .unset, .unset, .unset, .unset] []))
    refine Go.st (fun _ k => XS.iloadN X.here hx rfl (hb hby at_48) rfl k) ?_
    show Go p e below _ (T.setTop (mkF m 49 #[.val (.int p0), .val (.int p1), .val (.int p2), .val (.int p3), .val (.int p4), .val (.int bl1), .val (.int b0), .val (.int b1), .val (.int bl2), .unset, .unset, .unset, .unset, .unset, .unset, .unset, .unset, .unset, .unset, .unset, .unset, .unset, .unset, .unset, .unset, .unset, .unset, .unset] [(.int p1)]))
    refine Go.st (fun _ k => XS.bipush X.here hx rfl (hb hby at_49) k) ?_
    show Go p e below _ (T.setTop (mkF m 51 #[.val (.int p0), .val (.int p1), .val (.int p2), .val (.int p3), .val (.int p4), .val (.int bl1), .val (.int b0), .val (.int b1), .val (.int bl2), .unset, .unset, .unset, .unset, .unset, .unset, .unset, .unset, .unset, .unset, .unset, .unset, .unset, .unset, .unset, .unset, .unset, .unset, .unset] [(.int (8 : Int32)), (.int p1)]))
    refine Go.st (fun _ k => XS.iand X.here hx rfl (hb hby at_51) rfl k) ?_
    show Go p e below _ (T.setTop (mkF m 52 #[.val (.int p0), .val (.int p1), .val (.int p2), .val (.int p3), .val (.int p4), .val (.int bl1), .val (.int b0), .val (.int b1), .val (.int bl2), .unset, .unset, .unset, .unset, .unset, .unset, .unset, .unset, .unset, .unset, .unset, .unset, .unset, .unset, .unset, .unset, .unset, .unset, .unset] [(.int (p1 &&& (8 : Int32)))]))
    refine own_cutT X hT (fun d0 => (mkF m 68 #[.val (.int p0), .val (.int p1), .val (.int p2), .val (.int p3), .val (.int p4), .val (.int bl1), .val (.int b0), .val (.int b1), .val (.int bl2), .unset, .unset, .unset, .unset, .unset, .unset, .unset, .unset, .unset, .unset, .unset, .unset, .unset, .unset, .unset, .unset, .unset, .unset, .unset] [(.int d0)])) (if (p1 &&& (8 : Int32)) = (0 : Int32) then (((((p1).toUInt32 >>> ((4 : Int32) &&& 31).toUInt32).toInt32) &&& (255 : Int32)).toUInt32.toUInt16.toUInt32.toInt32) else b0) ?_ ?_
    · intro d0 T hd0 hT X
      show Go p e below _ (T.setTop (mkF m 68 #[.val (.int p0), .val (.int p1), .val (.int p2), .val (.int p3), .val (.int p4), .val (.int bl1), .val (.int b0), .val (.int b1), .val (.int bl2), .unset, .unset, .unset, .unset, .unset, .unset, .unset, .unset, .unset, .unset, .unset, .unset, .unset, .unset, .unset, .unset, .unset, .unset, .unset] [(.int d0)]))
      refine Go.st (fun _ k => XS.istore X.here hx rfl (hb hby at_68) rfl (l' := #[.val (.int p0), .val (.int p1), .val (.int p2), .val (.int p3), .val (.int p4), .val (.int bl1), .val (.int b0), .val (.int b1), .val (.int bl2), .val (.int d0), .unset, .unset, .unset, .unset, .unset, .unset, .unset, .unset, .unset, .unset, .unset, .unset, .unset, .unset, .unset, .unset, .unset, .unset]) rfl k) ?_
      show Go p e below _ (T.setTop (mkF m 70 #[.val (.int p0), .val (.int p1), .val (.int p2), .val (.int p3), .val (.int p4), .val (.int bl1), .val (.int b0), .val (.int b1), .val (.int bl2), .val (.int d0), .unset, .unset, .unset, .unset, .unset, .unset, .unset, .unset, .unset, .unset, .unset, .unset, .unset, .unset, .unset, .unset, .unset, .unset] []))
      refine Go.st (fun _ k => XS.iloadN X.here hx rfl (hb hby at_70) rfl k) ?_
      show Go p e below _ (T.setTop (mkF m 71 #[.val (.int p0), .val (.int p1), .val (.int p2), .val (.int p3), .val (.int p4), .val (.int bl1), .val (.int b0), .val (.int b1), .val (.int bl2), .val (.int d0), .unset, .unset, .unset, .unset, .unset, .unset, .unset, .unset, .unset, .unset, .unset, .unset, .unset, .unset, .unset, .unset, .unset, .unset] [(.int p1)]))
      refine Go.st (fun _ k => XS.sipush X.here hx rfl (hb hby at_71) k) ?_
      show Go p e below _ (T.setTop (mkF m 74 #[.val (.int p0), .val (.int p1), .val (.int p2), .val (.int p3), .val (.int p4), .val (.int bl1), .val (.int b0), .val (.int b1), .val (.int bl2), .val (.int d0), .unset, .unset, .unset, .unset, .unset, .unset, .unset, .unset, .unset, .unset, .unset, .unset, .unset, .unset, .unset, .unset, .unset, .unset] [(.int (4096 : Int32)), (.int p1)]))
      refine Go.st (fun _ k => XS.iand X.here hx rfl (hb hby at_74) rfl k) ?_
      show Go p e below _ (T.setTop (mkF m 75 #[.val (.int p0), .val (.int p1), .val (.int p2), .val (.int p3), .val (.int p4), .val (.int bl1), .val (.int b0), .val (.int b1), .val (.int bl2), .val (.int d0), .unset, .unset, .unset, .unset, .unset, .unset, .unset, .unset, .unset, .unset, .unset, .unset, .unset, .unset, .unset, .unset, .unset, .unset] [(.int (p1 &&& (4096 : Int32)))]))
      refine own_cutT X hT (fun d1 => (mkF m 92 #[.val (.int p0), .val (.int p1), .val (.int p2), .val (.int p3), .val (.int p4), .val (.int bl1), .val (.int b0), .val (.int b1), .val (.int bl2), .val (.int d0), .unset, .unset, .unset, .unset, .unset, .unset, .unset, .unset, .unset, .unset, .unset, .unset, .unset, .unset, .unset, .unset, .unset, .unset] [(.int d1)])) (if (p1 &&& (4096 : Int32)) = (0 : Int32) then (((((p1).toUInt32 >>> ((13 : Int32) &&& 31).toUInt32).toInt32) &&& (255 : Int32)).toUInt32.toUInt16.toUInt32.toInt32) else b1) ?_ ?_
      · intro d1 T hd1 hT X
        show Go p e below _ (T.setTop (mkF m 92 #[.val (.int p0), .val (.int p1), .val (.int p2), .val (.int p3), .val (.int p4), .val (.int bl1), .val (.int b0), .val (.int b1), .val (.int bl2), .val (.int d0), .unset, .unset, .unset, .unset, .unset, .unset, .unset, .unset, .unset, .unset, .unset, .unset, .unset, .unset, .unset, .unset, .unset, .unset] [(.int d1)]))
        refine Go.st (fun _ k => XS.istore X.here hx rfl (hb hby at_92) rfl (l' := #[.val (.int p0), .val (.int p1), .val (.int p2), .val (.int p3), .val (.int p4), .val (.int bl1), .val (.int b0), .val (.int b1), .val (.int bl2), .val (.int d0), .val (.int d1), .unset, .unset, .unset, .unset, .unset, .unset, .unset, .unset, .unset, .unset, .unset, .unset, .unset, .unset, .unset, .unset, .unset]) rfl k) ?_
        show Go p e below _ (T.setTop (mkF m 94 #[.val (.int p0), .val (.int p1), .val (.int p2), .val (.int p3), .val (.int p4), .val (.int bl1), .val (.int b0), .val (.int b1), .val (.int bl2), .val (.int d0), .val (.int d1), .unset, .unset, .unset, .unset, .unset, .unset, .unset, .unset, .unset, .unset, .unset, .unset, .unset, .unset, .unset, .unset, .unset] []))
        refine Go.st (fun _ k => XS.iloadN X.here hx rfl (hb hby at_94) rfl k) ?_
        show Go p e below _ (T.setTop (mkF m 95 #[.val (.int p0), .val (.int p1), .val (.int p2), .val (.int p3), .val (.int p4), .val (.int bl1), .val (.int b0), .val (.int b1), .val (.int bl2), .val (.int d0), .val (.int d1), .unset, .unset, .unset, .unset, .unset, .unset, .unset, .unset, .unset, .unset, .unset, .unset, .unset, .unset, .unset, .unset, .unset] [(.int p2)]))
        refine Go.st (fun _ k => XS.iconst X.here hx rfl (hb hby at_95) k) ?_
        show Go p e below _ (T.setTop (mkF m 96 #[.val (.int p0), .val (.int p1), .val (.int p2), .val (.int p3), .val (.int p4), .val (.int bl1), .val (.int b0), .val (.int b1), .val (.int bl2), .val (.int d0), .val (.int d1), .unset, .unset, .unset, .unset, .unset, .unset, .unset, .unset, .unset, .unset, .unset, .unset, .unset, .unset, .unset, .unset, .unset] [(.int (3 : Int32)), (.int p2)]))
        refine Go.st (fun _ k => XS.iand X.here hx rfl (hb hby at_96) rfl k) ?_
        show Go p e below _ (T.setTop (mkF m 97 #[.val (.int p0), .val (.int p1), .val (.int p2), .val (.int p3), .val (.int p4), .val (.int bl1), .val (.int b0), .val (.int b1), .val (.int bl2), .val (.int d0), .val (.int d1), .unset, .unset, .unset, .unset, .unset, .unset, .unset, .unset, .unset, .unset, .unset, .unset, .unset, .unset, .unset, .unset, .unset] [(.int (p2 &&& (3 : Int32)))]))
        refine Go.st (fun _ k => XS.iconst X.here hx rfl (hb hby at_97) k) ?_
        show Go p e below _ (T.setTop (mkF m 98 #[.val (.int p0), .val (.int p1), .val (.int p2), .val (.int p3), .val (.int p4), .val (.int bl1), .val (.int b0), .val (.int b1), .val (.int bl2), .val (.int d0), .val (.int d1), .unset, .unset, .unset, .unset, .unset, .unset, .unset, .unset, .unset, .unset, .unset, .unset, .unset, .unset, .unset, .unset, .unset] [(.int (3 : Int32)), (.int (p2 &&& (3 : Int32)))]))
        refine Go.st (fun _ k => iremM X hx rfl (hb hby at_98) rfl (by decide) k) ?_
        show Go p e below _ (T.setTop (mkF m 99 #[.val (.int p0), .val (.int p1), .val (.int p2), .val (.int p3), .val (.int p4), .val (.int bl1), .val (.int b0), .val (.int b1), .val (.int bl2), .val (.int d0), .val (.int d1), .unset, .unset, .unset, .unset, .unset, .unset, .unset, .unset, .unset, .unset, .unset, .unset, .unset, .unset, .unset, .unset, .unset] [(.int ((p2 &&& (3 : Int32)) % (3 : Int32)))]))
        obtain ⟨cl1, hcl1⟩ : ∃ z, z = ((p2 &&& (3 : Int32)) % (3 : Int32)) := ⟨_, rfl⟩
        rw [← hcl1]
        show Go p e below _ (T.setTop (mkF m 99 #[.val (.int p0), .val (.int p1), .val (.int p2), .val (.int p3), .val (.int p4), .val (.int bl1), .val (.int b0), .val (.int b1), .val (.int bl2), .val (.int d0), .val (.int d1), .unset, .unset, .unset, .unset, .unset, .unset, .unset, .unset, .unset, .unset, .unset, .unset, .unset, .unset, .unset, .unset, .unset] [(.int cl1)]))
        refine Go.st (fun _ k => XS.istore X.here hx rfl (hb hby at_99) rfl (l' := #[.val (.int p0), .val (.int p1), .val (.int p2), .val (.int p3), .val (.int p4), .val (.int bl1), .val (.int b0), .val (.int b1), .val (.int bl2), .val (.int d0), .val (.int d1), .val (.int cl1), .unset, .unset, .unset, .unset, .unset, .unset, .unset, .unset, .unset, .unset, .unset, .unset, .unset, .unset, .unset, .unset]) rfl k) ?_
        show Go p e below _ (T.setTop (mkF m 101 #[.val (.int p0), .val (.int p1), .val (.int p2), .val (.int p3), .val (.int p4), .val (.int bl1), .val (.int b0), .val (.int b1), .val (.int bl2), .val (.int d0), .val (.int d1), .val (.int cl1), .unset, .unset, .unset, .unset, .unset, .unset, .unset, .unset, .unset, .unset, .unset, .unset, .unset, .unset, .unset, .unset] []))
        refine Go.st (fun _ k => XS.iloadN X.here hx rfl (hb hby at_101) rfl k) ?_
        show Go p e below _ (T.setTop (mkF m 102 #[.val (.int p0), .val (.int p1), .val (.int p2), .val (.int p3), .val (.int p4), .val (.int bl1), .val (.int b0), .val (.int b1), .val (.int bl2), .val (.int d0), .val (.int d1), .val (.int cl1), .unset, .unset, .unset, .unset, .unset, .unset, .unset, .unset, .unset, .unset, .unset, .unset, .unset, .unset, .unset, .unset] [(.int p2)]))
        refine Go.st (fun _ k => XS.iconst X.here hx rfl (hb hby at_102) k) ?_
        show Go p e below _ (T.setTop (mkF m 103 #[.val (.int p0), .val (.int p1), .val (.int p2), .val (.int p3), .val (.int p4), .val (.int bl1), .val (.int b0), .val (.int b1), .val (.int bl2), .val (.int d0), .val (.int d1), .val (.int cl1), .unset, .unset, .unset, .unset, .unset, .unset, .unset, .unset, .unset, .unset, .unset, .unset, .unset, .unset, .unset, .unset] [(.int (2 : Int32)), (.int p2)]))
        refine Go.st (fun _ k => XS.iushr X.here hx rfl (hb hby at_103) rfl k) ?_
        show Go p e below _ (T.setTop (mkF m 104 #[.val (.int p0), .val (.int p1), .val (.int p2), .val (.int p3), .val (.int p4), .val (.int bl1), .val (.int b0), .val (.int b1), .val (.int bl2), .val (.int d0), .val (.int d1), .val (.int cl1), .unset, .unset, .unset, .unset, .unset, .unset, .unset, .unset, .unset, .unset, .unset, .unset, .unset, .unset, .unset, .unset] [(.int (((p2).toUInt32 >>> ((2 : Int32) &&& 31).toUInt32).toInt32))]))
        refine Go.st (fun _ k => XS.sipush X.here hx rfl (hb hby at_104) k) ?_
        show Go p e below _ (T.setTop (mkF m 107 #[.val (.int p0), .val (.int p1), .val (.int p2), .val (.int p3), .val (.int p4), .val (.int bl1), .val (.int b0), .val (.int b1), .val (.int bl2), .val (.int d0), .val (.int d1), .val (.int cl1), .unset, .unset, .unset, .unset, .unset, .unset, .unset, .unset, .unset, .unset, .unset, .unset, .unset, .unset, .unset, .unset] [(.int (255 : Int32)), (.int (((p2).toUInt32 >>> ((2 : Int32) &&& 31).toUInt32).toInt32))]))
        refine Go.st (fun _ k => XS.iand X.here hx rfl (hb hby at_107) rfl k) ?_
        show Go p e below _ (T.setTop (mkF m 108 #[.val (.int p0), .val (.int p1), .val (.int p2), .val (.int p3), .val (.int p4), .val (.int bl1), .val (.int b0), .val (.int b1), .val (.int bl2), .val (.int d0), .val (.int d1), .val (.int cl1), .unset, .unset, .unset, .unset, .unset, .unset, .unset, .unset, .unset, .unset, .unset, .unset, .unset, .unset, .unset, .unset] [(.int ((((p2).toUInt32 >>> ((2 : Int32) &&& 31).toUInt32).toInt32) &&& (255 : Int32)))]))
        refine Go.st (fun _ k => XS.i2c X.here hx rfl (hb hby at_108) rfl k) ?_
        show Go p e below _ (T.setTop (mkF m 109 #[.val (.int p0), .val (.int p1), .val (.int p2), .val (.int p3), .val (.int p4), .val (.int bl1), .val (.int b0), .val (.int b1), .val (.int bl2), .val (.int d0), .val (.int d1), .val (.int cl1), .unset, .unset, .unset, .unset, .unset, .unset, .unset, .unset, .unset, .unset, .unset, .unset, .unset, .unset, .unset, .unset] [(.int (((((p2).toUInt32 >>> ((2 : Int32) &&& 31).toUInt32).toInt32) &&& (255 : Int32)).toUInt32.toUInt16.toUInt32.toInt32))]))
        obtain ⟨c0, hc0⟩ : ∃ z, z = (((((p2).toUInt32 >>> ((2 : Int32) &&& 31).toUInt32).toInt32) &&& (255 : Int32)).toUInt32.toUInt16.toUInt32.toInt32) := ⟨_, rfl⟩
        rw [← hc0]
        show Go p e below _ (T.setTop (mkF m 109 #[.val (.int p0), .val (.int p1), .val (.int p2), .val (.int p3), .val (.int p4), .val (.int bl1), .val (.int b0), .val (.int b1), .val (.int bl2), .val (.int d0), .val (.int d1), .val (.int cl1), .unset, .unset, .unset, .unset, .unset, .unset, .unset, .unset, .unset, .unset, .unset, .unset, .unset, .unset, .unset, .unset] [(.int c0)]))
        refine Go.st (fun _ k => XS.istore X.here hx rfl (hb hby at_109) rfl (l' := #[.val (.int p0), .val (.int p1), .val (.int p2), .val (.int p3), .val (.int p4), .val (.int bl1), .val (.int b0), .val (.int b1), .val (.int bl2), .val (.int d0), .val (.int d1), .val (.int cl1), .val (.int c0), .unset, .unset, .unset, .unset, .unset, .unset, .unset, .unset, .unset, .unset, .unset, .unset, .unset, .unset, .unset]) rfl k) ?_
        show Go p e below _ (T.setTop (mkF m 111 #[.val (.int p0), .val (.int p1), .val (.int p2), .val (.int p3), .val (.int p4), .val (.int bl1), .val (.int b0), .val (.int b1), .val (.int bl2), .val (.int d0), .val (.int d1), .val (.int cl1), .val (.int c0), .unset, .unset, .unset, .unset, .unset, .unset, .unset, .unset, .unset, .unset, .unset, .unset, .unset, .unset, .unset] []))
        refine Go.st (fun _ k => XS.iloadN X.here hx rfl (hb hby at_111) rfl k) ?_
        show Go p e below _ (T.setTop (mkF m 112 #[.val (.int p0), .val (.int p1), .val (.int p2), .val (.int p3), .val (.int p4), .val (.int bl1), .val (.int b0), .val (.int b1), .val (.int bl2), .val (.int d0), .val (.int d1), .val (.int cl1), .val (.int c0), .unset, .unset, .unset, .unset, .unset, .unset, .unset, .unset, .unset, .unset, .unset, .unset, .unset, .unset, .unset] [(.int p2)]))
        refine Go.st (fun _ k => XS.bipush X.here hx rfl (hb hby at_112) k) ?_
        show Go p e below _ (T.setTop (mkF m 114 #[.val (.int p0), .val (.int p1), .val (.int p2), .val (.int p3), .val (.int p4), .val (.int bl1), .val (.int b0), .val (.int b1), .val (.int bl2), .val (.int d0), .val (.int d1), .val (.int cl1), .val (.int c0), .unset, .unset, .unset, .unset, .unset, .unset, .unset, .unset, .unset, .unset, .unset, .unset, .unset, .unset, .unset] [(.int (10 : Int32)), (.int p2)]))
        refine Go.st (fun _ k => XS.iushr X.here hx rfl (hb hby at_114) rfl k) ?_
        show Go p e below _ (T.setTop (mkF m 115 #[.val (.int p0), .val (.int p1), .val (.int p2), .val (.int p3), .val (.int p4), .val (.int bl1), .val (.int b0), .val (.int b1), .val (.int bl2), .val (.int d0), .val (.int d1), .val (.int cl1), .val (.int c0), .unset, .unset, .unset, .unset, .unset, .unset, .unset, .unset, .unset, .unset, .unset, .unset, .unset, .unset, .unset] [(.int (((p2).toUInt32 >>> ((10 : Int32) &&& 31).toUInt32).toInt32))]))
        refine Go.st (fun _ k => XS.sipush X.here hx rfl (hb hby at_115) k) ?_
        show Go p e below _ (T.setTop (mkF m 118 #[.val (.int p0), .val (.int p1), .val (.int p2), .val (.int p3), .val (.int p4), .val (.int bl1), .val (.int b0), .val (.int b1), .val (.int bl2), .val (.int d0), .val (.int d1), .val (.int cl1), .val (.int c0), .unset, .unset, .unset, .unset, .unset, .unset, .unset, .unset, .unset, .unset, .unset, .unset, .unset, .unset, .unset] [(.int (255 : Int32)), (.int (((p2).toUInt32 >>> ((10 : Int32) &&& 31).toUInt32).toInt32))]))
        refine Go.st (fun _ k => XS.iand X.here hx rfl (hb hby at_118) rfl k) ?_
        show Go p e below _ (T.setTop (mkF m 119 #[.val (.int p0), .val (.int p1), .val (.int p2), .val (.int p3), .val (.int p4), .val (.int bl1), .val (.int b0), .val (.int b1), .val (.int bl2), .val (.int d0), .val (.int d1), .val (.int cl1), .val (.int c0), .unset, .unset, .unset, .unset, .unset, .unset, .unset, .unset, .unset, .unset, .unset, .unset, .unset, .unset, .unset] [(.int ((((p2).toUInt32 >>> ((10 : Int32) &&& 31).toUInt32).toInt32) &&& (255 : Int32)))]))
        refine Go.st (fun _ k => XS.i2c X.here hx rfl (hb hby at_119) rfl k) ?_
        show Go p e below _ (T.setTop (mkF m 120 #[.val (.int p0), .val (.int p1), .val (.int p2), .val (.int p3), .val (.int p4), .val (.int bl1), .val (.int b0), .val (.int b1), .val (.int bl2), .val (.int d0), .val (.int d1), .val (.int cl1), .val (.int c0), .unset, .unset, .unset, .unset, .unset, .unset, .unset, .unset, .unset, .unset, .unset, .unset, .unset, .unset, .unset] [(.int (((((p2).toUInt32 >>> ((10 : Int32) &&& 31).toUInt32).toInt32) &&& (255 : Int32)).toUInt32.toUInt16.toUInt32.toInt32))]))
        obtain ⟨c1, hc1⟩ : ∃ z, z = (((((p2).toUInt32 >>> ((10 : Int32) &&& 31).toUInt32).toInt32) &&& (255 : Int32)).toUInt32.toUInt16.toUInt32.toInt32) := ⟨_, rfl⟩
        rw [← hc1]
        show Go p e below _ (T.setTop (mkF m 120 #[.val (.int p0), .val (.int p1), .val (.int p2), .val (.int p3), .val (.int p4), .val (.int bl1), .val (.int b0), .val (.int b1), .val (.int bl2), .val (.int d0), .val (.int d1), .val (.int cl1), .val (.int c0), .unset, .unset, .unset, .unset, .unset, .unset, .unset, .unset, .unset, .unset, .unset, .unset, .unset, .unset, .unset] [(.int c1)]))
        refine Go.st (fun _ k => XS.istore X.here hx rfl (hb hby at_120) rfl (l' := #[.val (.int p0), .val (.int p1), .val (.int p2), .val (.int p3), .val (.int p4), .val (.int bl1), .val (.int b0), .val (.int b1), .val (.int bl2), .val (.int d0), .val (.int d1), .val (.int cl1), .val (.int c0), .val (.int c1), .unset, .unset, .unset, .unset, .unset, .unset, .unset, .unset, .unset, .unset, .unset, .unset, .unset, .unset]) rfl k) ?_
        show Go p e below _ (T.setTop (mkF m 122 #[.val (.int p0), .val (.int p1), .val (.int p2), .val (.int p3), .val (.int p4), .val (.int bl1), .val (.int b0), .val (.int b1), .val (.int bl2), .val (.int d0), .val (.int d1), .val (.int cl1), .val (.int c0), .val (.int c1), .unset, .unset, .unset, .unset, .unset, .unset, .unset, .unset, .unset, .unset, .unset, .unset, .unset, .unset] []))
        refine Go.st (fun _ k => XS.iloadN X.here hx rfl (hb hby at_122) rfl k) ?_
        show Go p e below _ (T.setTop (mkF m 123 #[.val (.int p0), .val (.int p1), .val (.int p2), .val (.int p3), .val (.int p4), .val (.int bl1), .val (.int b0), .val (.int b1), .val (.int bl2), .val (.int d0), .val (.int d1), .val (.int cl1), .val (.int c0), .val (.int c1), .unset, .unset, .unset, .unset, .unset, .unset, .unset, .unset, .unset, .unset, .unset, .unset, .unset, .unset] [(.int p3)]))
        refine Go.st (fun _ k => XS.iconst X.here hx rfl (hb hby at_123) k) ?_
        show Go p e below _ (T.setTop (mkF m 124 #[.val (.int p0), .val (.int p1), .val (.int p2), .val (.int p3), .val (.int p4), .val (.int bl1), .val (.int b0), .val (.int b1), .val (.int bl2), .val (.int d0), .val (.int d1), .val (.int cl1), .val (.int c0), .val (.int c1), .unset, .unset, .unset, .unset, .unset, .unset, .unset, .unset, .unset, .unset, .unset, .unset, .unset, .unset] [(.int (1 : Int32)), (.int p3)]))
        refine Go.st (fun _ k => XS.iand X.here hx rfl (hb hby at_124) rfl k) ?_
        show Go p e below _ (T.setTop (mkF m 125 #[.val (.int p0), .val (.int p1), .val (.int p2), .val (.int p3), .val (.int p4), .val (.int bl1), .val (.int b0), .val (.int b1), .val (.int bl2), .val (.int d0), .val (.int d1), .val (.int cl1), .val (.int c0), .val (.int c1), .unset, .unset, .unset, .unset, .unset, .unset, .unset, .unset, .unset, .unset, .unset, .unset, .unset, .unset] [(.int (p3 &&& (1 : Int32)))]))
        refine own_cutT X hT (fun cl2 => (mkF m 140 #[.val (.int p0), .val (.int p1), .val (.int p2), .val (.int p3), .val (.int p4), .val (.int bl1), .val (.int b0), .val (.int b1), .val (.int bl2), .val (.int d0), .val (.int d1), .val (.int cl1), .val (.int c0), .val (.int c1), .unset, .unset, .unset, .unset, .unset, .unset, .unset, .unset, .unset, .unset, .unset, .unset, .unset, .unset] [(.int cl2)])) (if (p3 &&& (1 : Int32)) = (0 : Int32) then (((((p3).toUInt32 >>> ((1 : Int32) &&& 31).toUInt32).toInt32) &&& (3 : Int32)) % (3 : Int32)) else cl1) ?_ ?_
        · intro cl2 T hcl2 hT X
          show Go p e below _ (T.setTop (mkF m 140 #[.val (.int p0), .val (.int p1), .val (.int p2), .val (.int p3), .val (.int p4), .val (.int bl1), .val (.int b0), .val (.int b1), .val (.int bl2), .val (.int d0), .val (.int d1), .val (.int cl1), .val (.int c0), .val (.int c1), .unset, .unset, .unset, .unset, .unset, .unset, .unset, .unset, .unset, .unset, .unset, .unset, .unset, .unset] [(.int cl2)]))
          refine Go.st (fun _ k => XS.istore X.here hx rfl (hb hby at_140) rfl (l' := #[.val (.int p0), .val (.int p1), .val (.int p2), .val (.int p3), .val (.int p4), .val (.int bl1), .val (.int b0), .val (.int b1), .val (.int bl2), .val (.int d0), .val (.int d1), .val (.int cl1), .val (.int c0), .val (.int c1), .val (.int cl2), .unset, .unset, .unset, .unset, .unset, .unset, .unset, .unset, .unset, .unset, .unset, .unset, .unset]) rfl k) ?_
          show Go p e below _ (T.setTop (mkF m 142 #[.val (.int p0), .val (.int p1), .val (.int p2), .val (.int p3), .val (.int p4), .val (.int bl1), .val (.int b0), .val (.int b1), .val (.int bl2), .val (.int d0), .val (.int d1), .val (.int cl1), .val (.int c0), .val (.int c1), .val (.int cl2), .unset, .unset, .unset, .unset, .unset, .unset, .unset, .unset, .unset, .unset, .unset, .unset, .unset] []))
          refine Go.st (fun _ k => XS.iloadN X.here hx rfl (hb hby at_142) rfl k) ?_
          show Go p e below _ (T.setTop (mkF m 143 #[.val (.int p0), .val (.int p1), .val (.int p2), .val (.int p3), .val (.int p4), .val (.int bl1), .val (.int b0), .val (.int b1), .val (.int bl2), .val (.int d0), .val (.int d1), .val (.int cl1), .val (.int c0), .val (.int c1), .val (.int cl2), .unset, .unset, .unset, .unset, .unset, .unset, .unset, .unset, .unset, .unset, .unset, .unset, .unset] [(.int p3)]))
          refine Go.st (fun _ k => XS.bipush X.here hx rfl (hb hby at_143) k) ?_
          show Go p e below _ (T.setTop (mkF m 145 #[.val (.int p0), .val (.int p1), .val (.int p2), .val (.int p3), .val (.int p4), .val (.int bl1), .val (.int b0), .val (.int b1), .val (.int bl2), .val (.int d0), .val (.int d1), .val (.int cl1), .val (.int c0), .val (.int c1), .val (.int cl2), .unset, .unset, .unset, .unset, .unset, .unset, .unset, .unset, .unset, .unset, .unset, .unset, .unset] [(.int (8 : Int32)), (.int p3)]))
          refine Go.st (fun _ k => XS.iand X.here hx rfl (hb hby at_145) rfl k) ?_
          show Go p e below _ (T.setTop (mkF m 146 #[.val (.int p0), .val (.int p1), .val (.int p2), .val (.int p3), .val (.int p4), .val (.int bl1), .val (.int b0), .val (.int b1), .val (.int bl2), .val (.int d0), .val (.int d1), .val (.int cl1), .val (.int c0), .val (.int c1), .val (.int cl2), .unset, .unset, .unset, .unset, .unset, .unset, .unset, .unset, .unset, .unset, .unset, .unset, .unset] [(.int (p3 &&& (8 : Int32)))]))
          refine own_cutT X hT (fun e0 => (mkF m 162 #[.val (.int p0), .val (.int p1), .val (.int p2), .val (.int p3), .val (.int p4), .val (.int bl1), .val (.int b0), .val (.int b1), .val (.int bl2), .val (.int d0), .val (.int d1), .val (.int cl1), .val (.int c0), .val (.int c1), .val (.int cl2), .unset, .unset, .unset, .unset, .unset, .unset, .unset, .unset, .unset, .unset, .unset, .unset, .unset] [(.int e0)])) (if (p3 &&& (8 : Int32)) = (0 : Int32) then (((((p3).toUInt32 >>> ((4 : Int32) &&& 31).toUInt32).toInt32) &&& (255 : Int32)).toUInt32.toUInt16.toUInt32.toInt32) else c0) ?_ ?_
          · intro e0 T he0 hT X
            show Go p e below _ (T.setTop (mkF m 162 #[.val (.int p0), .val (.int p1), .val (.int p2), .val (.int p3), .val (.int p4), .val (.int bl1), .val (.int b0), .val (.int b1), .val (.int bl2), .val (.int d0), .val (.int d1), .val (.int cl1), .val (.int c0), .val (.int c1), .val (.int cl2), .unset, .unset, .unset, .unset, .unset, .unset, .unset, .unset, .unset, .unset, .unset, .unset, .unset] [(.int e0)]))
            refine Go.st (fun _ k => XS.istore X.here hx rfl (hb hby at_162) rfl (l' := #[.val (.int p0), .val (.int p1), .val (.int p2), .val (.int p3), .val (.int p4), .val (.int bl1), .val (.int b0), .val (.int b1), .val (.int bl2), .val (.int d0), .val (.int d1), .val (.int cl1), .val (.int c0), .val (.int c1), .val (.int cl2), .val (.int e0), .unset, .unset, .unset, .unset, .unset, .unset, .unset, .unset, .unset, .unset, .unset, .unset]) rfl k) ?_
            show Go p e below _ (T.setTop (mkF m 164 #[.val (.int p0), .val (.int p1), .val (.int p2), .val (.int p3), .val (.int p4), .val (.int bl1), .val (.int b0), .val (.int b1), .val (.int bl2), .val (.int d0), .val (.int d1), .val (.int cl1), .val (.int c0), .val (.int c1), .val (.int cl2), .val (.int e0), .unset, .unset, .unset, .unset, .unset, .unset, .unset, .unset, .unset, .unset, .unset, .unset] []))
            refine Go.st (fun _ k => XS.iloadN X.here hx rfl (hb hby at_164) rfl k) ?_
            show Go p e below _ (T.setTop (mkF m 165 #[.val (.int p0), .val (.int p1), .val (.int p2), .val (.int p3), .val (.int p4), .val (.int bl1), .val (.int b0), .val (.int b1), .val (.int bl2), .val (.int d0), .val (.int d1), .val (.int cl1), .val (.int c0), .val (.int c1), .val (.int cl2), .val (.int e0), .unset, .unset, .unset, .unset, .unset, .unset, .unset, .unset, .unset, .unset, .unset, .unset] [(.int p3)]))
            refine Go.st (fun _ k => XS.sipush X.here hx rfl (hb hby at_165) k) ?_
            show Go p e below _ (T.setTop (mkF m 168 #[.val (.int p0), .val (.int p1), .val (.int p2), .val (.int p3), .val (.int p4), .val (.int bl1), .val (.int b0), .val (.int b1), .val (.int bl2), .val (.int d0), .val (.int d1), .val (.int cl1), .val (.int c0), .val (.int c1), .val (.int cl2), .val (.int e0), .unset, .unset, .unset, .unset, .unset, .unset, .unset, .unset, .unset, .unset, .unset, .unset] [(.int (4096 : Int32)), (.int p3)]))
            refine Go.st (fun _ k => XS.iand X.here hx rfl (hb hby at_168) rfl k) ?_
            show Go p e below _ (T.setTop (mkF m 169 #[.val (.int p0), .val (.int p1), .val (.int p2), .val (.int p3), .val (.int p4), .val (.int bl1), .val (.int b0), .val (.int b1), .val (.int bl2), .val (.int d0), .val (.int d1), .val (.int cl1), .val (.int c0), .val (.int c1), .val (.int cl2), .val (.int e0), .unset, .unset, .unset, .unset, .unset, .unset, .unset, .unset, .unset, .unset, .unset, .unset] [(.int (p3 &&& (4096 : Int32)))]))
            refine own_cutT X hT (fun e1 => (mkF m 186 #[.val (.int p0), .val (.int p1), .val (.int p2), .val (.int p3), .val (.int p4), .val (.int bl1), .val (.int b0), .val (.int b1), .val (.int bl2), .val (.int d0), .val (.int d1), .val (.int cl1), .val (.int c0), .val (.int c1), .val (.int cl2), .val (.int e0), .unset, .unset, .unset, .unset, .unset, .unset, .unset, .unset, .unset, .unset, .unset, .unset] [(.int e1)])) (if (p3 &&& (4096 : Int32)) = (0 : Int32) then (((((p3).toUInt32 >>> ((13 : Int32) &&& 31).toUInt32).toInt32) &&& (255 : Int32)).toUInt32.toUInt16.toUInt32.toInt32) else c1) ?_ ?_
            · intro e1 T he1 hT X
              show Go p e below _ (T.setTop (mkF m 186 #[.val (.int p0), .val (.int p1), .val (.int p2), .val (.int p3), .val (.int p4), .val (.int bl1), .val (.int b0), .val (.int b1), .val (.int bl2), .val (.int d0), .val (.int d1), .val (.int cl1), .val (.int c0), .val (.int c1), .val (.int cl2), .val (.int e0), .unset, .unset, .unset, .unset, .unset, .unset, .unset, .unset, .unset, .unset, .unset, .unset] [(.int e1)]))
              refine Go.st (fun _ k => XS.istore X.here hx rfl (hb hby at_186) rfl (l' := #[.val (.int p0), .val (.int p1), .val (.int p2), .val (.int p3), .val (.int p4), .val (.int bl1), .val (.int b0), .val (.int b1), .val (.int bl2), .val (.int d0), .val (.int d1), .val (.int cl1), .val (.int c0), .val (.int c1), .val (.int cl2), .val (.int e0), .val (.int e1), .unset, .unset, .unset, .unset, .unset, .unset, .unset, .unset, .unset, .unset, .unset]) rfl k) ?_
              show Go p e below _ (T.setTop (mkF m 188 #[.val (.int p0), .val (.int p1), .val (.int p2), .val (.int p3), .val (.int p4), .val (.int bl1), .val (.int b0), .val (.int b1), .val (.int bl2), .val (.int d0), .val (.int d1), .val (.int cl1), .val (.int c0), .val (.int c1), .val (.int cl2), .val (.int e0), .val (.int e1), .unset, .unset, .unset, .unset, .unset, .unset, .unset, .unset, .unset, .unset, .unset] []))
              refine Go.st (fun _ k => XS.iload X.here hx rfl (hb hby at_188) rfl k) ?_
              show Go p e below _ (T.setTop (mkF m 190 #[.val (.int p0), .val (.int p1), .val (.int p2), .val (.int p3), .val (.int p4), .val (.int bl1), .val (.int b0), .val (.int b1), .val (.int bl2), .val (.int d0), .val (.int d1), .val (.int cl1), .val (.int c0), .val (.int c1), .val (.int cl2), .val (.int e0), .val (.int e1), .unset, .unset, .unset, .unset, .unset, .unset, .unset, .unset, .unset, .unset, .unset] [(.int bl1)]))
              refine Go.st (fun _ k => XS.iload X.here hx rfl (hb hby at_190) rfl k) ?_
              show Go p e below _ (T.setTop (mkF m 192 #[.val (.int p0), .val (.int p1), .val (.int p2), .val (.int p3), .val (.int p4), .val (.int bl1), .val (.int b0), .val (.int b1), .val (.int bl2), .val (.int d0), .val (.int d1), .val (.int cl1), .val (.int c0), .val (.int c1), .val (.int cl2), .val (.int e0), .val (.int e1), .unset, .unset, .unset, .unset, .unset, .unset, .unset, .unset, .unset, .unset, .unset] [(.int b0), (.int bl1)]))
              refine Go.st (fun _ k => XS.iload X.here hx rfl (hb hby at_192) rfl k) ?_
              show Go p e below _ (T.setTop (mkF m 194 #[.val (.int p0), .val (.int p1), .val (.int p2), .val (.int p3), .val (.int p4), .val (.int bl1), .val (.int b0), .val (.int b1), .val (.int bl2), .val (.int d0), .val (.int d1), .val (.int cl1), .val (.int c0), .val (.int c1), .val (.int cl2), .val (.int e0), .val (.int e1), .unset, .unset, .unset, .unset, .unset, .unset, .unset, .unset, .unset, .unset, .unset] [(.int b1), (.int b0), (.int bl1)]))
              refine Go.callH (argsL := [(.int bl1), (.int b0), (.int b1)]) (rest := []) (W := 0) (ck := 6) (sk := 16) H X hx hZ hown (hml.trans rfl) hT (hw _ (List.mem_of_getElem? (i := 0) rfl)) (hw _ (List.mem_of_getElem? (i := 1) rfl)) (hw _ (List.mem_of_getElem? (i := 2) rfl)) (hw _ (List.mem_of_getElem? (i := 3) rfl)) (by decide) pd_6 rfl rfl (Nat.le_of_ble_eq_true rfl) (hb hby at_194) (backOfSH (W := 0) (met_mk l Z a0 hw [] bl1 b0 b1 z n0 h0 O Sc (own_l8 hb0) (own_l8 hb1)) hZ (hw _ (List.mem_of_getElem? (i := 3) rfl)) (hw _ (List.mem_of_getElem? (i := 2) rfl)) (by decide) (by decide) hEL H.2.1) (by decide) (by decide) ?_
              intro v T h1 L vm hT hQ hZ hown H Rc X
              obtain ⟨o1, rfl, N0, Ex0, S_o1⟩ := hQ
              have N := Fr.app N N0
              have KB := (Keep.refl h0 []).ext Ex0
              have O := O.keep KB all0
              show Go p e below _ (T.setTop (mkF m 197 #[.val (.int p0), .val (.int p1), .val (.int p2), .val (.int p3), .val (.int p4), .val (.int bl1), .val (.int b0), .val (.int b1), .val (.int bl2), .val (.int d0), .val (.int d1), .val (.int cl1), .val (.int c0), .val (.int c1), .val (.int cl2), .val (.int e0), .val (.int e1), .unset, .unset, .unset, .unset, .unset, .unset, .unset, .unset, .unset, .unset, .unset] [(.ref o1)]))
              refine Go.st (fun _ k => XS.astore X.here hx rfl (hb hby at_197) rfl rfl (l' := #[.val (.int p0), .val (.int p1), .val (.int p2), .val (.int p3), .val (.int p4), .val (.int bl1), .val (.int b0), .val (.int b1), .val (.int bl2), .val (.int d0), .val (.int d1), .val (.int cl1), .val (.int c0), .val (.int c1), .val (.int cl2), .val (.int e0), .val (.int e1), .val (.ref o1), .unset, .unset, .unset, .unset, .unset, .unset, .unset, .unset, .unset, .unset]) rfl k) ?_
              show Go p e below _ (T.setTop (mkF m 199 #[.val (.int p0), .val (.int p1), .val (.int p2), .val (.int p3), .val (.int p4), .val (.int bl1), .val (.int b0), .val (.int b1), .val (.int bl2), .val (.int d0), .val (.int d1), .val (.int cl1), .val (.int c0), .val (.int c1), .val (.int cl2), .val (.int e0), .val (.int e1), .val (.ref o1), .unset, .unset, .unset, .unset, .unset, .unset, .unset, .unset, .unset, .unset] []))
              refine Go.st (fun _ k => XS.iload X.here hx rfl (hb hby at_199) rfl k) ?_
              show Go p e below _ (T.setTop (mkF m 201 #[.val (.int p0), .val (.int p1), .val (.int p2), .val (.int p3), .val (.int p4), .val (.int bl1), .val (.int b0), .val (.int b1), .val (.int bl2), .val (.int d0), .val (.int d1), .val (.int cl1), .val (.int c0), .val (.int c1), .val (.int cl2), .val (.int e0), .val (.int e1), .val (.ref o1), .unset, .unset, .unset, .unset, .unset, .unset, .unset, .unset, .unset, .unset] [(.int bl2)]))
              refine Go.st (fun _ k => XS.iload X.here hx rfl (hb hby at_201) rfl k) ?_
              show Go p e below _ (T.setTop (mkF m 203 #[.val (.int p0), .val (.int p1), .val (.int p2), .val (.int p3), .val (.int p4), .val (.int bl1), .val (.int b0), .val (.int b1), .val (.int bl2), .val (.int d0), .val (.int d1), .val (.int cl1), .val (.int c0), .val (.int c1), .val (.int cl2), .val (.int e0), .val (.int e1), .val (.ref o1), .unset, .unset, .unset, .unset, .unset, .unset, .unset, .unset, .unset, .unset] [(.int d0), (.int bl2)]))
              refine Go.st (fun _ k => XS.iload X.here hx rfl (hb hby at_203) rfl k) ?_
              show Go p e below _ (T.setTop (mkF m 205 #[.val (.int p0), .val (.int p1), .val (.int p2), .val (.int p3), .val (.int p4), .val (.int bl1), .val (.int b0), .val (.int b1), .val (.int bl2), .val (.int d0), .val (.int d1), .val (.int cl1), .val (.int c0), .val (.int c1), .val (.int cl2), .val (.int e0), .val (.int e1), .val (.ref o1), .unset, .unset, .unset, .unset, .unset, .unset, .unset, .unset, .unset, .unset] [(.int d1), (.int d0), (.int bl2)]))
              refine Go.callH (argsL := [(.int bl2), (.int d0), (.int d1)]) (rest := []) (W := 0) (ck := 6) (sk := 16) H X hx hZ hown (hml.trans rfl) hT (hw _ (List.mem_of_getElem? (i := 0) rfl)) (hw _ (List.mem_of_getElem? (i := 1) rfl)) (hw _ (List.mem_of_getElem? (i := 2) rfl)) (hw _ (List.mem_of_getElem? (i := 3) rfl)) (by decide) pd_6 rfl rfl (Nat.le_of_ble_eq_true rfl) (hb hby at_205) (backOfSH (W := 0) (met_mk l Z a0 hw [] bl2 d0 d1 z n0 h1 O Sc (own_l8i hd0 (own_l8 hb0)) (own_l8i hd1 (own_l8 hb1))) hZ (hw _ (List.mem_of_getElem? (i := 3) rfl)) (hw _ (List.mem_of_getElem? (i := 2) rfl)) (by decide) (by decide) hEL H.2.1) (by decide) (by decide) ?_
              intro v T h2 L vm hT hQ hZ hown H Rc X
              obtain ⟨o2, rfl, N0, Ex0, S_o2⟩ := hQ
              have N := Fr.app N N0
              have KB := (Keep.refl h1 []).ext Ex0
              have O := O.keep KB all0
              have S_o1 := S_o1.ext (keepE KB)
              show Go p e below _ (T.setTop (mkF m 208 #[.val (.int p0), .val (.int p1), .val (.int p2), .val (.int p3), .val (.int p4), .val (.int bl1), .val (.int b0), .val (.int b1), .val (.int bl2), .val (.int d0), .val (.int d1), .val (.int cl1), .val (.int c0), .val (.int c1), .val (.int cl2), .val (.int e0), .val (.int e1), .val (.ref o1), .unset, .unset, .unset, .unset, .unset, .unset, .unset, .unset, .unset, .unset] [(.ref o2)]))
              refine Go.st (fun _ k => XS.astore X.here hx rfl (hb hby at_208) rfl rfl (l' := #[.val (.int p0), .val (.int p1), .val (.int p2), .val (.int p3), .val (.int p4), .val (.int bl1), .val (.int b0), .val (.int b1), .val (.int bl2), .val (.int d0), .val (.int d1), .val (.int cl1), .val (.int c0), .val (.int c1), .val (.int cl2), .val (.int e0), .val (.int e1), .val (.ref o1), .val (.ref o2), .unset, .unset, .unset, .unset, .unset, .unset, .unset, .unset, .unset]) rfl k) ?_
              show Go p e below _ (T.setTop (mkF m 210 #[.val (.int p0), .val (.int p1), .val (.int p2), .val (.int p3), .val (.int p4), .val (.int bl1), .val (.int b0), .val (.int b1), .val (.int bl2), .val (.int d0), .val (.int d1), .val (.int cl1), .val (.int c0), .val (.int c1), .val (.int cl2), .val (.int e0), .val (.int e1), .val (.ref o1), .val (.ref o2), .unset, .unset, .unset, .unset, .unset, .unset, .unset, .unset, .unset] []))
              refine Go.st (fun _ k => XS.iload X.here hx rfl (hb hby at_210) rfl k) ?_
              show Go p e below _ (T.setTop (mkF m 212 #[.val (.int p0), .val (.int p1), .val (.int p2), .val (.int p3), .val (.int p4), .val (.int bl1), .val (.int b0), .val (.int b1), .val (.int bl2), .val (.int d0), .val (.int d1), .val (.int cl1), .val (.int c0), .val (.int c1), .val (.int cl2), .val (.int e0), .val (.int e1), .val (.ref o1), .val (.ref o2), .unset, .unset, .unset, .unset, .unset, .unset, .unset, .unset, .unset] [(.int cl1)]))
              refine Go.st (fun _ k => XS.iload X.here hx rfl (hb hby at_212) rfl k) ?_
              show Go p e below _ (T.setTop (mkF m 214 #[.val (.int p0), .val (.int p1), .val (.int p2), .val (.int p3), .val (.int p4), .val (.int bl1), .val (.int b0), .val (.int b1), .val (.int bl2), .val (.int d0), .val (.int d1), .val (.int cl1), .val (.int c0), .val (.int c1), .val (.int cl2), .val (.int e0), .val (.int e1), .val (.ref o1), .val (.ref o2), .unset, .unset, .unset, .unset, .unset, .unset, .unset, .unset, .unset] [(.int c0), (.int cl1)]))
              refine Go.st (fun _ k => XS.iload X.here hx rfl (hb hby at_214) rfl k) ?_
              show Go p e below _ (T.setTop (mkF m 216 #[.val (.int p0), .val (.int p1), .val (.int p2), .val (.int p3), .val (.int p4), .val (.int bl1), .val (.int b0), .val (.int b1), .val (.int bl2), .val (.int d0), .val (.int d1), .val (.int cl1), .val (.int c0), .val (.int c1), .val (.int cl2), .val (.int e0), .val (.int e1), .val (.ref o1), .val (.ref o2), .unset, .unset, .unset, .unset, .unset, .unset, .unset, .unset, .unset] [(.int c1), (.int c0), (.int cl1)]))
              refine Go.callH (argsL := [(.int cl1), (.int c0), (.int c1)]) (rest := []) (W := 0) (ck := 6) (sk := 16) H X hx hZ hown (hml.trans rfl) hT (hw _ (List.mem_of_getElem? (i := 0) rfl)) (hw _ (List.mem_of_getElem? (i := 1) rfl)) (hw _ (List.mem_of_getElem? (i := 2) rfl)) (hw _ (List.mem_of_getElem? (i := 3) rfl)) (by decide) pd_6 rfl rfl (Nat.le_of_ble_eq_true rfl) (hb hby at_216) (backOfSH (W := 0) (met_mk l Z a0 hw [] cl1 c0 c1 z n0 h2 O Sc (own_l8 hc0) (own_l8 hc1)) hZ (hw _ (List.mem_of_getElem? (i := 3) rfl)) (hw _ (List.mem_of_getElem? (i := 2) rfl)) (by decide) (by decide) hEL H.2.1) (by decide) (by decide) ?_
              intro v T h3 L vm hT hQ hZ hown H Rc X
              obtain ⟨o3, rfl, N0, Ex0, S_o3⟩ := hQ
              have N := Fr.app N N0
              have KB := (Keep.refl h2 []).ext Ex0
              have O := O.keep KB all0
              have S_o1 := S_o1.ext (keepE KB)
              have S_o2 := S_o2.ext (keepE KB)
              show Go p e below _ (T.setTop (mkF m 219 #[.val (.int p0), .val (.int p1), .val (.int p2), .val (.int p3), .val (.int p4), .val (.int bl1), .val (.int b0), .val (.int b1), .val (.int bl2), .val (.int d0), .val (.int d1), .val (.int cl1), .val (.int c0), .val (.int c1), .val (.int cl2), .val (.int e0), .val (.int e1), .val (.ref o1), .val (.ref o2), .unset, .unset, .unset, .unset, .unset, .unset, .unset, .unset, .unset] [(.ref o3)]))
              refine Go.st (fun _ k => XS.astore X.here hx rfl (hb hby at_219) rfl rfl (l' := #[.val (.int p0), .val (.int p1), .val (.int p2), .val (.int p3), .val (.int p4), .val (.int bl1), .val (.int b0), .val (.int b1), .val (.int bl2), .val (.int d0), .val (.int d1), .val (.int cl1), .val (.int c0), .val (.int c1), .val (.int cl2), .val (.int e0), .val (.int e1), .val (.ref o1), .val (.ref o2), .val (.ref o3), .unset, .unset, .unset, .unset, .unset, .unset, .unset, .unset]) rfl k) ?_
              show Go p e below _ (T.setTop (mkF m 221 #[.val (.int p0), .val (.int p1), .val (.int p2), .val (.int p3), .val (.int p4), .val (.int bl1), .val (.int b0), .val (.int b1), .val (.int bl2), .val (.int d0), .val (.int d1), .val (.int cl1), .val (.int c0), .val (.int c1), .val (.int cl2), .val (.int e0), .val (.int e1), .val (.ref o1), .val (.ref o2), .val (.ref o3), .unset, .unset, .unset, .unset, .unset, .unset, .unset, .unset] []))
              refine Go.st (fun _ k => XS.iload X.here hx rfl (hb hby at_221) rfl k) ?_
              show Go p e below _ (T.setTop (mkF m 223 #[.val (.int p0), .val (.int p1), .val (.int p2), .val (.int p3), .val (.int p4), .val (.int bl1), .val (.int b0), .val (.int b1), .val (.int bl2), .val (.int d0), .val (.int d1), .val (.int cl1), .val (.int c0), .val (.int c1), .val (.int cl2), .val (.int e0), .val (.int e1), .val (.ref o1), .val (.ref o2), .val (.ref o3), .unset, .unset, .unset, .unset, .unset, .unset, .unset, .unset] [(.int cl2)]))
              refine Go.st (fun _ k => XS.iload X.here hx rfl (hb hby at_223) rfl k) ?_
              show Go p e below _ (T.setTop (mkF m 225 #[.val (.int p0), .val (.int p1), .val (.int p2), .val (.int p3), .val (.int p4), .val (.int bl1), .val (.int b0), .val (.int b1), .val (.int bl2), .val (.int d0), .val (.int d1), .val (.int cl1), .val (.int c0), .val (.int c1), .val (.int cl2), .val (.int e0), .val (.int e1), .val (.ref o1), .val (.ref o2), .val (.ref o3), .unset, .unset, .unset, .unset, .unset, .unset, .unset, .unset] [(.int e0), (.int cl2)]))
              refine Go.st (fun _ k => XS.iload X.here hx rfl (hb hby at_225) rfl k) ?_
              show Go p e below _ (T.setTop (mkF m 227 #[.val (.int p0), .val (.int p1), .val (.int p2), .val (.int p3), .val (.int p4), .val (.int bl1), .val (.int b0), .val (.int b1), .val (.int bl2), .val (.int d0), .val (.int d1), .val (.int cl1), .val (.int c0), .val (.int c1), .val (.int cl2), .val (.int e0), .val (.int e1), .val (.ref o1), .val (.ref o2), .val (.ref o3), .unset, .unset, .unset, .unset, .unset, .unset, .unset, .unset] [(.int e1), (.int e0), (.int cl2)]))
              refine Go.callH (argsL := [(.int cl2), (.int e0), (.int e1)]) (rest := []) (W := 0) (ck := 6) (sk := 16) H X hx hZ hown (hml.trans rfl) hT (hw _ (List.mem_of_getElem? (i := 0) rfl)) (hw _ (List.mem_of_getElem? (i := 1) rfl)) (hw _ (List.mem_of_getElem? (i := 2) rfl)) (hw _ (List.mem_of_getElem? (i := 3) rfl)) (by decide) pd_6 rfl rfl (Nat.le_of_ble_eq_true rfl) (hb hby at_227) (backOfSH (W := 0) (met_mk l Z a0 hw [] cl2 e0 e1 z n0 h3 O Sc (own_l8i he0 (own_l8 hc0)) (own_l8i he1 (own_l8 hc1))) hZ (hw _ (List.mem_of_getElem? (i := 3) rfl)) (hw _ (List.mem_of_getElem? (i := 2) rfl)) (by decide) (by decide) hEL H.2.1) (by decide) (by decide) ?_
              intro v T h4 L vm hT hQ hZ hown H Rc X
              obtain ⟨o4, rfl, N0, Ex0, S_o4⟩ := hQ
              have N := Fr.app N N0
              have KB := (Keep.refl h3 []).ext Ex0
              have O := O.keep KB all0
              have S_o1 := S_o1.ext (keepE KB)
              have S_o2 := S_o2.ext (keepE KB)
              have S_o3 := S_o3.ext (keepE KB)
              show Go p e below _ (T.setTop (mkF m 230 #[.val (.int p0), .val (.int p1), .val (.int p2), .val (.int p3), .val (.int p4), .val (.int bl1), .val (.int b0), .val (.int b1), .val (.int bl2), .val (.int d0), .val (.int d1), .val (.int cl1), .val (.int c0), .val (.int c1), .val (.int cl2), .val (.int e0), .val (.int e1), .val (.ref o1), .val (.ref o2), .val (.ref o3), .unset, .unset, .unset, .unset, .unset, .unset, .unset, .unset] [(.ref o4)]))
              refine Go.st (fun _ k => XS.astore X.here hx rfl (hb hby at_230) rfl rfl (l' := #[.val (.int p0), .val (.int p1), .val (.int p2), .val (.int p3), .val (.int p4), .val (.int bl1), .val (.int b0), .val (.int b1), .val (.int bl2), .val (.int d0), .val (.int d1), .val (.int cl1), .val (.int c0), .val (.int c1), .val (.int cl2), .val (.int e0), .val (.int e1), .val (.ref o1), .val (.ref o2), .val (.ref o3), .val (.ref o4), .unset, .unset, .unset, .unset, .unset, .unset, .unset]) rfl k) ?_
              show Go p e below _ (T.setTop (mkF m 232 #[.val (.int p0), .val (.int p1), .val (.int p2), .val (.int p3), .val (.int p4), .val (.int bl1), .val (.int b0), .val (.int b1), .val (.int bl2), .val (.int d0), .val (.int d1), .val (.int cl1), .val (.int c0), .val (.int c1), .val (.int cl2), .val (.int e0), .val (.int e1), .val (.ref o1), .val (.ref o2), .val (.ref o3), .val (.ref o4), .unset, .unset, .unset, .unset, .unset, .unset, .unset] []))
              refine Go.st (fun _ k => XS.iload X.here hx rfl (hb hby at_232) rfl k) ?_
              show Go p e below _ (T.setTop (mkF m 234 #[.val (.int p0), .val (.int p1), .val (.int p2), .val (.int p3), .val (.int p4), .val (.int bl1), .val (.int b0), .val (.int b1), .val (.int bl2), .val (.int d0), .val (.int d1), .val (.int cl1), .val (.int c0), .val (.int c1), .val (.int cl2), .val (.int e0), .val (.int e1), .val (.ref o1), .val (.ref o2), .val (.ref o3), .val (.ref o4), .unset, .unset, .unset, .unset, .unset, .unset, .unset] [(.int p4)]))
              refine Go.st (fun _ k => XS.sipush X.here hx rfl (hb hby at_234) k) ?_
              show Go p e below _ (T.setTop (mkF m 237 #[.val (.int p0), .val (.int p1), .val (.int p2), .val (.int p3), .val (.int p4), .val (.int bl1), .val (.int b0), .val (.int b1), .val (.int bl2), .val (.int d0), .val (.int d1), .val (.int cl1), .val (.int c0), .val (.int c1), .val (.int cl2), .val (.int e0), .val (.int e1), .val (.ref o1), .val (.ref o2), .val (.ref o3), .val (.ref o4), .unset, .unset, .unset, .unset, .unset, .unset, .unset] [(.int (255 : Int32)), (.int p4)]))
              refine Go.st (fun _ k => XS.iand X.here hx rfl (hb hby at_237) rfl k) ?_
              show Go p e below _ (T.setTop (mkF m 238 #[.val (.int p0), .val (.int p1), .val (.int p2), .val (.int p3), .val (.int p4), .val (.int bl1), .val (.int b0), .val (.int b1), .val (.int bl2), .val (.int d0), .val (.int d1), .val (.int cl1), .val (.int c0), .val (.int c1), .val (.int cl2), .val (.int e0), .val (.int e1), .val (.ref o1), .val (.ref o2), .val (.ref o3), .val (.ref o4), .unset, .unset, .unset, .unset, .unset, .unset, .unset] [(.int (p4 &&& (255 : Int32)))]))
              refine Go.st (fun _ k => XS.i2c X.here hx rfl (hb hby at_238) rfl k) ?_
              show Go p e below _ (T.setTop (mkF m 239 #[.val (.int p0), .val (.int p1), .val (.int p2), .val (.int p3), .val (.int p4), .val (.int bl1), .val (.int b0), .val (.int b1), .val (.int bl2), .val (.int d0), .val (.int d1), .val (.int cl1), .val (.int c0), .val (.int c1), .val (.int cl2), .val (.int e0), .val (.int e1), .val (.ref o1), .val (.ref o2), .val (.ref o3), .val (.ref o4), .unset, .unset, .unset, .unset, .unset, .unset, .unset] [(.int ((p4 &&& (255 : Int32)).toUInt32.toUInt16.toUInt32.toInt32))]))
              refine Go.callP (argsL := [(.int ((p4 &&& (255 : Int32)).toUInt32.toUInt16.toUInt32.toInt32))]) (rest := []) (W := 0) (ck := 2) (sk := 5) X hx hZ hown (hml.trans rfl) hT (hw _ (List.mem_of_getElem? (i := 37) rfl)) (hw _ (List.mem_of_getElem? (i := 38) rfl)) (hw _ (List.mem_of_getElem? (i := 6) rfl)) (hw _ (List.mem_of_getElem? (i := 39) rfl)) (by decide) pd_7 rfl rfl (Nat.le_of_ble_eq_true rfl) (hb hby at_239) (backOf (W := 0) (met_valof l Z a0 hw [] n0 ((p4 &&& (255 : Int32)).toUInt32.toUInt16.toUInt32.toInt32) z _ O Sc (own_mask _).1 (own_mask _).2) hZ (hw _ (List.mem_of_getElem? (i := 39) rfl)) (hw _ (List.mem_of_getElem? (i := 6) rfl)) (by decide) (by decide)) (by decide) (by decide) ?_
              intro v T h5 L hT hQ X
              obtain ⟨o5, rfl, N0, Ex0, S_o5⟩ := hQ
              have N := Fr.app N N0
              have H := H.ext Ex0
              have KB := (Keep.refl h4 []).ext Ex0
              have O := O.keep KB all0
              have S_o1 := S_o1.ext (keepE KB)
              have S_o2 := S_o2.ext (keepE KB)
              have S_o3 := S_o3.ext (keepE KB)
              have S_o4 := S_o4.ext (keepE KB)
              show Go p e below _ (T.setTop (mkF m 242 #[.val (.int p0), .val (.int p1), .val (.int p2), .val (.int p3), .val (.int p4), .val (.int bl1), .val (.int b0), .val (.int b1), .val (.int bl2), .val (.int d0), .val (.int d1), .val (.int cl1), .val (.int c0), .val (.int c1), .val (.int cl2), .val (.int e0), .val (.int e1), .val (.ref o1), .val (.ref o2), .val (.ref o3), .val (.ref o4), .unset, .unset, .unset, .unset, .unset, .unset, .unset] [(.ref o5)]))
              refine Go.st (fun _ k => XS.astore X.here hx rfl (hb hby at_242) rfl rfl (l' := #[.val (.int p0), .val (.int p1), .val (.int p2), .val (.int p3), .val (.int p4), .val (.int bl1), .val (.int b0), .val (.int b1), .val (.int bl2), .val (.int d0), .val (.int d1), .val (.int cl1), .val (.int c0), .val (.int c1), .val (.int cl2), .val (.int e0), .val (.int e1), .val (.ref o1), .val (.ref o2), .val (.ref o3), .val (.ref o4), .val (.ref o5), .unset, .unset, .unset, .unset, .unset, .unset]) rfl k) ?_
              show Go p e below _ (T.setTop (mkF m 244 #[.val (.int p0), .val (.int p1), .val (.int p2), .val (.int p3), .val (.int p4), .val (.int bl1), .val (.int b0), .val (.int b1), .val (.int bl2), .val (.int d0), .val (.int d1), .val (.int cl1), .val (.int c0), .val (.int c1), .val (.int cl2), .val (.int e0), .val (.int e1), .val (.ref o1), .val (.ref o2), .val (.ref o3), .val (.ref o4), .val (.ref o5), .unset, .unset, .unset, .unset, .unset, .unset] []))
              refine Go.st (fun _ k => XS.iload X.here hx rfl (hb hby at_244) rfl k) ?_
              show Go p e below _ (T.setTop (mkF m 246 #[.val (.int p0), .val (.int p1), .val (.int p2), .val (.int p3), .val (.int p4), .val (.int bl1), .val (.int b0), .val (.int b1), .val (.int bl2), .val (.int d0), .val (.int d1), .val (.int cl1), .val (.int c0), .val (.int c1), .val (.int cl2), .val (.int e0), .val (.int e1), .val (.ref o1), .val (.ref o2), .val (.ref o3), .val (.ref o4), .val (.ref o5), .unset, .unset, .unset, .unset, .unset, .unset] [(.int p4)]))
              refine Go.st (fun _ k => XS.bipush X.here hx rfl (hb hby at_246) k) ?_
              show Go p e below _ (T.setTop (mkF m 248 #[.val (.int p0), .val (.int p1), .val (.int p2), .val (.int p3), .val (.int p4), .val (.int bl1), .val (.int b0), .val (.int b1), .val (.int bl2), .val (.int d0), .val (.int d1), .val (.int cl1), .val (.int c0), .val (.int c1), .val (.int cl2), .val (.int e0), .val (.int e1), .val (.ref o1), .val (.ref o2), .val (.ref o3), .val (.ref o4), .val (.ref o5), .unset, .unset, .unset, .unset, .unset, .unset] [(.int (8 : Int32)), (.int p4)]))
              refine Go.st (fun _ k => XS.iushr X.here hx rfl (hb hby at_248) rfl k) ?_
              show Go p e below _ (T.setTop (mkF m 249 #[.val (.int p0), .val (.int p1), .val (.int p2), .val (.int p3), .val (.int p4), .val (.int bl1), .val (.int b0), .val (.int b1), .val (.int bl2), .val (.int d0), .val (.int d1), .val (.int cl1), .val (.int c0), .val (.int c1), .val (.int cl2), .val (.int e0), .val (.int e1), .val (.ref o1), .val (.ref o2), .val (.ref o3), .val (.ref o4), .val (.ref o5), .unset, .unset, .unset, .unset, .unset, .unset] [(.int (((p4).toUInt32 >>> ((8 : Int32) &&& 31).toUInt32).toInt32))]))
              refine Go.st (fun _ k => XS.sipush X.here hx rfl (hb hby at_249) k) ?_
              show Go p e below _ (T.setTop (mkF m 252 #[.val (.int p0), .val (.int p1), .val (.int p2), .val (.int p3), .val (.int p4), .val (.int bl1), .val (.int b0), .val (.int b1), .val (.int bl2), .val (.int d0), .val (.int d1), .val (.int cl1), .val (.int c0), .val (.int c1), .val (.int cl2), .val (.int e0), .val (.int e1), .val (.ref o1), .val (.ref o2), .val (.ref o3), .val (.ref o4), .val (.ref o5), .unset, .unset, .unset, .unset, .unset, .unset] [(.int (255 : Int32)), (.int (((p4).toUInt32 >>> ((8 : Int32) &&& 31).toUInt32).toInt32))]))
              refine Go.st (fun _ k => XS.iand X.here hx rfl (hb hby at_252) rfl k) ?_
              show Go p e below _ (T.setTop (mkF m 253 #[.val (.int p0), .val (.int p1), .val (.int p2), .val (.int p3), .val (.int p4), .val (.int bl1), .val (.int b0), .val (.int b1), .val (.int bl2), .val (.int d0), .val (.int d1), .val (.int cl1), .val (.int c0), .val (.int c1), .val (.int cl2), .val (.int e0), .val (.int e1), .val (.ref o1), .val (.ref o2), .val (.ref o3), .val (.ref o4), .val (.ref o5), .unset, .unset, .unset, .unset, .unset, .unset] [(.int ((((p4).toUInt32 >>> ((8 : Int32) &&& 31).toUInt32).toInt32) &&& (255 : Int32)))]))
              refine Go.st (fun _ k => XS.i2c X.here hx rfl (hb hby at_253) rfl k) ?_
              show Go p e below _ (T.setTop (mkF m 254 #[.val (.int p0), .val (.int p1), .val (.int p2), .val (.int p3), .val (.int p4), .val (.int bl1), .val (.int b0), .val (.int b1), .val (.int bl2), .val (.int d0), .val (.int d1), .val (.int cl1), .val (.int c0), .val (.int c1), .val (.int cl2), .val (.int e0), .val (.int e1), .val (.ref o1), .val (.ref o2), .val (.ref o3), .val (.ref o4), .val (.ref o5), .unset, .unset, .unset, .unset, .unset, .unset] [(.int (((((p4).toUInt32 >>> ((8 : Int32) &&& 31).toUInt32).toInt32) &&& (255 : Int32)).toUInt32.toUInt16.toUInt32.toInt32))]))
              refine Go.callP (argsL := [(.int (((((p4).toUInt32 >>> ((8 : Int32) &&& 31).toUInt32).toInt32) &&& (255 : Int32)).toUInt32.toUInt16.toUInt32.toInt32))]) (rest := []) (W := 0) (ck := 2) (sk := 5) X hx hZ hown (hml.trans rfl) hT (hw _ (List.mem_of_getElem? (i := 37) rfl)) (hw _ (List.mem_of_getElem? (i := 38) rfl)) (hw _ (List.mem_of_getElem? (i := 6) rfl)) (hw _ (List.mem_of_getElem? (i := 39) rfl)) (by decide) pd_7 rfl rfl (Nat.le_of_ble_eq_true rfl) (hb hby at_254) (backOf (W := 0) (met_valof l Z a0 hw [] n0 (((((p4).toUInt32 >>> ((8 : Int32) &&& 31).toUInt32).toInt32) &&& (255 : Int32)).toUInt32.toUInt16.toUInt32.toInt32) z _ O Sc (own_mask _).1 (own_mask _).2) hZ (hw _ (List.mem_of_getElem? (i := 39) rfl)) (hw _ (List.mem_of_getElem? (i := 6) rfl)) (by decide) (by decide)) (by decide) (by decide) ?_
              intro v T h6 L hT hQ X
              obtain ⟨o6, rfl, N0, Ex0, S_o6⟩ := hQ
              have N := Fr.app N N0
              have H := H.ext Ex0
              have KB := (Keep.refl h5 []).ext Ex0
              have O := O.keep KB all0
              have S_o1 := S_o1.ext (keepE KB)
              have S_o2 := S_o2.ext (keepE KB)
              have S_o3 := S_o3.ext (keepE KB)
              have S_o4 := S_o4.ext (keepE KB)
              have S_o5 := S_o5.ext (keepE KB)
              show Go p e below _ (T.setTop (mkF m 257 #[.val (.int p0), .val (.int p1), .val (.int p2), .val (.int p3), .val (.int p4), .val (.int bl1), .val (.int b0), .val (.int b1), .val (.int bl2), .val (.int d0), .val (.int d1), .val (.int cl1), .val (.int c0), .val (.int c1), .val (.int cl2), .val (.int e0), .val (.int e1), .val (.ref o1), .val (.ref o2), .val (.ref o3), .val (.ref o4), .val (.ref o5), .unset, .unset, .unset, .unset, .unset, .unset] [(.ref o6)]))
              refine Go.st (fun _ k => XS.astore X.here hx rfl (hb hby at_257) rfl rfl (l' := #[.val (.int p0), .val (.int p1), .val (.int p2), .val (.int p3), .val (.int p4), .val (.int bl1), .val (.int b0), .val (.int b1), .val (.int bl2), .val (.int d0), .val (.int d1), .val (.int cl1), .val (.int c0), .val (.int c1), .val (.int cl2), .val (.int e0), .val (.int e1), .val (.ref o1), .val (.ref o2), .val (.ref o3), .val (.ref o4), .val (.ref o5), .val (.ref o6), .unset, .unset, .unset, .unset, .unset]) rfl k) ?_
              show Go p e below _ (T.setTop (mkF m 259 #[.val (.int p0), .val (.int p1), .val (.int p2), .val (.int p3), .val (.int p4), .val (.int bl1), .val (.int b0), .val (.int b1), .val (.int bl2), .val (.int d0), .val (.int d1), .val (.int cl1), .val (.int c0), .val (.int c1), .val (.int cl2), .val (.int e0), .val (.int e1), .val (.ref o1), .val (.ref o2), .val (.ref o3), .val (.ref o4), .val (.ref o5), .val (.ref o6), .unset, .unset, .unset, .unset, .unset] []))
              refine Go.st (fun _ k => XS.iload X.here hx rfl (hb hby at_259) rfl k) ?_
              show Go p e below _ (T.setTop (mkF m 261 #[.val (.int p0), .val (.int p1), .val (.int p2), .val (.int p3), .val (.int p4), .val (.int bl1), .val (.int b0), .val (.int b1), .val (.int bl2), .val (.int d0), .val (.int d1), .val (.int cl1), .val (.int c0), .val (.int c1), .val (.int cl2), .val (.int e0), .val (.int e1), .val (.ref o1), .val (.ref o2), .val (.ref o3), .val (.ref o4), .val (.ref o5), .val (.ref o6), .unset, .unset, .unset, .unset, .unset] [(.int p4)]))
              refine Go.st (fun _ k => XS.bipush X.here hx rfl (hb hby at_261) k) ?_
              show Go p e below _ (T.setTop (mkF m 263 #[.val (.int p0), .val (.int p1), .val (.int p2), .val (.int p3), .val (.int p4), .val (.int bl1), .val (.int b0), .val (.int b1), .val (.int bl2), .val (.int d0), .val (.int d1), .val (.int cl1), .val (.int c0), .val (.int c1), .val (.int cl2), .val (.int e0), .val (.int e1), .val (.ref o1), .val (.ref o2), .val (.ref o3), .val (.ref o4), .val (.ref o5), .val (.ref o6), .unset, .unset, .unset, .unset, .unset] [(.int (16 : Int32)), (.int p4)]))
              refine Go.st (fun _ k => XS.iushr X.here hx rfl (hb hby at_263) rfl k) ?_
              show Go p e below _ (T.setTop (mkF m 264 #[.val (.int p0), .val (.int p1), .val (.int p2), .val (.int p3), .val (.int p4), .val (.int bl1), .val (.int b0), .val (.int b1), .val (.int bl2), .val (.int d0), .val (.int d1), .val (.int cl1), .val (.int c0), .val (.int c1), .val (.int cl2), .val (.int e0), .val (.int e1), .val (.ref o1), .val (.ref o2), .val (.ref o3), .val (.ref o4), .val (.ref o5), .val (.ref o6), .unset, .unset, .unset, .unset, .unset] [(.int (((p4).toUInt32 >>> ((16 : Int32) &&& 31).toUInt32).toInt32))]))
              refine Go.st (fun _ k => XS.sipush X.here hx rfl (hb hby at_264) k) ?_
              show Go p e below _ (T.setTop (mkF m 267 #[.val (.int p0), .val (.int p1), .val (.int p2), .val (.int p3), .val (.int p4), .val (.int bl1), .val (.int b0), .val (.int b1), .val (.int bl2), .val (.int d0), .val (.int d1), .val (.int cl1), .val (.int c0), .val (.int c1), .val (.int cl2), .val (.int e0), .val (.int e1), .val (.ref o1), .val (.ref o2), .val (.ref o3), .val (.ref o4), .val (.ref o5), .val (.ref o6), .unset, .unset, .unset, .unset, .unset] [(.int (255 : Int32)), (.int (((p4).toUInt32 >>> ((16 : Int32) &&& 31).toUInt32).toInt32))]))
              refine Go.st (fun _ k => XS.iand X.here hx rfl (hb hby at_267) rfl k) ?_
              show Go p e below _ (T.setTop (mkF m 268 #[.val (.int p0), .val (.int p1), .val (.int p2), .val (.int p3), .val (.int p4), .val (.int bl1), .val (.int b0), .val (.int b1), .val (.int bl2), .val (.int d0), .val (.int d1), .val (.int cl1), .val (.int c0), .val (.int c1), .val (.int cl2), .val (.int e0), .val (.int e1), .val (.ref o1), .val (.ref o2), .val (.ref o3), .val (.ref o4), .val (.ref o5), .val (.ref o6), .unset, .unset, .unset, .unset, .unset] [(.int ((((p4).toUInt32 >>> ((16 : Int32) &&& 31).toUInt32).toInt32) &&& (255 : Int32)))]))
              refine Go.st (fun _ k => XS.i2c X.here hx rfl (hb hby at_268) rfl k) ?_
              show Go p e below _ (T.setTop (mkF m 269 #[.val (.int p0), .val (.int p1), .val (.int p2), .val (.int p3), .val (.int p4), .val (.int bl1), .val (.int b0), .val (.int b1), .val (.int bl2), .val (.int d0), .val (.int d1), .val (.int cl1), .val (.int c0), .val (.int c1), .val (.int cl2), .val (.int e0), .val (.int e1), .val (.ref o1), .val (.ref o2), .val (.ref o3), .val (.ref o4), .val (.ref o5), .val (.ref o6), .unset, .unset, .unset, .unset, .unset] [(.int (((((p4).toUInt32 >>> ((16 : Int32) &&& 31).toUInt32).toInt32) &&& (255 : Int32)).toUInt32.toUInt16.toUInt32.toInt32))]))
              refine Go.callP (argsL := [(.int (((((p4).toUInt32 >>> ((16 : Int32) &&& 31).toUInt32).toInt32) &&& (255 : Int32)).toUInt32.toUInt16.toUInt32.toInt32))]) (rest := []) (W := 0) (ck := 2) (sk := 5) X hx hZ hown (hml.trans rfl) hT (hw _ (List.mem_of_getElem? (i := 37) rfl)) (hw _ (List.mem_of_getElem? (i := 38) rfl)) (hw _ (List.mem_of_getElem? (i := 6) rfl)) (hw _ (List.mem_of_getElem? (i := 39) rfl)) (by decide) pd_7 rfl rfl (Nat.le_of_ble_eq_true rfl) (hb hby at_269) (backOf (W := 0) (met_valof l Z a0 hw [] n0 (((((p4).toUInt32 >>> ((16 : Int32) &&& 31).toUInt32).toInt32) &&& (255 : Int32)).toUInt32.toUInt16.toUInt32.toInt32) z _ O Sc (own_mask _).1 (own_mask _).2) hZ (hw _ (List.mem_of_getElem? (i := 39) rfl)) (hw _ (List.mem_of_getElem? (i := 6) rfl)) (by decide) (by decide)) (by decide) (by decide) ?_
              intro v T h7 L hT hQ X
              obtain ⟨o7, rfl, N0, Ex0, S_o7⟩ := hQ
              have N := Fr.app N N0
              have H := H.ext Ex0
              have KB := (Keep.refl h6 []).ext Ex0
              have O := O.keep KB all0
              have S_o1 := S_o1.ext (keepE KB)
              have S_o2 := S_o2.ext (keepE KB)
              have S_o3 := S_o3.ext (keepE KB)
              have S_o4 := S_o4.ext (keepE KB)
              have S_o5 := S_o5.ext (keepE KB)
              have S_o6 := S_o6.ext (keepE KB)
              show Go p e below _ (T.setTop (mkF m 272 #[.val (.int p0), .val (.int p1), .val (.int p2), .val (.int p3), .val (.int p4), .val (.int bl1), .val (.int b0), .val (.int b1), .val (.int bl2), .val (.int d0), .val (.int d1), .val (.int cl1), .val (.int c0), .val (.int c1), .val (.int cl2), .val (.int e0), .val (.int e1), .val (.ref o1), .val (.ref o2), .val (.ref o3), .val (.ref o4), .val (.ref o5), .val (.ref o6), .unset, .unset, .unset, .unset, .unset] [(.ref o7)]))
              refine Go.st (fun _ k => XS.astore X.here hx rfl (hb hby at_272) rfl rfl (l' := #[.val (.int p0), .val (.int p1), .val (.int p2), .val (.int p3), .val (.int p4), .val (.int bl1), .val (.int b0), .val (.int b1), .val (.int bl2), .val (.int d0), .val (.int d1), .val (.int cl1), .val (.int c0), .val (.int c1), .val (.int cl2), .val (.int e0), .val (.int e1), .val (.ref o1), .val (.ref o2), .val (.ref o3), .val (.ref o4), .val (.ref o5), .val (.ref o6), .val (.ref o7), .unset, .unset, .unset, .unset]) rfl k) ?_
              show Go p e below _ (T.setTop (mkF m 274 #[.val (.int p0), .val (.int p1), .val (.int p2), .val (.int p3), .val (.int p4), .val (.int bl1), .val (.int b0), .val (.int b1), .val (.int bl2), .val (.int d0), .val (.int d1), .val (.int cl1), .val (.int c0), .val (.int c1), .val (.int cl2), .val (.int e0), .val (.int e1), .val (.ref o1), .val (.ref o2), .val (.ref o3), .val (.ref o4), .val (.ref o5), .val (.ref o6), .val (.ref o7), .unset, .unset, .unset, .unset] []))
              refine Go.st (fun _ k => XS.iload X.here hx rfl (hb hby at_274) rfl k) ?_
              show Go p e below _ (T.setTop (mkF m 276 #[.val (.int p0), .val (.int p1), .val (.int p2), .val (.int p3), .val (.int p4), .val (.int bl1), .val (.int b0), .val (.int b1), .val (.int bl2), .val (.int d0), .val (.int d1), .val (.int cl1), .val (.int c0), .val (.int c1), .val (.int cl2), .val (.int e0), .val (.int e1), .val (.ref o1), .val (.ref o2), .val (.ref o3), .val (.ref o4), .val (.ref o5), .val (.ref o6), .val (.ref o7), .unset, .unset, .unset, .unset] [(.int p4)]))
              refine Go.st (fun _ k => XS.bipush X.here hx rfl (hb hby at_276) k) ?_
              show Go p e below _ (T.setTop (mkF m 278 #[.val (.int p0), .val (.int p1), .val (.int p2), .val (.int p3), .val (.int p4), .val (.int bl1), .val (.int b0), .val (.int b1), .val (.int bl2), .val (.int d0), .val (.int d1), .val (.int cl1), .val (.int c0), .val (.int c1), .val (.int cl2), .val (.int e0), .val (.int e1), .val (.ref o1), .val (.ref o2), .val (.ref o3), .val (.ref o4), .val (.ref o5), .val (.ref o6), .val (.ref o7), .unset, .unset, .unset, .unset] [(.int (24 : Int32)), (.int p4)]))
              refine Go.st (fun _ k => XS.iushr X.here hx rfl (hb hby at_278) rfl k) ?_
              show Go p e below _ (T.setTop (mkF m 279 #[.val (.int p0), .val (.int p1), .val (.int p2), .val (.int p3), .val (.int p4), .val (.int bl1), .val (.int b0), .val (.int b1), .val (.int bl2), .val (.int d0), .val (.int d1), .val (.int cl1), .val (.int c0), .val (.int c1), .val (.int cl2), .val (.int e0), .val (.int e1), .val (.ref o1), .val (.ref o2), .val (.ref o3), .val (.ref o4), .val (.ref o5), .val (.ref o6), .val (.ref o7), .unset, .unset, .unset, .unset] [(.int (((p4).toUInt32 >>> ((24 : Int32) &&& 31).toUInt32).toInt32))]))
              refine Go.st (fun _ k => XS.sipush X.here hx rfl (hb hby at_279) k) ?_
              show Go p e below _ (T.setTop (mkF m 282 #[.val (.int p0), .val (.int p1), .val (.int p2), .val (.int p3), .val (.int p4), .val (.int bl1), .val (.int b0), .val (.int b1), .val (.int bl2), .val (.int d0), .val (.int d1), .val (.int cl1), .val (.int c0), .val (.int c1), .val (.int cl2), .val (.int e0), .val (.int e1), .val (.ref o1), .val (.ref o2), .val (.ref o3), .val (.ref o4), .val (.ref o5), .val (.ref o6), .val (.ref o7), .unset, .unset, .unset, .unset] [(.int (255 : Int32)), (.int (((p4).toUInt32 >>> ((24 : Int32) &&& 31).toUInt32).toInt32))]))
              refine Go.st (fun _ k => XS.iand X.here hx rfl (hb hby at_282) rfl k) ?_
              show Go p e below _ (T.setTop (mkF m 283 #[.val (.int p0), .val (.int p1), .val (.int p2), .val (.int p3), .val (.int p4), .val (.int bl1), .val (.int b0), .val (.int b1), .val (.int bl2), .val (.int d0), .val (.int d1), .val (.int cl1), .val (.int c0), .val (.int c1), .val (.int cl2), .val (.int e0), .val (.int e1), .val (.ref o1), .val (.ref o2), .val (.ref o3), .val (.ref o4), .val (.ref o5), .val (.ref o6), .val (.ref o7), .unset, .unset, .unset, .unset] [(.int ((((p4).toUInt32 >>> ((24 : Int32) &&& 31).toUInt32).toInt32) &&& (255 : Int32)))]))
              refine Go.st (fun _ k => XS.i2c X.here hx rfl (hb hby at_283) rfl k) ?_
              show Go p e below _ (T.setTop (mkF m 284 #[.val (.int p0), .val (.int p1), .val (.int p2), .val (.int p3), .val (.int p4), .val (.int bl1), .val (.int b0), .val (.int b1), .val (.int bl2), .val (.int d0), .val (.int d1), .val (.int cl1), .val (.int c0), .val (.int c1), .val (.int cl2), .val (.int e0), .val (.int e1), .val (.ref o1), .val (.ref o2), .val (.ref o3), .val (.ref o4), .val (.ref o5), .val (.ref o6), .val (.ref o7), .unset, .unset, .unset, .unset] [(.int (((((p4).toUInt32 >>> ((24 : Int32) &&& 31).toUInt32).toInt32) &&& (255 : Int32)).toUInt32.toUInt16.toUInt32.toInt32))]))
              refine Go.callP (argsL := [(.int (((((p4).toUInt32 >>> ((24 : Int32) &&& 31).toUInt32).toInt32) &&& (255 : Int32)).toUInt32.toUInt16.toUInt32.toInt32))]) (rest := []) (W := 0) (ck := 2) (sk := 5) X hx hZ hown (hml.trans rfl) hT (hw _ (List.mem_of_getElem? (i := 37) rfl)) (hw _ (List.mem_of_getElem? (i := 38) rfl)) (hw _ (List.mem_of_getElem? (i := 6) rfl)) (hw _ (List.mem_of_getElem? (i := 39) rfl)) (by decide) pd_7 rfl rfl (Nat.le_of_ble_eq_true rfl) (hb hby at_284) (backOf (W := 0) (met_valof l Z a0 hw [] n0 (((((p4).toUInt32 >>> ((24 : Int32) &&& 31).toUInt32).toInt32) &&& (255 : Int32)).toUInt32.toUInt16.toUInt32.toInt32) z _ O Sc (own_mask _).1 (own_mask _).2) hZ (hw _ (List.mem_of_getElem? (i := 39) rfl)) (hw _ (List.mem_of_getElem? (i := 6) rfl)) (by decide) (by decide)) (by decide) (by decide) ?_
              intro v T h8 L hT hQ X
              obtain ⟨o8, rfl, N0, Ex0, S_o8⟩ := hQ
              have N := Fr.app N N0
              have H := H.ext Ex0
              have KB := (Keep.refl h7 []).ext Ex0
              have O := O.keep KB all0
              have S_o1 := S_o1.ext (keepE KB)
              have S_o2 := S_o2.ext (keepE KB)
              have S_o3 := S_o3.ext (keepE KB)
              have S_o4 := S_o4.ext (keepE KB)
              have S_o5 := S_o5.ext (keepE KB)
              have S_o6 := S_o6.ext (keepE KB)
              have S_o7 := S_o7.ext (keepE KB)
              show Go p e below _ (T.setTop (mkF m 287 #[.val (.int p0), .val (.int p1), .val (.int p2), .val (.int p3), .val (.int p4), .val (.int bl1), .val (.int b0), .val (.int b1), .val (.int bl2), .val (.int d0), .val (.int d1), .val (.int cl1), .val (.int c0), .val (.int c1), .val (.int cl2), .val (.int e0), .val (.int e1), .val (.ref o1), .val (.ref o2), .val (.ref o3), .val (.ref o4), .val (.ref o5), .val (.ref o6), .val (.ref o7), .unset, .unset, .unset, .unset] [(.ref o8)]))
              refine Go.st (fun _ k => XS.astore X.here hx rfl (hb hby at_287) rfl rfl (l' := #[.val (.int p0), .val (.int p1), .val (.int p2), .val (.int p3), .val (.int p4), .val (.int bl1), .val (.int b0), .val (.int b1), .val (.int bl2), .val (.int d0), .val (.int d1), .val (.int cl1), .val (.int c0), .val (.int c1), .val (.int cl2), .val (.int e0), .val (.int e1), .val (.ref o1), .val (.ref o2), .val (.ref o3), .val (.ref o4), .val (.ref o5), .val (.ref o6), .val (.ref o7), .val (.ref o8), .unset, .unset, .unset]) rfl k) ?_
              show Go p e below _ (T.setTop (mkF m 289 #[.val (.int p0), .val (.int p1), .val (.int p2), .val (.int p3), .val (.int p4), .val (.int bl1), .val (.int b0), .val (.int b1), .val (.int bl2), .val (.int d0), .val (.int d1), .val (.int cl1), .val (.int c0), .val (.int c1), .val (.int cl2), .val (.int e0), .val (.int e1), .val (.ref o1), .val (.ref o2), .val (.ref o3), .val (.ref o4), .val (.ref o5), .val (.ref o6), .val (.ref o7), .val (.ref o8), .unset, .unset, .unset] []))
              obtain ⟨T, h9, X, hT, Ex0, A_o9, D_o9, -, st⟩ := newO X hx hZ hown (hw _ (List.mem_of_getElem? (i := 51) rfl)) (hw _ (List.mem_of_getElem? (i := 52) rfl)) (hw _ (List.mem_of_getElem? (i := 53) rfl)) hT (g := (mkF m 289 #[.val (.int p0), .val (.int p1), .val (.int p2), .val (.int p3), .val (.int p4), .val (.int bl1), .val (.int b0), .val (.int b1), .val (.int bl2), .val (.int d0), .val (.int d1), .val (.int cl1), .val (.int c0), .val (.int c1), .val (.int cl2), .val (.int e0), .val (.int e1), .val (.ref o1), .val (.ref o2), .val (.ref o3), .val (.ref o4), .val (.ref o5), .val (.ref o6), .val (.ref o7), .val (.ref o8), .unset, .unset, .unset] [])) rfl (hb hby at_289) (by decide) (by decide)
              obtain ⟨o9, g_o9⟩ : ∃ z, z = h8.size := ⟨_, rfl⟩
              rw [← g_o9] at A_o9 D_o9 st
              refine Go.st st ?_
              have ge_o9 : n0 ≤ o9 := Nat.le_trans (own_le (O)) (Nat.le_of_eq g_o9.symm)
              have gk_o9 : h8.size ≤ o9 := Nat.le_trans (Keep.refl h8 []).1 (Nat.le_of_eq g_o9.symm)
              have Sf_o9 := Safe.ext Ex0 H.2.1 (Safe.new (Nat.le_of_eq g_o9.symm))
              have H := H.ext Ex0
              have KB := (Keep.refl h8 []).ext Ex0
              have F_o9_board := D_o9 (Or.inr (hw _ (List.mem_of_getElem? (i := 59) rfl))) (ty := (.object "java/lang/String")) (by decide)
              have F_o9_category := D_o9 (Or.inr (hw _ (List.mem_of_getElem? (i := 61) rfl))) (ty := (.object "java/lang/String")) (by decide)
              have F_o9_bucket := D_o9 (Or.inr (hw _ (List.mem_of_getElem? (i := 63) rfl))) (ty := (.object "java/lang/String")) (by decide)
              have F_o9_item := D_o9 (Or.inr (hw _ (List.mem_of_getElem? (i := 65) rfl))) (ty := (.object "java/lang/String")) (by decide)
              show Go p e below _ (T.setTop (mkF m 292 #[.val (.int p0), .val (.int p1), .val (.int p2), .val (.int p3), .val (.int p4), .val (.int bl1), .val (.int b0), .val (.int b1), .val (.int bl2), .val (.int d0), .val (.int d1), .val (.int cl1), .val (.int c0), .val (.int c1), .val (.int cl2), .val (.int e0), .val (.int e1), .val (.ref o1), .val (.ref o2), .val (.ref o3), .val (.ref o4), .val (.ref o5), .val (.ref o6), .val (.ref o7), .val (.ref o8), .unset, .unset, .unset] [(.ref o9)]))
              refine Go.st (fun _ k => XS.dup X.here hx rfl (hb hby at_292) rfl rfl k) ?_
              show Go p e below _ (T.setTop (mkF m 293 #[.val (.int p0), .val (.int p1), .val (.int p2), .val (.int p3), .val (.int p4), .val (.int bl1), .val (.int b0), .val (.int b1), .val (.int bl2), .val (.int d0), .val (.int d1), .val (.int cl1), .val (.int c0), .val (.int c1), .val (.int cl2), .val (.int e0), .val (.int e1), .val (.ref o1), .val (.ref o2), .val (.ref o3), .val (.ref o4), .val (.ref o5), .val (.ref o6), .val (.ref o7), .val (.ref o8), .unset, .unset, .unset] [(.ref o9), (.ref o9)]))
              refine Go.st (fun _ k => XS.aload X.here hx rfl (hb hby at_293) rfl rfl k) ?_
              show Go p e below _ (T.setTop (mkF m 295 #[.val (.int p0), .val (.int p1), .val (.int p2), .val (.int p3), .val (.int p4), .val (.int bl1), .val (.int b0), .val (.int b1), .val (.int bl2), .val (.int d0), .val (.int d1), .val (.int cl1), .val (.int c0), .val (.int c1), .val (.int cl2), .val (.int e0), .val (.int e1), .val (.ref o1), .val (.ref o2), .val (.ref o3), .val (.ref o4), .val (.ref o5), .val (.ref o6), .val (.ref o7), .val (.ref o8), .unset, .unset, .unset] [(.ref o1), (.ref o9), (.ref o9)]))
              refine Go.st (fun _ k => XS.aload X.here hx rfl (hb hby at_295) rfl rfl k) ?_
              show Go p e below _ (T.setTop (mkF m 297 #[.val (.int p0), .val (.int p1), .val (.int p2), .val (.int p3), .val (.int p4), .val (.int bl1), .val (.int b0), .val (.int b1), .val (.int bl2), .val (.int d0), .val (.int d1), .val (.int cl1), .val (.int c0), .val (.int c1), .val (.int cl2), .val (.int e0), .val (.int e1), .val (.ref o1), .val (.ref o2), .val (.ref o3), .val (.ref o4), .val (.ref o5), .val (.ref o6), .val (.ref o7), .val (.ref o8), .unset, .unset, .unset] [(.ref o3), (.ref o1), (.ref o9), (.ref o9)]))
              refine Go.st (fun _ k => XS.aload X.here hx rfl (hb hby at_297) rfl rfl k) ?_
              show Go p e below _ (T.setTop (mkF m 299 #[.val (.int p0), .val (.int p1), .val (.int p2), .val (.int p3), .val (.int p4), .val (.int bl1), .val (.int b0), .val (.int b1), .val (.int bl2), .val (.int d0), .val (.int d1), .val (.int cl1), .val (.int c0), .val (.int c1), .val (.int cl2), .val (.int e0), .val (.int e1), .val (.ref o1), .val (.ref o2), .val (.ref o3), .val (.ref o4), .val (.ref o5), .val (.ref o6), .val (.ref o7), .val (.ref o8), .unset, .unset, .unset] [(.ref o5), (.ref o3), (.ref o1), (.ref o9), (.ref o9)]))
              refine Go.st (fun _ k => XS.aload X.here hx rfl (hb hby at_299) rfl rfl k) ?_
              show Go p e below _ (T.setTop (mkF m 301 #[.val (.int p0), .val (.int p1), .val (.int p2), .val (.int p3), .val (.int p4), .val (.int bl1), .val (.int b0), .val (.int b1), .val (.int bl2), .val (.int d0), .val (.int d1), .val (.int cl1), .val (.int c0), .val (.int c1), .val (.int cl2), .val (.int e0), .val (.int e1), .val (.ref o1), .val (.ref o2), .val (.ref o3), .val (.ref o4), .val (.ref o5), .val (.ref o6), .val (.ref o7), .val (.ref o8), .unset, .unset, .unset] [(.ref o7), (.ref o5), (.ref o3), (.ref o1), (.ref o9), (.ref o9)]))
              refine Go.specP (argsL := [(.ref o1), (.ref o3), (.ref o5), (.ref o7)]) (rest := [(.ref o9)]) (W := 1) (ck := 0) (sk := 0) X hx hZ hown (hml.trans rfl) hT rfl (hw _ (List.mem_of_getElem? (i := 54) rfl)) (hw _ (List.mem_of_getElem? (i := 55) rfl)) (hw _ (List.mem_of_getElem? (i := 56) rfl)) (by decide) pd_8 rfl rfl (Nat.le_of_ble_eq_true rfl) (hb hby at_301) (backOf (W := 1) (met_tk l Z a0 hw [] n0 o9 o1 o3 o5 o7 h9 ge_o9 A_o9 F_o9_board F_o9_category F_o9_bucket F_o9_item) hZ (hw _ (List.mem_of_getElem? (i := 56) rfl)) (hw _ (List.mem_of_getElem? (i := 53) rfl)) (by decide) (by decide)) (by decide) (by decide) ?_
              intro v T h10 L hT hQ X
              obtain ⟨rfl, N0, K0, A_o9, F_o9_board, F_o9_category⟩ := hQ
              have N := Fr.app N N0
              have H := H.keep K0 (sfS Sf_o9 sf0)
              have KB := (KB).trans K0 (allS (Or.inr gk_o9) all0)
              have O := O.keep KB all0
              have S_o1 := S_o1.ext (keepE KB)
              have S_o2 := S_o2.ext (keepE KB)
              have S_o3 := S_o3.ext (keepE KB)
              have S_o4 := S_o4.ext (keepE KB)
              have S_o5 := S_o5.ext (keepE KB)
              have S_o6 := S_o6.ext (keepE KB)
              have S_o7 := S_o7.ext (keepE KB)
              have S_o8 := S_o8.ext (keepE KB)
              show Go p e below _ (T.setTop (mkF m 304 #[.val (.int p0), .val (.int p1), .val (.int p2), .val (.int p3), .val (.int p4), .val (.int bl1), .val (.int b0), .val (.int b1), .val (.int bl2), .val (.int d0), .val (.int d1), .val (.int cl1), .val (.int c0), .val (.int c1), .val (.int cl2), .val (.int e0), .val (.int e1), .val (.ref o1), .val (.ref o2), .val (.ref o3), .val (.ref o4), .val (.ref o5), .val (.ref o6), .val (.ref o7), .val (.ref o8), .unset, .unset, .unset] [(.ref o9)]))
              refine Go.st (fun _ k => XS.astore X.here hx rfl (hb hby at_304) rfl rfl (l' := #[.val (.int p0), .val (.int p1), .val (.int p2), .val (.int p3), .val (.int p4), .val (.int bl1), .val (.int b0), .val (.int b1), .val (.int bl2), .val (.int d0), .val (.int d1), .val (.int cl1), .val (.int c0), .val (.int c1), .val (.int cl2), .val (.int e0), .val (.int e1), .val (.ref o1), .val (.ref o2), .val (.ref o3), .val (.ref o4), .val (.ref o5), .val (.ref o6), .val (.ref o7), .val (.ref o8), .val (.ref o9), .unset, .unset]) rfl k) ?_
              show Go p e below _ (T.setTop (mkF m 306 #[.val (.int p0), .val (.int p1), .val (.int p2), .val (.int p3), .val (.int p4), .val (.int bl1), .val (.int b0), .val (.int b1), .val (.int bl2), .val (.int d0), .val (.int d1), .val (.int cl1), .val (.int c0), .val (.int c1), .val (.int cl2), .val (.int e0), .val (.int e1), .val (.ref o1), .val (.ref o2), .val (.ref o3), .val (.ref o4), .val (.ref o5), .val (.ref o6), .val (.ref o7), .val (.ref o8), .val (.ref o9), .unset, .unset] []))
              obtain ⟨T, h11, X, hT, Ex0, A_o10, D_o10, -, st⟩ := newO X hx hZ hown (hw _ (List.mem_of_getElem? (i := 51) rfl)) (hw _ (List.mem_of_getElem? (i := 52) rfl)) (hw _ (List.mem_of_getElem? (i := 53) rfl)) hT (g := (mkF m 306 #[.val (.int p0), .val (.int p1), .val (.int p2), .val (.int p3), .val (.int p4), .val (.int bl1), .val (.int b0), .val (.int b1), .val (.int bl2), .val (.int d0), .val (.int d1), .val (.int cl1), .val (.int c0), .val (.int c1), .val (.int cl2), .val (.int e0), .val (.int e1), .val (.ref o1), .val (.ref o2), .val (.ref o3), .val (.ref o4), .val (.ref o5), .val (.ref o6), .val (.ref o7), .val (.ref o8), .val (.ref o9), .unset, .unset] [])) rfl (hb hby at_306) (by decide) (by decide)
              obtain ⟨o10, g_o10⟩ : ∃ z, z = h10.size := ⟨_, rfl⟩
              rw [← g_o10] at A_o10 D_o10 st
              refine Go.st st ?_
              have ge_o10 : n0 ≤ o10 := Nat.le_trans (own_le (O)) (Nat.le_of_eq g_o10.symm)
              have gk_o10 : h10.size ≤ o10 := Nat.le_trans (Keep.refl h10 []).1 (Nat.le_of_eq g_o10.symm)
              have Sf_o10 := Safe.ext Ex0 H.2.1 (Safe.new (Nat.le_of_eq g_o10.symm))
              have H := H.ext Ex0
              have KB := (Keep.refl h10 []).ext Ex0
              have F_o10_board := D_o10 (Or.inr (hw _ (List.mem_of_getElem? (i := 59) rfl))) (ty := (.object "java/lang/String")) (by decide)
              have F_o10_category := D_o10 (Or.inr (hw _ (List.mem_of_getElem? (i := 61) rfl))) (ty := (.object "java/lang/String")) (by decide)
              have F_o10_bucket := D_o10 (Or.inr (hw _ (List.mem_of_getElem? (i := 63) rfl))) (ty := (.object "java/lang/String")) (by decide)
              have F_o10_item := D_o10 (Or.inr (hw _ (List.mem_of_getElem? (i := 65) rfl))) (ty := (.object "java/lang/String")) (by decide)
              show Go p e below _ (T.setTop (mkF m 309 #[.val (.int p0), .val (.int p1), .val (.int p2), .val (.int p3), .val (.int p4), .val (.int bl1), .val (.int b0), .val (.int b1), .val (.int bl2), .val (.int d0), .val (.int d1), .val (.int cl1), .val (.int c0), .val (.int c1), .val (.int cl2), .val (.int e0), .val (.int e1), .val (.ref o1), .val (.ref o2), .val (.ref o3), .val (.ref o4), .val (.ref o5), .val (.ref o6), .val (.ref o7), .val (.ref o8), .val (.ref o9), .unset, .unset] [(.ref o10)]))
              refine Go.st (fun _ k => XS.dup X.here hx rfl (hb hby at_309) rfl rfl k) ?_
              show Go p e below _ (T.setTop (mkF m 310 #[.val (.int p0), .val (.int p1), .val (.int p2), .val (.int p3), .val (.int p4), .val (.int bl1), .val (.int b0), .val (.int b1), .val (.int bl2), .val (.int d0), .val (.int d1), .val (.int cl1), .val (.int c0), .val (.int c1), .val (.int cl2), .val (.int e0), .val (.int e1), .val (.ref o1), .val (.ref o2), .val (.ref o3), .val (.ref o4), .val (.ref o5), .val (.ref o6), .val (.ref o7), .val (.ref o8), .val (.ref o9), .unset, .unset] [(.ref o10), (.ref o10)]))
              refine Go.st (fun _ k => XS.aload X.here hx rfl (hb hby at_310) rfl rfl k) ?_
              show Go p e below _ (T.setTop (mkF m 312 #[.val (.int p0), .val (.int p1), .val (.int p2), .val (.int p3), .val (.int p4), .val (.int bl1), .val (.int b0), .val (.int b1), .val (.int bl2), .val (.int d0), .val (.int d1), .val (.int cl1), .val (.int c0), .val (.int c1), .val (.int cl2), .val (.int e0), .val (.int e1), .val (.ref o1), .val (.ref o2), .val (.ref o3), .val (.ref o4), .val (.ref o5), .val (.ref o6), .val (.ref o7), .val (.ref o8), .val (.ref o9), .unset, .unset] [(.ref o2), (.ref o10), (.ref o10)]))
              refine Go.st (fun _ k => XS.aload X.here hx rfl (hb hby at_312) rfl rfl k) ?_
              show Go p e below _ (T.setTop (mkF m 314 #[.val (.int p0), .val (.int p1), .val (.int p2), .val (.int p3), .val (.int p4), .val (.int bl1), .val (.int b0), .val (.int b1), .val (.int bl2), .val (.int d0), .val (.int d1), .val (.int cl1), .val (.int c0), .val (.int c1), .val (.int cl2), .val (.int e0), .val (.int e1), .val (.ref o1), .val (.ref o2), .val (.ref o3), .val (.ref o4), .val (.ref o5), .val (.ref o6), .val (.ref o7), .val (.ref o8), .val (.ref o9), .unset, .unset] [(.ref o4), (.ref o2), (.ref o10), (.ref o10)]))
              refine Go.st (fun _ k => XS.aload X.here hx rfl (hb hby at_314) rfl rfl k) ?_
              show Go p e below _ (T.setTop (mkF m 316 #[.val (.int p0), .val (.int p1), .val (.int p2), .val (.int p3), .val (.int p4), .val (.int bl1), .val (.int b0), .val (.int b1), .val (.int bl2), .val (.int d0), .val (.int d1), .val (.int cl1), .val (.int c0), .val (.int c1), .val (.int cl2), .val (.int e0), .val (.int e1), .val (.ref o1), .val (.ref o2), .val (.ref o3), .val (.ref o4), .val (.ref o5), .val (.ref o6), .val (.ref o7), .val (.ref o8), .val (.ref o9), .unset, .unset] [(.ref o6), (.ref o4), (.ref o2), (.ref o10), (.ref o10)]))
              refine Go.st (fun _ k => XS.aload X.here hx rfl (hb hby at_316) rfl rfl k) ?_
              show Go p e below _ (T.setTop (mkF m 318 #[.val (.int p0), .val (.int p1), .val (.int p2), .val (.int p3), .val (.int p4), .val (.int bl1), .val (.int b0), .val (.int b1), .val (.int bl2), .val (.int d0), .val (.int d1), .val (.int cl1), .val (.int c0), .val (.int c1), .val (.int cl2), .val (.int e0), .val (.int e1), .val (.ref o1), .val (.ref o2), .val (.ref o3), .val (.ref o4), .val (.ref o5), .val (.ref o6), .val (.ref o7), .val (.ref o8), .val (.ref o9), .unset, .unset] [(.ref o8), (.ref o6), (.ref o4), (.ref o2), (.ref o10), (.ref o10)]))
              refine Go.specP (argsL := [(.ref o2), (.ref o4), (.ref o6), (.ref o8)]) (rest := [(.ref o10)]) (W := 1) (ck := 0) (sk := 0) X hx hZ hown (hml.trans rfl) hT rfl (hw _ (List.mem_of_getElem? (i := 54) rfl)) (hw _ (List.mem_of_getElem? (i := 55) rfl)) (hw _ (List.mem_of_getElem? (i := 56) rfl)) (by decide) pd_8 rfl rfl (Nat.le_of_ble_eq_true rfl) (hb hby at_318) (backOf (W := 1) (met_tk l Z a0 hw [] n0 o10 o2 o4 o6 o8 h11 ge_o10 A_o10 F_o10_board F_o10_category F_o10_bucket F_o10_item) hZ (hw _ (List.mem_of_getElem? (i := 56) rfl)) (hw _ (List.mem_of_getElem? (i := 53) rfl)) (by decide) (by decide)) (by decide) (by decide) ?_
              intro v T h12 L hT hQ X
              obtain ⟨rfl, N0, K0, A_o10, F_o10_board, F_o10_category⟩ := hQ
              have N := Fr.app N N0
              have H := H.keep K0 (sfS Sf_o10 sf0)
              have KB := (KB).trans K0 (allS (Or.inr gk_o10) all0)
              have O := O.keep KB all0
              have S_o1 := S_o1.ext (keepE KB)
              have S_o2 := S_o2.ext (keepE KB)
              have S_o3 := S_o3.ext (keepE KB)
              have S_o4 := S_o4.ext (keepE KB)
              have S_o5 := S_o5.ext (keepE KB)
              have S_o6 := S_o6.ext (keepE KB)
              have S_o7 := S_o7.ext (keepE KB)
              have S_o8 := S_o8.ext (keepE KB)
              have A_o9 := A_o9.keep KB
              have F_o9_board := F_o9_board.keep KB nin0
              have F_o9_category := F_o9_category.keep KB nin0
              show Go p e below _ (T.setTop (mkF m 321 #[.val (.int p0), .val (.int p1), .val (.int p2), .val (.int p3), .val (.int p4), .val (.int bl1), .val (.int b0), .val (.int b1), .val (.int bl2), .val (.int d0), .val (.int d1), .val (.int cl1), .val (.int c0), .val (.int c1), .val (.int cl2), .val (.int e0), .val (.int e1), .val (.ref o1), .val (.ref o2), .val (.ref o3), .val (.ref o4), .val (.ref o5), .val (.ref o6), .val (.ref o7), .val (.ref o8), .val (.ref o9), .unset, .unset] [(.ref o10)]))
              refine Go.st (fun _ k => XS.astore X.here hx rfl (hb hby at_321) rfl rfl (l' := #[.val (.int p0), .val (.int p1), .val (.int p2), .val (.int p3), .val (.int p4), .val (.int bl1), .val (.int b0), .val (.int b1), .val (.int bl2), .val (.int d0), .val (.int d1), .val (.int cl1), .val (.int c0), .val (.int c1), .val (.int cl2), .val (.int e0), .val (.int e1), .val (.ref o1), .val (.ref o2), .val (.ref o3), .val (.ref o4), .val (.ref o5), .val (.ref o6), .val (.ref o7), .val (.ref o8), .val (.ref o9), .val (.ref o10), .unset]) rfl k) ?_
              show Go p e below _ (T.setTop (mkF m 323 #[.val (.int p0), .val (.int p1), .val (.int p2), .val (.int p3), .val (.int p4), .val (.int bl1), .val (.int b0), .val (.int b1), .val (.int bl2), .val (.int d0), .val (.int d1), .val (.int cl1), .val (.int c0), .val (.int c1), .val (.int cl2), .val (.int e0), .val (.int e1), .val (.ref o1), .val (.ref o2), .val (.ref o3), .val (.ref o4), .val (.ref o5), .val (.ref o6), .val (.ref o7), .val (.ref o8), .val (.ref o9), .val (.ref o10), .unset] []))
              refine Go.st (fun _ k => XS.iload X.here hx rfl (hb hby at_323) rfl k) ?_
              show Go p e below _ (T.setTop (mkF m 325 #[.val (.int p0), .val (.int p1), .val (.int p2), .val (.int p3), .val (.int p4), .val (.int bl1), .val (.int b0), .val (.int b1), .val (.int bl2), .val (.int d0), .val (.int d1), .val (.int cl1), .val (.int c0), .val (.int c1), .val (.int cl2), .val (.int e0), .val (.int e1), .val (.ref o1), .val (.ref o2), .val (.ref o3), .val (.ref o4), .val (.ref o5), .val (.ref o6), .val (.ref o7), .val (.ref o8), .val (.ref o9), .val (.ref o10), .unset] [(.int bl1)]))
              refine Go.st (fun _ k => XS.iload X.here hx rfl (hb hby at_325) rfl k) ?_
              show Go p e below _ (T.setTop (mkF m 327 #[.val (.int p0), .val (.int p1), .val (.int p2), .val (.int p3), .val (.int p4), .val (.int bl1), .val (.int b0), .val (.int b1), .val (.int bl2), .val (.int d0), .val (.int d1), .val (.int cl1), .val (.int c0), .val (.int c1), .val (.int cl2), .val (.int e0), .val (.int e1), .val (.ref o1), .val (.ref o2), .val (.ref o3), .val (.ref o4), .val (.ref o5), .val (.ref o6), .val (.ref o7), .val (.ref o8), .val (.ref o9), .val (.ref o10), .unset] [(.int b0), (.int bl1)]))
              refine Go.st (fun _ k => XS.iload X.here hx rfl (hb hby at_327) rfl k) ?_
              show Go p e below _ (T.setTop (mkF m 329 #[.val (.int p0), .val (.int p1), .val (.int p2), .val (.int p3), .val (.int p4), .val (.int bl1), .val (.int b0), .val (.int b1), .val (.int bl2), .val (.int d0), .val (.int d1), .val (.int cl1), .val (.int c0), .val (.int c1), .val (.int cl2), .val (.int e0), .val (.int e1), .val (.ref o1), .val (.ref o2), .val (.ref o3), .val (.ref o4), .val (.ref o5), .val (.ref o6), .val (.ref o7), .val (.ref o8), .val (.ref o9), .val (.ref o10), .unset] [(.int b1), (.int b0), (.int bl1)]))
              refine Go.st (fun _ k => XS.iload X.here hx rfl (hb hby at_329) rfl k) ?_
              show Go p e below _ (T.setTop (mkF m 331 #[.val (.int p0), .val (.int p1), .val (.int p2), .val (.int p3), .val (.int p4), .val (.int bl1), .val (.int b0), .val (.int b1), .val (.int bl2), .val (.int d0), .val (.int d1), .val (.int cl1), .val (.int c0), .val (.int c1), .val (.int cl2), .val (.int e0), .val (.int e1), .val (.ref o1), .val (.ref o2), .val (.ref o3), .val (.ref o4), .val (.ref o5), .val (.ref o6), .val (.ref o7), .val (.ref o8), .val (.ref o9), .val (.ref o10), .unset] [(.int bl2), (.int b1), (.int b0), (.int bl1)]))
              refine Go.st (fun _ k => XS.iload X.here hx rfl (hb hby at_331) rfl k) ?_
              show Go p e below _ (T.setTop (mkF m 333 #[.val (.int p0), .val (.int p1), .val (.int p2), .val (.int p3), .val (.int p4), .val (.int bl1), .val (.int b0), .val (.int b1), .val (.int bl2), .val (.int d0), .val (.int d1), .val (.int cl1), .val (.int c0), .val (.int c1), .val (.int cl2), .val (.int e0), .val (.int e1), .val (.ref o1), .val (.ref o2), .val (.ref o3), .val (.ref o4), .val (.ref o5), .val (.ref o6), .val (.ref o7), .val (.ref o8), .val (.ref o9), .val (.ref o10), .unset] [(.int d0), (.int bl2), (.int b1), (.int b0), (.int bl1)]))
              refine Go.st (fun _ k => XS.iload X.here hx rfl (hb hby at_333) rfl k) ?_
              show Go p e below _ (T.setTop (mkF m 335 #[.val (.int p0), .val (.int p1), .val (.int p2), .val (.int p3), .val (.int p4), .val (.int bl1), .val (.int b0), .val (.int b1), .val (.int bl2), .val (.int d0), .val (.int d1), .val (.int cl1), .val (.int c0), .val (.int c1), .val (.int cl2), .val (.int e0), .val (.int e1), .val (.ref o1), .val (.ref o2), .val (.ref o3), .val (.ref o4), .val (.ref o5), .val (.ref o6), .val (.ref o7), .val (.ref o8), .val (.ref o9), .val (.ref o10), .unset] [(.int d1), (.int d0), (.int bl2), (.int b1), (.int b0), (.int bl1)]))
              refine Go.callV (argsL := [(.int bl1), (.int b0), (.int b1), (.int bl2), (.int d0), (.int d1)]) (rest := []) (W := 0) X hx hZ hown (hml.trans rfl) hT (hw _ (List.mem_of_getElem? (i := 66) rfl)) (hw _ (List.mem_of_getElem? (i := 67) rfl)) (hw _ (List.mem_of_getElem? (i := 2) rfl)) (hw _ (List.mem_of_getElem? (i := 68) rfl)) (by decide) pd_9 rfl rfl (Nat.le_of_ble_eq_true rfl) (hb hby at_335) (backOf (W := 0) (met_eq l Z a0 hw [] bl1 b0 b1 bl2 d0 d1 _) hZ (hw _ (List.mem_of_getElem? (i := 68) rfl)) (hw _ (List.mem_of_getElem? (i := 2) rfl)) (by decide) (by decide)) (by decide) (by decide) ?_
              intro T hT X
              show Go p e below _ (T.setTop (mkF m 338 #[.val (.int p0), .val (.int p1), .val (.int p2), .val (.int p3), .val (.int p4), .val (.int bl1), .val (.int b0), .val (.int b1), .val (.int bl2), .val (.int d0), .val (.int d1), .val (.int cl1), .val (.int c0), .val (.int c1), .val (.int cl2), .val (.int e0), .val (.int e1), .val (.ref o1), .val (.ref o2), .val (.ref o3), .val (.ref o4), .val (.ref o5), .val (.ref o6), .val (.ref o7), .val (.ref o8), .val (.ref o9), .val (.ref o10), .unset] [(.int (f_eq bl1 b0 b1 bl2 d0 d1))]))
              by_cases hc11 : (f_eq bl1 b0 b1 bl2 d0 d1) = (0 : Int32)
              · refine Go.st (fun _ k => XS.ifYes X.here hx rfl (pc0 := 338) (pc' := 363) rfl (hb hby at_338) rfl (Jvm.Free.XT.i0_eq_t hc11) (by decide) (by decide) k) ?_
                show Go p e below _ (T.setTop (mkF m 363 #[.val (.int p0), .val (.int p1), .val (.int p2), .val (.int p3), .val (.int p4), .val (.int bl1), .val (.int b0), .val (.int b1), .val (.int bl2), .val (.int d0), .val (.int d1), .val (.int cl1), .val (.int c0), .val (.int c1), .val (.int cl2), .val (.int e0), .val (.int e1), .val (.ref o1), .val (.ref o2), .val (.ref o3), .val (.ref o4), .val (.ref o5), .val (.ref o6), .val (.ref o7), .val (.ref o8), .val (.ref o9), .val (.ref o10), .unset] []))
                refine Go.st (fun _ k => XS.iconst X.here hx rfl (hb hby at_363) k) ?_
                show Go p e below _ (T.setTop (mkF m 364 #[.val (.int p0), .val (.int p1), .val (.int p2), .val (.int p3), .val (.int p4), .val (.int bl1), .val (.int b0), .val (.int b1), .val (.int bl2), .val (.int d0), .val (.int d1), .val (.int cl1), .val (.int c0), .val (.int c1), .val (.int cl2), .val (.int e0), .val (.int e1), .val (.ref o1), .val (.ref o2), .val (.ref o3), .val (.ref o4), .val (.ref o5), .val (.ref o6), .val (.ref o7), .val (.ref o8), .val (.ref o9), .val (.ref o10), .unset] [(.int (0 : Int32))]))
                refine Go.st (fun _ k => XS.istore X.here hx rfl (hb hby at_364) rfl (l' := #[.val (.int p0), .val (.int p1), .val (.int p2), .val (.int p3), .val (.int p4), .val (.int bl1), .val (.int b0), .val (.int b1), .val (.int bl2), .val (.int d0), .val (.int d1), .val (.int cl1), .val (.int c0), .val (.int c1), .val (.int cl2), .val (.int e0), .val (.int e1), .val (.ref o1), .val (.ref o2), .val (.ref o3), .val (.ref o4), .val (.ref o5), .val (.ref o6), .val (.ref o7), .val (.ref o8), .val (.ref o9), .val (.ref o10), .val (.int (0 : Int32))]) rfl k) ?_
                show Go p e below _ (T.setTop (mkF m 366 #[.val (.int p0), .val (.int p1), .val (.int p2), .val (.int p3), .val (.int p4), .val (.int bl1), .val (.int b0), .val (.int b1), .val (.int bl2), .val (.int d0), .val (.int d1), .val (.int cl1), .val (.int c0), .val (.int c1), .val (.int cl2), .val (.int e0), .val (.int e1), .val (.ref o1), .val (.ref o2), .val (.ref o3), .val (.ref o4), .val (.ref o5), .val (.ref o6), .val (.ref o7), .val (.ref o8), .val (.ref o9), .val (.ref o10), .val (.int (0 : Int32))] []))
                refine Go.st (fun _ k => XS.aload X.here hx rfl (hb hby at_366) rfl rfl k) ?_
                show Go p e below _ (T.setTop (mkF m 368 #[.val (.int p0), .val (.int p1), .val (.int p2), .val (.int p3), .val (.int p4), .val (.int bl1), .val (.int b0), .val (.int b1), .val (.int bl2), .val (.int d0), .val (.int d1), .val (.int cl1), .val (.int c0), .val (.int c1), .val (.int cl2), .val (.int e0), .val (.int e1), .val (.ref o1), .val (.ref o2), .val (.ref o3), .val (.ref o4), .val (.ref o5), .val (.ref o6), .val (.ref o7), .val (.ref o8), .val (.ref o9), .val (.ref o10), .val (.int (0 : Int32))] [(.ref o9)]))
                refine Go.st (fun _ k => XS.aload X.here hx rfl (hb hby at_368) rfl rfl k) ?_
                show Go p e below _ (T.setTop (mkF m 370 #[.val (.int p0), .val (.int p1), .val (.int p2), .val (.int p3), .val (.int p4), .val (.int bl1), .val (.int b0), .val (.int b1), .val (.int bl2), .val (.int d0), .val (.int d1), .val (.int cl1), .val (.int c0), .val (.int c1), .val (.int cl2), .val (.int e0), .val (.int e1), .val (.ref o1), .val (.ref o2), .val (.ref o3), .val (.ref o4), .val (.ref o5), .val (.ref o6), .val (.ref o7), .val (.ref o8), .val (.ref o9), .val (.ref o10), .val (.int (0 : Int32))] [(.ref o10), (.ref o9)]))
                refine Go.virtV (K := "com/example/rolling_tally/rollingtally/service/TallyKey") (z := (⟨"com/example/rolling_tally/rollingtally/service/TallyKey", "sameRanking", "(Lcom/example/rolling_tally/rollingtally/service/TallyKey;)Z"⟩ : MethodName)) (argsL := [(.ref o10)]) (rest := []) (W := 0) (w := (.int (f_rank (strL bl1 b0 b1) (strL bl2 d0 d1) (strL cl1 c0 c1) (strL cl2 e0 e1)))) X hx hZ hown (hml.trans rfl) hT A_o9 (hw _ (List.mem_of_getElem? (i := 69) rfl)) (hw _ (List.mem_of_getElem? (i := 70) rfl)) (hw _ (List.mem_of_getElem? (i := 72) rfl)) (hw _ (List.mem_of_getElem? (i := 71) rfl)) (by decide) pd_10 rfl rfl (Nat.le_of_ble_eq_true rfl) (hb hby at_370) (notFace_of_selects (args := #[]) (mvT hZ (hw _ (List.mem_of_getElem? (i := 72) rfl)))) (backOf (W := 0) (met_rank l Z a0 hw [] z n0 o9 o10 o1 o2 o3 o4 (strL bl1 b0 b1) (strL bl2 d0 d1) (strL cl1 c0 c1) (strL cl2 e0 e1) _ O Sc F_o9_board F_o9_category S_o1 S_o3 F_o10_board F_o10_category S_o2 S_o4) hZ (hw _ (List.mem_of_getElem? (i := 73) rfl)) (hw _ (List.mem_of_getElem? (i := 53) rfl)) (by decide) (by decide)) (by decide) (by decide) ?_
                intro T hT X
                show Go p e below _ (T.setTop (mkF m 373 #[.val (.int p0), .val (.int p1), .val (.int p2), .val (.int p3), .val (.int p4), .val (.int bl1), .val (.int b0), .val (.int b1), .val (.int bl2), .val (.int d0), .val (.int d1), .val (.int cl1), .val (.int c0), .val (.int c1), .val (.int cl2), .val (.int e0), .val (.int e1), .val (.ref o1), .val (.ref o2), .val (.ref o3), .val (.ref o4), .val (.ref o5), .val (.ref o6), .val (.ref o7), .val (.ref o8), .val (.ref o9), .val (.ref o10), .val (.int (0 : Int32))] [(.int (f_rank (strL bl1 b0 b1) (strL bl2 d0 d1) (strL cl1 c0 c1) (strL cl2 e0 e1)))]))
                refine Go.st (fun _ k => XS.iload X.here hx rfl (hb hby at_373) rfl k) ?_
                show Go p e below _ (T.setTop (mkF m 375 #[.val (.int p0), .val (.int p1), .val (.int p2), .val (.int p3), .val (.int p4), .val (.int bl1), .val (.int b0), .val (.int b1), .val (.int bl2), .val (.int d0), .val (.int d1), .val (.int cl1), .val (.int c0), .val (.int c1), .val (.int cl2), .val (.int e0), .val (.int e1), .val (.ref o1), .val (.ref o2), .val (.ref o3), .val (.ref o4), .val (.ref o5), .val (.ref o6), .val (.ref o7), .val (.ref o8), .val (.ref o9), .val (.ref o10), .val (.int (0 : Int32))] [(.int (0 : Int32)), (.int (f_rank (strL bl1 b0 b1) (strL bl2 d0 d1) (strL cl1 c0 c1) (strL cl2 e0 e1)))]))
                refine Go.st (fun _ k => XS.icmpNo X.here hx rfl (hb hby at_375) rfl (Jvm.Free.XT.ii_ne_f (by rw [own_rank (own_3 hbl1) (own_3i hbl2 (own_3 hbl1)) (own_3 hcl1) (own_3i hcl2 (own_3 hcl1)), own_exp, if_pos hc11] : (f_rank (strL bl1 b0 b1) (strL bl2 d0 d1) (strL cl1 c0 c1) (strL cl2 e0 e1)) = (0 : Int32))) k) ?_
                show Go p e below _ (T.setTop (mkF m 378 #[.val (.int p0), .val (.int p1), .val (.int p2), .val (.int p3), .val (.int p4), .val (.int bl1), .val (.int b0), .val (.int b1), .val (.int bl2), .val (.int d0), .val (.int d1), .val (.int cl1), .val (.int c0), .val (.int c1), .val (.int cl2), .val (.int e0), .val (.int e1), .val (.ref o1), .val (.ref o2), .val (.ref o3), .val (.ref o4), .val (.ref o5), .val (.ref o6), .val (.ref o7), .val (.ref o8), .val (.ref o9), .val (.ref o10), .val (.int (0 : Int32))] []))
                refine Go.st (fun _ k => XS.aload X.here hx rfl (hb hby at_378) rfl rfl k) ?_
                show Go p e below _ (T.setTop (mkF m 380 #[.val (.int p0), .val (.int p1), .val (.int p2), .val (.int p3), .val (.int p4), .val (.int bl1), .val (.int b0), .val (.int b1), .val (.int bl2), .val (.int d0), .val (.int d1), .val (.int cl1), .val (.int c0), .val (.int c1), .val (.int cl2), .val (.int e0), .val (.int e1), .val (.ref o1), .val (.ref o2), .val (.ref o3), .val (.ref o4), .val (.ref o5), .val (.ref o6), .val (.ref o7), .val (.ref o8), .val (.ref o9), .val (.ref o10), .val (.int (0 : Int32))] [(.ref o10)]))
                refine Go.st (fun _ k => XS.aload X.here hx rfl (hb hby at_380) rfl rfl k) ?_
                show Go p e below _ (T.setTop (mkF m 382 #[.val (.int p0), .val (.int p1), .val (.int p2), .val (.int p3), .val (.int p4), .val (.int bl1), .val (.int b0), .val (.int b1), .val (.int bl2), .val (.int d0), .val (.int d1), .val (.int cl1), .val (.int c0), .val (.int c1), .val (.int cl2), .val (.int e0), .val (.int e1), .val (.ref o1), .val (.ref o2), .val (.ref o3), .val (.ref o4), .val (.ref o5), .val (.ref o6), .val (.ref o7), .val (.ref o8), .val (.ref o9), .val (.ref o10), .val (.int (0 : Int32))] [(.ref o9), (.ref o10)]))
                refine Go.virtV (K := "com/example/rolling_tally/rollingtally/service/TallyKey") (z := (⟨"com/example/rolling_tally/rollingtally/service/TallyKey", "sameRanking", "(Lcom/example/rolling_tally/rollingtally/service/TallyKey;)Z"⟩ : MethodName)) (argsL := [(.ref o9)]) (rest := []) (W := 0) (w := (.int (f_rank (strL bl2 d0 d1) (strL bl1 b0 b1) (strL cl2 e0 e1) (strL cl1 c0 c1)))) X hx hZ hown (hml.trans rfl) hT A_o10 (hw _ (List.mem_of_getElem? (i := 69) rfl)) (hw _ (List.mem_of_getElem? (i := 70) rfl)) (hw _ (List.mem_of_getElem? (i := 72) rfl)) (hw _ (List.mem_of_getElem? (i := 71) rfl)) (by decide) pd_10 rfl rfl (Nat.le_of_ble_eq_true rfl) (hb hby at_382) (notFace_of_selects (args := #[]) (mvT hZ (hw _ (List.mem_of_getElem? (i := 72) rfl)))) (backOf (W := 0) (met_rank l Z a0 hw [] z n0 o10 o9 o2 o1 o4 o3 (strL bl2 d0 d1) (strL bl1 b0 b1) (strL cl2 e0 e1) (strL cl1 c0 c1) _ O Sc F_o10_board F_o10_category S_o2 S_o4 F_o9_board F_o9_category S_o1 S_o3) hZ (hw _ (List.mem_of_getElem? (i := 73) rfl)) (hw _ (List.mem_of_getElem? (i := 53) rfl)) (by decide) (by decide)) (by decide) (by decide) ?_
                intro T hT X
                show Go p e below _ (T.setTop (mkF m 385 #[.val (.int p0), .val (.int p1), .val (.int p2), .val (.int p3), .val (.int p4), .val (.int bl1), .val (.int b0), .val (.int b1), .val (.int bl2), .val (.int d0), .val (.int d1), .val (.int cl1), .val (.int c0), .val (.int c1), .val (.int cl2), .val (.int e0), .val (.int e1), .val (.ref o1), .val (.ref o2), .val (.ref o3), .val (.ref o4), .val (.ref o5), .val (.ref o6), .val (.ref o7), .val (.ref o8), .val (.ref o9), .val (.ref o10), .val (.int (0 : Int32))] [(.int (f_rank (strL bl2 d0 d1) (strL bl1 b0 b1) (strL cl2 e0 e1) (strL cl1 c0 c1)))]))
                refine Go.st (fun _ k => XS.iload X.here hx rfl (hb hby at_385) rfl k) ?_
                show Go p e below _ (T.setTop (mkF m 387 #[.val (.int p0), .val (.int p1), .val (.int p2), .val (.int p3), .val (.int p4), .val (.int bl1), .val (.int b0), .val (.int b1), .val (.int bl2), .val (.int d0), .val (.int d1), .val (.int cl1), .val (.int c0), .val (.int c1), .val (.int cl2), .val (.int e0), .val (.int e1), .val (.ref o1), .val (.ref o2), .val (.ref o3), .val (.ref o4), .val (.ref o5), .val (.ref o6), .val (.ref o7), .val (.ref o8), .val (.ref o9), .val (.ref o10), .val (.int (0 : Int32))] [(.int (0 : Int32)), (.int (f_rank (strL bl2 d0 d1) (strL bl1 b0 b1) (strL cl2 e0 e1) (strL cl1 c0 c1)))]))
                refine Go.st (fun _ k => XS.icmpNo X.here hx rfl (hb hby at_387) rfl (Jvm.Free.XT.ii_ne_f (by rw [own_rank2 (own_3 hbl1) (own_3i hbl2 (own_3 hbl1)) (own_3 hcl1) (own_3i hcl2 (own_3 hcl1)), own_exp, if_pos hc11] : (f_rank (strL bl2 d0 d1) (strL bl1 b0 b1) (strL cl2 e0 e1) (strL cl1 c0 c1)) = (0 : Int32))) k) ?_
                show Go p e below _ (T.setTop (mkF m 390 #[.val (.int p0), .val (.int p1), .val (.int p2), .val (.int p3), .val (.int p4), .val (.int bl1), .val (.int b0), .val (.int b1), .val (.int bl2), .val (.int d0), .val (.int d1), .val (.int cl1), .val (.int c0), .val (.int c1), .val (.int cl2), .val (.int e0), .val (.int e1), .val (.ref o1), .val (.ref o2), .val (.ref o3), .val (.ref o4), .val (.ref o5), .val (.ref o6), .val (.ref o7), .val (.ref o8), .val (.ref o9), .val (.ref o10), .val (.int (0 : Int32))] []))
                refine Go.st (fun _ k => XS.iconst X.here hx rfl (hb hby at_390) k) ?_
                show Go p e below _ (T.setTop (mkF m 391 #[.val (.int p0), .val (.int p1), .val (.int p2), .val (.int p3), .val (.int p4), .val (.int bl1), .val (.int b0), .val (.int b1), .val (.int bl2), .val (.int d0), .val (.int d1), .val (.int cl1), .val (.int c0), .val (.int c1), .val (.int cl2), .val (.int e0), .val (.int e1), .val (.ref o1), .val (.ref o2), .val (.ref o3), .val (.ref o4), .val (.ref o5), .val (.ref o6), .val (.ref o7), .val (.ref o8), .val (.ref o9), .val (.ref o10), .val (.int (0 : Int32))] [(.int (1 : Int32))]))
                refine Go.st (fun _ k => XS.goto X.here hx rfl (pc0 := 391) (pc' := 395) rfl (hb hby at_391) (by decide) (by decide) k) ?_
                show Go p e below _ (T.setTop (mkF m 395 #[.val (.int p0), .val (.int p1), .val (.int p2), .val (.int p3), .val (.int p4), .val (.int bl1), .val (.int b0), .val (.int b1), .val (.int bl2), .val (.int d0), .val (.int d1), .val (.int cl1), .val (.int c0), .val (.int c1), .val (.int cl2), .val (.int e0), .val (.int e1), .val (.ref o1), .val (.ref o2), .val (.ref o3), .val (.ref o4), .val (.ref o5), .val (.ref o6), .val (.ref o7), .val (.ref o8), .val (.ref o9), .val (.ref o10), .val (.int (0 : Int32))] [(.int (1 : Int32))]))
                refine Go.retH hEL H hZ X hx hlk hT hret (by decide) (riI (by simp)) (hb hby at_395) (by decide) (by decide) ?_
                exact ⟨rfl, N⟩
              · refine Go.st (fun _ k => XS.ifNo X.here hx rfl (hb hby at_338) rfl (Jvm.Free.XT.i0_eq_f hc11) k) ?_
                show Go p e below _ (T.setTop (mkF m 341 #[.val (.int p0), .val (.int p1), .val (.int p2), .val (.int p3), .val (.int p4), .val (.int bl1), .val (.int b0), .val (.int b1), .val (.int bl2), .val (.int d0), .val (.int d1), .val (.int cl1), .val (.int c0), .val (.int c1), .val (.int cl2), .val (.int e0), .val (.int e1), .val (.ref o1), .val (.ref o2), .val (.ref o3), .val (.ref o4), .val (.ref o5), .val (.ref o6), .val (.ref o7), .val (.ref o8), .val (.ref o9), .val (.ref o10), .unset] []))
                refine Go.st (fun _ k => XS.iload X.here hx rfl (hb hby at_341) rfl k) ?_
                show Go p e below _ (T.setTop (mkF m 343 #[.val (.int p0), .val (.int p1), .val (.int p2), .val (.int p3), .val (.int p4), .val (.int bl1), .val (.int b0), .val (.int b1), .val (.int bl2), .val (.int d0), .val (.int d1), .val (.int cl1), .val (.int c0), .val (.int c1), .val (.int cl2), .val (.int e0), .val (.int e1), .val (.ref o1), .val (.ref o2), .val (.ref o3), .val (.ref o4), .val (.ref o5), .val (.ref o6), .val (.ref o7), .val (.ref o8), .val (.ref o9), .val (.ref o10), .unset] [(.int cl1)]))
                refine Go.st (fun _ k => XS.iload X.here hx rfl (hb hby at_343) rfl k) ?_
                show Go p e below _ (T.setTop (mkF m 345 #[.val (.int p0), .val (.int p1), .val (.int p2), .val (.int p3), .val (.int p4), .val (.int bl1), .val (.int b0), .val (.int b1), .val (.int bl2), .val (.int d0), .val (.int d1), .val (.int cl1), .val (.int c0), .val (.int c1), .val (.int cl2), .val (.int e0), .val (.int e1), .val (.ref o1), .val (.ref o2), .val (.ref o3), .val (.ref o4), .val (.ref o5), .val (.ref o6), .val (.ref o7), .val (.ref o8), .val (.ref o9), .val (.ref o10), .unset] [(.int c0), (.int cl1)]))
                refine Go.st (fun _ k => XS.iload X.here hx rfl (hb hby at_345) rfl k) ?_
                show Go p e below _ (T.setTop (mkF m 347 #[.val (.int p0), .val (.int p1), .val (.int p2), .val (.int p3), .val (.int p4), .val (.int bl1), .val (.int b0), .val (.int b1), .val (.int bl2), .val (.int d0), .val (.int d1), .val (.int cl1), .val (.int c0), .val (.int c1), .val (.int cl2), .val (.int e0), .val (.int e1), .val (.ref o1), .val (.ref o2), .val (.ref o3), .val (.ref o4), .val (.ref o5), .val (.ref o6), .val (.ref o7), .val (.ref o8), .val (.ref o9), .val (.ref o10), .unset] [(.int c1), (.int c0), (.int cl1)]))
                refine Go.st (fun _ k => XS.iload X.here hx rfl (hb hby at_347) rfl k) ?_
                show Go p e below _ (T.setTop (mkF m 349 #[.val (.int p0), .val (.int p1), .val (.int p2), .val (.int p3), .val (.int p4), .val (.int bl1), .val (.int b0), .val (.int b1), .val (.int bl2), .val (.int d0), .val (.int d1), .val (.int cl1), .val (.int c0), .val (.int c1), .val (.int cl2), .val (.int e0), .val (.int e1), .val (.ref o1), .val (.ref o2), .val (.ref o3), .val (.ref o4), .val (.ref o5), .val (.ref o6), .val (.ref o7), .val (.ref o8), .val (.ref o9), .val (.ref o10), .unset] [(.int cl2), (.int c1), (.int c0), (.int cl1)]))
                refine Go.st (fun _ k => XS.iload X.here hx rfl (hb hby at_349) rfl k) ?_
                show Go p e below _ (T.setTop (mkF m 351 #[.val (.int p0), .val (.int p1), .val (.int p2), .val (.int p3), .val (.int p4), .val (.int bl1), .val (.int b0), .val (.int b1), .val (.int bl2), .val (.int d0), .val (.int d1), .val (.int cl1), .val (.int c0), .val (.int c1), .val (.int cl2), .val (.int e0), .val (.int e1), .val (.ref o1), .val (.ref o2), .val (.ref o3), .val (.ref o4), .val (.ref o5), .val (.ref o6), .val (.ref o7), .val (.ref o8), .val (.ref o9), .val (.ref o10), .unset] [(.int e0), (.int cl2), (.int c1), (.int c0), (.int cl1)]))
                refine Go.st (fun _ k => XS.iload X.here hx rfl (hb hby at_351) rfl k) ?_
                show Go p e below _ (T.setTop (mkF m 353 #[.val (.int p0), .val (.int p1), .val (.int p2), .val (.int p3), .val (.int p4), .val (.int bl1), .val (.int b0), .val (.int b1), .val (.int bl2), .val (.int d0), .val (.int d1), .val (.int cl1), .val (.int c0), .val (.int c1), .val (.int cl2), .val (.int e0), .val (.int e1), .val (.ref o1), .val (.ref o2), .val (.ref o3), .val (.ref o4), .val (.ref o5), .val (.ref o6), .val (.ref o7), .val (.ref o8), .val (.ref o9), .val (.ref o10), .unset] [(.int e1), (.int e0), (.int cl2), (.int c1), (.int c0), (.int cl1)]))
                refine Go.callV (argsL := [(.int cl1), (.int c0), (.int c1), (.int cl2), (.int e0), (.int e1)]) (rest := []) (W := 0) X hx hZ hown (hml.trans rfl) hT (hw _ (List.mem_of_getElem? (i := 66) rfl)) (hw _ (List.mem_of_getElem? (i := 67) rfl)) (hw _ (List.mem_of_getElem? (i := 2) rfl)) (hw _ (List.mem_of_getElem? (i := 68) rfl)) (by decide) pd_9 rfl rfl (Nat.le_of_ble_eq_true rfl) (hb hby at_353) (backOf (W := 0) (met_eq l Z a0 hw [] cl1 c0 c1 cl2 e0 e1 _) hZ (hw _ (List.mem_of_getElem? (i := 68) rfl)) (hw _ (List.mem_of_getElem? (i := 2) rfl)) (by decide) (by decide)) (by decide) (by decide) ?_
                intro T hT X
                show Go p e below _ (T.setTop (mkF m 356 #[.val (.int p0), .val (.int p1), .val (.int p2), .val (.int p3), .val (.int p4), .val (.int bl1), .val (.int b0), .val (.int b1), .val (.int bl2), .val (.int d0), .val (.int d1), .val (.int cl1), .val (.int c0), .val (.int c1), .val (.int cl2), .val (.int e0), .val (.int e1), .val (.ref o1), .val (.ref o2), .val (.ref o3), .val (.ref o4), .val (.ref o5), .val (.ref o6), .val (.ref o7), .val (.ref o8), .val (.ref o9), .val (.ref o10), .unset] [(.int (f_eq cl1 c0 c1 cl2 e0 e1))]))
                by_cases hc12 : (f_eq cl1 c0 c1 cl2 e0 e1) = (0 : Int32)
                · refine Go.st (fun _ k => XS.ifYes X.here hx rfl (pc0 := 356) (pc' := 363) rfl (hb hby at_356) rfl (Jvm.Free.XT.i0_eq_t hc12) (by decide) (by decide) k) ?_
                  show Go p e below _ (T.setTop (mkF m 363 #[.val (.int p0), .val (.int p1), .val (.int p2), .val (.int p3), .val (.int p4), .val (.int bl1), .val (.int b0), .val (.int b1), .val (.int bl2), .val (.int d0), .val (.int d1), .val (.int cl1), .val (.int c0), .val (.int c1), .val (.int cl2), .val (.int e0), .val (.int e1), .val (.ref o1), .val (.ref o2), .val (.ref o3), .val (.ref o4), .val (.ref o5), .val (.ref o6), .val (.ref o7), .val (.ref o8), .val (.ref o9), .val (.ref o10), .unset] []))
                  refine Go.st (fun _ k => XS.iconst X.here hx rfl (hb hby at_363) k) ?_
                  show Go p e below _ (T.setTop (mkF m 364 #[.val (.int p0), .val (.int p1), .val (.int p2), .val (.int p3), .val (.int p4), .val (.int bl1), .val (.int b0), .val (.int b1), .val (.int bl2), .val (.int d0), .val (.int d1), .val (.int cl1), .val (.int c0), .val (.int c1), .val (.int cl2), .val (.int e0), .val (.int e1), .val (.ref o1), .val (.ref o2), .val (.ref o3), .val (.ref o4), .val (.ref o5), .val (.ref o6), .val (.ref o7), .val (.ref o8), .val (.ref o9), .val (.ref o10), .unset] [(.int (0 : Int32))]))
                  refine Go.st (fun _ k => XS.istore X.here hx rfl (hb hby at_364) rfl (l' := #[.val (.int p0), .val (.int p1), .val (.int p2), .val (.int p3), .val (.int p4), .val (.int bl1), .val (.int b0), .val (.int b1), .val (.int bl2), .val (.int d0), .val (.int d1), .val (.int cl1), .val (.int c0), .val (.int c1), .val (.int cl2), .val (.int e0), .val (.int e1), .val (.ref o1), .val (.ref o2), .val (.ref o3), .val (.ref o4), .val (.ref o5), .val (.ref o6), .val (.ref o7), .val (.ref o8), .val (.ref o9), .val (.ref o10), .val (.int (0 : Int32))]) rfl k) ?_
                  show Go p e below _ (T.setTop (mkF m 366 #[.val (.int p0), .val (.int p1), .val (.int p2), .val (.int p3), .val (.int p4), .val (.int bl1), .val (.int b0), .val (.int b1), .val (.int bl2), .val (.int d0), .val (.int d1), .val (.int cl1), .val (.int c0), .val (.int c1), .val (.int cl2), .val (.int e0), .val (.int e1), .val (.ref o1), .val (.ref o2), .val (.ref o3), .val (.ref o4), .val (.ref o5), .val (.ref o6), .val (.ref o7), .val (.ref o8), .val (.ref o9), .val (.ref o10), .val (.int (0 : Int32))] []))
                  refine Go.st (fun _ k => XS.aload X.here hx rfl (hb hby at_366) rfl rfl k) ?_
                  show Go p e below _ (T.setTop (mkF m 368 #[.val (.int p0), .val (.int p1), .val (.int p2), .val (.int p3), .val (.int p4), .val (.int bl1), .val (.int b0), .val (.int b1), .val (.int bl2), .val (.int d0), .val (.int d1), .val (.int cl1), .val (.int c0), .val (.int c1), .val (.int cl2), .val (.int e0), .val (.int e1), .val (.ref o1), .val (.ref o2), .val (.ref o3), .val (.ref o4), .val (.ref o5), .val (.ref o6), .val (.ref o7), .val (.ref o8), .val (.ref o9), .val (.ref o10), .val (.int (0 : Int32))] [(.ref o9)]))
                  refine Go.st (fun _ k => XS.aload X.here hx rfl (hb hby at_368) rfl rfl k) ?_
                  show Go p e below _ (T.setTop (mkF m 370 #[.val (.int p0), .val (.int p1), .val (.int p2), .val (.int p3), .val (.int p4), .val (.int bl1), .val (.int b0), .val (.int b1), .val (.int bl2), .val (.int d0), .val (.int d1), .val (.int cl1), .val (.int c0), .val (.int c1), .val (.int cl2), .val (.int e0), .val (.int e1), .val (.ref o1), .val (.ref o2), .val (.ref o3), .val (.ref o4), .val (.ref o5), .val (.ref o6), .val (.ref o7), .val (.ref o8), .val (.ref o9), .val (.ref o10), .val (.int (0 : Int32))] [(.ref o10), (.ref o9)]))
                  refine Go.virtV (K := "com/example/rolling_tally/rollingtally/service/TallyKey") (z := (⟨"com/example/rolling_tally/rollingtally/service/TallyKey", "sameRanking", "(Lcom/example/rolling_tally/rollingtally/service/TallyKey;)Z"⟩ : MethodName)) (argsL := [(.ref o10)]) (rest := []) (W := 0) (w := (.int (f_rank (strL bl1 b0 b1) (strL bl2 d0 d1) (strL cl1 c0 c1) (strL cl2 e0 e1)))) X hx hZ hown (hml.trans rfl) hT A_o9 (hw _ (List.mem_of_getElem? (i := 69) rfl)) (hw _ (List.mem_of_getElem? (i := 70) rfl)) (hw _ (List.mem_of_getElem? (i := 72) rfl)) (hw _ (List.mem_of_getElem? (i := 71) rfl)) (by decide) pd_10 rfl rfl (Nat.le_of_ble_eq_true rfl) (hb hby at_370) (notFace_of_selects (args := #[]) (mvT hZ (hw _ (List.mem_of_getElem? (i := 72) rfl)))) (backOf (W := 0) (met_rank l Z a0 hw [] z n0 o9 o10 o1 o2 o3 o4 (strL bl1 b0 b1) (strL bl2 d0 d1) (strL cl1 c0 c1) (strL cl2 e0 e1) _ O Sc F_o9_board F_o9_category S_o1 S_o3 F_o10_board F_o10_category S_o2 S_o4) hZ (hw _ (List.mem_of_getElem? (i := 73) rfl)) (hw _ (List.mem_of_getElem? (i := 53) rfl)) (by decide) (by decide)) (by decide) (by decide) ?_
                  intro T hT X
                  show Go p e below _ (T.setTop (mkF m 373 #[.val (.int p0), .val (.int p1), .val (.int p2), .val (.int p3), .val (.int p4), .val (.int bl1), .val (.int b0), .val (.int b1), .val (.int bl2), .val (.int d0), .val (.int d1), .val (.int cl1), .val (.int c0), .val (.int c1), .val (.int cl2), .val (.int e0), .val (.int e1), .val (.ref o1), .val (.ref o2), .val (.ref o3), .val (.ref o4), .val (.ref o5), .val (.ref o6), .val (.ref o7), .val (.ref o8), .val (.ref o9), .val (.ref o10), .val (.int (0 : Int32))] [(.int (f_rank (strL bl1 b0 b1) (strL bl2 d0 d1) (strL cl1 c0 c1) (strL cl2 e0 e1)))]))
                  refine Go.st (fun _ k => XS.iload X.here hx rfl (hb hby at_373) rfl k) ?_
                  show Go p e below _ (T.setTop (mkF m 375 #[.val (.int p0), .val (.int p1), .val (.int p2), .val (.int p3), .val (.int p4), .val (.int bl1), .val (.int b0), .val (.int b1), .val (.int bl2), .val (.int d0), .val (.int d1), .val (.int cl1), .val (.int c0), .val (.int c1), .val (.int cl2), .val (.int e0), .val (.int e1), .val (.ref o1), .val (.ref o2), .val (.ref o3), .val (.ref o4), .val (.ref o5), .val (.ref o6), .val (.ref o7), .val (.ref o8), .val (.ref o9), .val (.ref o10), .val (.int (0 : Int32))] [(.int (0 : Int32)), (.int (f_rank (strL bl1 b0 b1) (strL bl2 d0 d1) (strL cl1 c0 c1) (strL cl2 e0 e1)))]))
                  refine Go.st (fun _ k => XS.icmpNo X.here hx rfl (hb hby at_375) rfl (Jvm.Free.XT.ii_ne_f (by rw [own_rank (own_3 hbl1) (own_3i hbl2 (own_3 hbl1)) (own_3 hcl1) (own_3i hcl2 (own_3 hcl1)), own_exp, if_neg hc11, if_pos hc12] : (f_rank (strL bl1 b0 b1) (strL bl2 d0 d1) (strL cl1 c0 c1) (strL cl2 e0 e1)) = (0 : Int32))) k) ?_
                  show Go p e below _ (T.setTop (mkF m 378 #[.val (.int p0), .val (.int p1), .val (.int p2), .val (.int p3), .val (.int p4), .val (.int bl1), .val (.int b0), .val (.int b1), .val (.int bl2), .val (.int d0), .val (.int d1), .val (.int cl1), .val (.int c0), .val (.int c1), .val (.int cl2), .val (.int e0), .val (.int e1), .val (.ref o1), .val (.ref o2), .val (.ref o3), .val (.ref o4), .val (.ref o5), .val (.ref o6), .val (.ref o7), .val (.ref o8), .val (.ref o9), .val (.ref o10), .val (.int (0 : Int32))] []))
                  refine Go.st (fun _ k => XS.aload X.here hx rfl (hb hby at_378) rfl rfl k) ?_
                  show Go p e below _ (T.setTop (mkF m 380 #[.val (.int p0), .val (.int p1), .val (.int p2), .val (.int p3), .val (.int p4), .val (.int bl1), .val (.int b0), .val (.int b1), .val (.int bl2), .val (.int d0), .val (.int d1), .val (.int cl1), .val (.int c0), .val (.int c1), .val (.int cl2), .val (.int e0), .val (.int e1), .val (.ref o1), .val (.ref o2), .val (.ref o3), .val (.ref o4), .val (.ref o5), .val (.ref o6), .val (.ref o7), .val (.ref o8), .val (.ref o9), .val (.ref o10), .val (.int (0 : Int32))] [(.ref o10)]))
                  refine Go.st (fun _ k => XS.aload X.here hx rfl (hb hby at_380) rfl rfl k) ?_
                  show Go p e below _ (T.setTop (mkF m 382 #[.val (.int p0), .val (.int p1), .val (.int p2), .val (.int p3), .val (.int p4), .val (.int bl1), .val (.int b0), .val (.int b1), .val (.int bl2), .val (.int d0), .val (.int d1), .val (.int cl1), .val (.int c0), .val (.int c1), .val (.int cl2), .val (.int e0), .val (.int e1), .val (.ref o1), .val (.ref o2), .val (.ref o3), .val (.ref o4), .val (.ref o5), .val (.ref o6), .val (.ref o7), .val (.ref o8), .val (.ref o9), .val (.ref o10), .val (.int (0 : Int32))] [(.ref o9), (.ref o10)]))
                  refine Go.virtV (K := "com/example/rolling_tally/rollingtally/service/TallyKey") (z := (⟨"com/example/rolling_tally/rollingtally/service/TallyKey", "sameRanking", "(Lcom/example/rolling_tally/rollingtally/service/TallyKey;)Z"⟩ : MethodName)) (argsL := [(.ref o9)]) (rest := []) (W := 0) (w := (.int (f_rank (strL bl2 d0 d1) (strL bl1 b0 b1) (strL cl2 e0 e1) (strL cl1 c0 c1)))) X hx hZ hown (hml.trans rfl) hT A_o10 (hw _ (List.mem_of_getElem? (i := 69) rfl)) (hw _ (List.mem_of_getElem? (i := 70) rfl)) (hw _ (List.mem_of_getElem? (i := 72) rfl)) (hw _ (List.mem_of_getElem? (i := 71) rfl)) (by decide) pd_10 rfl rfl (Nat.le_of_ble_eq_true rfl) (hb hby at_382) (notFace_of_selects (args := #[]) (mvT hZ (hw _ (List.mem_of_getElem? (i := 72) rfl)))) (backOf (W := 0) (met_rank l Z a0 hw [] z n0 o10 o9 o2 o1 o4 o3 (strL bl2 d0 d1) (strL bl1 b0 b1) (strL cl2 e0 e1) (strL cl1 c0 c1) _ O Sc F_o10_board F_o10_category S_o2 S_o4 F_o9_board F_o9_category S_o1 S_o3) hZ (hw _ (List.mem_of_getElem? (i := 73) rfl)) (hw _ (List.mem_of_getElem? (i := 53) rfl)) (by decide) (by decide)) (by decide) (by decide) ?_
                  intro T hT X
                  show Go p e below _ (T.setTop (mkF m 385 #[.val (.int p0), .val (.int p1), .val (.int p2), .val (.int p3), .val (.int p4), .val (.int bl1), .val (.int b0), .val (.int b1), .val (.int bl2), .val (.int d0), .val (.int d1), .val (.int cl1), .val (.int c0), .val (.int c1), .val (.int cl2), .val (.int e0), .val (.int e1), .val (.ref o1), .val (.ref o2), .val (.ref o3), .val (.ref o4), .val (.ref o5), .val (.ref o6), .val (.ref o7), .val (.ref o8), .val (.ref o9), .val (.ref o10), .val (.int (0 : Int32))] [(.int (f_rank (strL bl2 d0 d1) (strL bl1 b0 b1) (strL cl2 e0 e1) (strL cl1 c0 c1)))]))
                  refine Go.st (fun _ k => XS.iload X.here hx rfl (hb hby at_385) rfl k) ?_
                  show Go p e below _ (T.setTop (mkF m 387 #[.val (.int p0), .val (.int p1), .val (.int p2), .val (.int p3), .val (.int p4), .val (.int bl1), .val (.int b0), .val (.int b1), .val (.int bl2), .val (.int d0), .val (.int d1), .val (.int cl1), .val (.int c0), .val (.int c1), .val (.int cl2), .val (.int e0), .val (.int e1), .val (.ref o1), .val (.ref o2), .val (.ref o3), .val (.ref o4), .val (.ref o5), .val (.ref o6), .val (.ref o7), .val (.ref o8), .val (.ref o9), .val (.ref o10), .val (.int (0 : Int32))] [(.int (0 : Int32)), (.int (f_rank (strL bl2 d0 d1) (strL bl1 b0 b1) (strL cl2 e0 e1) (strL cl1 c0 c1)))]))
                  refine Go.st (fun _ k => XS.icmpNo X.here hx rfl (hb hby at_387) rfl (Jvm.Free.XT.ii_ne_f (by rw [own_rank2 (own_3 hbl1) (own_3i hbl2 (own_3 hbl1)) (own_3 hcl1) (own_3i hcl2 (own_3 hcl1)), own_exp, if_neg hc11, if_pos hc12] : (f_rank (strL bl2 d0 d1) (strL bl1 b0 b1) (strL cl2 e0 e1) (strL cl1 c0 c1)) = (0 : Int32))) k) ?_
                  show Go p e below _ (T.setTop (mkF m 390 #[.val (.int p0), .val (.int p1), .val (.int p2), .val (.int p3), .val (.int p4), .val (.int bl1), .val (.int b0), .val (.int b1), .val (.int bl2), .val (.int d0), .val (.int d1), .val (.int cl1), .val (.int c0), .val (.int c1), .val (.int cl2), .val (.int e0), .val (.int e1), .val (.ref o1), .val (.ref o2), .val (.ref o3), .val (.ref o4), .val (.ref o5), .val (.ref o6), .val (.ref o7), .val (.ref o8), .val (.ref o9), .val (.ref o10), .val (.int (0 : Int32))] []))
                  refine Go.st (fun _ k => XS.iconst X.here hx rfl (hb hby at_390) k) ?_
                  show Go p e below _ (T.setTop (mkF m 391 #[.val (.int p0), .val (.int p1), .val (.int p2), .val (.int p3), .val (.int p4), .val (.int bl1), .val (.int b0), .val (.int b1), .val (.int bl2), .val (.int d0), .val (.int d1), .val (.int cl1), .val (.int c0), .val (.int c1), .val (.int cl2), .val (.int e0), .val (.int e1), .val (.ref o1), .val (.ref o2), .val (.ref o3), .val (.ref o4), .val (.ref o5), .val (.ref o6), .val (.ref o7), .val (.ref o8), .val (.ref o9), .val (.ref o10), .val (.int (0 : Int32))] [(.int (1 : Int32))]))
                  refine Go.st (fun _ k => XS.goto X.here hx rfl (pc0 := 391) (pc' := 395) rfl (hb hby at_391) (by decide) (by decide) k) ?_
                  show Go p e below _ (T.setTop (mkF m 395 #[.val (.int p0), .val (.int p1), .val (.int p2), .val (.int p3), .val (.int p4), .val (.int bl1), .val (.int b0), .val (.int b1), .val (.int bl2), .val (.int d0), .val (.int d1), .val (.int cl1), .val (.int c0), .val (.int c1), .val (.int cl2), .val (.int e0), .val (.int e1), .val (.ref o1), .val (.ref o2), .val (.ref o3), .val (.ref o4), .val (.ref o5), .val (.ref o6), .val (.ref o7), .val (.ref o8), .val (.ref o9), .val (.ref o10), .val (.int (0 : Int32))] [(.int (1 : Int32))]))
                  refine Go.retH hEL H hZ X hx hlk hT hret (by decide) (riI (by simp)) (hb hby at_395) (by decide) (by decide) ?_
                  exact ⟨rfl, N⟩
                · refine Go.st (fun _ k => XS.ifNo X.here hx rfl (hb hby at_356) rfl (Jvm.Free.XT.i0_eq_f hc12) k) ?_
                  show Go p e below _ (T.setTop (mkF m 359 #[.val (.int p0), .val (.int p1), .val (.int p2), .val (.int p3), .val (.int p4), .val (.int bl1), .val (.int b0), .val (.int b1), .val (.int bl2), .val (.int d0), .val (.int d1), .val (.int cl1), .val (.int c0), .val (.int c1), .val (.int cl2), .val (.int e0), .val (.int e1), .val (.ref o1), .val (.ref o2), .val (.ref o3), .val (.ref o4), .val (.ref o5), .val (.ref o6), .val (.ref o7), .val (.ref o8), .val (.ref o9), .val (.ref o10), .unset] []))
                  refine Go.st (fun _ k => XS.iconst X.here hx rfl (hb hby at_359) k) ?_
                  show Go p e below _ (T.setTop (mkF m 360 #[.val (.int p0), .val (.int p1), .val (.int p2), .val (.int p3), .val (.int p4), .val (.int bl1), .val (.int b0), .val (.int b1), .val (.int bl2), .val (.int d0), .val (.int d1), .val (.int cl1), .val (.int c0), .val (.int c1), .val (.int cl2), .val (.int e0), .val (.int e1), .val (.ref o1), .val (.ref o2), .val (.ref o3), .val (.ref o4), .val (.ref o5), .val (.ref o6), .val (.ref o7), .val (.ref o8), .val (.ref o9), .val (.ref o10), .unset] [(.int (1 : Int32))]))
                  refine Go.st (fun _ k => XS.goto X.here hx rfl (pc0 := 360) (pc' := 364) rfl (hb hby at_360) (by decide) (by decide) k) ?_
                  show Go p e below _ (T.setTop (mkF m 364 #[.val (.int p0), .val (.int p1), .val (.int p2), .val (.int p3), .val (.int p4), .val (.int bl1), .val (.int b0), .val (.int b1), .val (.int bl2), .val (.int d0), .val (.int d1), .val (.int cl1), .val (.int c0), .val (.int c1), .val (.int cl2), .val (.int e0), .val (.int e1), .val (.ref o1), .val (.ref o2), .val (.ref o3), .val (.ref o4), .val (.ref o5), .val (.ref o6), .val (.ref o7), .val (.ref o8), .val (.ref o9), .val (.ref o10), .unset] [(.int (1 : Int32))]))
                  refine Go.st (fun _ k => XS.istore X.here hx rfl (hb hby at_364) rfl (l' := #[.val (.int p0), .val (.int p1), .val (.int p2), .val (.int p3), .val (.int p4), .val (.int bl1), .val (.int b0), .val (.int b1), .val (.int bl2), .val (.int d0), .val (.int d1), .val (.int cl1), .val (.int c0), .val (.int c1), .val (.int cl2), .val (.int e0), .val (.int e1), .val (.ref o1), .val (.ref o2), .val (.ref o3), .val (.ref o4), .val (.ref o5), .val (.ref o6), .val (.ref o7), .val (.ref o8), .val (.ref o9), .val (.ref o10), .val (.int (1 : Int32))]) rfl k) ?_
                  show Go p e below _ (T.setTop (mkF m 366 #[.val (.int p0), .val (.int p1), .val (.int p2), .val (.int p3), .val (.int p4), .val (.int bl1), .val (.int b0), .val (.int b1), .val (.int bl2), .val (.int d0), .val (.int d1), .val (.int cl1), .val (.int c0), .val (.int c1), .val (.int cl2), .val (.int e0), .val (.int e1), .val (.ref o1), .val (.ref o2), .val (.ref o3), .val (.ref o4), .val (.ref o5), .val (.ref o6), .val (.ref o7), .val (.ref o8), .val (.ref o9), .val (.ref o10), .val (.int (1 : Int32))] []))
                  refine Go.st (fun _ k => XS.aload X.here hx rfl (hb hby at_366) rfl rfl k) ?_
                  show Go p e below _ (T.setTop (mkF m 368 #[.val (.int p0), .val (.int p1), .val (.int p2), .val (.int p3), .val (.int p4), .val (.int bl1), .val (.int b0), .val (.int b1), .val (.int bl2), .val (.int d0), .val (.int d1), .val (.int cl1), .val (.int c0), .val (.int c1), .val (.int cl2), .val (.int e0), .val (.int e1), .val (.ref o1), .val (.ref o2), .val (.ref o3), .val (.ref o4), .val (.ref o5), .val (.ref o6), .val (.ref o7), .val (.ref o8), .val (.ref o9), .val (.ref o10), .val (.int (1 : Int32))] [(.ref o9)]))
                  refine Go.st (fun _ k => XS.aload X.here hx rfl (hb hby at_368) rfl rfl k) ?_
                  show Go p e below _ (T.setTop (mkF m 370 #[.val (.int p0), .val (.int p1), .val (.int p2), .val (.int p3), .val (.int p4), .val (.int bl1), .val (.int b0), .val (.int b1), .val (.int bl2), .val (.int d0), .val (.int d1), .val (.int cl1), .val (.int c0), .val (.int c1), .val (.int cl2), .val (.int e0), .val (.int e1), .val (.ref o1), .val (.ref o2), .val (.ref o3), .val (.ref o4), .val (.ref o5), .val (.ref o6), .val (.ref o7), .val (.ref o8), .val (.ref o9), .val (.ref o10), .val (.int (1 : Int32))] [(.ref o10), (.ref o9)]))
                  refine Go.virtV (K := "com/example/rolling_tally/rollingtally/service/TallyKey") (z := (⟨"com/example/rolling_tally/rollingtally/service/TallyKey", "sameRanking", "(Lcom/example/rolling_tally/rollingtally/service/TallyKey;)Z"⟩ : MethodName)) (argsL := [(.ref o10)]) (rest := []) (W := 0) (w := (.int (f_rank (strL bl1 b0 b1) (strL bl2 d0 d1) (strL cl1 c0 c1) (strL cl2 e0 e1)))) X hx hZ hown (hml.trans rfl) hT A_o9 (hw _ (List.mem_of_getElem? (i := 69) rfl)) (hw _ (List.mem_of_getElem? (i := 70) rfl)) (hw _ (List.mem_of_getElem? (i := 72) rfl)) (hw _ (List.mem_of_getElem? (i := 71) rfl)) (by decide) pd_10 rfl rfl (Nat.le_of_ble_eq_true rfl) (hb hby at_370) (notFace_of_selects (args := #[]) (mvT hZ (hw _ (List.mem_of_getElem? (i := 72) rfl)))) (backOf (W := 0) (met_rank l Z a0 hw [] z n0 o9 o10 o1 o2 o3 o4 (strL bl1 b0 b1) (strL bl2 d0 d1) (strL cl1 c0 c1) (strL cl2 e0 e1) _ O Sc F_o9_board F_o9_category S_o1 S_o3 F_o10_board F_o10_category S_o2 S_o4) hZ (hw _ (List.mem_of_getElem? (i := 73) rfl)) (hw _ (List.mem_of_getElem? (i := 53) rfl)) (by decide) (by decide)) (by decide) (by decide) ?_
                  intro T hT X
                  show Go p e below _ (T.setTop (mkF m 373 #[.val (.int p0), .val (.int p1), .val (.int p2), .val (.int p3), .val (.int p4), .val (.int bl1), .val (.int b0), .val (.int b1), .val (.int bl2), .val (.int d0), .val (.int d1), .val (.int cl1), .val (.int c0), .val (.int c1), .val (.int cl2), .val (.int e0), .val (.int e1), .val (.ref o1), .val (.ref o2), .val (.ref o3), .val (.ref o4), .val (.ref o5), .val (.ref o6), .val (.ref o7), .val (.ref o8), .val (.ref o9), .val (.ref o10), .val (.int (1 : Int32))] [(.int (f_rank (strL bl1 b0 b1) (strL bl2 d0 d1) (strL cl1 c0 c1) (strL cl2 e0 e1)))]))
                  refine Go.st (fun _ k => XS.iload X.here hx rfl (hb hby at_373) rfl k) ?_
                  show Go p e below _ (T.setTop (mkF m 375 #[.val (.int p0), .val (.int p1), .val (.int p2), .val (.int p3), .val (.int p4), .val (.int bl1), .val (.int b0), .val (.int b1), .val (.int bl2), .val (.int d0), .val (.int d1), .val (.int cl1), .val (.int c0), .val (.int c1), .val (.int cl2), .val (.int e0), .val (.int e1), .val (.ref o1), .val (.ref o2), .val (.ref o3), .val (.ref o4), .val (.ref o5), .val (.ref o6), .val (.ref o7), .val (.ref o8), .val (.ref o9), .val (.ref o10), .val (.int (1 : Int32))] [(.int (1 : Int32)), (.int (f_rank (strL bl1 b0 b1) (strL bl2 d0 d1) (strL cl1 c0 c1) (strL cl2 e0 e1)))]))
                  refine Go.st (fun _ k => XS.icmpNo X.here hx rfl (hb hby at_375) rfl (Jvm.Free.XT.ii_ne_f (by rw [own_rank (own_3 hbl1) (own_3i hbl2 (own_3 hbl1)) (own_3 hcl1) (own_3i hcl2 (own_3 hcl1)), own_exp, if_neg hc11, if_neg hc12] : (f_rank (strL bl1 b0 b1) (strL bl2 d0 d1) (strL cl1 c0 c1) (strL cl2 e0 e1)) = (1 : Int32))) k) ?_
                  show Go p e below _ (T.setTop (mkF m 378 #[.val (.int p0), .val (.int p1), .val (.int p2), .val (.int p3), .val (.int p4), .val (.int bl1), .val (.int b0), .val (.int b1), .val (.int bl2), .val (.int d0), .val (.int d1), .val (.int cl1), .val (.int c0), .val (.int c1), .val (.int cl2), .val (.int e0), .val (.int e1), .val (.ref o1), .val (.ref o2), .val (.ref o3), .val (.ref o4), .val (.ref o5), .val (.ref o6), .val (.ref o7), .val (.ref o8), .val (.ref o9), .val (.ref o10), .val (.int (1 : Int32))] []))
                  refine Go.st (fun _ k => XS.aload X.here hx rfl (hb hby at_378) rfl rfl k) ?_
                  show Go p e below _ (T.setTop (mkF m 380 #[.val (.int p0), .val (.int p1), .val (.int p2), .val (.int p3), .val (.int p4), .val (.int bl1), .val (.int b0), .val (.int b1), .val (.int bl2), .val (.int d0), .val (.int d1), .val (.int cl1), .val (.int c0), .val (.int c1), .val (.int cl2), .val (.int e0), .val (.int e1), .val (.ref o1), .val (.ref o2), .val (.ref o3), .val (.ref o4), .val (.ref o5), .val (.ref o6), .val (.ref o7), .val (.ref o8), .val (.ref o9), .val (.ref o10), .val (.int (1 : Int32))] [(.ref o10)]))
                  refine Go.st (fun _ k => XS.aload X.here hx rfl (hb hby at_380) rfl rfl k) ?_
                  show Go p e below _ (T.setTop (mkF m 382 #[.val (.int p0), .val (.int p1), .val (.int p2), .val (.int p3), .val (.int p4), .val (.int bl1), .val (.int b0), .val (.int b1), .val (.int bl2), .val (.int d0), .val (.int d1), .val (.int cl1), .val (.int c0), .val (.int c1), .val (.int cl2), .val (.int e0), .val (.int e1), .val (.ref o1), .val (.ref o2), .val (.ref o3), .val (.ref o4), .val (.ref o5), .val (.ref o6), .val (.ref o7), .val (.ref o8), .val (.ref o9), .val (.ref o10), .val (.int (1 : Int32))] [(.ref o9), (.ref o10)]))
                  refine Go.virtV (K := "com/example/rolling_tally/rollingtally/service/TallyKey") (z := (⟨"com/example/rolling_tally/rollingtally/service/TallyKey", "sameRanking", "(Lcom/example/rolling_tally/rollingtally/service/TallyKey;)Z"⟩ : MethodName)) (argsL := [(.ref o9)]) (rest := []) (W := 0) (w := (.int (f_rank (strL bl2 d0 d1) (strL bl1 b0 b1) (strL cl2 e0 e1) (strL cl1 c0 c1)))) X hx hZ hown (hml.trans rfl) hT A_o10 (hw _ (List.mem_of_getElem? (i := 69) rfl)) (hw _ (List.mem_of_getElem? (i := 70) rfl)) (hw _ (List.mem_of_getElem? (i := 72) rfl)) (hw _ (List.mem_of_getElem? (i := 71) rfl)) (by decide) pd_10 rfl rfl (Nat.le_of_ble_eq_true rfl) (hb hby at_382) (notFace_of_selects (args := #[]) (mvT hZ (hw _ (List.mem_of_getElem? (i := 72) rfl)))) (backOf (W := 0) (met_rank l Z a0 hw [] z n0 o10 o9 o2 o1 o4 o3 (strL bl2 d0 d1) (strL bl1 b0 b1) (strL cl2 e0 e1) (strL cl1 c0 c1) _ O Sc F_o10_board F_o10_category S_o2 S_o4 F_o9_board F_o9_category S_o1 S_o3) hZ (hw _ (List.mem_of_getElem? (i := 73) rfl)) (hw _ (List.mem_of_getElem? (i := 53) rfl)) (by decide) (by decide)) (by decide) (by decide) ?_
                  intro T hT X
                  show Go p e below _ (T.setTop (mkF m 385 #[.val (.int p0), .val (.int p1), .val (.int p2), .val (.int p3), .val (.int p4), .val (.int bl1), .val (.int b0), .val (.int b1), .val (.int bl2), .val (.int d0), .val (.int d1), .val (.int cl1), .val (.int c0), .val (.int c1), .val (.int cl2), .val (.int e0), .val (.int e1), .val (.ref o1), .val (.ref o2), .val (.ref o3), .val (.ref o4), .val (.ref o5), .val (.ref o6), .val (.ref o7), .val (.ref o8), .val (.ref o9), .val (.ref o10), .val (.int (1 : Int32))] [(.int (f_rank (strL bl2 d0 d1) (strL bl1 b0 b1) (strL cl2 e0 e1) (strL cl1 c0 c1)))]))
                  refine Go.st (fun _ k => XS.iload X.here hx rfl (hb hby at_385) rfl k) ?_
                  show Go p e below _ (T.setTop (mkF m 387 #[.val (.int p0), .val (.int p1), .val (.int p2), .val (.int p3), .val (.int p4), .val (.int bl1), .val (.int b0), .val (.int b1), .val (.int bl2), .val (.int d0), .val (.int d1), .val (.int cl1), .val (.int c0), .val (.int c1), .val (.int cl2), .val (.int e0), .val (.int e1), .val (.ref o1), .val (.ref o2), .val (.ref o3), .val (.ref o4), .val (.ref o5), .val (.ref o6), .val (.ref o7), .val (.ref o8), .val (.ref o9), .val (.ref o10), .val (.int (1 : Int32))] [(.int (1 : Int32)), (.int (f_rank (strL bl2 d0 d1) (strL bl1 b0 b1) (strL cl2 e0 e1) (strL cl1 c0 c1)))]))
                  refine Go.st (fun _ k => XS.icmpNo X.here hx rfl (hb hby at_387) rfl (Jvm.Free.XT.ii_ne_f (by rw [own_rank2 (own_3 hbl1) (own_3i hbl2 (own_3 hbl1)) (own_3 hcl1) (own_3i hcl2 (own_3 hcl1)), own_exp, if_neg hc11, if_neg hc12] : (f_rank (strL bl2 d0 d1) (strL bl1 b0 b1) (strL cl2 e0 e1) (strL cl1 c0 c1)) = (1 : Int32))) k) ?_
                  show Go p e below _ (T.setTop (mkF m 390 #[.val (.int p0), .val (.int p1), .val (.int p2), .val (.int p3), .val (.int p4), .val (.int bl1), .val (.int b0), .val (.int b1), .val (.int bl2), .val (.int d0), .val (.int d1), .val (.int cl1), .val (.int c0), .val (.int c1), .val (.int cl2), .val (.int e0), .val (.int e1), .val (.ref o1), .val (.ref o2), .val (.ref o3), .val (.ref o4), .val (.ref o5), .val (.ref o6), .val (.ref o7), .val (.ref o8), .val (.ref o9), .val (.ref o10), .val (.int (1 : Int32))] []))
                  refine Go.st (fun _ k => XS.iconst X.here hx rfl (hb hby at_390) k) ?_
                  show Go p e below _ (T.setTop (mkF m 391 #[.val (.int p0), .val (.int p1), .val (.int p2), .val (.int p3), .val (.int p4), .val (.int bl1), .val (.int b0), .val (.int b1), .val (.int bl2), .val (.int d0), .val (.int d1), .val (.int cl1), .val (.int c0), .val (.int c1), .val (.int cl2), .val (.int e0), .val (.int e1), .val (.ref o1), .val (.ref o2), .val (.ref o3), .val (.ref o4), .val (.ref o5), .val (.ref o6), .val (.ref o7), .val (.ref o8), .val (.ref o9), .val (.ref o10), .val (.int (1 : Int32))] [(.int (1 : Int32))]))
                  refine Go.st (fun _ k => XS.goto X.here hx rfl (pc0 := 391) (pc' := 395) rfl (hb hby at_391) (by decide) (by decide) k) ?_
                  show Go p e below _ (T.setTop (mkF m 395 #[.val (.int p0), .val (.int p1), .val (.int p2), .val (.int p3), .val (.int p4), .val (.int bl1), .val (.int b0), .val (.int b1), .val (.int bl2), .val (.int d0), .val (.int d1), .val (.int cl1), .val (.int c0), .val (.int c1), .val (.int cl2), .val (.int e0), .val (.int e1), .val (.ref o1), .val (.ref o2), .val (.ref o3), .val (.ref o4), .val (.ref o5), .val (.ref o6), .val (.ref o7), .val (.ref o8), .val (.ref o9), .val (.ref o10), .val (.int (1 : Int32))] [(.int (1 : Int32))]))
                  refine Go.retH hEL H hZ X hx hlk hT hret (by decide) (riI (by simp)) (hb hby at_395) (by decide) (by decide) ?_
                  exact ⟨rfl, N⟩
            · intro K
              by_cases hc1 : (p3 &&& (4096 : Int32)) = (0 : Int32)
              · refine Go.st (fun _ k => XS.ifYes X.here hx rfl (pc0 := 169) (pc' := 177) rfl (hb hby at_169) rfl (Jvm.Free.XT.i0_eq_t hc1) (by decide) (by decide) k) ?_
                show Go p e below _ (T.setTop (mkF m 177 #[.val (.int p0), .val (.int p1), .val (.int p2), .val (.int p3), .val (.int p4), .val (.int bl1), .val (.int b0), .val (.int b1), .val (.int bl2), .val (.int d0), .val (.int d1), .val (.int cl1), .val (.int c0), .val (.int c1), .val (.int cl2), .val (.int e0), .unset, .unset, .unset, .unset, .unset, .unset, .unset, .unset, .unset, .unset, .unset, .unset] []))
                refine Go.st (fun _ k => XS.iloadN X.here hx rfl (hb hby at_177) rfl k) ?_
                show Go p e below _ (T.setTop (mkF m 178 #[.val (.int p0), .val (.int p1), .val (.int p2), .val (.int p3), .val (.int p4), .val (.int bl1), .val (.int b0), .val (.int b1), .val (.int bl2), .val (.int d0), .val (.int d1), .val (.int cl1), .val (.int c0), .val (.int c1), .val (.int cl2), .val (.int e0), .unset, .unset, .unset, .unset, .unset, .unset, .unset, .unset, .unset, .unset, .unset, .unset] [(.int p3)]))
                refine Go.st (fun _ k => XS.bipush X.here hx rfl (hb hby at_178) k) ?_
                show Go p e below _ (T.setTop (mkF m 180 #[.val (.int p0), .val (.int p1), .val (.int p2), .val (.int p3), .val (.int p4), .val (.int bl1), .val (.int b0), .val (.int b1), .val (.int bl2), .val (.int d0), .val (.int d1), .val (.int cl1), .val (.int c0), .val (.int c1), .val (.int cl2), .val (.int e0), .unset, .unset, .unset, .unset, .unset, .unset, .unset, .unset, .unset, .unset, .unset, .unset] [(.int (13 : Int32)), (.int p3)]))
                refine Go.st (fun _ k => XS.iushr X.here hx rfl (hb hby at_180) rfl k) ?_
                show Go p e below _ (T.setTop (mkF m 181 #[.val (.int p0), .val (.int p1), .val (.int p2), .val (.int p3), .val (.int p4), .val (.int bl1), .val (.int b0), .val (.int b1), .val (.int bl2), .val (.int d0), .val (.int d1), .val (.int cl1), .val (.int c0), .val (.int c1), .val (.int cl2), .val (.int e0), .unset, .unset, .unset, .unset, .unset, .unset, .unset, .unset, .unset, .unset, .unset, .unset] [(.int (((p3).toUInt32 >>> ((13 : Int32) &&& 31).toUInt32).toInt32))]))
                refine Go.st (fun _ k => XS.sipush X.here hx rfl (hb hby at_181) k) ?_
                show Go p e below _ (T.setTop (mkF m 184 #[.val (.int p0), .val (.int p1), .val (.int p2), .val (.int p3), .val (.int p4), .val (.int bl1), .val (.int b0), .val (.int b1), .val (.int bl2), .val (.int d0), .val (.int d1), .val (.int cl1), .val (.int c0), .val (.int c1), .val (.int cl2), .val (.int e0), .unset, .unset, .unset, .unset, .unset, .unset, .unset, .unset, .unset, .unset, .unset, .unset] [(.int (255 : Int32)), (.int (((p3).toUInt32 >>> ((13 : Int32) &&& 31).toUInt32).toInt32))]))
                refine Go.st (fun _ k => XS.iand X.here hx rfl (hb hby at_184) rfl k) ?_
                show Go p e below _ (T.setTop (mkF m 185 #[.val (.int p0), .val (.int p1), .val (.int p2), .val (.int p3), .val (.int p4), .val (.int bl1), .val (.int b0), .val (.int b1), .val (.int bl2), .val (.int d0), .val (.int d1), .val (.int cl1), .val (.int c0), .val (.int c1), .val (.int cl2), .val (.int e0), .unset, .unset, .unset, .unset, .unset, .unset, .unset, .unset, .unset, .unset, .unset, .unset] [(.int ((((p3).toUInt32 >>> ((13 : Int32) &&& 31).toUInt32).toInt32) &&& (255 : Int32)))]))
                refine Go.st (fun _ k => XS.i2c X.here hx rfl (hb hby at_185) rfl k) ?_
                show Go p e below _ (T.setTop (mkF m 186 #[.val (.int p0), .val (.int p1), .val (.int p2), .val (.int p3), .val (.int p4), .val (.int bl1), .val (.int b0), .val (.int b1), .val (.int bl2), .val (.int d0), .val (.int d1), .val (.int cl1), .val (.int c0), .val (.int c1), .val (.int cl2), .val (.int e0), .unset, .unset, .unset, .unset, .unset, .unset, .unset, .unset, .unset, .unset, .unset, .unset] [(.int (((((p3).toUInt32 >>> ((13 : Int32) &&& 31).toUInt32).toInt32) &&& (255 : Int32)).toUInt32.toUInt16.toUInt32.toInt32))]))
                exact K _ _ (by rw [if_pos hc1]) hT X
              · refine Go.st (fun _ k => XS.ifNo X.here hx rfl (hb hby at_169) rfl (Jvm.Free.XT.i0_eq_f hc1) k) ?_
                show Go p e below _ (T.setTop (mkF m 172 #[.val (.int p0), .val (.int p1), .val (.int p2), .val (.int p3), .val (.int p4), .val (.int bl1), .val (.int b0), .val (.int b1), .val (.int bl2), .val (.int d0), .val (.int d1), .val (.int cl1), .val (.int c0), .val (.int c1), .val (.int cl2), .val (.int e0), .unset, .unset, .unset, .unset, .unset, .unset, .unset, .unset, .unset, .unset, .unset, .unset] []))
                refine Go.st (fun _ k => XS.iload X.here hx rfl (hb hby at_172) rfl k) ?_
                show Go p e below _ (T.setTop (mkF m 174 #[.val (.int p0), .val (.int p1), .val (.int p2), .val (.int p3), .val (.int p4), .val (.int bl1), .val (.int b0), .val (.int b1), .val (.int bl2), .val (.int d0), .val (.int d1), .val (.int cl1), .val (.int c0), .val (.int c1), .val (.int cl2), .val (.int e0), .unset, .unset, .unset, .unset, .unset, .unset, .unset, .unset, .unset, .unset, .unset, .unset] [(.int c1)]))
                refine Go.st (fun _ k => XS.goto X.here hx rfl (pc0 := 174) (pc' := 186) rfl (hb hby at_174) (by decide) (by decide) k) ?_
                show Go p e below _ (T.setTop (mkF m 186 #[.val (.int p0), .val (.int p1), .val (.int p2), .val (.int p3), .val (.int p4), .val (.int bl1), .val (.int b0), .val (.int b1), .val (.int bl2), .val (.int d0), .val (.int d1), .val (.int cl1), .val (.int c0), .val (.int c1), .val (.int cl2), .val (.int e0), .unset, .unset, .unset, .unset, .unset, .unset, .unset, .unset, .unset, .unset, .unset, .unset] [(.int c1)]))
                exact K _ _ (by rw [if_neg hc1]) hT X
          · intro K
            by_cases hc1 : (p3 &&& (8 : Int32)) = (0 : Int32)
            · refine Go.st (fun _ k => XS.ifYes X.here hx rfl (pc0 := 146) (pc' := 154) rfl (hb hby at_146) rfl (Jvm.Free.XT.i0_eq_t hc1) (by decide) (by decide) k) ?_
              show Go p e below _ (T.setTop (mkF m 154 #[.val (.int p0), .val (.int p1), .val (.int p2), .val (.int p3), .val (.int p4), .val (.int bl1), .val (.int b0), .val (.int b1), .val (.int bl2), .val (.int d0), .val (.int d1), .val (.int cl1), .val (.int c0), .val (.int c1), .val (.int cl2), .unset, .unset, .unset, .unset, .unset, .unset, .unset, .unset, .unset, .unset, .unset, .unset, .unset] []))
              refine Go.st (fun _ k => XS.iloadN X.here hx rfl (hb hby at_154) rfl k) ?_
              show Go p e below _ (T.setTop (mkF m 155 #[.val (.int p0), .val (.int p1), .val (.int p2), .val (.int p3), .val (.int p4), .val (.int bl1), .val (.int b0), .val (.int b1), .val (.int bl2), .val (.int d0), .val (.int d1), .val (.int cl1), .val (.int c0), .val (.int c1), .val (.int cl2), .unset, .unset, .unset, .unset, .unset, .unset, .unset, .unset, .unset, .unset, .unset, .unset, .unset] [(.int p3)]))
              refine Go.st (fun _ k => XS.iconst X.here hx rfl (hb hby at_155) k) ?_
              show Go p e below _ (T.setTop (mkF m 156 #[.val (.int p0), .val (.int p1), .val (.int p2), .val (.int p3), .val (.int p4), .val (.int bl1), .val (.int b0), .val (.int b1), .val (.int bl2), .val (.int d0), .val (.int d1), .val (.int cl1), .val (.int c0), .val (.int c1), .val (.int cl2), .unset, .unset, .unset, .unset, .unset, .unset, .unset, .unset, .unset, .unset, .unset, .unset, .unset] [(.int (4 : Int32)), (.int p3)]))
              refine Go.st (fun _ k => XS.iushr X.here hx rfl (hb hby at_156) rfl k) ?_
              show Go p e below _ (T.setTop (mkF m 157 #[.val (.int p0), .val (.int p1), .val (.int p2), .val (.int p3), .val (.int p4), .val (.int bl1), .val (.int b0), .val (.int b1), .val (.int bl2), .val (.int d0), .val (.int d1), .val (.int cl1), .val (.int c0), .val (.int c1), .val (.int cl2), .unset, .unset, .unset, .unset, .unset, .unset, .unset, .unset, .unset, .unset, .unset, .unset, .unset] [(.int (((p3).toUInt32 >>> ((4 : Int32) &&& 31).toUInt32).toInt32))]))
              refine Go.st (fun _ k => XS.sipush X.here hx rfl (hb hby at_157) k) ?_
              show Go p e below _ (T.setTop (mkF m 160 #[.val (.int p0), .val (.int p1), .val (.int p2), .val (.int p3), .val (.int p4), .val (.int bl1), .val (.int b0), .val (.int b1), .val (.int bl2), .val (.int d0), .val (.int d1), .val (.int cl1), .val (.int c0), .val (.int c1), .val (.int cl2), .unset, .unset, .unset, .unset, .unset, .unset, .unset, .unset, .unset, .unset, .unset, .unset, .unset] [(.int (255 : Int32)), (.int (((p3).toUInt32 >>> ((4 : Int32) &&& 31).toUInt32).toInt32))]))
              refine Go.st (fun _ k => XS.iand X.here hx rfl (hb hby at_160) rfl k) ?_
              show Go p e below _ (T.setTop (mkF m 161 #[.val (.int p0), .val (.int p1), .val (.int p2), .val (.int p3), .val (.int p4), .val (.int bl1), .val (.int b0), .val (.int b1), .val (.int bl2), .val (.int d0), .val (.int d1), .val (.int cl1), .val (.int c0), .val (.int c1), .val (.int cl2), .unset, .unset, .unset, .unset, .unset, .unset, .unset, .unset, .unset, .unset, .unset, .unset, .unset] [(.int ((((p3).toUInt32 >>> ((4 : Int32) &&& 31).toUInt32).toInt32) &&& (255 : Int32)))]))
              refine Go.st (fun _ k => XS.i2c X.here hx rfl (hb hby at_161) rfl k) ?_
              show Go p e below _ (T.setTop (mkF m 162 #[.val (.int p0), .val (.int p1), .val (.int p2), .val (.int p3), .val (.int p4), .val (.int bl1), .val (.int b0), .val (.int b1), .val (.int bl2), .val (.int d0), .val (.int d1), .val (.int cl1), .val (.int c0), .val (.int c1), .val (.int cl2), .unset, .unset, .unset, .unset, .unset, .unset, .unset, .unset, .unset, .unset, .unset, .unset, .unset] [(.int (((((p3).toUInt32 >>> ((4 : Int32) &&& 31).toUInt32).toInt32) &&& (255 : Int32)).toUInt32.toUInt16.toUInt32.toInt32))]))
              exact K _ _ (by rw [if_pos hc1]) hT X
            · refine Go.st (fun _ k => XS.ifNo X.here hx rfl (hb hby at_146) rfl (Jvm.Free.XT.i0_eq_f hc1) k) ?_
              show Go p e below _ (T.setTop (mkF m 149 #[.val (.int p0), .val (.int p1), .val (.int p2), .val (.int p3), .val (.int p4), .val (.int bl1), .val (.int b0), .val (.int b1), .val (.int bl2), .val (.int d0), .val (.int d1), .val (.int cl1), .val (.int c0), .val (.int c1), .val (.int cl2), .unset, .unset, .unset, .unset, .unset, .unset, .unset, .unset, .unset, .unset, .unset, .unset, .unset] []))
              refine Go.st (fun _ k => XS.iload X.here hx rfl (hb hby at_149) rfl k) ?_
              show Go p e below _ (T.setTop (mkF m 151 #[.val (.int p0), .val (.int p1), .val (.int p2), .val (.int p3), .val (.int p4), .val (.int bl1), .val (.int b0), .val (.int b1), .val (.int bl2), .val (.int d0), .val (.int d1), .val (.int cl1), .val (.int c0), .val (.int c1), .val (.int cl2), .unset, .unset, .unset, .unset, .unset, .unset, .unset, .unset, .unset, .unset, .unset, .unset, .unset] [(.int c0)]))
              refine Go.st (fun _ k => XS.goto X.here hx rfl (pc0 := 151) (pc' := 162) rfl (hb hby at_151) (by decide) (by decide) k) ?_
              show Go p e below _ (T.setTop (mkF m 162 #[.val (.int p0), .val (.int p1), .val (.int p2), .val (.int p3), .val (.int p4), .val (.int bl1), .val (.int b0), .val (.int b1), .val (.int bl2), .val (.int d0), .val (.int d1), .val (.int cl1), .val (.int c0), .val (.int c1), .val (.int cl2), .unset, .unset, .unset, .unset, .unset, .unset, .unset, .unset, .unset, .unset, .unset, .unset, .unset] [(.int c0)]))
              exact K _ _ (by rw [if_neg hc1]) hT X
        · intro K
          by_cases hc1 : (p3 &&& (1 : Int32)) = (0 : Int32)
          · refine Go.st (fun _ k => XS.ifYes X.here hx rfl (pc0 := 125) (pc' := 133) rfl (hb hby at_125) rfl (Jvm.Free.XT.i0_eq_t hc1) (by decide) (by decide) k) ?_
            show Go p e below _ (T.setTop (mkF m 133 #[.val (.int p0), .val (.int p1), .val (.int p2), .val (.int p3), .val (.int p4), .val (.int bl1), .val (.int b0), .val (.int b1), .val (.int bl2), .val (.int d0), .val (.int d1), .val (.int cl1), .val (.int c0), .val (.int c1), .unset, .unset, .unset, .unset, .unset, .unset, .unset, .unset, .unset, .unset, .unset, .unset, .unset, .unset] []))
            refine Go.st (fun _ k => XS.iloadN X.here hx rfl (hb hby at_133) rfl k) ?_
            show Go p e below _ (T.setTop (mkF m 134 #[.val (.int p0), .val (.int p1), .val (.int p2), .val (.int p3), .val (.int p4), .val (.int bl1), .val (.int b0), .val (.int b1), .val (.int bl2), .val (.int d0), .val (.int d1), .val (.int cl1), .val (.int c0), .val (.int c1), .unset, .unset, .unset, .unset, .unset, .unset, .unset, .unset, .unset, .unset, .unset, .unset, .unset, .unset] [(.int p3)]))
            refine Go.st (fun _ k => XS.iconst X.here hx rfl (hb hby at_134) k) ?_
            show Go p e below _ (T.setTop (mkF m 135 #[.val (.int p0), .val (.int p1), .val (.int p2), .val (.int p3), .val (.int p4), .val (.int bl1), .val (.int b0), .val (.int b1), .val (.int bl2), .val (.int d0), .val (.int d1), .val (.int cl1), .val (.int c0), .val (.int c1), .unset, .unset, .unset, .unset, .unset, .unset, .unset, .unset, .unset, .unset, .unset, .unset, .unset, .unset] [(.int (1 : Int32)), (.int p3)]))
            refine Go.st (fun _ k => XS.iushr X.here hx rfl (hb hby at_135) rfl k) ?_
            show Go p e below _ (T.setTop (mkF m 136 #[.val (.int p0), .val (.int p1), .val (.int p2), .val (.int p3), .val (.int p4), .val (.int bl1), .val (.int b0), .val (.int b1), .val (.int bl2), .val (.int d0), .val (.int d1), .val (.int cl1), .val (.int c0), .val (.int c1), .unset, .unset, .unset, .unset, .unset, .unset, .unset, .unset, .unset, .unset, .unset, .unset, .unset, .unset] [(.int (((p3).toUInt32 >>> ((1 : Int32) &&& 31).toUInt32).toInt32))]))
            refine Go.st (fun _ k => XS.iconst X.here hx rfl (hb hby at_136) k) ?_
            show Go p e below _ (T.setTop (mkF m 137 #[.val (.int p0), .val (.int p1), .val (.int p2), .val (.int p3), .val (.int p4), .val (.int bl1), .val (.int b0), .val (.int b1), .val (.int bl2), .val (.int d0), .val (.int d1), .val (.int cl1), .val (.int c0), .val (.int c1), .unset, .unset, .unset, .unset, .unset, .unset, .unset, .unset, .unset, .unset, .unset, .unset, .unset, .unset] [(.int (3 : Int32)), (.int (((p3).toUInt32 >>> ((1 : Int32) &&& 31).toUInt32).toInt32))]))
            refine Go.st (fun _ k => XS.iand X.here hx rfl (hb hby at_137) rfl k) ?_
            show Go p e below _ (T.setTop (mkF m 138 #[.val (.int p0), .val (.int p1), .val (.int p2), .val (.int p3), .val (.int p4), .val (.int bl1), .val (.int b0), .val (.int b1), .val (.int bl2), .val (.int d0), .val (.int d1), .val (.int cl1), .val (.int c0), .val (.int c1), .unset, .unset, .unset, .unset, .unset, .unset, .unset, .unset, .unset, .unset, .unset, .unset, .unset, .unset] [(.int ((((p3).toUInt32 >>> ((1 : Int32) &&& 31).toUInt32).toInt32) &&& (3 : Int32)))]))
            refine Go.st (fun _ k => XS.iconst X.here hx rfl (hb hby at_138) k) ?_
            show Go p e below _ (T.setTop (mkF m 139 #[.val (.int p0), .val (.int p1), .val (.int p2), .val (.int p3), .val (.int p4), .val (.int bl1), .val (.int b0), .val (.int b1), .val (.int bl2), .val (.int d0), .val (.int d1), .val (.int cl1), .val (.int c0), .val (.int c1), .unset, .unset, .unset, .unset, .unset, .unset, .unset, .unset, .unset, .unset, .unset, .unset, .unset, .unset] [(.int (3 : Int32)), (.int ((((p3).toUInt32 >>> ((1 : Int32) &&& 31).toUInt32).toInt32) &&& (3 : Int32)))]))
            refine Go.st (fun _ k => iremM X hx rfl (hb hby at_139) rfl (by decide) k) ?_
            show Go p e below _ (T.setTop (mkF m 140 #[.val (.int p0), .val (.int p1), .val (.int p2), .val (.int p3), .val (.int p4), .val (.int bl1), .val (.int b0), .val (.int b1), .val (.int bl2), .val (.int d0), .val (.int d1), .val (.int cl1), .val (.int c0), .val (.int c1), .unset, .unset, .unset, .unset, .unset, .unset, .unset, .unset, .unset, .unset, .unset, .unset, .unset, .unset] [(.int (((((p3).toUInt32 >>> ((1 : Int32) &&& 31).toUInt32).toInt32) &&& (3 : Int32)) % (3 : Int32)))]))
            exact K _ _ (by rw [if_pos hc1]) hT X
          · refine Go.st (fun _ k => XS.ifNo X.here hx rfl (hb hby at_125) rfl (Jvm.Free.XT.i0_eq_f hc1) k) ?_
            show Go p e below _ (T.setTop (mkF m 128 #[.val (.int p0), .val (.int p1), .val (.int p2), .val (.int p3), .val (.int p4), .val (.int bl1), .val (.int b0), .val (.int b1), .val (.int bl2), .val (.int d0), .val (.int d1), .val (.int cl1), .val (.int c0), .val (.int c1), .unset, .unset, .unset, .unset, .unset, .unset, .unset, .unset, .unset, .unset, .unset, .unset, .unset, .unset] []))
            refine Go.st (fun _ k => XS.iload X.here hx rfl (hb hby at_128) rfl k) ?_
            show Go p e below _ (T.setTop (mkF m 130 #[.val (.int p0), .val (.int p1), .val (.int p2), .val (.int p3), .val (.int p4), .val (.int bl1), .val (.int b0), .val (.int b1), .val (.int bl2), .val (.int d0), .val (.int d1), .val (.int cl1), .val (.int c0), .val (.int c1), .unset, .unset, .unset, .unset, .unset, .unset, .unset, .unset, .unset, .unset, .unset, .unset, .unset, .unset] [(.int cl1)]))
            refine Go.st (fun _ k => XS.goto X.here hx rfl (pc0 := 130) (pc' := 140) rfl (hb hby at_130) (by decide) (by decide) k) ?_
            show Go p e below _ (T.setTop (mkF m 140 #[.val (.int p0), .val (.int p1), .val (.int p2), .val (.int p3), .val (.int p4), .val (.int bl1), .val (.int b0), .val (.int b1), .val (.int bl2), .val (.int d0), .val (.int d1), .val (.int cl1), .val (.int c0), .val (.int c1), .unset, .unset, .unset, .unset, .unset, .unset, .unset, .unset, .unset, .unset, .unset, .unset, .unset, .unset] [(.int cl1)]))
            exact K _ _ (by rw [if_neg hc1]) hT X
      · intro K
        by_cases hc1 : (p1 &&& (4096 : Int32)) = (0 : Int32)
        · refine Go.st (fun _ k => XS.ifYes X.here hx rfl (pc0 := 75) (pc' := 83) rfl (hb hby at_75) rfl (Jvm.Free.XT.i0_eq_t hc1) (by decide) (by decide) k) ?_
          show Go p e below _ (T.setTop (mkF m 83 #[.val (.int p0), .val (.int p1), .val (.int p2), .val (.int p3), .val (.int p4), .val (.int bl1), .val (.int b0), .val (.int b1), .val (.int bl2), .val (.int d0), .unset, .unset, .unset, .unset, .unset, .unset, .unset, .unset, .unset, .unset, .unset, .unset, .unset, .unset, .unset, .unset, .unset, .unset] []))
          refine Go.st (fun _ k => XS.iloadN X.here hx rfl (hb hby at_83) rfl k) ?_
          show Go p e below _ (T.setTop (mkF m 84 #[.val (.int p0), .val (.int p1), .val (.int p2), .val (.int p3), .val (.int p4), .val (.int bl1), .val (.int b0), .val (.int b1), .val (.int bl2), .val (.int d0), .unset, .unset, .unset, .unset, .unset, .unset, .unset, .unset, .unset, .unset, .unset, .unset, .unset, .unset, .unset, .unset, .unset, .unset] [(.int p1)]))
          refine Go.st (fun _ k => XS.bipush X.here hx rfl (hb hby at_84) k) ?_
          show Go p e below _ (T.setTop (mkF m 86 #[.val (.int p0), .val (.int p1), .val (.int p2), .val (.int p3), .val (.int p4), .val (.int bl1), .val (.int b0), .val (.int b1), .val (.int bl2), .val (.int d0), .unset, .unset, .unset, .unset, .unset, .unset, .unset, .unset, .unset, .unset, .unset, .unset, .unset, .unset, .unset, .unset, .unset, .unset] [(.int (13 : Int32)), (.int p1)]))
          refine Go.st (fun _ k => XS.iushr X.here hx rfl (hb hby at_86) rfl k) ?_
          show Go p e below _ (T.setTop (mkF m 87 #[.val (.int p0), .val (.int p1), .val (.int p2), .val (.int p3), .val (.int p4), .val (.int bl1), .val (.int b0), .val (.int b1), .val (.int bl2), .val (.int d0), .unset, .unset, .unset, .unset, .unset, .unset, .unset, .unset, .unset, .unset, .unset, .unset, .unset, .unset, .unset, .unset, .unset, .unset] [(.int (((p1).toUInt32 >>> ((13 : Int32) &&& 31).toUInt32).toInt32))]))
          refine Go.st (fun _ k => XS.sipush X.here hx rfl (hb hby at_87) k) ?_
          show Go p e below _ (T.setTop (mkF m 90 #[.val (.int p0), .val (.int p1), .val (.int p2), .val (.int p3), .val (.int p4), .val (.int bl1), .val (.int b0), .val (.int b1), .val (.int bl2), .val (.int d0), .unset, .unset, .unset, .unset, .unset, .unset, .unset, .unset, .unset, .unset, .unset, .unset, .unset, .unset, .unset, .unset, .unset, .unset] [(.int (255 : Int32)), (.int (((p1).toUInt32 >>> ((13 : Int32) &&& 31).toUInt32).toInt32))]))
          refine Go.st (fun _ k => XS.iand X.here hx rfl (hb hby at_90) rfl k) ?_
          show Go p e below _ (T.setTop (mkF m 91 #[.val (.int p0), .val (.int p1), .val (.int p2), .val (.int p3), .val (.int p4), .val (.int bl1), .val (.int b0), .val (.int b1), .val (.int bl2), .val (.int d0), .unset, .unset, .unset, .unset, .unset, .unset, .unset, .unset, .unset, .unset, .unset, .unset, .unset, .unset, .unset, .unset, .unset, .unset] [(.int ((((p1).toUInt32 >>> ((13 : Int32) &&& 31).toUInt32).toInt32) &&& (255 : Int32)))]))
          refine Go.st (fun _ k => XS.i2c X.here hx rfl (hb hby at_91) rfl k) ?_
          show Go p e below _ (T.setTop (mkF m 92 #[.val (.int p0), .val (.int p1), .val (.int p2), .val (.int p3), .val (.int p4), .val (.int bl1), .val (.int b0), .val (.int b1), .val (.int bl2), .val (.int d0), .unset, .unset, .unset, .unset, .unset, .unset, .unset, .unset, .unset, .unset, .unset, .unset, .unset, .unset, .unset, .unset, .unset, .unset] [(.int (((((p1).toUInt32 >>> ((13 : Int32) &&& 31).toUInt32).toInt32) &&& (255 : Int32)).toUInt32.toUInt16.toUInt32.toInt32))]))
          exact K _ _ (by rw [if_pos hc1]) hT X
        · refine Go.st (fun _ k => XS.ifNo X.here hx rfl (hb hby at_75) rfl (Jvm.Free.XT.i0_eq_f hc1) k) ?_
          show Go p e below _ (T.setTop (mkF m 78 #[.val (.int p0), .val (.int p1), .val (.int p2), .val (.int p3), .val (.int p4), .val (.int bl1), .val (.int b0), .val (.int b1), .val (.int bl2), .val (.int d0), .unset, .unset, .unset, .unset, .unset, .unset, .unset, .unset, .unset, .unset, .unset, .unset, .unset, .unset, .unset, .unset, .unset, .unset] []))
          refine Go.st (fun _ k => XS.iload X.here hx rfl (hb hby at_78) rfl k) ?_
          show Go p e below _ (T.setTop (mkF m 80 #[.val (.int p0), .val (.int p1), .val (.int p2), .val (.int p3), .val (.int p4), .val (.int bl1), .val (.int b0), .val (.int b1), .val (.int bl2), .val (.int d0), .unset, .unset, .unset, .unset, .unset, .unset, .unset, .unset, .unset, .unset, .unset, .unset, .unset, .unset, .unset, .unset, .unset, .unset] [(.int b1)]))
          refine Go.st (fun _ k => XS.goto X.here hx rfl (pc0 := 80) (pc' := 92) rfl (hb hby at_80) (by decide) (by decide) k) ?_
          show Go p e below _ (T.setTop (mkF m 92 #[.val (.int p0), .val (.int p1), .val (.int p2), .val (.int p3), .val (.int p4), .val (.int bl1), .val (.int b0), .val (.int b1), .val (.int bl2), .val (.int d0), .unset, .unset, .unset, .unset, .unset, .unset, .unset, .unset, .unset, .unset, .unset, .unset, .unset, .unset, .unset, .unset, .unset, .unset] [(.int b1)]))
          exact K _ _ (by rw [if_neg hc1]) hT X
    · intro K
      by_cases hc1 : (p1 &&& (8 : Int32)) = (0 : Int32)
      · refine Go.st (fun _ k => XS.ifYes X.here hx rfl (pc0 := 52) (pc' := 60) rfl (hb hby at_52) rfl (Jvm.Free.XT.i0_eq_t hc1) (by decide) (by decide) k) ?_
        show Go p e below _ (T.setTop (mkF m 60 #[.val (.int p0), .val (.int p1), .val (.int p2), .val (.int p3), .val (.int p4), .val (.int bl1), .val (.int b0), .val (.int b1), .val (.int bl2), .unset, .unset, .unset, .unset, .unset, .unset, .unset, .unset, .unset, .unset, .unset, .unset, .unset, .unset, .unset, .unset, .unset, .unset, .unset] []))
        refine Go.st (fun _ k => XS.iloadN X.here hx rfl (hb hby at_60) rfl k) ?_
        show Go p e below _ (T.setTop (mkF m 61 #[.val (.int p0), .val (.int p1), .val (.int p2), .val (.int p3), .val (.int p4), .val (.int bl1), .val (.int b0), .val (.int b1), .val (.int bl2), .unset, .unset, .unset, .unset, .unset, .unset, .unset, .unset, .unset, .unset, .unset, .unset, .unset, .unset, .unset, .unset, .unset, .unset, .unset] [(.int p1)]))
        refine Go.st (fun _ k => XS.iconst X.here hx rfl (hb hby at_61) k) ?_
        show Go p e below _ (T.setTop (mkF m 62 #[.val (.int p0), .val (.int p1), .val (.int p2), .val (.int p3), .val (.int p4), .val (.int bl1), .val (.int b0), .val (.int b1), .val (.int bl2), .unset, .unset, .unset, .unset, .unset, .unset, .unset, .unset, .unset, .unset, .unset, .unset, .unset, .unset, .unset, .unset, .unset, .unset, .unset] [(.int (4 : Int32)), (.int p1)]))
        refine Go.st (fun _ k => XS.iushr X.here hx rfl (hb hby at_62) rfl k) ?_
        show Go p e below _ (T.setTop (mkF m 63 #[.val (.int p0), .val (.int p1), .val (.int p2), .val (.int p3), .val (.int p4), .val (.int bl1), .val (.int b0), .val (.int b1), .val (.int bl2), .unset, .unset, .unset, .unset, .unset, .unset, .unset, .unset, .unset, .unset, .unset, .unset, .unset, .unset, .unset, .unset, .unset, .unset, .unset] [(.int (((p1).toUInt32 >>> ((4 : Int32) &&& 31).toUInt32).toInt32))]))
        refine Go.st (fun _ k => XS.sipush X.here hx rfl (hb hby at_63) k) ?_
        show Go p e below _ (T.setTop (mkF m 66 #[.val (.int p0), .val (.int p1), .val (.int p2), .val (.int p3), .val (.int p4), .val (.int bl1), .val (.int b0), .val (.int b1), .val (.int bl2), .unset, .unset, .unset, .unset, .unset, .unset, .unset, .unset, .unset, .unset, .unset, .unset, .unset, .unset, .unset, .unset, .unset, .unset, .unset] [(.int (255 : Int32)), (.int (((p1).toUInt32 >>> ((4 : Int32) &&& 31).toUInt32).toInt32))]))
        refine Go.st (fun _ k => XS.iand X.here hx rfl (hb hby at_66) rfl k) ?_
        show Go p e below _ (T.setTop (mkF m 67 #[.val (.int p0), .val (.int p1), .val (.int p2), .val (.int p3), .val (.int p4), .val (.int bl1), .val (.int b0), .val (.int b1), .val (.int bl2), .unset, .unset, .unset, .unset, .unset, .unset, .unset, .unset, .unset, .unset, .unset, .unset, .unset, .unset, .unset, .unset, .unset, .unset, .unset] [(.int ((((p1).toUInt32 >>> ((4 : Int32) &&& 31).toUInt32).toInt32) &&& (255 : Int32)))]))
        refine Go.st (fun _ k => XS.i2c X.here hx rfl (hb hby at_67) rfl k) ?_
        show Go p e below _ (T.setTop (mkF m 68 #[.val (.int p0), .val (.int p1), .val (.int p2), .val (.int p3), .val (.int p4), .val (.int bl1), .val (.int b0), .val (.int b1), .val (.int bl2), .unset, .unset, .unset, .unset, .unset, .unset, .unset, .unset, .unset, .unset, .unset, .unset, .unset, .unset, .unset, .unset, .unset, .unset, .unset] [(.int (((((p1).toUInt32 >>> ((4 : Int32) &&& 31).toUInt32).toInt32) &&& (255 : Int32)).toUInt32.toUInt16.toUInt32.toInt32))]))
        exact K _ _ (by rw [if_pos hc1]) hT X
      · refine Go.st (fun _ k => XS.ifNo X.here hx rfl (hb hby at_52) rfl (Jvm.Free.XT.i0_eq_f hc1) k) ?_
        show Go p e below _ (T.setTop (mkF m 55 #[.val (.int p0), .val (.int p1), .val (.int p2), .val (.int p3), .val (.int p4), .val (.int bl1), .val (.int b0), .val (.int b1), .val (.int bl2), .unset, .unset, .unset, .unset, .unset, .unset, .unset, .unset, .unset, .unset, .unset, .unset, .unset, .unset, .unset, .unset, .unset, .unset, .unset] []))
        refine Go.st (fun _ k => XS.iload X.here hx rfl (hb hby at_55) rfl k) ?_
        show Go p e below _ (T.setTop (mkF m 57 #[.val (.int p0), .val (.int p1), .val (.int p2), .val (.int p3), .val (.int p4), .val (.int bl1), .val (.int b0), .val (.int b1), .val (.int bl2), .unset, .unset, .unset, .unset, .unset, .unset, .unset, .unset, .unset, .unset, .unset, .unset, .unset, .unset, .unset, .unset, .unset, .unset, .unset] [(.int b0)]))
        refine Go.st (fun _ k => XS.goto X.here hx rfl (pc0 := 57) (pc' := 68) rfl (hb hby at_57) (by decide) (by decide) k) ?_
        show Go p e below _ (T.setTop (mkF m 68 #[.val (.int p0), .val (.int p1), .val (.int p2), .val (.int p3), .val (.int p4), .val (.int bl1), .val (.int b0), .val (.int b1), .val (.int bl2), .unset, .unset, .unset, .unset, .unset, .unset, .unset, .unset, .unset, .unset, .unset, .unset, .unset, .unset, .unset, .unset, .unset, .unset, .unset] [(.int b0)]))
        exact K _ _ (by rw [if_neg hc1]) hT X
  · intro K
    by_cases hc1 : (p1 &&& (1 : Int32)) = (0 : Int32)
    · refine Go.st (fun _ k => XS.ifYes X.here hx rfl (pc0 := 31) (pc' := 39) rfl (hb hby at_31) rfl (Jvm.Free.XT.i0_eq_t hc1) (by decide) (by decide) k) ?_
      show Go p e below _ (T.setTop (mkF m 39 #[.val (.int p0), .val (.int p1), .val (.int p2), .val (.int p3), .val (.int p4), .val (.int bl1), .val (.int b0), .val (.int b1), .unset, .unset, .unset, .unset, .unset, .unset, .unset, .unset, .unset, .unset, .unset, .unset, .unset, .unset, .unset, .unset, .unset, .unset, .unset, .unset] []))
      refine Go.st (fun _ k => XS.iloadN X.here hx rfl (hb hby at_39) rfl k) ?_
      show Go p e below _ (T.setTop (mkF m 40 #[.val (.int p0), .val (.int p1), .val (.int p2), .val (.int p3), .val (.int p4), .val (.int bl1), .val (.int b0), .val (.int b1), .unset, .unset, .unset, .unset, .unset, .unset, .unset, .unset, .unset, .unset, .unset, .unset, .unset, .unset, .unset, .unset, .unset, .unset, .unset, .unset] [(.int p1)]))
      refine Go.st (fun _ k => XS.iconst X.here hx rfl (hb hby at_40) k) ?_
      show Go p e below _ (T.setTop (mkF m 41 #[.val (.int p0), .val (.int p1), .val (.int p2), .val (.int p3), .val (.int p4), .val (.int bl1), .val (.int b0), .val (.int b1), .unset, .unset, .unset, .unset, .unset, .unset, .unset, .unset, .unset, .unset, .unset, .unset, .unset, .unset, .unset, .unset, .unset, .unset, .unset, .unset] [(.int (1 : Int32)), (.int p1)]))
      refine Go.st (fun _ k => XS.iushr X.here hx rfl (hb hby at_41) rfl k) ?_
      show Go p e below _ (T.setTop (mkF m 42 #[.val (.int p0), .val (.int p1), .val (.int p2), .val (.int p3), .val (.int p4), .val (.int bl1), .val (.int b0), .val (.int b1), .unset, .unset, .unset, .unset, .unset, .unset, .unset, .unset, .unset, .unset, .unset, .unset, .unset, .unset, .unset, .unset, .unset, .unset, .unset, .unset] [(.int (((p1).toUInt32 >>> ((1 : Int32) &&& 31).toUInt32).toInt32))]))
      refine Go.st (fun _ k => XS.iconst X.here hx rfl (hb hby at_42) k) ?_
      show Go p e below _ (T.setTop (mkF m 43 #[.val (.int p0), .val (.int p1), .val (.int p2), .val (.int p3), .val (.int p4), .val (.int bl1), .val (.int b0), .val (.int b1), .unset, .unset, .unset, .unset, .unset, .unset, .unset, .unset, .unset, .unset, .unset, .unset, .unset, .unset, .unset, .unset, .unset, .unset, .unset, .unset] [(.int (3 : Int32)), (.int (((p1).toUInt32 >>> ((1 : Int32) &&& 31).toUInt32).toInt32))]))
      refine Go.st (fun _ k => XS.iand X.here hx rfl (hb hby at_43) rfl k) ?_
      show Go p e below _ (T.setTop (mkF m 44 #[.val (.int p0), .val (.int p1), .val (.int p2), .val (.int p3), .val (.int p4), .val (.int bl1), .val (.int b0), .val (.int b1), .unset, .unset, .unset, .unset, .unset, .unset, .unset, .unset, .unset, .unset, .unset, .unset, .unset, .unset, .unset, .unset, .unset, .unset, .unset, .unset] [(.int ((((p1).toUInt32 >>> ((1 : Int32) &&& 31).toUInt32).toInt32) &&& (3 : Int32)))]))
      refine Go.st (fun _ k => XS.iconst X.here hx rfl (hb hby at_44) k) ?_
      show Go p e below _ (T.setTop (mkF m 45 #[.val (.int p0), .val (.int p1), .val (.int p2), .val (.int p3), .val (.int p4), .val (.int bl1), .val (.int b0), .val (.int b1), .unset, .unset, .unset, .unset, .unset, .unset, .unset, .unset, .unset, .unset, .unset, .unset, .unset, .unset, .unset, .unset, .unset, .unset, .unset, .unset] [(.int (3 : Int32)), (.int ((((p1).toUInt32 >>> ((1 : Int32) &&& 31).toUInt32).toInt32) &&& (3 : Int32)))]))
      refine Go.st (fun _ k => iremM X hx rfl (hb hby at_45) rfl (by decide) k) ?_
      show Go p e below _ (T.setTop (mkF m 46 #[.val (.int p0), .val (.int p1), .val (.int p2), .val (.int p3), .val (.int p4), .val (.int bl1), .val (.int b0), .val (.int b1), .unset, .unset, .unset, .unset, .unset, .unset, .unset, .unset, .unset, .unset, .unset, .unset, .unset, .unset, .unset, .unset, .unset, .unset, .unset, .unset] [(.int (((((p1).toUInt32 >>> ((1 : Int32) &&& 31).toUInt32).toInt32) &&& (3 : Int32)) % (3 : Int32)))]))
      exact K _ _ (by rw [if_pos hc1]) hT X
    · refine Go.st (fun _ k => XS.ifNo X.here hx rfl (hb hby at_31) rfl (Jvm.Free.XT.i0_eq_f hc1) k) ?_
      show Go p e below _ (T.setTop (mkF m 34 #[.val (.int p0), .val (.int p1), .val (.int p2), .val (.int p3), .val (.int p4), .val (.int bl1), .val (.int b0), .val (.int b1), .unset, .unset, .unset, .unset, .unset, .unset, .unset, .unset, .unset, .unset, .unset, .unset, .unset, .unset, .unset, .unset, .unset, .unset, .unset, .unset] []))
      refine Go.st (fun _ k => XS.iload X.here hx rfl (hb hby at_34) rfl k) ?_
      show Go p e below _ (T.setTop (mkF m 36 #[.val (.int p0), .val (.int p1), .val (.int p2), .val (.int p3), .val (.int p4), .val (.int bl1), .val (.int b0), .val (.int b1), .unset, .unset, .unset, .unset, .unset, .unset, .unset, .unset, .unset, .unset, .unset, .unset, .unset, .unset, .unset, .unset, .unset, .unset, .unset, .unset] [(.int bl1)]))
      refine Go.st (fun _ k => XS.goto X.here hx rfl (pc0 := 36) (pc' := 46) rfl (hb hby at_36) (by decide) (by decide) k) ?_
      show Go p e below _ (T.setTop (mkF m 46 #[.val (.int p0), .val (.int p1), .val (.int p2), .val (.int p3), .val (.int p4), .val (.int bl1), .val (.int b0), .val (.int b1), .unset, .unset, .unset, .unset, .unset, .unset, .unset, .unset, .unset, .unset, .unset, .unset, .unset, .unset, .unset, .unset, .unset, .unset, .unset, .unset] [(.int bl1)]))
      exact K _ _ (by rw [if_neg hc1]) hT X
set_option maxRecDepth 65536 in
set_option maxHeartbeats 40000000 in
theorem comes_1 {Post : Tables → Env → Array Value → State → Outcome → State → Prop} (hpost : ∀ tb e args s v u, (limb_1_1.after args s (.returned v) u = true ∧ limb_1_2.after args s (.returned v) u = true) → ReturnedEndW s (.returned v) u (Jvm.fieldLocs frame_1_writes args s ++ Jvm.arrayLocs frame_1_arrays args s ++ Jvm.staticLocs frame_1_statics s) 56 1216 → Post tb e args s (.returned v) u) :
    ArmFor flags0 classFile x code maxLocals ret World_1 tables_1 room_1 Calls_1 rest_1 Pre_1 Post := by
  intro l hfl _ _ p e ha hc hk s m args below hf hA hF happ hP
  obtain ⟨hcalls, hrest, hpre⟩ := hP
  obtain ⟨-, -, -, hnamed, -, -, -, hat⟩ := (Spec.applies_iff hf).mp happ
  obtain ⟨hg, hn⟩ := and_e (Cond.before_iff.mp (show (Jvm.Cond.and given_1 narrow_1).before args s = true from hpre))
  obtain ⟨hcnt, hg⟩ := and_e hg
  obtain ⟨ha0, hg⟩ := and_e hg
  obtain ⟨ha1, hg⟩ := and_e hg
  obtain ⟨ha2, hg⟩ := and_e hg
  obtain ⟨ha3, hg⟩ := and_e hg
  have ha4 := hg
  obtain ⟨w0, w1, w2, w3, w4, rfl⟩ : ∃ w0 w1 w2 w3 w4 : Value, args = #[w0, w1, w2, w3, w4] := by
    have hs : args.size = 5 := by simpa [Cond.value, given_1] using hcnt
    obtain ⟨L⟩ := args
    match L, hs with
    | [w0, w1, w2, w3, w4], _ => exact ⟨w0, w1, w2, w3, w4, rfl⟩
  have hw := fun d (hd : d ∈ tables_1) => atoms_spec (ws := Jvm.Cond.code x code maxLocals ret :: tables_1) hat d (List.mem_cons_of_mem _ hd)
  obtain ⟨hsets, hown0⟩ := atoms_of _ (rest_1_c_eq ▸ (show rest_1_c.before _ s = true from hrest))
  obtain ⟨i0, e0⟩ := is_v ha0
  obtain rfl : w0 = (.int i0) := Option.some.inj e0
  obtain ⟨i1, e1⟩ := is_v ha1
  obtain rfl : w1 = (.int i1) := Option.some.inj e1
  obtain ⟨i2, e2⟩ := is_v ha2
  obtain rfl : w2 = (.int i2) := Option.some.inj e2
  obtain ⟨i3, e3⟩ := is_v ha3
  obtain rfl : w3 = (.int i3) := Option.some.inj e3
  obtain ⟨i4, e4⟩ := is_v ha4
  obtain rfl : w4 = (.int i4) := Option.some.inj e4
  obtain ⟨iz, ez⟩ := is_v (Cond.before_iff.mp (hsets _ (List.mem_of_getElem? (i := 1) rfl)))
  have Sz : Sta s s.heap "java/lang/String" "COMPACT_STRINGS" "Z" (.int iz) := Sta.start ez (Or.inl (hsets _ (List.mem_of_getElem? (i := 0) rfl)))
  have nz : ¬ (iz = (0 : Int32)) := gotF (Cond.eq_ints ez (Term.int_eval (0))) (not_v (Cond.before_iff.mp (hsets _ (List.mem_of_getElem? (i := 2) rfl))))
  have Sc : Stat s iz := ⟨Sz, nz⟩
  have hCH : CHv s EL0 s.vm s.heap := CHv.start (own_EW hw) (fun q hq => hcalls.1 q hq) (hsets _ (List.mem_of_getElem? (i := 2) rfl)) (hw _ (List.mem_of_getElem? (i := 19) rfl)) (hw _ (List.mem_of_getElem? (i := 5) rfl))
  obtain ⟨n, o, h1, h2, h3, _, L, rfl, ⟨rfl, N⟩, -, hq⟩ := met_law l s _ hw tables_1 i0 i1 i2 i3 i4 iz s.heap.size s.heap (Old.start s) Sc  p e ha hc hk s m _ below hf ((Spec.applies_iff_loose hf).mp happ).1 ⟨rfl, State.Warmed39.refl s, rfl, hCH⟩ trivial
  refine ⟨n, _, h1, h2, h3, hpost _ _ _ _ _ _ ⟨Cond.after_iff.mpr rfl, Cond.after_iff.mpr (eq_i res_at (Term.int_eval (1)) rfl)⟩ ⟨hq.1, hq.2.1, hq.2.2.1, (hq.2.2.2.sift fun y hy => Or.inr (N y hy)).mono (by decide) (by decide)⟩⟩
theorem main_1_1 : Claimed_1_1 := comes_1 fun _ _ _ _ _ _ h hF => ⟨h.1, hF⟩
theorem main_1_2 : Claimed_1_2 := comes_1 fun _ _ _ _ _ _ h hF => ⟨h.2, hF⟩
end Jvm.Pilot.@@N@@
namespace Jvm.Pilot.@@N@@
open Jvm Jvm.ClassFile Sem Op Lib Jvm.Free Jvm.Stand Jvm.Pilot.@@N@@.Jvm.D
/-! MADE BY PROGRAM (witnessworld.py) out of the Statement's table words and the real class files: 20 classes; the members and pool entries that the words name. The judged class is class 1, her method 3. -/
namespace start1
open Jvm.ClassFile
def u (s : String) : CpInfo := .utf8 (stringToUtf16 s)
/-- a pool by its gaps: so many unusable entries, then the entry; so many at the end -/
def gap : Nat → List CpInfo → List CpInfo
  | 0, r => r
  | n + 1, r => .unusable :: gap n r
def poolList (es : List (Nat × CpInfo)) (last : Nat) : List CpInfo := es.foldr (fun e r => gap e.1 (e.2 :: r)) (gap last [])
def pool (es : List (Nat × CpInfo)) (last : Nat) : Array CpInfo := ⟨poolList es last⟩
def fileOf (pool : Array CpInfo) (this : Nat) (attrs : Array Attribute := #[]) (ms : Array MethodInfo := #[]) (fl : Nat := 33) (sup : Nat := 0) (ifs : Array Nat := #[]) (fds : Array FieldInfo := #[]) : ClassFile where
  minorVersion := 0
  majorVersion := 65
  constantPool := pool
  accessFlags := fl
  thisClass := this
  superClass := sup
  interfaces := ifs
  fields := fds
  methods := ms
  attributes := attrs
def plain (name : String) (sup : Option ClassId) : Class where
  name := name
  kind := .ordinary
  loader := none
  accessFlags := 33
  super := sup
  interfaces := #[]
  cf := none
  fields := #[]
  methods := #[]
  instanceTypes := #[]
  staticTypes := #[]
  resolved := #[]
  callSites := []
  init := .initialized
  statics := none
  mirror := none

def pool0 : Array CpInfo := pool [(5, u "<init>"), (0, u "()V"), (1, .class_ 10), (1, u "java/lang/Object")] 113

def k0c0 : Code := { maxStack := 0, maxLocals := 1, code := object_method_1_code, exceptionTable := #[], attributes := #[] }
def k0m0 : Method := { name := "<init>", desc := "()V", sig := { parameters := [], returnType := none }, accessFlags := 1, code := some k0c0 }
/-- java/lang/Object -/
def k0 : Class := { plain "java/lang/Object" none with
  accessFlags := 33
  interfaces := #[]
  cf := some (fileOf pool0 8 #[] #[{ accessFlags := 1, nameIndex := 5, descriptorIndex := 6, attributes := #[] }] 33 0 #[] #[])
  fields := #[]
  methods := #[k0m0]
  instanceTypes := #[]
  staticTypes := #[]
  resolved := Array.replicate 124 none
  statics := none }

def pool1 : Array CpInfo := pool [(2, .class_ 4), (1, u "java/lang/Object"), (0, u "<init>"), (0, u "()V"), (0, .class_ 8), (0, u "java/lang/String"), (0, .methodref 7 10), (0, .nameAndType 5 11), (0, u "([C)V"), (0, .methodref 13 14), (0, .class_ 15), (0, .nameAndType 16 17), (0, u "com/example/rolling_tally/rollingtally/service/TallyKeySameRankingPinLaw"), (0, u "mk"), (0, u "(ICC)Ljava/lang/String;"), (0, .methodref 7 19), (0, .nameAndType 20 21), (0, u "valueOf"), (0, u "(C)Ljava/lang/String;"), (0, .class_ 23), (0, u "com/example/rolling_tally/rollingtally/service/TallyKey"), (0, .methodref 22 25), (0, .nameAndType 5 26), (0, u "(Ljava/lang/String;Ljava/lang/String;Ljava/lang/String;Ljava/lang/String;)V"), (0, .methodref 13 28), (0, .nameAndType 29 30), (0, u "eq"), (0, u "(ICCICC)Z"), (0, .methodref 22 32), (0, .nameAndType 33 34), (0, u "sameRanking"), (0, u "(Lcom/example/rolling_tally/rollingtally/service/TallyKey;)Z"), (3, u "law"), (0, u "(IIIII)Z")] 2

def k1m0 : Method := { name := "<init>", desc := "()V", sig := { parameters := [], returnType := none }, accessFlags := 1, code := none }
def k1c1 : Code := { maxStack := 6, maxLocals := 3, code := method_2_code, exceptionTable := #[], attributes := #[] }
def k1m1 : Method := { name := "mk", desc := "(ICC)Ljava/lang/String;", sig := { parameters := [.int, .char, .char], returnType := some (.object "java/lang/String") }, accessFlags := 10, code := some k1c1 }
def k1c2 : Code := { maxStack := 2, maxLocals := 6, code := method_3_code, exceptionTable := #[], attributes := #[] }
def k1m2 : Method := { name := "eq", desc := "(ICCICC)Z", sig := { parameters := [.int, .char, .char, .int, .char, .char], returnType := some .boolean }, accessFlags := 10, code := some k1c2 }
def k1c3 : Code := { maxStack := 6, maxLocals := 28, code := code, exceptionTable := #[], attributes := #[] }
def k1m3 : Method := { name := "law", desc := "(IIIII)Z", sig := { parameters := [.int, .int, .int, .int, .int], returnType := some .boolean }, accessFlags := 9, code := some k1c3 }
/-- com/example/rolling_tally/rollingtally/service/TallyKeySameRankingPinLaw -/
def k1 : Class := { plain "com/example/rolling_tally/rollingtally/service/TallyKeySameRankingPinLaw" (some 0) with
  accessFlags := 49
  interfaces := #[]
  cf := some (fileOf pool1 13 #[] #[{ accessFlags := 1, nameIndex := 5, descriptorIndex := 6, attributes := #[] }, { accessFlags := 10, nameIndex := 16, descriptorIndex := 17, attributes := #[] }, { accessFlags := 10, nameIndex := 29, descriptorIndex := 30, attributes := #[] }, { accessFlags := 9, nameIndex := 38, descriptorIndex := 39, attributes := #[] }] 49 2 #[] #[])
  fields := #[]
  methods := #[k1m0, k1m1, k1m2, k1m3]
  instanceTypes := #[]
  staticTypes := #[]
  resolved := Array.replicate 42 none
  statics := none }

def pool2 : Array CpInfo := pool [(1, .class_ 2), (0, u "java/io/Serializable"), (0, .class_ 4), (0, u "java/lang/Object")] 2

/-- java/io/Serializable -/
def k2 : Class := { plain "java/io/Serializable" (some 0) with
  accessFlags := 1537
  interfaces := #[]
  cf := some (fileOf pool2 1 #[] #[] 1537 3 #[] #[])
  fields := #[]
  methods := #[]
  instanceTypes := #[]
  staticTypes := #[]
  resolved := Array.replicate 7 none
  statics := none }

def pool3 : Array CpInfo := pool [(1, .class_ 2), (0, u "java/lang/Comparable"), (0, .class_ 4), (0, u "java/lang/Object")] 7

/-- java/lang/Comparable -/
def k3 : Class := { plain "java/lang/Comparable" (some 0) with
  accessFlags := 1537
  interfaces := #[]
  cf := some (fileOf pool3 1 #[] #[] 1537 3 #[] #[])
  fields := #[]
  methods := #[]
  instanceTypes := #[]
  staticTypes := #[]
  resolved := Array.replicate 12 none
  statics := none }

def pool4 : Array CpInfo := pool [(2, .class_ 4), (1, u "java/lang/CharSequence"), (42, .class_ 48), (0, u "java/lang/CharSequence$1CodePointIterator"), (10, .class_ 60), (0, u "java/lang/CharSequence$1CharIterator"), (5, .class_ 67), (0, u "java/lang/Object")] 63

/-- java/lang/CharSequence -/
def k4 : Class := { plain "java/lang/CharSequence" (some 0) with
  accessFlags := 1537
  interfaces := #[]
  cf := some (fileOf pool4 2 #[.nestMembers #[47, 59]] #[] 1537 66 #[] #[])
  fields := #[]
  methods := #[]
  instanceTypes := #[]
  staticTypes := #[]
  resolved := Array.replicate 131 none
  statics := none }

def pool5 : Array CpInfo := pool [(1, .class_ 2), (0, u "java/lang/constant/Constable"), (0, .class_ 4), (0, u "java/lang/Object")] 6

/-- java/lang/constant/Constable -/
def k5 : Class := { plain "java/lang/constant/Constable" (some 0) with
  accessFlags := 1537
  interfaces := #[]
  cf := some (fileOf pool5 1 #[] #[] 1537 3 #[] #[])
  fields := #[]
  methods := #[]
  instanceTypes := #[]
  staticTypes := #[]
  resolved := Array.replicate 11 none
  statics := none }

def pool6 : Array CpInfo := pool [(1, .class_ 2), (0, u "java/lang/constant/ConstantDesc"), (0, .class_ 4), (0, u "java/lang/Object")] 32

/-- java/lang/constant/ConstantDesc -/
def k6 : Class := { plain "java/lang/constant/ConstantDesc" (some 0) with
  accessFlags := 1537
  interfaces := #[]
  cf := some (fileOf pool6 1 #[] #[] 1537 3 #[] #[])
  fields := #[]
  methods := #[]
  instanceTypes := #[]
  staticTypes := #[]
  resolved := Array.replicate 37 none
  statics := none }

def pool7 : Array CpInfo := pool [(1, .methodref 2 3), (0, .class_ 4), (0, .nameAndType 5 6), (0, u "java/lang/Object"), (0, u "<init>"), (0, u "()V"), (0, .string 8), (0, u ""), (0, .fieldref 10 11), (0, .class_ 12), (0, .nameAndType 13 14), (0, u "java/lang/String"), (0, u "value"), (0, u "[B"), (0, .fieldref 10 16), (0, .nameAndType 17 18), (0, u "coder"), (0, u "B"), (2, u "hash"), (0, u "I"), (2, u "hashIsZero"), (0, u "Z"), (0, .methodref 10 28), (0, .nameAndType 5 29), (0, u "([CIILjava/lang/Void;)V"), (8, .fieldref 10 39), (0, .nameAndType 40 26), (0, u "COMPACT_STRINGS"), (1, .class_ 44), (1, u "java/lang/StringUTF16"), (0, u "compress"), (1, .methodref 42 48), (0, .nameAndType 49 50), (0, u "coderFromArrayLen"), (0, u "([BI)B"), (2, u "toBytes"), (53, .class_ 109), (1, u "java/lang/StringLatin1"), (67, .methodref 42 178), (0, .nameAndType 45 179), (0, u "([CII)[B"), (29, .methodref 10 210), (0, .nameAndType 5 211), (0, u "([BB)V"), (157, u "(C)Z"), (171, .methodref 107 542), (0, .nameAndType 543 544), (0, u "equals"), (0, u "([B[B)Z"), (28, u "(Ljava/lang/Object;)Z"), (1, .class_ 576), (0, u "java/lang/CharSequence"), (22, u "CASE_INSENSITIVE_ORDER"), (0, u "Ljava/util/Comparator;"), (181, u "valueOf"), (0, u "(C)Ljava/lang/String;"), (226, u "([C)V"), (4, .methodref 107 1016), (0, .nameAndType 1017 369), (0, u "canEncode"), (0, .methodref 107 1019), (0, .nameAndType 53 1020), (0, u "(C)[B"), (80, u "serialPersistentFields"), (0, u "[Ljava/io/ObjectStreamField;"), (0, .class_ 1104), (0, u "java/lang/String$CaseInsensitiveComparator"), (1, .class_ 1107), (0, u "java/io/Serializable"), (0, .class_ 1109), (0, u "java/lang/Comparable"), (0, .class_ 1111), (0, u "java/lang/constant/Constable"), (0, .class_ 1113), (0, u "java/lang/constant/ConstantDesc"), (2, u "serialVersionUID"), (0, u "J"), (3, u "REPL"), (0, u "C"), (2, u "LATIN1"), (1, u "UTF16")] 323

def k7m0 : Method := { name := "<init>", desc := "()V", sig := { parameters := [], returnType := none }, accessFlags := 1, code := none }
def k7c1 : Code := { maxStack := 5, maxLocals := 2, code := jdk_42_method_3_code, exceptionTable := #[], attributes := #[] }
def k7m1 : Method := { name := "<init>", desc := "([C)V", sig := { parameters := [(.array .char)], returnType := none }, accessFlags := 1, code := some k7c1 }
def k7c2 : Code := { maxStack := 2, maxLocals := 3, code := jdk_42_method_66_code, exceptionTable := #[], attributes := #[] }
def k7m2 : Method := { name := "equals", desc := "(Ljava/lang/Object;)Z", sig := { parameters := [(.object "java/lang/Object")], returnType := some .boolean }, accessFlags := 1, code := some k7c2 }
def k7c3 : Code := { maxStack := 4, maxLocals := 1, code := jdk_42_method_139_code, exceptionTable := #[], attributes := #[] }
def k7m3 : Method := { name := "valueOf", desc := "(C)Ljava/lang/String;", sig := { parameters := [.char], returnType := some (.object "java/lang/String") }, accessFlags := 9, code := some k7c3 }
def k7c4 : Code := { maxStack := 4, maxLocals := 6, code := jdk_42_method_149_code, exceptionTable := #[], attributes := #[] }
def k7m4 : Method := { name := "<init>", desc := "([CIILjava/lang/Void;)V", sig := { parameters := [(.array .char), .int, .int, (.object "java/lang/Void")], returnType := none }, accessFlags := 2, code := some k7c4 }
def k7c5 : Code := { maxStack := 2, maxLocals := 3, code := jdk_42_method_151_code, exceptionTable := #[], attributes := #[] }
def k7m5 : Method := { name := "<init>", desc := "([BB)V", sig := { parameters := [(.array .byte), .byte], returnType := none }, accessFlags := 0, code := some k7c5 }
/-- java/lang/String -/
def k7 : Class := { plain "java/lang/String" (some 0) with
  accessFlags := 49
  interfaces := #[2, 3, 4, 5, 6]
  cf := some (fileOf pool7 10 #[.nestMembers #[1103]] #[{ accessFlags := 1, nameIndex := 5, descriptorIndex := 6, attributes := #[] }, { accessFlags := 1, nameIndex := 5, descriptorIndex := 1010, attributes := #[] }, { accessFlags := 1, nameIndex := 543, descriptorIndex := 573, attributes := #[] }, { accessFlags := 9, nameIndex := 782, descriptorIndex := 783, attributes := #[] }, { accessFlags := 2, nameIndex := 5, descriptorIndex := 29, attributes := #[] }, { accessFlags := 0, nameIndex := 5, descriptorIndex := 211, attributes := #[] }] 49 2 #[1106, 1108, 575, 1110, 1112] #[{ accessFlags := 18, nameIndex := 13, descriptorIndex := 14, attributes := #[] }, { accessFlags := 18, nameIndex := 17, descriptorIndex := 18, attributes := #[] }, { accessFlags := 2, nameIndex := 21, descriptorIndex := 22, attributes := #[] }, { accessFlags := 2, nameIndex := 25, descriptorIndex := 26, attributes := #[] }, { accessFlags := 26, nameIndex := 1116, descriptorIndex := 1117, attributes := #[] }, { accessFlags := 24, nameIndex := 40, descriptorIndex := 26, attributes := #[] }, { accessFlags := 26, nameIndex := 1101, descriptorIndex := 1102, attributes := #[] }, { accessFlags := 26, nameIndex := 1121, descriptorIndex := 1122, attributes := #[] }, { accessFlags := 25, nameIndex := 599, descriptorIndex := 600, attributes := #[] }, { accessFlags := 24, nameIndex := 1125, descriptorIndex := 18, attributes := #[] }, { accessFlags := 24, nameIndex := 1127, descriptorIndex := 18, attributes := #[] }])
  fields := #[{ name := "value", type := (.array .byte), accessFlags := 18, slot := 0, constantValue := 0 }, { name := "coder", type := .byte, accessFlags := 18, slot := 1, constantValue := 0 }, { name := "hash", type := .int, accessFlags := 2, slot := 2, constantValue := 0 }, { name := "hashIsZero", type := .boolean, accessFlags := 2, slot := 3, constantValue := 0 }, { name := "serialVersionUID", type := .long, accessFlags := 26, slot := 0, constantValue := 0 }, { name := "COMPACT_STRINGS", type := .boolean, accessFlags := 24, slot := 1, constantValue := 0 }, { name := "serialPersistentFields", type := (.array (.object "java/io/ObjectStreamField")), accessFlags := 26, slot := 2, constantValue := 0 }, { name := "REPL", type := .char, accessFlags := 26, slot := 3, constantValue := 0 }, { name := "CASE_INSENSITIVE_ORDER", type := (.object "java/util/Comparator"), accessFlags := 25, slot := 4, constantValue := 0 }, { name := "LATIN1", type := .byte, accessFlags := 24, slot := 5, constantValue := 0 }, { name := "UTF16", type := .byte, accessFlags := 24, slot := 6, constantValue := 0 }]
  methods := #[k7m0, k7m1, k7m2, k7m3, k7m4, k7m5]
  instanceTypes := #[(.array .byte), .byte, .int, .boolean]
  staticTypes := #[.long, .boolean, (.array (.object "java/io/ObjectStreamField")), .char, (.object "java/util/Comparator"), .byte, .byte]
  resolved := Array.replicate 1451 none
  statics := some 0 }

def pool8 : Array CpInfo := pool [(6, .class_ 8), (1, u "java/lang/Object"), (0, u "<init>"), (0, u "()V"), (1, .class_ 14), (1, u "java/lang/StringUTF16"), (31, u "$assertionsDisabled"), (0, u "Z"), (13, u "HI_BYTE_SHIFT"), (0, u "I"), (2, u "LO_BYTE_SHIFT"), (49, .methodref 12 116), (0, .nameAndType 117 118), (0, u "compress"), (0, u "([CI[BII)I"), (3, u "([CII)[B"), (138, u "coderFromArrayLen"), (0, u "([BI)B"), (106, .class_ 371), (1, u "java/lang/StringUTF16$LinesSpliterator"), (58, u "MAX_LENGTH"), (196, .class_ 628), (0, u "java/lang/StringUTF16$CodePointsSpliterator"), (0, .class_ 630), (0, u "java/lang/StringUTF16$CharsSpliterator")] 4

def k8m0 : Method := { name := "<init>", desc := "()V", sig := { parameters := [], returnType := none }, accessFlags := 0, code := none }
def k8c1 : Code := { maxStack := 2, maxLocals := 2, code := jdk_52_method_15_code, exceptionTable := #[], attributes := #[] }
def k8m1 : Method := { name := "coderFromArrayLen", desc := "([BI)B", sig := { parameters := [(.array .byte), .int], returnType := some .byte }, accessFlags := 8, code := some k8c1 }
def k8c2 : Code := { maxStack := 5, maxLocals := 6, code := jdk_52_method_16_code, exceptionTable := #[], attributes := #[] }
def k8m2 : Method := { name := "compress", desc := "([CII)[B", sig := { parameters := [(.array .char), .int, .int], returnType := some (.array .byte) }, accessFlags := 9, code := some k8c2 }
def k8c3 : Code := { maxStack := 3, maxLocals := 7, code := jdk_52_method_21_code, exceptionTable := #[], attributes := #[] }
def k8m3 : Method := { name := "compress", desc := "([CI[BII)I", sig := { parameters := [(.array .char), .int, (.array .byte), .int, .int], returnType := some .int }, accessFlags := 9, code := some k8c3 }
/-- java/lang/StringUTF16 -/
def k8 : Class := { plain "java/lang/StringUTF16" (some 0) with
  accessFlags := 48
  interfaces := #[]
  cf := some (fileOf pool8 12 #[.nestMembers #[627, 629, 369]] #[{ accessFlags := 0, nameIndex := 9, descriptorIndex := 10, attributes := #[] }, { accessFlags := 8, nameIndex := 261, descriptorIndex := 262, attributes := #[] }, { accessFlags := 9, nameIndex := 117, descriptorIndex := 122, attributes := #[] }, { accessFlags := 9, nameIndex := 117, descriptorIndex := 118, attributes := #[] }] 48 6 #[] #[{ accessFlags := 26, nameIndex := 61, descriptorIndex := 62, attributes := #[] }, { accessFlags := 26, nameIndex := 65, descriptorIndex := 62, attributes := #[] }, { accessFlags := 24, nameIndex := 430, descriptorIndex := 62, attributes := #[] }, { accessFlags := 4120, nameIndex := 46, descriptorIndex := 47, attributes := #[] }])
  fields := #[{ name := "HI_BYTE_SHIFT", type := .int, accessFlags := 26, slot := 0, constantValue := 0 }, { name := "LO_BYTE_SHIFT", type := .int, accessFlags := 26, slot := 1, constantValue := 0 }, { name := "MAX_LENGTH", type := .int, accessFlags := 24, slot := 2, constantValue := 0 }, { name := "$assertionsDisabled", type := .boolean, accessFlags := 4120, slot := 3, constantValue := 0 }]
  methods := #[k8m0, k8m1, k8m2, k8m3]
  instanceTypes := #[]
  staticTypes := #[.int, .int, .int, .boolean]
  resolved := Array.replicate 635 none
  statics := none }

def pool9 : Array CpInfo := pool [(4, .class_ 6), (1, u "java/lang/Object"), (0, u "<init>"), (0, u "()V"), (5, .class_ 16), (1, u "java/lang/StringLatin1"), (73, u "canEncode"), (14, u "(C)Z"), (15, u "$assertionsDisabled"), (0, u "Z"), (98, .class_ 223), (1, u "java/lang/StringLatin1$LinesSpliterator"), (57, u "equals"), (0, u "([B[B)Z"), (97, u "toBytes"), (1, u "(C)[B"), (7, .class_ 391), (0, u "java/lang/StringLatin1$CharsSpliterator")] 3

def k9m0 : Method := { name := "<init>", desc := "()V", sig := { parameters := [], returnType := none }, accessFlags := 0, code := none }
def k9c1 : Code := { maxStack := 2, maxLocals := 1, code := jdk_43_method_3_code, exceptionTable := #[], attributes := #[] }
def k9m1 : Method := { name := "canEncode", desc := "(C)Z", sig := { parameters := [.char], returnType := some .boolean }, accessFlags := 9, code := some k9c1 }
def k9c2 : Code := { maxStack := 3, maxLocals := 3, code := jdk_43_method_13_code, exceptionTable := #[], attributes := #[] }
def k9m2 : Method := { name := "equals", desc := "([B[B)Z", sig := { parameters := [(.array .byte), (.array .byte)], returnType := some .boolean }, accessFlags := 9, code := some k9c2 }
def k9c3 : Code := { maxStack := 4, maxLocals := 1, code := jdk_43_method_46_code, exceptionTable := #[], attributes := #[] }
def k9m3 : Method := { name := "toBytes", desc := "(C)[B", sig := { parameters := [.char], returnType := some (.array .byte) }, accessFlags := 9, code := some k9c3 }
/-- java/lang/StringLatin1 -/
def k9 : Class := { plain "java/lang/StringLatin1" (some 0) with
  accessFlags := 48
  interfaces := #[]
  cf := some (fileOf pool9 14 #[.nestMembers #[390, 221]] #[{ accessFlags := 0, nameIndex := 7, descriptorIndex := 8, attributes := #[] }, { accessFlags := 9, nameIndex := 90, descriptorIndex := 105, attributes := #[] }, { accessFlags := 9, nameIndex := 281, descriptorIndex := 282, attributes := #[] }, { accessFlags := 9, nameIndex := 380, descriptorIndex := 382, attributes := #[] }] 48 4 #[] #[{ accessFlags := 4120, nameIndex := 121, descriptorIndex := 122, attributes := #[] }])
  fields := #[{ name := "$assertionsDisabled", type := .boolean, accessFlags := 4120, slot := 0, constantValue := 0 }]
  methods := #[k9m0, k9m1, k9m2, k9m3]
  instanceTypes := #[]
  staticTypes := #[.boolean]
  resolved := Array.replicate 395 none
  statics := none }

def pool10 : Array CpInfo := pool [(1, .methodref 2 3), (0, .class_ 4), (0, .nameAndType 5 6), (0, u "java/lang/Object"), (0, u "<init>"), (0, u "()V"), (0, .fieldref 8 9), (0, .class_ 10), (0, .nameAndType 11 12), (0, u "com/example/rolling_tally/rollingtally/service/TallyKey"), (0, u "board"), (0, u "Ljava/lang/String;"), (0, .fieldref 8 14), (0, .nameAndType 15 12), (0, u "category"), (0, .fieldref 8 17), (0, .nameAndType 18 12), (0, u "bucket"), (0, .fieldref 8 20), (0, .nameAndType 21 12), (0, u "item"), (0, .methodref 23 24), (0, .class_ 25), (0, .nameAndType 26 27), (0, u "java/lang/String"), (0, u "equals"), (0, u "(Ljava/lang/Object;)Z"), (2, u "sameRanking"), (0, u "(Lcom/example/rolling_tally/rollingtally/service/TallyKey;)Z"), (11, .class_ 44), (0, u "java/lang/Comparable"), (0, u "(Ljava/lang/String;Ljava/lang/String;Ljava/lang/String;Ljava/lang/String;)V")] 15

def k10c0 : Code := { maxStack := 2, maxLocals := 5, code := prog_46_method_1_code, exceptionTable := #[], attributes := #[] }
def k10m0 : Method := { name := "<init>", desc := "(Ljava/lang/String;Ljava/lang/String;Ljava/lang/String;Ljava/lang/String;)V", sig := { parameters := [(.object "java/lang/String"), (.object "java/lang/String"), (.object "java/lang/String"), (.object "java/lang/String")], returnType := none }, accessFlags := 1, code := some k10c0 }
def k10c1 : Code := { maxStack := 2, maxLocals := 2, code := prog_46_method_6_code, exceptionTable := #[], attributes := #[] }
def k10m1 : Method := { name := "sameRanking", desc := "(Lcom/example/rolling_tally/rollingtally/service/TallyKey;)Z", sig := { parameters := [(.object "com/example/rolling_tally/rollingtally/service/TallyKey")], returnType := some .boolean }, accessFlags := 1, code := some k10c1 }
/-- com/example/rolling_tally/rollingtally/service/TallyKey -/
def k10 : Class := { plain "com/example/rolling_tally/rollingtally/service/TallyKey" (some 0) with
  accessFlags := 33
  interfaces := #[3]
  cf := some (fileOf pool10 8 #[] #[{ accessFlags := 1, nameIndex := 5, descriptorIndex := 45, attributes := #[] }, { accessFlags := 1, nameIndex := 30, descriptorIndex := 31, attributes := #[] }] 33 2 #[43] #[{ accessFlags := 18, nameIndex := 11, descriptorIndex := 12, attributes := #[] }, { accessFlags := 18, nameIndex := 15, descriptorIndex := 12, attributes := #[] }, { accessFlags := 18, nameIndex := 18, descriptorIndex := 12, attributes := #[] }, { accessFlags := 18, nameIndex := 21, descriptorIndex := 12, attributes := #[] }])
  fields := #[{ name := "board", type := (.object "java/lang/String"), accessFlags := 18, slot := 0, constantValue := 0 }, { name := "category", type := (.object "java/lang/String"), accessFlags := 18, slot := 1, constantValue := 0 }, { name := "bucket", type := (.object "java/lang/String"), accessFlags := 18, slot := 2, constantValue := 0 }, { name := "item", type := (.object "java/lang/String"), accessFlags := 18, slot := 3, constantValue := 0 }]
  methods := #[k10m0, k10m1]
  instanceTypes := #[(.object "java/lang/String"), (.object "java/lang/String"), (.object "java/lang/String"), (.object "java/lang/String")]
  staticTypes := #[]
  resolved := Array.replicate 61 none
  statics := none }

def pool11 : Array CpInfo := pool [(2, .class_ 4), (1, u "java/lang/Object"), (0, u "<init>"), (0, u "()V"), (17, .class_ 26), (1, u "jdk/internal/util/Preconditions"), (28, .class_ 56), (0, u "jdk/internal/util/Preconditions$4"), (57, .class_ 115), (0, u "jdk/internal/util/Preconditions$1"), (7, u "SIOOBE_FORMATTER"), (0, u "Ljava/util/function/BiFunction;"), (0, .class_ 126), (0, u "jdk/internal/util/Preconditions$2"), (3, u "AIOOBE_FORMATTER"), (0, .class_ 132), (0, u "jdk/internal/util/Preconditions$3"), (3, u "IOOBE_FORMATTER")] 57

def k11m0 : Method := { name := "<init>", desc := "()V", sig := { parameters := [], returnType := none }, accessFlags := 1, code := none }
/-- jdk/internal/util/Preconditions -/
def k11 : Class := { plain "jdk/internal/util/Preconditions" (some 0) with
  accessFlags := 33
  interfaces := #[]
  cf := some (fileOf pool11 24 #[.nestMembers #[55, 131, 125, 114]] #[{ accessFlags := 1, nameIndex := 5, descriptorIndex := 6, attributes := #[] }] 33 2 #[] #[{ accessFlags := 25, nameIndex := 123, descriptorIndex := 124, attributes := #[] }, { accessFlags := 25, nameIndex := 130, descriptorIndex := 124, attributes := #[] }, { accessFlags := 25, nameIndex := 136, descriptorIndex := 124, attributes := #[] }])
  fields := #[{ name := "SIOOBE_FORMATTER", type := (.object "java/util/function/BiFunction"), accessFlags := 25, slot := 0, constantValue := 0 }, { name := "AIOOBE_FORMATTER", type := (.object "java/util/function/BiFunction"), accessFlags := 25, slot := 1, constantValue := 0 }, { name := "IOOBE_FORMATTER", type := (.object "java/util/function/BiFunction"), accessFlags := 25, slot := 2, constantValue := 0 }]
  methods := #[k11m0]
  instanceTypes := #[]
  staticTypes := #[(.object "java/util/function/BiFunction"), (.object "java/util/function/BiFunction"), (.object "java/util/function/BiFunction")]
  resolved := Array.replicate 194 none
  statics := some 1 }

def pool12 : Array CpInfo := pool [(9, u "<init>"), (6, .class_ 18), (1, u "java/lang/Object"), (0, u "()V"), (1, .class_ 23), (1, u "jdk/internal/util/ArraysSupport"), (0, u "LOG2_ARRAY_LONG_INDEX_SCALE"), (0, u "I"), (2, u "U"), (0, u "Ljdk/internal/misc/Unsafe;"), (8, u "BIG_ENDIAN"), (0, u "Z"), (8, u "LOG2_BYTE_BIT_SIZE"), (4, u "LOG2_ARRAY_INT_INDEX_SCALE"), (54, u "JLA"), (0, u "Ljdk/internal/access/JavaLangAccess;"), (11, u "LOG2_ARRAY_BOOLEAN_INDEX_SCALE"), (9, u "LOG2_ARRAY_BYTE_INDEX_SCALE"), (5, u "LOG2_ARRAY_CHAR_INDEX_SCALE"), (5, u "LOG2_ARRAY_SHORT_INDEX_SCALE"), (18, u "LOG2_ARRAY_FLOAT_INDEX_SCALE"), (24, u "LOG2_ARRAY_DOUBLE_INDEX_SCALE"), (89, u "T_BOOLEAN"), (2, u "T_CHAR"), (1, u "T_FLOAT"), (1, u "T_DOUBLE"), (1, u "T_BYTE"), (1, u "T_SHORT"), (1, u "T_INT"), (1, u "T_LONG"), (1, u "SOFT_MAX_ARRAY_LENGTH")] 83

def k12m0 : Method := { name := "<init>", desc := "()V", sig := { parameters := [], returnType := none }, accessFlags := 2, code := none }
/-- jdk/internal/util/ArraysSupport -/
def k12 : Class := { plain "jdk/internal/util/ArraysSupport" (some 0) with
  accessFlags := 33
  interfaces := #[]
  cf := some (fileOf pool12 21 #[] #[{ accessFlags := 2, nameIndex := 9, descriptorIndex := 19, attributes := #[] }] 33 16 #[] #[{ accessFlags := 24, nameIndex := 28, descriptorIndex := 29, attributes := #[] }, { accessFlags := 26, nameIndex := 38, descriptorIndex := 39, attributes := #[] }, { accessFlags := 25, nameIndex := 121, descriptorIndex := 25, attributes := #[] }, { accessFlags := 25, nameIndex := 131, descriptorIndex := 25, attributes := #[] }, { accessFlags := 25, nameIndex := 137, descriptorIndex := 25, attributes := #[] }, { accessFlags := 25, nameIndex := 143, descriptorIndex := 25, attributes := #[] }, { accessFlags := 25, nameIndex := 53, descriptorIndex := 25, attributes := #[] }, { accessFlags := 25, nameIndex := 24, descriptorIndex := 25, attributes := #[] }, { accessFlags := 25, nameIndex := 162, descriptorIndex := 25, attributes := #[] }, { accessFlags := 25, nameIndex := 187, descriptorIndex := 25, attributes := #[] }, { accessFlags := 26, nameIndex := 48, descriptorIndex := 25, attributes := #[] }, { accessFlags := 25, nameIndex := 277, descriptorIndex := 25, attributes := #[] }, { accessFlags := 25, nameIndex := 280, descriptorIndex := 25, attributes := #[] }, { accessFlags := 25, nameIndex := 282, descriptorIndex := 25, attributes := #[] }, { accessFlags := 25, nameIndex := 284, descriptorIndex := 25, attributes := #[] }, { accessFlags := 25, nameIndex := 286, descriptorIndex := 25, attributes := #[] }, { accessFlags := 25, nameIndex := 288, descriptorIndex := 25, attributes := #[] }, { accessFlags := 25, nameIndex := 290, descriptorIndex := 25, attributes := #[] }, { accessFlags := 25, nameIndex := 292, descriptorIndex := 25, attributes := #[] }, { accessFlags := 26, nameIndex := 108, descriptorIndex := 109, attributes := #[] }, { accessFlags := 25, nameIndex := 294, descriptorIndex := 25, attributes := #[] }])
  fields := #[{ name := "U", type := (.object "jdk/internal/misc/Unsafe"), accessFlags := 24, slot := 0, constantValue := 0 }, { name := "BIG_ENDIAN", type := .boolean, accessFlags := 26, slot := 1, constantValue := 0 }, { name := "LOG2_ARRAY_BOOLEAN_INDEX_SCALE", type := .int, accessFlags := 25, slot := 2, constantValue := 0 }, { name := "LOG2_ARRAY_BYTE_INDEX_SCALE", type := .int, accessFlags := 25, slot := 3, constantValue := 0 }, { name := "LOG2_ARRAY_CHAR_INDEX_SCALE", type := .int, accessFlags := 25, slot := 4, constantValue := 0 }, { name := "LOG2_ARRAY_SHORT_INDEX_SCALE", type := .int, accessFlags := 25, slot := 5, constantValue := 0 }, { name := "LOG2_ARRAY_INT_INDEX_SCALE", type := .int, accessFlags := 25, slot := 6, constantValue := 0 }, { name := "LOG2_ARRAY_LONG_INDEX_SCALE", type := .int, accessFlags := 25, slot := 7, constantValue := 0 }, { name := "LOG2_ARRAY_FLOAT_INDEX_SCALE", type := .int, accessFlags := 25, slot := 8, constantValue := 0 }, { name := "LOG2_ARRAY_DOUBLE_INDEX_SCALE", type := .int, accessFlags := 25, slot := 9, constantValue := 0 }, { name := "LOG2_BYTE_BIT_SIZE", type := .int, accessFlags := 26, slot := 10, constantValue := 0 }, { name := "T_BOOLEAN", type := .int, accessFlags := 25, slot := 11, constantValue := 0 }, { name := "T_CHAR", type := .int, accessFlags := 25, slot := 12, constantValue := 0 }, { name := "T_FLOAT", type := .int, accessFlags := 25, slot := 13, constantValue := 0 }, { name := "T_DOUBLE", type := .int, accessFlags := 25, slot := 14, constantValue := 0 }, { name := "T_BYTE", type := .int, accessFlags := 25, slot := 15, constantValue := 0 }, { name := "T_SHORT", type := .int, accessFlags := 25, slot := 16, constantValue := 0 }, { name := "T_INT", type := .int, accessFlags := 25, slot := 17, constantValue := 0 }, { name := "T_LONG", type := .int, accessFlags := 25, slot := 18, constantValue := 0 }, { name := "JLA", type := (.object "jdk/internal/access/JavaLangAccess"), accessFlags := 26, slot := 19, constantValue := 0 }, { name := "SOFT_MAX_ARRAY_LENGTH", type := .int, accessFlags := 25, slot := 20, constantValue := 0 }]
  methods := #[k12m0]
  instanceTypes := #[]
  staticTypes := #[(.object "jdk/internal/misc/Unsafe"), .boolean, .int, .int, .int, .int, .int, .int, .int, .int, .int, .int, .int, .int, .int, .int, .int, .int, .int, (.object "jdk/internal/access/JavaLangAccess"), .int]
  resolved := Array.replicate 378 none
  statics := none }

def pool13 : Array CpInfo := pool [(1, u "java/lang/Cloneable"), (0, .class_ 1), (0, u "java/lang/Object"), (0, .class_ 3)] 3

/-- java/lang/Cloneable -/
def k13 : Class := { plain "java/lang/Cloneable" (some 0) with
  accessFlags := 1537
  interfaces := #[]
  cf := some (fileOf pool13 2 #[] #[] 1537 4 #[] #[])
  fields := #[]
  methods := #[]
  instanceTypes := #[]
  staticTypes := #[]
  resolved := Array.replicate 8 none
  statics := none }

/-- the primitive byte -/
def k14 : Class := { plain "byte" none with kind := .primitive 'B', accessFlags := 0x411 }
/-- [B -/
def k15 : Class := { plain "[B" (some 0) with kind := .array 14 .byte, interfaces := #[13, 2], accessFlags := 1041 }

/-- the primitive char -/
def k16 : Class := { plain "char" none with kind := .primitive 'C', accessFlags := 0x411 }
/-- [C -/
def k17 : Class := { plain "[C" (some 0) with kind := .array 16 .char, interfaces := #[13, 2], accessFlags := 1041 }

/-- the primitive int -/
def k18 : Class := { plain "int" none with kind := .primitive 'I', accessFlags := 0x411 }
/-- [I -/
def k19 : Class := { plain "[I" (some 0) with kind := .array 18 .int, interfaces := #[13, 2], accessFlags := 1041 }

def heap : Heap := #[{ cls := 7, slots := #[.long 0, .int 1, .null, .int 0, .null, .int 0, .int 0], vm := .statics 7 },
  { cls := 11, slots := #[.null, .null, .null], vm := .statics 11 }]
def classes : Array Class := #[k0, k1, k2, k3, k4, k5, k6, k7, k8, k9, k10, k11, k12, k13, k14, k15, k16, k17, k18, k19]
def interned : List (Array UInt16 × Addr) := []
def slotsUsed : Nat := 10
def theMethod : MethodId := ⟨1, 3⟩
def args0 : Array Value := #[.int 5, .int 5, .int 5, .int 5, .int 5]
def aboutOver (below : List Frame) : State where
  vm := { classes := classes, interned := interned.toArray }
  heap := heap
  slotsUsed := slotsUsed
  threads := #[{ frames := .invoking theMethod args0 :: below }]
def below0 : List Frame := [.native { method := ⟨0, 0⟩, args := #[] }]
def about1 : State := aboutOver below0
def p0 : Program := .bare "" "" ""
def e0 : Env := launch0.env 0 0 0
theorem w_frames : about1.frames = Frame.invoking theMethod args0 :: below0 := rfl
set_option maxRecDepth 65536 in
theorem w_args : argsFit about1.vm theMethod args0 = true := by decide +kernel
set_option maxRecDepth 65536 in
theorem w_heap : heapFits about1 = true := by decide +kernel
set_option maxRecDepth 65536 in
theorem w_runnable : about1.curStatus? = some .runnable := by decide +kernel
set_option maxRecDepth 65536 in
theorem w_alone : about1.alone = true := by decide +kernel
set_option maxRecDepth 65536 in
theorem w_named : about1.methodNamed? x = some theMethod := by decide +kernel
set_option maxRecDepth 65536 in
theorem w_hears : about1.hears theMethod below0 = true := by decide +kernel
set_option maxRecDepth 65536 in
theorem w_ripe : about1.ripe theMethod args0 below0 = true := by decide +kernel
theorem w_running : about1.status = .running := rfl
set_option maxRecDepth 65536 in
theorem w_room : about1.hasRoom e0.platform room_1 = true :=
  launch0.hasRoom_least _ room_1 (by decide +kernel) (by decide +kernel) (by decide +kernel) (by decide +kernel) (by decide +kernel) (by decide +kernel)
theorem allAtoms_all (ts : List Jvm.Cond) (a : Array Jvm.Value) (st : Jvm.State) : (allAtoms ts).before a st = ts.all (fun c => c.before a st) := by
  induction ts with
  | nil => rfl
  | cons c t ih =>
    show (Jvm.Cond.and c (allAtoms t)).before a st = _
    rw [Jvm.Cond.before_and, ih, List.all_cons]
def words1 : List Jvm.Cond := Jvm.Cond.code x code maxLocals ret :: tables_1
/-- a 'code' word, met by the world's own term for the bytes: nothing is compared byte by byte -/
theorem code_word {y : MethodName} {bytes : ByteArray} {mx : Nat} {rt : Option FieldType} {a : Array Value} {s : State} {m : MethodId} {meth : Method} {c : Code} (h1 : s.methodNamed? y = some m) (h2 : s.vm.method? m = some meth) (h3 : meth.code = some c) (h4 : c.code = bytes)
    (h5 : (c.maxLocals == mx && c.exceptionTable.isEmpty && decide (c.maxStack ≤ mostOperands) && decide (meth.sig.returnType = rt) && !meth.locks && decide (parseMethodDescriptor y.desc = some meth.sig)) = true) : (Jvm.Cond.code y bytes mx rt).before a s = true := by
  simp only [Bool.and_eq_true, beq_iff_eq, Bool.not_eq_true', decide_eq_true_eq] at h5
  obtain ⟨⟨⟨⟨⟨g1, g2⟩, g3⟩, g4⟩, g5⟩, g6⟩ := h5
  simp [Cond.before, Cond.holds, Cond.value, h1, h2, h3, h4, g1, g2, g3, g4, g5, g6]
def isCode : Jvm.Cond → Bool
  | .code _ _ _ _ => true
  | _ => false
theorem all_split {L : List Jvm.Cond} {P : Jvm.Cond → Bool} (h1 : L.all (fun c => isCode c || P c) = true) (h2 : ∀ c ∈ L.filter isCode, P c = true) : L.all P = true := by
  refine List.all_eq_true.mpr fun c hc => ?_
  have h := List.all_eq_true.mp h1 c hc
  rcases Bool.eq_false_or_eq_true (isCode c) with hi | hi
  · exact h2 c (List.mem_filter.mpr ⟨hc, hi⟩)
  · simpa [hi] using h
set_option maxRecDepth 65536 in
theorem w_c0 : (Jvm.Cond.code x code maxLocals ret).before args0 about1 = true := code_word (m := ⟨1, 3⟩) (meth := k1m3) (c := k1c3) (by decide +kernel) rfl rfl rfl (by decide +kernel)
set_option maxRecDepth 65536 in
theorem w_c1 : (Jvm.Cond.code ({ cls := "com/example/rolling_tally/rollingtally/service/TallyKeySameRankingPinLaw", name := "mk", desc := "(ICC)Ljava/lang/String;" } : Jvm.MethodName) method_2_code (3 : Nat) (Option.some (Jvm.ClassFile.FieldType.object "java/lang/String"))).before args0 about1 = true := code_word (m := ⟨1, 1⟩) (meth := k1m1) (c := k1c1) (by decide +kernel) rfl rfl rfl (by decide +kernel)
set_option maxRecDepth 65536 in
theorem w_c2 : (Jvm.Cond.code ({ cls := "java/lang/String", name := "<init>", desc := "([C)V" } : Jvm.MethodName) jdk_42_method_3_code (2 : Nat) (Option.none : Option Jvm.ClassFile.FieldType)).before args0 about1 = true := code_word (m := ⟨7, 1⟩) (meth := k7m1) (c := k7c1) (by decide +kernel) rfl rfl rfl (by decide +kernel)
set_option maxRecDepth 65536 in
theorem w_c3 : (Jvm.Cond.code ({ cls := "java/lang/String", name := "<init>", desc := "([CIILjava/lang/Void;)V" } : Jvm.MethodName) jdk_42_method_149_code (6 : Nat) (Option.none : Option Jvm.ClassFile.FieldType)).before args0 about1 = true := code_word (m := ⟨7, 4⟩) (meth := k7m4) (c := k7c4) (by decide +kernel) rfl rfl rfl (by decide +kernel)
set_option maxRecDepth 65536 in
theorem w_c4 : (Jvm.Cond.code ({ cls := "java/lang/Object", name := "<init>", desc := "()V" } : Jvm.MethodName) object_method_1_code (1 : Nat) (Option.none : Option Jvm.ClassFile.FieldType)).before args0 about1 = true := code_word (m := ⟨0, 0⟩) (meth := k0m0) (c := k0c0) (by decide +kernel) rfl rfl rfl (by decide +kernel)
set_option maxRecDepth 65536 in
theorem w_c5 : (Jvm.Cond.code ({ cls := "java/lang/StringUTF16", name := "compress", desc := "([CII)[B" } : Jvm.MethodName) jdk_52_method_16_code (6 : Nat) (Option.some (Jvm.ClassFile.FieldType.array Jvm.ClassFile.FieldType.byte))).before args0 about1 = true := code_word (m := ⟨8, 2⟩) (meth := k8m2) (c := k8c2) (by decide +kernel) rfl rfl rfl (by decide +kernel)
set_option maxRecDepth 65536 in
theorem w_c6 : (Jvm.Cond.code ({ cls := "java/lang/StringUTF16", name := "compress", desc := "([CI[BII)I" } : Jvm.MethodName) jdk_52_method_21_code (7 : Nat) (Option.some Jvm.ClassFile.FieldType.int)).before args0 about1 = true := code_word (m := ⟨8, 3⟩) (meth := k8m3) (c := k8c3) (by decide +kernel) rfl rfl rfl (by decide +kernel)
set_option maxRecDepth 65536 in
theorem w_c7 : (Jvm.Cond.code ({ cls := "java/lang/StringUTF16", name := "coderFromArrayLen", desc := "([BI)B" } : Jvm.MethodName) jdk_52_method_15_code (2 : Nat) (Option.some Jvm.ClassFile.FieldType.byte)).before args0 about1 = true := code_word (m := ⟨8, 1⟩) (meth := k8m1) (c := k8c1) (by decide +kernel) rfl rfl rfl (by decide +kernel)
set_option maxRecDepth 65536 in
theorem w_c8 : (Jvm.Cond.code ({ cls := "java/lang/String", name := "valueOf", desc := "(C)Ljava/lang/String;" } : Jvm.MethodName) jdk_42_method_139_code (1 : Nat) (Option.some (Jvm.ClassFile.FieldType.object "java/lang/String"))).before args0 about1 = true := code_word (m := ⟨7, 3⟩) (meth := k7m3) (c := k7c3) (by decide +kernel) rfl rfl rfl (by decide +kernel)
set_option maxRecDepth 65536 in
theorem w_c9 : (Jvm.Cond.code ({ cls := "java/lang/StringLatin1", name := "canEncode", desc := "(C)Z" } : Jvm.MethodName) jdk_43_method_3_code (1 : Nat) (Option.some Jvm.ClassFile.FieldType.boolean)).before args0 about1 = true := code_word (m := ⟨9, 1⟩) (meth := k9m1) (c := k9c1) (by decide +kernel) rfl rfl rfl (by decide +kernel)
set_option maxRecDepth 65536 in
theorem w_c10 : (Jvm.Cond.code ({ cls := "java/lang/StringLatin1", name := "toBytes", desc := "(C)[B" } : Jvm.MethodName) jdk_43_method_46_code (1 : Nat) (Option.some (Jvm.ClassFile.FieldType.array Jvm.ClassFile.FieldType.byte))).before args0 about1 = true := code_word (m := ⟨9, 3⟩) (meth := k9m3) (c := k9c3) (by decide +kernel) rfl rfl rfl (by decide +kernel)
set_option maxRecDepth 65536 in
theorem w_c11 : (Jvm.Cond.code ({ cls := "java/lang/String", name := "<init>", desc := "([BB)V" } : Jvm.MethodName) jdk_42_method_151_code (3 : Nat) (Option.none : Option Jvm.ClassFile.FieldType)).before args0 about1 = true := code_word (m := ⟨7, 5⟩) (meth := k7m5) (c := k7c5) (by decide +kernel) rfl rfl rfl (by decide +kernel)
set_option maxRecDepth 65536 in
theorem w_c12 : (Jvm.Cond.code ({ cls := "com/example/rolling_tally/rollingtally/service/TallyKey", name := "<init>", desc := "(Ljava/lang/String;Ljava/lang/String;Ljava/lang/String;Ljava/lang/String;)V" } : Jvm.MethodName) prog_46_method_1_code (5 : Nat) (Option.none : Option Jvm.ClassFile.FieldType)).before args0 about1 = true := code_word (m := ⟨10, 0⟩) (meth := k10m0) (c := k10c0) (by decide +kernel) rfl rfl rfl (by decide +kernel)
set_option maxRecDepth 65536 in
theorem w_c13 : (Jvm.Cond.code ({ cls := "com/example/rolling_tally/rollingtally/service/TallyKeySameRankingPinLaw", name := "eq", desc := "(ICCICC)Z" } : Jvm.MethodName) method_3_code (6 : Nat) (Option.some Jvm.ClassFile.FieldType.boolean)).before args0 about1 = true := code_word (m := ⟨1, 2⟩) (meth := k1m2) (c := k1c2) (by decide +kernel) rfl rfl rfl (by decide +kernel)
set_option maxRecDepth 65536 in
theorem w_c14 : (Jvm.Cond.code ({ cls := "com/example/rolling_tally/rollingtally/service/TallyKey", name := "sameRanking", desc := "(Lcom/example/rolling_tally/rollingtally/service/TallyKey;)Z" } : Jvm.MethodName) prog_46_method_6_code (2 : Nat) (Option.some Jvm.ClassFile.FieldType.boolean)).before args0 about1 = true := code_word (m := ⟨10, 1⟩) (meth := k10m1) (c := k10c1) (by decide +kernel) rfl rfl rfl (by decide +kernel)
set_option maxRecDepth 65536 in
theorem w_c15 : (Jvm.Cond.code ({ cls := "java/lang/String", name := "equals", desc := "(Ljava/lang/Object;)Z" } : Jvm.MethodName) jdk_42_method_66_code (3 : Nat) (Option.some Jvm.ClassFile.FieldType.boolean)).before args0 about1 = true := code_word (m := ⟨7, 2⟩) (meth := k7m2) (c := k7c2) (by decide +kernel) rfl rfl rfl (by decide +kernel)
set_option maxRecDepth 65536 in
theorem w_c16 : (Jvm.Cond.code ({ cls := "java/lang/StringLatin1", name := "equals", desc := "([B[B)Z" } : Jvm.MethodName) jdk_43_method_13_code (3 : Nat) (Option.some Jvm.ClassFile.FieldType.boolean)).before args0 about1 = true := code_word (m := ⟨9, 2⟩) (meth := k9m2) (c := k9c2) (by decide +kernel) rfl rfl rfl (by decide +kernel)
def codes1 : List Jvm.Cond := [Jvm.Cond.code x code maxLocals ret, Jvm.Cond.code ({ cls := "com/example/rolling_tally/rollingtally/service/TallyKeySameRankingPinLaw", name := "mk", desc := "(ICC)Ljava/lang/String;" } : Jvm.MethodName) method_2_code (3 : Nat) (Option.some (Jvm.ClassFile.FieldType.object "java/lang/String")), Jvm.Cond.code ({ cls := "java/lang/String", name := "<init>", desc := "([C)V" } : Jvm.MethodName) jdk_42_method_3_code (2 : Nat) (Option.none : Option Jvm.ClassFile.FieldType), Jvm.Cond.code ({ cls := "java/lang/String", name := "<init>", desc := "([CIILjava/lang/Void;)V" } : Jvm.MethodName) jdk_42_method_149_code (6 : Nat) (Option.none : Option Jvm.ClassFile.FieldType), Jvm.Cond.code ({ cls := "java/lang/Object", name := "<init>", desc := "()V" } : Jvm.MethodName) object_method_1_code (1 : Nat) (Option.none : Option Jvm.ClassFile.FieldType), Jvm.Cond.code ({ cls := "java/lang/StringUTF16", name := "compress", desc := "([CII)[B" } : Jvm.MethodName) jdk_52_method_16_code (6 : Nat) (Option.some (Jvm.ClassFile.FieldType.array Jvm.ClassFile.FieldType.byte)), Jvm.Cond.code ({ cls := "java/lang/StringUTF16", name := "compress", desc := "([CI[BII)I" } : Jvm.MethodName) jdk_52_method_21_code (7 : Nat) (Option.some Jvm.ClassFile.FieldType.int), Jvm.Cond.code ({ cls := "java/lang/StringUTF16", name := "coderFromArrayLen", desc := "([BI)B" } : Jvm.MethodName) jdk_52_method_15_code (2 : Nat) (Option.some Jvm.ClassFile.FieldType.byte), Jvm.Cond.code ({ cls := "java/lang/String", name := "valueOf", desc := "(C)Ljava/lang/String;" } : Jvm.MethodName) jdk_42_method_139_code (1 : Nat) (Option.some (Jvm.ClassFile.FieldType.object "java/lang/String")), Jvm.Cond.code ({ cls := "java/lang/StringLatin1", name := "canEncode", desc := "(C)Z" } : Jvm.MethodName) jdk_43_method_3_code (1 : Nat) (Option.some Jvm.ClassFile.FieldType.boolean), Jvm.Cond.code ({ cls := "java/lang/StringLatin1", name := "toBytes", desc := "(C)[B" } : Jvm.MethodName) jdk_43_method_46_code (1 : Nat) (Option.some (Jvm.ClassFile.FieldType.array Jvm.ClassFile.FieldType.byte)), Jvm.Cond.code ({ cls := "java/lang/String", name := "<init>", desc := "([BB)V" } : Jvm.MethodName) jdk_42_method_151_code (3 : Nat) (Option.none : Option Jvm.ClassFile.FieldType), Jvm.Cond.code ({ cls := "com/example/rolling_tally/rollingtally/service/TallyKey", name := "<init>", desc := "(Ljava/lang/String;Ljava/lang/String;Ljava/lang/String;Ljava/lang/String;)V" } : Jvm.MethodName) prog_46_method_1_code (5 : Nat) (Option.none : Option Jvm.ClassFile.FieldType), Jvm.Cond.code ({ cls := "com/example/rolling_tally/rollingtally/service/TallyKeySameRankingPinLaw", name := "eq", desc := "(ICCICC)Z" } : Jvm.MethodName) method_3_code (6 : Nat) (Option.some Jvm.ClassFile.FieldType.boolean), Jvm.Cond.code ({ cls := "com/example/rolling_tally/rollingtally/service/TallyKey", name := "sameRanking", desc := "(Lcom/example/rolling_tally/rollingtally/service/TallyKey;)Z" } : Jvm.MethodName) prog_46_method_6_code (2 : Nat) (Option.some Jvm.ClassFile.FieldType.boolean), Jvm.Cond.code ({ cls := "java/lang/String", name := "equals", desc := "(Ljava/lang/Object;)Z" } : Jvm.MethodName) jdk_42_method_66_code (3 : Nat) (Option.some Jvm.ClassFile.FieldType.boolean), Jvm.Cond.code ({ cls := "java/lang/StringLatin1", name := "equals", desc := "([B[B)Z" } : Jvm.MethodName) jdk_43_method_13_code (3 : Nat) (Option.some Jvm.ClassFile.FieldType.boolean)]
set_option maxRecDepth 65536 in
theorem codes_eq : words1.filter isCode = codes1 := rfl
theorem w_codes : ∀ c ∈ words1.filter isCode, c.before args0 about1 = true := by
  rw [codes_eq]
  intro c hc
  simp only [codes1, List.mem_cons, List.not_mem_nil, or_false] at hc
  rcases hc with rfl | rfl | rfl | rfl | rfl | rfl | rfl | rfl | rfl | rfl | rfl | rfl | rfl | rfl | rfl | rfl | rfl
  · exact w_c0
  · exact w_c1
  · exact w_c2
  · exact w_c3
  · exact w_c4
  · exact w_c5
  · exact w_c6
  · exact w_c7
  · exact w_c8
  · exact w_c9
  · exact w_c10
  · exact w_c11
  · exact w_c12
  · exact w_c13
  · exact w_c14
  · exact w_c15
  · exact w_c16
set_option maxRecDepth 65536 in
theorem w_t1 : (words1.take 24).all (fun c => isCode c || c.before args0 about1) = true := by decide +kernel
set_option maxRecDepth 65536 in
theorem w_t2 : ((words1.drop 24).take 24).all (fun c => isCode c || c.before args0 about1) = true := by decide +kernel
set_option maxRecDepth 65536 in
theorem w_t3 : (((words1.drop 24).drop 24).take 24).all (fun c => isCode c || c.before args0 about1) = true := by decide +kernel
set_option maxRecDepth 65536 in
theorem w_t4 : (((words1.drop 24).drop 24).drop 24).all (fun c => isCode c || c.before args0 about1) = true := by decide +kernel
theorem w_tables : (allAtoms (Jvm.Cond.code x code maxLocals ret :: tables_1)).before args0 about1 = true := by
  rw [allAtoms_all]
  show words1.all (fun c => c.before args0 about1) = true
  refine all_split ?_ w_codes
  rw [← List.take_append_drop 24 words1, List.all_append, w_t1, ← List.take_append_drop 24 (words1.drop 24), List.all_append, w_t2, ← List.take_append_drop 24 ((words1.drop 24).drop 24), List.all_append, w_t3, w_t4]
  rfl
set_option maxRecDepth 65536 in
theorem w_rest : rest_1_c.before args0 about1 = true := by decide +kernel
set_option maxRecDepth 65536 in
theorem w_case : (Jvm.Cond.and given_1 narrow_1).before args0 about1 = true := by decide +kernel
set_option maxRecDepth 65536 in
theorem w_consts : constsHeld consts_1 about1 := Jvm.Lit.constsHeldB_iff.mp (by decide +kernel)
theorem w_applies : (headSpec (Jvm.Cond.code x code maxLocals ret :: tables_1) room_1).applies x e0.platform about1 = true :=
  (Spec.applies_iff w_frames).mpr ⟨w_running, w_runnable, w_alone, w_named, w_hears, w_ripe, w_room, w_tables⟩
theorem atStart : AtStart classFile x code maxLocals ret World_1 tables_1 room_1 Calls_1 rest_1 Pre_1 launch0 p0 e0 about1 theMethod args0 below0 :=
  ⟨lists_1, trivial, launch0.admits_env _ _ _, launch0.least_env, fairChoices_fair.cas, fairChoices_fair.clock, w_frames, w_args, w_heap, w_applies, ⟨w_consts, trivial⟩, w_rest, w_case⟩
end start1
theorem witness_1 : WitnessClaimed_1 := ⟨start1.p0, start1.e0, start1.about1, start1.theMethod, start1.args0, start1.below0, start1.atStart⟩
end Jvm.Pilot.@@N@@
