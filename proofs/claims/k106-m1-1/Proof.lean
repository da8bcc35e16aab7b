import JvmDerived
import JvmDerived.Pilot.@@N@@Statement
import JvmDerived.Pilot.@@N@@Code
set_option linter.unusedVariables false
set_option linter.unusedSimpArgs false
namespace Jvm.Pilot.@@N@@
open Jvm Jvm.ClassFile Sem Op Lib Jvm.Free Jvm.Stand Jvm.LawKit Jvm.RoadKit Bundle Jvm.Pilot.@@N@@.Jvm.D
section OwnKit
variable {p : Program} {l : Launch} {e : Env} {R : Room} {s : State} {m : MethodId} {args : Array Value} {below : List Frame} {meth : Method} {c : Code} {T : State} {locs : List Loc} {cells slots : Nat} {Z : State} {a0 : Array Value} {h h' h0 : Heap}
/-- the rest of the body's run, from A on: it ends, and E holds there -/
def own_Go (p : Program) (e : Env) (below : List Frame) (E : Outcome → State → Prop) (A : State) : Prop :=
  ∃ s₂ o, Steps p.tables e below A s₂ ∧ s₂.status = .running ∧ Ended s₂ below o ∧ E o s₂
theorem own_go {E : Outcome → State → Prop} {A B : State} (k : ∀ t, Steps p.tables e below A t → Steps p.tables e below B t) (g : own_Go p e below E A) : own_Go p e below E B := by
  obtain ⟨s₂, o, h1, h2⟩ := g
  exact ⟨s₂, o, k _ h1, h2⟩
theorem own_goT {E : Outcome → State → Prop} {A B : State} (k : Steps p.tables e below B A) (g : own_Go p e below E A) : own_Go p e below E B := own_go (fun _ q => k.trans q) g
/-- what a body leaves -/
def own_Out (s : State) (Q : Option Value → Heap → List Loc → Prop) (C S : Nat) (o : Outcome) (U : State) : Prop :=
  ∃ v L, o = .returned v ∧ Q v U.heap L ∧ FrameEnd s o U L C S
/-- a body's contract: called with as' over the heap h0 it returns, and Q holds of what it returns, of the heap that it leaves and of the places that it wrote -/
def own_Con (l : Launch) (Z : State) (y : MethodName) (bytes : ByteArray) (maxL : Nat) (ret : Option FieldType) (rm : Room) (as' : Array Value) (h0 : Heap) (Q : Option Value → Heap → List Loc → Prop) (ws : List Jvm.Cond) : Prop :=
  MetFree l y (head1 (Jvm.Cond.code y bytes maxL ret :: ws) rm) (fun a U => a = as' ∧ Z.Warmed39 U.vm ∧ U.heap = h0) (fun _ _ _ _ _ => True) (fun _ U o U' => ∃ v L, o = .returned v ∧ Q v U'.heap L ∧ FrameEnd U o U' L rm.cells rm.slots)
theorem own_con {y : MethodName} {bytes : ByteArray} {maxL : Nat} {ret : Option FieldType} {rm : Room} {as' : Array Value} {Q : Option Value → Heap → List Loc → Prop} {ws : List Jvm.Cond} {F : MethodId → JFrame} (hpn : plainFor y = true) (hef : ∀ m, entryFrame m as' maxL = F m)
    (H : ∀ (p : Program) (e : Env) (s : State) (m : MethodId) (below : List Frame) (meth : Method) (c : Code) (T : State), Stand p l e rm s m as' below meth c T [] 0 0 → p.tables.exec = Jvm.exec → c.code = bytes → c.maxLocals = maxL → Z.Warmed39 s.vm → s.vm.findClass y.cls = some m.cls → meth.name = y.name →
      meth.sig.returnType = ret → meth.locks = false → T.heap = h0 → own_Go p e below (own_Out s Q rm.cells rm.slots) (T.setTop (F m))) :
    own_Con l Z y bytes maxL ret rm as' h0 Q ws := by
  refine MetFree.of_bodySF hpn hisR ?_
  intro p e s m args below meth c s₁ Bd hml0 hP hK
  obtain ⟨rfl, hZ, hh⟩ := hP
  have k := H p e s m below meth c s₁ (Stand.of_body Bd) Bd.exec Bd.bytes hml0 hZ (findClass_of_methodNamed Bd.named) (name_of_methodNamed Bd.named Bd.method).1 Bd.returns Bd.notSynchronized (by rw [← hh, Bd.state]; rfl)
  rw [← hef m] at k
  exact k
theorem own_Con.mono {y : MethodName} {bytes : ByteArray} {maxL : Nat} {ret : Option FieldType} {rm : Room} {as' : Array Value} {Q Q' : Option Value → Heap → List Loc → Prop} {ws : List Jvm.Cond} (H : own_Con l Z y bytes maxL ret rm as' h0 Q ws) (k : ∀ v h L, Q v h L → Q' v h L) : own_Con l Z y bytes maxL ret rm as' h0 Q' ws := by
  intro p e ha hc hk s m args below hf happ hP hK
  obtain ⟨n, o, g1, g2, g3, v, L, g4, g5, g6⟩ := H p e ha hc hk s m args below hf happ hP hK
  exact ⟨n, o, g1, g2, g3, v, L, g4, k _ _ _ g5, g6⟩
/-! leaving -/
theorem own_iret (X : Stand p l e R s m args below meth c T locs cells slots) (hx : p.tables.exec = Jvm.exec) (hlk : meth.locks = false) {t : FieldType} (hret : meth.sig.returnType = some t) (hti : t = .int ∨ t = .boolean ∨ t = .byte ∨ t = .char ∨ t = .short) {pc : Nat} {Ls : Array Slot} {z : Int32} (hn : narrow t (.int z) = .int z)
    (hd : decode c.code pc = .ok (.ireturn, 1)) {Q : Option Value → Heap → List Loc → Prop} {C S : Nat} (hC : cells ≤ C) (hS : slots ≤ S) (hq : Q (some (.int z)) T.heap locs) : own_Go p e below (own_Out s Q C S) (T.setTop (mkF m pc Ls [.int z])) := by
  obtain ⟨fs, hr, hrun, hended, hW, hsame⟩ := X.leave (v := some (.int z)) (fun h => by rw [hret] at h; cases h)
  exact ⟨_, _, X.ireturnOut hx hret hn hti hd hr, hrun, hended, _, _, rfl, hq, ⟨_, rfl⟩, hW, hsame.mono hC hS⟩
theorem own_lret (X : Stand p l e R s m args below meth c T locs cells slots) (hx : p.tables.exec = Jvm.exec) (hlk : meth.locks = false) (hret : meth.sig.returnType = some .long) {pc : Nat} {Ls : Array Slot} {z : Int64}
    (hd : decode c.code pc = .ok (.lreturn, 1)) {Q : Option Value → Heap → List Loc → Prop} {C S : Nat} (hC : cells ≤ C) (hS : slots ≤ S) (hq : Q (some (.long z)) T.heap locs) : own_Go p e below (own_Out s Q C S) (T.setTop (mkF m pc Ls [.long z])) := by
  obtain ⟨fs, hr, hrun, hended, hW, hsame⟩ := X.leave (v := some (.long z)) (fun h => by rw [hret] at h; cases h)
  exact ⟨_, _, X.lreturnOut hx hret hd hr, hrun, hended, _, _, rfl, hq, ⟨_, rfl⟩, hW, hsame.mono hC hS⟩
theorem own_aret (X : Stand p l e R s m args below meth c T locs cells slots) (hx : p.tables.exec = Jvm.exec) (hlk : meth.locks = false) {t : FieldType} (hret : meth.sig.returnType = some t) (ht : t.isReference = true) {pc : Nat} {Ls : Array Slot} {w : Value} (hw : w.isRef = true)
    (hd : decode c.code pc = .ok (.areturn, 1)) {Q : Option Value → Heap → List Loc → Prop} {C S : Nat} (hC : cells ≤ C) (hS : slots ≤ S) (hq : Q (some w) T.heap locs) : own_Go p e below (own_Out s Q C S) (T.setTop (mkF m pc Ls [w])) := by
  obtain ⟨fs, hr, hrun, hended, hW, hsame⟩ := X.leave (v := some w) (fun h => by rw [hret] at h; cases h)
  exact ⟨_, _, X.areturnOut hx hw hret ht hd hr, hrun, hended, _, _, rfl, hq, ⟨_, rfl⟩, hW, hsame.mono hC hS⟩
theorem own_vret (X : Stand p l e R s m args below meth c T locs cells slots) (hx : p.tables.exec = Jvm.exec) (hlk : meth.locks = false) (hret : meth.sig.returnType = none) {pc : Nat} {Ls : Array Slot}
    (hd : decode c.code pc = .ok (.return_, 1)) {Q : Option Value → Heap → List Loc → Prop} {C S : Nat} (hC : cells ≤ C) (hS : slots ≤ S) (hq : Q none T.heap locs) : own_Go p e below (own_Out s Q C S) (T.setTop (mkF m pc Ls [])) := by
  obtain ⟨fs, hr, hrun, hended, hW, hsame⟩ := X.leave (v := none) (fun _ => rfl)
  exact ⟨_, _, X.returnOut hx hret hd hr, hrun, hended, _, _, rfl, hq, ⟨_, rfl⟩, hW, hsame.mono hC hS⟩
/-! a body that leaves the heap alone -/
def own_PQ (h0 : Heap) (w : Value) (v : Option Value) (h : Heap) (L : List Loc) : Prop := v = some w ∧ h = h0 ∧ L = []
theorem own_iteI {C : Prop} [Decidable C] {a b : Int32} {k n : Nat} {A : State} (h1 : C → own_Go p e below (own_Out s (own_PQ h0 (.int a)) k n) A) (h2 : ¬ C → own_Go p e below (own_Out s (own_PQ h0 (.int b)) k n) A) : own_Go p e below (own_Out s (own_PQ h0 (.int (if C then a else b))) k n) A := by
  by_cases q : C
  · rw [if_pos q]; exact h1 q
  · rw [if_neg q]; exact h2 q
theorem own_iteL {C : Prop} [Decidable C] {a b : Int64} {k n : Nat} {A : State} (h1 : C → own_Go p e below (own_Out s (own_PQ h0 (.long a)) k n) A) (h2 : ¬ C → own_Go p e below (own_Out s (own_PQ h0 (.long b)) k n) A) : own_Go p e below (own_Out s (own_PQ h0 (.long (if C then a else b))) k n) A := by
  by_cases q : C
  · rw [if_pos q]; exact h1 q
  · rw [if_neg q]; exact h2 q
/-! calls -/
theorem own_callS (X : Stand p l e R s m args below meth c T locs cells slots) (hx : p.tables.exec = Jvm.exec) (hZ : Z.Warmed39 s.vm) {own : String} (hown : s.vm.findClass own = some m.cls) {index : Nat} {y : MethodName} {bytes : ByteArray} {maxL : Nat} {ret : Option FieldType} {rm : Room} {argsL rest : List Value} {Q : Option Value → Heap → List Loc → Prop}
    (hM : own_Con l Z y bytes maxL ret rm argsL.toArray h Q []) (eT : T.heap = h) (wl : (Jvm.Cond.methodLink own index y).before a0 Z = true) (wst : (Jvm.Cond.static y).before a0 Z = true) (wz : (Jvm.Cond.initialized y.cls).before a0 Z = true) (wc : (Jvm.Cond.code y bytes maxL ret).before a0 Z = true) (hy : y.cls ≠ "java/lang/invoke/MethodHandle" ∧ y.cls ≠ "java/lang/invoke/VarHandle")
    {sig : MethodDescriptor} (hpd : parseMethodDescriptor y.desc = some sig) (hlen : argsL.length = sig.parameters.length) {g : JFrame} (hg : g.method = m) (hsize : g.locals.size = c.maxLocals) (hstack : g.stack = argsL.reverse ++ rest) (W : Nat) (hW : 2 * g.monitorRoom + (rest.map fun v => v.category).sum ≤ W) (hdg : decode c.code g.pc = .ok (.invokestatic index, 3))
    (hf : rm.frames + 1 ≤ R.frames) (hl : W + (maxL + 11) + rm.locals ≤ R.locals) (hcs : cells + rm.cells ≤ R.cells) (hss : slots + rm.slots ≤ R.slots) :
    ∃ (v : Option Value) (T' : State) (L : List Loc), Stand p l e R s m args below meth c T' (locs ++ L) (cells + rm.cells) (slots + rm.slots) ∧ Q v T'.heap L ∧ ∀ t, Steps p.tables e below (T'.setTop { g with pc := g.pc + 3, stack := v.toList ++ rest }) t → Steps p.tables e below (T.setTop g) t := by
  obtain ⟨v, _, ⟨T', L', k', n'⟩, -, X', ⟨L, hQ, q1, q2, q3⟩, st⟩ := Jvm.LawKit.callS X hx hown (mvT hZ wl) (mvT hZ wst) (mvT hZ wz) (mvT hZ wc) hy (backOf (W := W) hM hZ wc wz hf hl) hg hsize (argsL := argsL) (rest := rest) (fun sg hsg => by rw [hpd] at hsg; cases hsg; exact hlen) hstack hW hdg (fun _ _ => ⟨rfl, eT, hcs, hss⟩)
  dsimp only [Pt.U, Pt.locs, Pt.cells, Pt.slots] at X' q1 q2 q3 st hQ
  subst q1 q2 q3
  exact ⟨v, T', L, X', hQ, st⟩
theorem own_callSP (X : Stand p l e R s m args below meth c T locs cells slots) (hx : p.tables.exec = Jvm.exec) (hZ : Z.Warmed39 s.vm) {own : String} (hown : s.vm.findClass own = some m.cls) {index : Nat} {y : MethodName} {bytes : ByteArray} {maxL : Nat} {ret : Option FieldType} {rm : Room} {argsL rest : List Value} {w : Value}
    (hM : own_Con l Z y bytes maxL ret rm argsL.toArray h (own_PQ h w) []) (eT : T.heap = h) (wl : (Jvm.Cond.methodLink own index y).before a0 Z = true) (wst : (Jvm.Cond.static y).before a0 Z = true) (wz : (Jvm.Cond.initialized y.cls).before a0 Z = true) (wc : (Jvm.Cond.code y bytes maxL ret).before a0 Z = true) (hy : y.cls ≠ "java/lang/invoke/MethodHandle" ∧ y.cls ≠ "java/lang/invoke/VarHandle")
    {sig : MethodDescriptor} (hpd : parseMethodDescriptor y.desc = some sig) (hlen : argsL.length = sig.parameters.length) {g : JFrame} (hg : g.method = m) (hsize : g.locals.size = c.maxLocals) (hstack : g.stack = argsL.reverse ++ rest) (W : Nat) (hW : 2 * g.monitorRoom + (rest.map fun v => v.category).sum ≤ W) (hdg : decode c.code g.pc = .ok (.invokestatic index, 3))
    (hf : rm.frames + 1 ≤ R.frames) (hl : W + (maxL + 11) + rm.locals ≤ R.locals) (hrc : rm.cells = 0) (hrs : rm.slots = 0) (hcs : cells ≤ R.cells) (hss : slots ≤ R.slots) :
    ∃ (T' : State), Stand p l e R s m args below meth c T' locs cells slots ∧ T'.heap = h ∧ ∀ t, Steps p.tables e below (T'.setTop { g with pc := g.pc + 3, stack := w :: rest }) t → Steps p.tables e below (T.setTop g) t := by
  obtain ⟨v, T', L, X', ⟨rfl, q2, rfl⟩, st⟩ := own_callS X hx hZ hown hM eT wl wst wz wc hy hpd hlen hg hsize hstack W hW hdg hf hl (by omega) (by omega)
  rw [List.append_nil, hrc, hrs] at X'
  exact ⟨T', X', q2, st⟩
theorem own_callI (X : Stand p l e R s m args below meth c T locs cells slots) (hx : p.tables.exec = Jvm.exec) (hZ : Z.Warmed39 s.vm) {own : String} (hown : s.vm.findClass own = some m.cls) {index : Nat} {y : MethodName} (hy1 : y.name = "<init>") {bytes : ByteArray} {maxL : Nat} {rm : Room} {b : Addr} {argsL rest : List Value} {Q : Option Value → Heap → List Loc → Prop}
    (hM : own_Con l Z y bytes maxL none rm (Value.ref b :: argsL).toArray h Q []) (eT : T.heap = h) (wl : (Jvm.Cond.methodLink own index y).before a0 Z = true) (wi : (Jvm.Cond.instanceMethod y).before a0 Z = true) (wz : (Jvm.Cond.initialized y.cls).before a0 Z = true) (wc : (Jvm.Cond.code y bytes maxL none).before a0 Z = true) (hy : y.cls ≠ "java/lang/invoke/MethodHandle" ∧ y.cls ≠ "java/lang/invoke/VarHandle")
    {sig : MethodDescriptor} (hpd : parseMethodDescriptor y.desc = some sig) (hlen : argsL.length = sig.parameters.length) {g : JFrame} (hg : g.method = m) (hsize : g.locals.size = c.maxLocals) (hstack : g.stack = argsL.reverse ++ .ref b :: rest) (W : Nat) (hW : 2 * g.monitorRoom + (rest.map fun v => v.category).sum ≤ W) (hdg : decode c.code g.pc = .ok (.invokespecial index, 3))
    (hf : rm.frames + 1 ≤ R.frames) (hl : W + (maxL + 11) + rm.locals ≤ R.locals) (hcs : cells + rm.cells ≤ R.cells) (hss : slots + rm.slots ≤ R.slots) :
    ∃ (v : Option Value) (T' : State) (L : List Loc), Stand p l e R s m args below meth c T' (locs ++ L) (cells + rm.cells) (slots + rm.slots) ∧ Q v T'.heap L ∧ ∀ t, Steps p.tables e below (T'.setTop { g with pc := g.pc + 3, stack := v.toList ++ rest }) t → Steps p.tables e below (T.setTop g) t := by
  obtain ⟨v, _, ⟨T', L', k', n'⟩, -, X', ⟨L, hQ, q1, q2, q3⟩, st⟩ := X.specialBack hx hy1 hown (mvT hZ wl) (mvT hZ wi) (mvT hZ wc) hy (backOf (W := W) hM hZ wc wz hf hl) hg hsize (Steps.refl _) (a := b) (argsL := argsL) (rest := rest) (fun sg hsg => by rw [hpd] at hsg; cases hsg; exact hlen) hstack hW hdg (fun _ _ => ⟨rfl, eT, hcs, hss⟩)
  dsimp only [Pt.U, Pt.locs, Pt.cells, Pt.slots] at X' q1 q2 q3 st hQ
  subst q1 q2 q3
  exact ⟨v, T', L, X', hQ, fun _ k => st.trans k⟩
theorem own_callV (X : Stand p l e R s m args below meth c T locs cells slots) (hx : p.tables.exec = Jvm.exec) (hZ : Z.Warmed39 s.vm) {own C : String} (hown : s.vm.findClass own = some m.cls) {index : Nat} {y z : MethodName} {bytes : ByteArray} {maxL : Nat} {ret : Option FieldType} {rm : Room} {b : Addr} {argsL rest : List Value} {Q : Option Value → Heap → List Loc → Prop}
    (hM : own_Con l Z z bytes maxL ret rm (Value.ref b :: argsL).toArray h Q []) (eT : T.heap = h) (hE : Exa Z h b C) (wl : (Jvm.Cond.methodLink own index y).before a0 Z = true) (wd : (Jvm.Cond.declares y).before a0 Z = true) (wsel : (Jvm.Cond.selects C y z).before a0 Z = true) (wi : (Jvm.Cond.instanceMethod z).before a0 Z = true) (wz : (Jvm.Cond.initialized z.cls).before a0 Z = true) (wc : (Jvm.Cond.code z bytes maxL ret).before a0 Z = true) (hnf : NotFace s y) (hy : y.cls ≠ "java/lang/invoke/MethodHandle" ∧ y.cls ≠ "java/lang/invoke/VarHandle")
    {sig : MethodDescriptor} (hpd : parseMethodDescriptor y.desc = some sig) (hlen : argsL.length = sig.parameters.length) {g : JFrame} (hg : g.method = m) (hsize : g.locals.size = c.maxLocals) (hstack : g.stack = argsL.reverse ++ .ref b :: rest) (W : Nat) (hW : 2 * g.monitorRoom + (rest.map fun v => v.category).sum ≤ W) (hdg : decode c.code g.pc = .ok (.invokevirtual index, 3))
    (hf : rm.frames + 1 ≤ R.frames) (hl : W + (maxL + 11) + rm.locals ≤ R.locals) (hcs : cells + rm.cells ≤ R.cells) (hss : slots + rm.slots ≤ R.slots) :
    ∃ (v : Option Value) (T' : State) (L : List Loc), Stand p l e R s m args below meth c T' (locs ++ L) (cells + rm.cells) (slots + rm.slots) ∧ Q v T'.heap L ∧ ∀ t, Steps p.tables e below (T'.setTop { g with pc := g.pc + 3, stack := v.toList ++ rest }) t → Steps p.tables e below (T.setTop g) t := by
  obtain ⟨cq, kq, qa, qb, qc⟩ := isOf hZ eT hE
  obtain ⟨v, _, ⟨T', L', k', n'⟩, -, X', ⟨L, hQ, q1, q2, q3⟩, st⟩ := X.virtualBack hx hown (mvT hZ wl) (mvT hZ wd) hnf (mvT hZ wsel) (mvT hZ wi) hy (backOf (W := W) hM hZ wc wz hf hl) qa qc hg hsize (Steps.refl _) (argsL := argsL) (rest := rest) (fun sg hsg => by rw [hpd] at hsg; cases hsg; exact hlen) hstack hW hdg (fun _ _ => ⟨rfl, eT, hcs, hss⟩)
  dsimp only [Pt.U, Pt.locs, Pt.cells, Pt.slots] at X' q1 q2 q3 st hQ
  subst q1 q2 q3
  exact ⟨v, T', L, X', hQ, fun _ k => st.trans k⟩
theorem own_callP (X : Stand p l e R s m args below meth c T locs cells slots) (hx : p.tables.exec = Jvm.exec) (hZ : Z.Warmed39 s.vm) {own C : String} (hown : s.vm.findClass own = some m.cls) {index kk : Nat} {y : MethodName} {bytes : ByteArray} {maxL : Nat} {ret : Option FieldType} {rm : Room} {b : Addr} {argsL rest : List Value} {Q : Option Value → Heap → List Loc → Prop}
    (hM : own_Con l Z y bytes maxL ret rm (Value.ref b :: argsL).toArray h Q []) (eT : T.heap = h) (hE : Exa Z h b C) (wl : (Jvm.Cond.methodLink own index y).before a0 Z = true) (wi : (Jvm.Cond.instanceMethod y).before a0 Z = true) (wp : (Jvm.Cond.privateMethod y).before a0 Z = true) (wn : (Jvm.Cond.instantiable y.cls kk).before a0 Z = true) (wz : (Jvm.Cond.initialized y.cls).before a0 Z = true) (wc : (Jvm.Cond.code y bytes maxL ret).before a0 Z = true) (hy : y.cls ≠ "java/lang/invoke/MethodHandle" ∧ y.cls ≠ "java/lang/invoke/VarHandle")
    {sig : MethodDescriptor} (hpd : parseMethodDescriptor y.desc = some sig) (hlen : argsL.length = sig.parameters.length) {g : JFrame} (hg : g.method = m) (hsize : g.locals.size = c.maxLocals) (hstack : g.stack = argsL.reverse ++ .ref b :: rest) (W : Nat) (hW : 2 * g.monitorRoom + (rest.map fun v => v.category).sum ≤ W) (hdg : decode c.code g.pc = .ok (.invokevirtual index, 3))
    (hf : rm.frames + 1 ≤ R.frames) (hl : W + (maxL + 11) + rm.locals ≤ R.locals) (hcs : cells + rm.cells ≤ R.cells) (hss : slots + rm.slots ≤ R.slots) :
    ∃ (v : Option Value) (T' : State) (L : List Loc), Stand p l e R s m args below meth c T' (locs ++ L) (cells + rm.cells) (slots + rm.slots) ∧ Q v T'.heap L ∧ ∀ t, Steps p.tables e below (T'.setTop { g with pc := g.pc + 3, stack := v.toList ++ rest }) t → Steps p.tables e below (T.setTop g) t := by
  obtain ⟨cq, q, q'⟩ := hE.cell
  have hp := Cond.privateMethod_at (mvP hZ wp (args := #[]))
  have hn : (Jvm.Cond.instantiable y.cls kk).before args s = true := mvT hZ wn
  obtain ⟨c2, k2, i1, i2, i3, i4, -⟩ := Cond.instantiable_spec hn
  have hsel : (Jvm.Cond.selects y.cls y y).before args s = true := selects_self_of_private i1 i2 (Bool.or_eq_false_iff.mp i4).1 hp (mvT hZ wi) hy
  obtain ⟨v, _, ⟨T', L', k', n'⟩, -, X', ⟨L, hQ, q1, q2, q3⟩, st⟩ := X.privateBack hx hown (mvT hZ wl) (mvT hZ wi) hsel hp (mvT hZ wc) hy (backOf (W := W) hM hZ wc wz hf hl) hg hsize (Steps.refl _) (a := b) (by rw [eT]; exact q) q' (argsL := argsL) (rest := rest) (fun sg hsg => by rw [hpd] at hsg; cases hsg; exact hlen) hstack hW hdg (fun _ _ => ⟨rfl, eT, hcs, hss⟩)
  dsimp only [Pt.U, Pt.locs, Pt.cells, Pt.slots] at X' q1 q2 q3 st hQ
  subst q1 q2 q3
  exact ⟨v, T', L, X', hQ, fun _ k => st.trans k⟩
theorem own_pn {y : MethodName} (hq : plainName y.cls = true) : plainFor y = true := plainFor_of_name hq
end OwnKit
theorem d1_0 : decode prog_65_method_8_code 0 = .ok (.iload_n 0, 1) := by decide +kernel
theorem d1_1 : decode prog_65_method_8_code 1 = .ok (.sipush 160, 3) := by decide +kernel
theorem d1_4 : decode prog_65_method_8_code 4 = .ok (.if_icmp .lt 9, 3) := by decide +kernel
theorem d1_7 : decode prog_65_method_8_code 7 = .ok (.iload_n 0, 1) := by decide +kernel
theorem d1_8 : decode prog_65_method_8_code 8 = .ok (.ldc 158, 2) := by decide +kernel
theorem d1_10 : decode prog_65_method_8_code 10 = .ok (.if_icmp .le 60, 3) := by decide +kernel
theorem d1_13 : decode prog_65_method_8_code 13 = .ok (.iload_n 0, 1) := by decide +kernel
theorem d1_14 : decode prog_65_method_8_code 14 = .ok (.ldc 159, 2) := by decide +kernel
theorem d1_16 : decode prog_65_method_8_code 16 = .ok (.if_icmp .lt 9, 3) := by decide +kernel
theorem d1_19 : decode prog_65_method_8_code 19 = .ok (.iload_n 0, 1) := by decide +kernel
theorem d1_20 : decode prog_65_method_8_code 20 = .ok (.ldc 160, 2) := by decide +kernel
theorem d1_22 : decode prog_65_method_8_code 22 = .ok (.if_icmp .le 48, 3) := by decide +kernel
theorem d1_25 : decode prog_65_method_8_code 25 = .ok (.iload_n 0, 1) := by decide +kernel
theorem d1_26 : decode prog_65_method_8_code 26 = .ok (.ldc 161, 2) := by decide +kernel
theorem d1_28 : decode prog_65_method_8_code 28 = .ok (.if_icmp .lt 9, 3) := by decide +kernel
theorem d1_31 : decode prog_65_method_8_code 31 = .ok (.iload_n 0, 1) := by decide +kernel
theorem d1_32 : decode prog_65_method_8_code 32 = .ok (.ldc 162, 2) := by decide +kernel
theorem d1_34 : decode prog_65_method_8_code 34 = .ok (.if_icmp .le 36, 3) := by decide +kernel
theorem d1_37 : decode prog_65_method_8_code 37 = .ok (.iload_n 0, 1) := by decide +kernel
theorem d1_38 : decode prog_65_method_8_code 38 = .ok (.ldc 163, 2) := by decide +kernel
theorem d1_40 : decode prog_65_method_8_code 40 = .ok (.if_icmp .lt 18, 3) := by decide +kernel
theorem d1_43 : decode prog_65_method_8_code 43 = .ok (.iload_n 0, 1) := by decide +kernel
theorem d1_44 : decode prog_65_method_8_code 44 = .ok (.ldc 164, 2) := by decide +kernel
theorem d1_46 : decode prog_65_method_8_code 46 = .ok (.if_icmp .gt 12, 3) := by decide +kernel
theorem d1_49 : decode prog_65_method_8_code 49 = .ok (.iload_n 0, 1) := by decide +kernel
theorem d1_50 : decode prog_65_method_8_code 50 = .ok (.ldc 165, 2) := by decide +kernel
theorem d1_52 : decode prog_65_method_8_code 52 = .ok (.iand, 1) := by decide +kernel
theorem d1_53 : decode prog_65_method_8_code 53 = .ok (.ldc 166, 2) := by decide +kernel
theorem d1_55 : decode prog_65_method_8_code 55 = .ok (.if_icmp .le 15, 3) := by decide +kernel
theorem d1_58 : decode prog_65_method_8_code 58 = .ok (.iload_n 0, 1) := by decide +kernel
theorem d1_59 : decode prog_65_method_8_code 59 = .ok (.ldc 167, 2) := by decide +kernel
theorem d1_61 : decode prog_65_method_8_code 61 = .ok (.if_icmp .lt 13, 3) := by decide +kernel
theorem d1_64 : decode prog_65_method_8_code 64 = .ok (.iload_n 0, 1) := by decide +kernel
theorem d1_65 : decode prog_65_method_8_code 65 = .ok (.ldc 168, 2) := by decide +kernel
theorem d1_67 : decode prog_65_method_8_code 67 = .ok (.if_icmp .gt 7, 3) := by decide +kernel
theorem d1_70 : decode prog_65_method_8_code 70 = .ok (.iconst 1, 1) := by decide +kernel
theorem d1_71 : decode prog_65_method_8_code 71 = .ok (.goto 4, 3) := by decide +kernel
theorem d1_74 : decode prog_65_method_8_code 74 = .ok (.iconst 0, 1) := by decide +kernel
theorem d1_75 : decode prog_65_method_8_code 75 = .ok (.ireturn, 1) := by decide +kernel
def own_isUcschar_58 (y0 : Int32) : Int32 := (if y0 < (921600 : Int32) then (0 : Int32) else (if (983037 : Int32) < y0 then (0 : Int32) else (1 : Int32)))
def own_isUcschar_37 (y0 : Int32) : Int32 := (if y0 < (65536 : Int32) then (own_isUcschar_58 y0) else (if (917501 : Int32) < y0 then (own_isUcschar_58 y0) else (if (65533 : Int32) < (y0 &&& (65535 : Int32)) then (own_isUcschar_58 y0) else (1 : Int32))))
def own_isUcschar_25 (y0 : Int32) : Int32 := (if y0 < (65008 : Int32) then (own_isUcschar_37 y0) else (if (65519 : Int32) < y0 then (own_isUcschar_37 y0) else (1 : Int32)))
def own_isUcschar_13 (y0 : Int32) : Int32 := (if y0 < (63744 : Int32) then (own_isUcschar_25 y0) else (if (64975 : Int32) < y0 then (own_isUcschar_25 y0) else (1 : Int32)))
def own_isUcschar (x0 : Int32) : Int32 := (if x0 < (160 : Int32) then (own_isUcschar_13 x0) else (if (55295 : Int32) < x0 then (own_isUcschar_13 x0) else (1 : Int32)))
set_option maxRecDepth 65536 in
set_option maxHeartbeats 40000000 in
theorem own_isUcschar_con (l : Launch) (Z : State) (a0 : Array Value) (hw : ∀ d ∈ tables_1, d.before a0 Z = true) (x0 : Int32)  (h0 : Heap) (ws : List Jvm.Cond) :
    own_Con l Z (⟨"com/example/jadeite/jadeite/formats/UriText", "isUcschar", "(I)Z"⟩ : MethodName) prog_65_method_8_code 1 (some .boolean) ({ frames := 0, cells := 0, slots := 0, locals := 0 } : Room) #[(.int x0)] h0 (own_PQ h0 (.int (own_isUcschar x0))) ws := by
  refine own_con (F := fun m => (mkF m 0 #[.val (.int x0)] [])) (own_pn (by first | (simp [plainName, overriddenIn]; done) | decide +kernel)) (fun m => by first | (simp [entryFrame, mkF, argsToLocals, Value.category]; done) | rfl) ?_
  intro p e s m below meth c T X hx hby hml hZ hown hnm hret hlk eT
  have g58 : ∀ (T : State) (X : Stand p l e ({ frames := 0, cells := 0, slots := 0, locals := 0 } : Room) s m #[(.int x0)] below meth c T [] 0 0) (eT : T.heap = h0) (y0 : Int32), own_Go p e below (own_Out s (own_PQ h0 (.int (own_isUcschar_58 y0))) 0 0) (T.setTop (mkF m 58 #[.val (.int y0)] [])) := by
    intro T X eT y0
    show own_Go p e below (own_Out s (own_PQ h0 (.int (if y0 < (921600 : Int32) then (0 : Int32) else (if (983037 : Int32) < y0 then (0 : Int32) else (1 : Int32))))) 0 0) _
    refine own_go (fun _ => XS.iloadN X.here hx rfl (hb hby d1_58) rfl) ?_
    show own_Go p e below _ (T.setTop (mkF m 59 #[.val (.int y0)] [(.int y0)]))
    refine own_go (X.ldcInt hx hown (mvT hZ (hw _ (List.mem_of_getElem? (i := 19) rfl))) (g := (mkF m 59 #[.val (.int y0)] [(.int y0)])) rfl (hb hby d1_59)) ?_
    show own_Go p e below _ (T.setTop (mkF m 61 #[.val (.int y0)] [(.int (921600 : Int32)), (.int y0)]))
    refine own_iteI (fun hc61 => ?_) (fun hc61 => ?_)
    · skip
      refine own_go (fun _ => XS.icmpYes X.here hx rfl (pc0 := 61) (pc' := 74) rfl (hb hby d1_61) rfl (XT.ii_lt_t hc61) (by decide) (by decide)) ?_
      show own_Go p e below _ (T.setTop (mkF m 74 #[.val (.int y0)] []))
      refine own_go (fun _ => XS.iconst X.here hx rfl (hb hby d1_74)) ?_
      show own_Go p e below _ (T.setTop (mkF m 75 #[.val (.int y0)] [(.int (0 : Int32))]))
      exact own_iret X hx hlk hret (Or.inr (Or.inl rfl)) rfl (hb hby d1_75) (Nat.zero_le _) (Nat.zero_le _) ⟨rfl, eT, rfl⟩
    · skip
      refine own_go (fun _ => XS.icmpNo X.here hx rfl (hb hby d1_61) rfl (XT.ii_lt_f hc61)) ?_
      show own_Go p e below _ (T.setTop (mkF m 64 #[.val (.int y0)] []))
      refine own_go (fun _ => XS.iloadN X.here hx rfl (hb hby d1_64) rfl) ?_
      show own_Go p e below _ (T.setTop (mkF m 65 #[.val (.int y0)] [(.int y0)]))
      refine own_go (X.ldcInt hx hown (mvT hZ (hw _ (List.mem_of_getElem? (i := 22) rfl))) (g := (mkF m 65 #[.val (.int y0)] [(.int y0)])) rfl (hb hby d1_65)) ?_
      show own_Go p e below _ (T.setTop (mkF m 67 #[.val (.int y0)] [(.int (983037 : Int32)), (.int y0)]))
      refine own_iteI (fun hc67 => ?_) (fun hc67 => ?_)
      · skip
        refine own_go (fun _ => XS.icmpYes X.here hx rfl (pc0 := 67) (pc' := 74) rfl (hb hby d1_67) rfl (XT.ii_gt_t hc67) (by decide) (by decide)) ?_
        show own_Go p e below _ (T.setTop (mkF m 74 #[.val (.int y0)] []))
        refine own_go (fun _ => XS.iconst X.here hx rfl (hb hby d1_74)) ?_
        show own_Go p e below _ (T.setTop (mkF m 75 #[.val (.int y0)] [(.int (0 : Int32))]))
        exact own_iret X hx hlk hret (Or.inr (Or.inl rfl)) rfl (hb hby d1_75) (Nat.zero_le _) (Nat.zero_le _) ⟨rfl, eT, rfl⟩
      · skip
        refine own_go (fun _ => XS.icmpNo X.here hx rfl (hb hby d1_67) rfl (XT.ii_gt_f hc67)) ?_
        show own_Go p e below _ (T.setTop (mkF m 70 #[.val (.int y0)] []))
        refine own_go (fun _ => XS.iconst X.here hx rfl (hb hby d1_70)) ?_
        show own_Go p e below _ (T.setTop (mkF m 71 #[.val (.int y0)] [(.int (1 : Int32))]))
        refine own_go (fun _ => XS.goto X.here hx rfl (pc0 := 71) (pc' := 75) rfl (hb hby d1_71) (by decide) (by decide)) ?_
        show own_Go p e below _ (T.setTop (mkF m 75 #[.val (.int y0)] [(.int (1 : Int32))]))
        exact own_iret X hx hlk hret (Or.inr (Or.inl rfl)) rfl (hb hby d1_75) (Nat.zero_le _) (Nat.zero_le _) ⟨rfl, eT, rfl⟩
  have g37 : ∀ (T : State) (X : Stand p l e ({ frames := 0, cells := 0, slots := 0, locals := 0 } : Room) s m #[(.int x0)] below meth c T [] 0 0) (eT : T.heap = h0) (y0 : Int32), own_Go p e below (own_Out s (own_PQ h0 (.int (own_isUcschar_37 y0))) 0 0) (T.setTop (mkF m 37 #[.val (.int y0)] [])) := by
    intro T X eT y0
    show own_Go p e below (own_Out s (own_PQ h0 (.int (if y0 < (65536 : Int32) then (own_isUcschar_58 y0) else (if (917501 : Int32) < y0 then (own_isUcschar_58 y0) else (if (65533 : Int32) < (y0 &&& (65535 : Int32)) then (own_isUcschar_58 y0) else (1 : Int32)))))) 0 0) _
    refine own_go (fun _ => XS.iloadN X.here hx rfl (hb hby d1_37) rfl) ?_
    show own_Go p e below _ (T.setTop (mkF m 38 #[.val (.int y0)] [(.int y0)]))
    refine own_go (X.ldcInt hx hown (mvT hZ (hw _ (List.mem_of_getElem? (i := 10) rfl))) (g := (mkF m 38 #[.val (.int y0)] [(.int y0)])) rfl (hb hby d1_38)) ?_
    show own_Go p e below _ (T.setTop (mkF m 40 #[.val (.int y0)] [(.int (65536 : Int32)), (.int y0)]))
    refine own_iteI (fun hc40 => ?_) (fun hc40 => ?_)
    · skip
      refine own_go (fun _ => XS.icmpYes X.here hx rfl (pc0 := 40) (pc' := 58) rfl (hb hby d1_40) rfl (XT.ii_lt_t hc40) (by decide) (by decide)) ?_
      show own_Go p e below _ (T.setTop (mkF m 58 #[.val (.int y0)] []))
      exact g58 T X eT y0
    · skip
      refine own_go (fun _ => XS.icmpNo X.here hx rfl (hb hby d1_40) rfl (XT.ii_lt_f hc40)) ?_
      show own_Go p e below _ (T.setTop (mkF m 43 #[.val (.int y0)] []))
      refine own_go (fun _ => XS.iloadN X.here hx rfl (hb hby d1_43) rfl) ?_
      show own_Go p e below _ (T.setTop (mkF m 44 #[.val (.int y0)] [(.int y0)]))
      refine own_go (X.ldcInt hx hown (mvT hZ (hw _ (List.mem_of_getElem? (i := 11) rfl))) (g := (mkF m 44 #[.val (.int y0)] [(.int y0)])) rfl (hb hby d1_44)) ?_
      show own_Go p e below _ (T.setTop (mkF m 46 #[.val (.int y0)] [(.int (917501 : Int32)), (.int y0)]))
      refine own_iteI (fun hc46 => ?_) (fun hc46 => ?_)
      · skip
        refine own_go (fun _ => XS.icmpYes X.here hx rfl (pc0 := 46) (pc' := 58) rfl (hb hby d1_46) rfl (XT.ii_gt_t hc46) (by decide) (by decide)) ?_
        show own_Go p e below _ (T.setTop (mkF m 58 #[.val (.int y0)] []))
        exact g58 T X eT y0
      · skip
        refine own_go (fun _ => XS.icmpNo X.here hx rfl (hb hby d1_46) rfl (XT.ii_gt_f hc46)) ?_
        show own_Go p e below _ (T.setTop (mkF m 49 #[.val (.int y0)] []))
        refine own_go (fun _ => XS.iloadN X.here hx rfl (hb hby d1_49) rfl) ?_
        show own_Go p e below _ (T.setTop (mkF m 50 #[.val (.int y0)] [(.int y0)]))
        refine own_go (X.ldcInt hx hown (mvT hZ (hw _ (List.mem_of_getElem? (i := 12) rfl))) (g := (mkF m 50 #[.val (.int y0)] [(.int y0)])) rfl (hb hby d1_50)) ?_
        show own_Go p e below _ (T.setTop (mkF m 52 #[.val (.int y0)] [(.int (65535 : Int32)), (.int y0)]))
        refine own_go (fun _ => XS.iand X.here hx rfl (hb hby d1_52) rfl) ?_
        show own_Go p e below _ (T.setTop (mkF m 53 #[.val (.int y0)] [(.int (y0 &&& (65535 : Int32)))]))
        refine own_go (X.ldcInt hx hown (mvT hZ (hw _ (List.mem_of_getElem? (i := 13) rfl))) (g := (mkF m 53 #[.val (.int y0)] [(.int (y0 &&& (65535 : Int32)))])) rfl (hb hby d1_53)) ?_
        show own_Go p e below _ (T.setTop (mkF m 55 #[.val (.int y0)] [(.int (65533 : Int32)), (.int (y0 &&& (65535 : Int32)))]))
        refine own_iteI (fun hc55 => ?_) (fun hc55 => ?_)
        · skip
          refine own_go (fun _ => XS.icmpNo X.here hx rfl (hb hby d1_55) rfl (XT.ii_le_f hc55)) ?_
          show own_Go p e below _ (T.setTop (mkF m 58 #[.val (.int y0)] []))
          exact g58 T X eT y0
        · skip
          refine own_go (fun _ => XS.icmpYes X.here hx rfl (pc0 := 55) (pc' := 70) rfl (hb hby d1_55) rfl (XT.ii_le_t hc55) (by decide) (by decide)) ?_
          show own_Go p e below _ (T.setTop (mkF m 70 #[.val (.int y0)] []))
          refine own_go (fun _ => XS.iconst X.here hx rfl (hb hby d1_70)) ?_
          show own_Go p e below _ (T.setTop (mkF m 71 #[.val (.int y0)] [(.int (1 : Int32))]))
          refine own_go (fun _ => XS.goto X.here hx rfl (pc0 := 71) (pc' := 75) rfl (hb hby d1_71) (by decide) (by decide)) ?_
          show own_Go p e below _ (T.setTop (mkF m 75 #[.val (.int y0)] [(.int (1 : Int32))]))
          exact own_iret X hx hlk hret (Or.inr (Or.inl rfl)) rfl (hb hby d1_75) (Nat.zero_le _) (Nat.zero_le _) ⟨rfl, eT, rfl⟩
  have g25 : ∀ (T : State) (X : Stand p l e ({ frames := 0, cells := 0, slots := 0, locals := 0 } : Room) s m #[(.int x0)] below meth c T [] 0 0) (eT : T.heap = h0) (y0 : Int32), own_Go p e below (own_Out s (own_PQ h0 (.int (own_isUcschar_25 y0))) 0 0) (T.setTop (mkF m 25 #[.val (.int y0)] [])) := by
    intro T X eT y0
    show own_Go p e below (own_Out s (own_PQ h0 (.int (if y0 < (65008 : Int32) then (own_isUcschar_37 y0) else (if (65519 : Int32) < y0 then (own_isUcschar_37 y0) else (1 : Int32))))) 0 0) _
    refine own_go (fun _ => XS.iloadN X.here hx rfl (hb hby d1_25) rfl) ?_
    show own_Go p e below _ (T.setTop (mkF m 26 #[.val (.int y0)] [(.int y0)]))
    refine own_go (X.ldcInt hx hown (mvT hZ (hw _ (List.mem_of_getElem? (i := 8) rfl))) (g := (mkF m 26 #[.val (.int y0)] [(.int y0)])) rfl (hb hby d1_26)) ?_
    show own_Go p e below _ (T.setTop (mkF m 28 #[.val (.int y0)] [(.int (65008 : Int32)), (.int y0)]))
    refine own_iteI (fun hc28 => ?_) (fun hc28 => ?_)
    · skip
      refine own_go (fun _ => XS.icmpYes X.here hx rfl (pc0 := 28) (pc' := 37) rfl (hb hby d1_28) rfl (XT.ii_lt_t hc28) (by decide) (by decide)) ?_
      show own_Go p e below _ (T.setTop (mkF m 37 #[.val (.int y0)] []))
      exact g37 T X eT y0
    · skip
      refine own_go (fun _ => XS.icmpNo X.here hx rfl (hb hby d1_28) rfl (XT.ii_lt_f hc28)) ?_
      show own_Go p e below _ (T.setTop (mkF m 31 #[.val (.int y0)] []))
      refine own_go (fun _ => XS.iloadN X.here hx rfl (hb hby d1_31) rfl) ?_
      show own_Go p e below _ (T.setTop (mkF m 32 #[.val (.int y0)] [(.int y0)]))
      refine own_go (X.ldcInt hx hown (mvT hZ (hw _ (List.mem_of_getElem? (i := 9) rfl))) (g := (mkF m 32 #[.val (.int y0)] [(.int y0)])) rfl (hb hby d1_32)) ?_
      show own_Go p e below _ (T.setTop (mkF m 34 #[.val (.int y0)] [(.int (65519 : Int32)), (.int y0)]))
      refine own_iteI (fun hc34 => ?_) (fun hc34 => ?_)
      · skip
        refine own_go (fun _ => XS.icmpNo X.here hx rfl (hb hby d1_34) rfl (XT.ii_le_f hc34)) ?_
        show own_Go p e below _ (T.setTop (mkF m 37 #[.val (.int y0)] []))
        exact g37 T X eT y0
      · skip
        refine own_go (fun _ => XS.icmpYes X.here hx rfl (pc0 := 34) (pc' := 70) rfl (hb hby d1_34) rfl (XT.ii_le_t hc34) (by decide) (by decide)) ?_
        show own_Go p e below _ (T.setTop (mkF m 70 #[.val (.int y0)] []))
        refine own_go (fun _ => XS.iconst X.here hx rfl (hb hby d1_70)) ?_
        show own_Go p e below _ (T.setTop (mkF m 71 #[.val (.int y0)] [(.int (1 : Int32))]))
        refine own_go (fun _ => XS.goto X.here hx rfl (pc0 := 71) (pc' := 75) rfl (hb hby d1_71) (by decide) (by decide)) ?_
        show own_Go p e below _ (T.setTop (mkF m 75 #[.val (.int y0)] [(.int (1 : Int32))]))
        exact own_iret X hx hlk hret (Or.inr (Or.inl rfl)) rfl (hb hby d1_75) (Nat.zero_le _) (Nat.zero_le _) ⟨rfl, eT, rfl⟩
  have g13 : ∀ (T : State) (X : Stand p l e ({ frames := 0, cells := 0, slots := 0, locals := 0 } : Room) s m #[(.int x0)] below meth c T [] 0 0) (eT : T.heap = h0) (y0 : Int32), own_Go p e below (own_Out s (own_PQ h0 (.int (own_isUcschar_13 y0))) 0 0) (T.setTop (mkF m 13 #[.val (.int y0)] [])) := by
    intro T X eT y0
    show own_Go p e below (own_Out s (own_PQ h0 (.int (if y0 < (63744 : Int32) then (own_isUcschar_25 y0) else (if (64975 : Int32) < y0 then (own_isUcschar_25 y0) else (1 : Int32))))) 0 0) _
    refine own_go (fun _ => XS.iloadN X.here hx rfl (hb hby d1_13) rfl) ?_
    show own_Go p e below _ (T.setTop (mkF m 14 #[.val (.int y0)] [(.int y0)]))
    refine own_go (X.ldcInt hx hown (mvT hZ (hw _ (List.mem_of_getElem? (i := 6) rfl))) (g := (mkF m 14 #[.val (.int y0)] [(.int y0)])) rfl (hb hby d1_14)) ?_
    show own_Go p e below _ (T.setTop (mkF m 16 #[.val (.int y0)] [(.int (63744 : Int32)), (.int y0)]))
    refine own_iteI (fun hc16 => ?_) (fun hc16 => ?_)
    · skip
      refine own_go (fun _ => XS.icmpYes X.here hx rfl (pc0 := 16) (pc' := 25) rfl (hb hby d1_16) rfl (XT.ii_lt_t hc16) (by decide) (by decide)) ?_
      show own_Go p e below _ (T.setTop (mkF m 25 #[.val (.int y0)] []))
      exact g25 T X eT y0
    · skip
      refine own_go (fun _ => XS.icmpNo X.here hx rfl (hb hby d1_16) rfl (XT.ii_lt_f hc16)) ?_
      show own_Go p e below _ (T.setTop (mkF m 19 #[.val (.int y0)] []))
      refine own_go (fun _ => XS.iloadN X.here hx rfl (hb hby d1_19) rfl) ?_
      show own_Go p e below _ (T.setTop (mkF m 20 #[.val (.int y0)] [(.int y0)]))
      refine own_go (X.ldcInt hx hown (mvT hZ (hw _ (List.mem_of_getElem? (i := 7) rfl))) (g := (mkF m 20 #[.val (.int y0)] [(.int y0)])) rfl (hb hby d1_20)) ?_
      show own_Go p e below _ (T.setTop (mkF m 22 #[.val (.int y0)] [(.int (64975 : Int32)), (.int y0)]))
      refine own_iteI (fun hc22 => ?_) (fun hc22 => ?_)
      · skip
        refine own_go (fun _ => XS.icmpNo X.here hx rfl (hb hby d1_22) rfl (XT.ii_le_f hc22)) ?_
        show own_Go p e below _ (T.setTop (mkF m 25 #[.val (.int y0)] []))
        exact g25 T X eT y0
      · skip
        refine own_go (fun _ => XS.icmpYes X.here hx rfl (pc0 := 22) (pc' := 70) rfl (hb hby d1_22) rfl (XT.ii_le_t hc22) (by decide) (by decide)) ?_
        show own_Go p e below _ (T.setTop (mkF m 70 #[.val (.int y0)] []))
        refine own_go (fun _ => XS.iconst X.here hx rfl (hb hby d1_70)) ?_
        show own_Go p e below _ (T.setTop (mkF m 71 #[.val (.int y0)] [(.int (1 : Int32))]))
        refine own_go (fun _ => XS.goto X.here hx rfl (pc0 := 71) (pc' := 75) rfl (hb hby d1_71) (by decide) (by decide)) ?_
        show own_Go p e below _ (T.setTop (mkF m 75 #[.val (.int y0)] [(.int (1 : Int32))]))
        exact own_iret X hx hlk hret (Or.inr (Or.inl rfl)) rfl (hb hby d1_75) (Nat.zero_le _) (Nat.zero_le _) ⟨rfl, eT, rfl⟩
  show own_Go p e below (own_Out s (own_PQ h0 (.int (own_isUcschar x0))) 0 0) (T.setTop (mkF m 0 #[.val (.int x0)] []))
  show own_Go p e below (own_Out s (own_PQ h0 (.int (if x0 < (160 : Int32) then (own_isUcschar_13 x0) else (if (55295 : Int32) < x0 then (own_isUcschar_13 x0) else (1 : Int32))))) 0 0) _
  refine own_go (fun _ => XS.iloadN X.here hx rfl (hb hby d1_0) rfl) ?_
  show own_Go p e below _ (T.setTop (mkF m 1 #[.val (.int x0)] [(.int x0)]))
  refine own_go (fun _ => XS.sipush X.here hx rfl (hb hby d1_1)) ?_
  show own_Go p e below _ (T.setTop (mkF m 4 #[.val (.int x0)] [(.int (160 : Int32)), (.int x0)]))
  refine own_iteI (fun hc4 => ?_) (fun hc4 => ?_)
  · skip
    refine own_go (fun _ => XS.icmpYes X.here hx rfl (pc0 := 4) (pc' := 13) rfl (hb hby d1_4) rfl (XT.ii_lt_t hc4) (by decide) (by decide)) ?_
    show own_Go p e below _ (T.setTop (mkF m 13 #[.val (.int x0)] []))
    exact g13 T X eT x0
  · skip
    refine own_go (fun _ => XS.icmpNo X.here hx rfl (hb hby d1_4) rfl (XT.ii_lt_f hc4)) ?_
    show own_Go p e below _ (T.setTop (mkF m 7 #[.val (.int x0)] []))
    refine own_go (fun _ => XS.iloadN X.here hx rfl (hb hby d1_7) rfl) ?_
    show own_Go p e below _ (T.setTop (mkF m 8 #[.val (.int x0)] [(.int x0)]))
    refine own_go (X.ldcInt hx hown (mvT hZ (hw _ (List.mem_of_getElem? (i := 5) rfl))) (g := (mkF m 8 #[.val (.int x0)] [(.int x0)])) rfl (hb hby d1_8)) ?_
    show own_Go p e below _ (T.setTop (mkF m 10 #[.val (.int x0)] [(.int (55295 : Int32)), (.int x0)]))
    refine own_iteI (fun hc10 => ?_) (fun hc10 => ?_)
    · skip
      refine own_go (fun _ => XS.icmpNo X.here hx rfl (hb hby d1_10) rfl (XT.ii_le_f hc10)) ?_
      show own_Go p e below _ (T.setTop (mkF m 13 #[.val (.int x0)] []))
      exact g13 T X eT x0
    · skip
      refine own_go (fun _ => XS.icmpYes X.here hx rfl (pc0 := 10) (pc' := 70) rfl (hb hby d1_10) rfl (XT.ii_le_t hc10) (by decide) (by decide)) ?_
      show own_Go p e below _ (T.setTop (mkF m 70 #[.val (.int x0)] []))
      refine own_go (fun _ => XS.iconst X.here hx rfl (hb hby d1_70)) ?_
      show own_Go p e below _ (T.setTop (mkF m 71 #[.val (.int x0)] [(.int (1 : Int32))]))
      refine own_go (fun _ => XS.goto X.here hx rfl (pc0 := 71) (pc' := 75) rfl (hb hby d1_71) (by decide) (by decide)) ?_
      show own_Go p e below _ (T.setTop (mkF m 75 #[.val (.int x0)] [(.int (1 : Int32))]))
      exact own_iret X hx hlk hret (Or.inr (Or.inl rfl)) rfl (hb hby d1_75) (Nat.zero_le _) (Nat.zero_le _) ⟨rfl, eT, rfl⟩
theorem d2_0 : decode method_3_code 0 = .ok (.iload_n 0, 1) := by decide +kernel
theorem d2_1 : decode method_3_code 1 = .ok (.ifCond .ge 5, 3) := by decide +kernel
theorem d2_4 : decode method_3_code 4 = .ok (.iconst 0, 1) := by decide +kernel
theorem d2_5 : decode method_3_code 5 = .ok (.ireturn, 1) := by decide +kernel
theorem d2_6 : decode method_3_code 6 = .ok (.iload_n 0, 1) := by decide +kernel
theorem d2_7 : decode method_3_code 7 = .ok (.bipush 16, 2) := by decide +kernel
theorem d2_9 : decode method_3_code 9 = .ok (.ishr, 1) := by decide +kernel
theorem d2_10 : decode method_3_code 10 = .ok (.istore_n 1, 1) := by decide +kernel
theorem d2_11 : decode method_3_code 11 = .ok (.iload_n 0, 1) := by decide +kernel
theorem d2_12 : decode method_3_code 12 = .ok (.ldc 7, 2) := by decide +kernel
theorem d2_14 : decode method_3_code 14 = .ok (.iand, 1) := by decide +kernel
theorem d2_15 : decode method_3_code 15 = .ok (.istore_n 2, 1) := by decide +kernel
theorem d2_16 : decode method_3_code 16 = .ok (.iload_n 1, 1) := by decide +kernel
theorem d2_17 : decode method_3_code 17 = .ok (.ifCond .ne 50, 3) := by decide +kernel
theorem d2_20 : decode method_3_code 20 = .ok (.iload_n 2, 1) := by decide +kernel
theorem d2_21 : decode method_3_code 21 = .ok (.sipush 160, 3) := by decide +kernel
theorem d2_24 : decode method_3_code 24 = .ok (.if_icmp .lt 11, 3) := by decide +kernel
theorem d2_27 : decode method_3_code 27 = .ok (.iload_n 2, 1) := by decide +kernel
theorem d2_28 : decode method_3_code 28 = .ok (.ldc 19, 2) := by decide +kernel
theorem d2_30 : decode method_3_code 30 = .ok (.if_icmp .gt 5, 3) := by decide +kernel
theorem d2_33 : decode method_3_code 33 = .ok (.iconst 1, 1) := by decide +kernel
theorem d2_34 : decode method_3_code 34 = .ok (.ireturn, 1) := by decide +kernel
theorem d2_35 : decode method_3_code 35 = .ok (.iload_n 2, 1) := by decide +kernel
theorem d2_36 : decode method_3_code 36 = .ok (.ldc 20, 2) := by decide +kernel
theorem d2_38 : decode method_3_code 38 = .ok (.if_icmp .lt 11, 3) := by decide +kernel
theorem d2_41 : decode method_3_code 41 = .ok (.iload_n 2, 1) := by decide +kernel
theorem d2_42 : decode method_3_code 42 = .ok (.ldc 21, 2) := by decide +kernel
theorem d2_44 : decode method_3_code 44 = .ok (.if_icmp .gt 5, 3) := by decide +kernel
theorem d2_47 : decode method_3_code 47 = .ok (.iconst 1, 1) := by decide +kernel
theorem d2_48 : decode method_3_code 48 = .ok (.ireturn, 1) := by decide +kernel
theorem d2_49 : decode method_3_code 49 = .ok (.iload_n 2, 1) := by decide +kernel
theorem d2_50 : decode method_3_code 50 = .ok (.ldc 22, 2) := by decide +kernel
theorem d2_52 : decode method_3_code 52 = .ok (.if_icmp .lt 13, 3) := by decide +kernel
theorem d2_55 : decode method_3_code 55 = .ok (.iload_n 2, 1) := by decide +kernel
theorem d2_56 : decode method_3_code 56 = .ok (.ldc 23, 2) := by decide +kernel
theorem d2_58 : decode method_3_code 58 = .ok (.if_icmp .gt 7, 3) := by decide +kernel
theorem d2_61 : decode method_3_code 61 = .ok (.iconst 1, 1) := by decide +kernel
theorem d2_62 : decode method_3_code 62 = .ok (.goto 4, 3) := by decide +kernel
theorem d2_65 : decode method_3_code 65 = .ok (.iconst 0, 1) := by decide +kernel
theorem d2_66 : decode method_3_code 66 = .ok (.ireturn, 1) := by decide +kernel
theorem d2_67 : decode method_3_code 67 = .ok (.iload_n 1, 1) := by decide +kernel
theorem d2_68 : decode method_3_code 68 = .ok (.iconst 1, 1) := by decide +kernel
theorem d2_69 : decode method_3_code 69 = .ok (.if_icmp .lt 21, 3) := by decide +kernel
theorem d2_72 : decode method_3_code 72 = .ok (.iload_n 1, 1) := by decide +kernel
theorem d2_73 : decode method_3_code 73 = .ok (.bipush 13, 2) := by decide +kernel
theorem d2_75 : decode method_3_code 75 = .ok (.if_icmp .gt 15, 3) := by decide +kernel
theorem d2_78 : decode method_3_code 78 = .ok (.iload_n 2, 1) := by decide +kernel
theorem d2_79 : decode method_3_code 79 = .ok (.ldc 24, 2) := by decide +kernel
theorem d2_81 : decode method_3_code 81 = .ok (.if_icmp .gt 7, 3) := by decide +kernel
theorem d2_84 : decode method_3_code 84 = .ok (.iconst 1, 1) := by decide +kernel
theorem d2_85 : decode method_3_code 85 = .ok (.goto 4, 3) := by decide +kernel
theorem d2_88 : decode method_3_code 88 = .ok (.iconst 0, 1) := by decide +kernel
theorem d2_89 : decode method_3_code 89 = .ok (.ireturn, 1) := by decide +kernel
theorem d2_90 : decode method_3_code 90 = .ok (.iload_n 1, 1) := by decide +kernel
theorem d2_91 : decode method_3_code 91 = .ok (.bipush 14, 2) := by decide +kernel
theorem d2_93 : decode method_3_code 93 = .ok (.if_icmp .ne 22, 3) := by decide +kernel
theorem d2_96 : decode method_3_code 96 = .ok (.iload_n 2, 1) := by decide +kernel
theorem d2_97 : decode method_3_code 97 = .ok (.sipush 4096, 3) := by decide +kernel
theorem d2_100 : decode method_3_code 100 = .ok (.if_icmp .lt 13, 3) := by decide +kernel
theorem d2_103 : decode method_3_code 103 = .ok (.iload_n 2, 1) := by decide +kernel
theorem d2_104 : decode method_3_code 104 = .ok (.ldc 24, 2) := by decide +kernel
theorem d2_106 : decode method_3_code 106 = .ok (.if_icmp .gt 7, 3) := by decide +kernel
theorem d2_109 : decode method_3_code 109 = .ok (.iconst 1, 1) := by decide +kernel
theorem d2_110 : decode method_3_code 110 = .ok (.goto 4, 3) := by decide +kernel
theorem d2_113 : decode method_3_code 113 = .ok (.iconst 0, 1) := by decide +kernel
theorem d2_114 : decode method_3_code 114 = .ok (.ireturn, 1) := by decide +kernel
theorem d2_115 : decode method_3_code 115 = .ok (.iconst 0, 1) := by decide +kernel
theorem d2_116 : decode method_3_code 116 = .ok (.ireturn, 1) := by decide +kernel
def own_expected_49 (y0 : Int32) (y1 : Int32) (y2 : Int32) : Int32 := (if y2 < (65008 : Int32) then (0 : Int32) else (if (65519 : Int32) < y2 then (0 : Int32) else (1 : Int32)))
def own_expected_35 (y0 : Int32) (y1 : Int32) (y2 : Int32) : Int32 := (if y2 < (63744 : Int32) then (own_expected_49 y0 y1 y2) else (if (64975 : Int32) < y2 then (own_expected_49 y0 y1 y2) else (1 : Int32)))
def own_expected_90 (y0 : Int32) (y1 : Int32) (y2 : Int32) : Int32 := (if y1 = (14 : Int32) then (if y2 < (4096 : Int32) then (0 : Int32) else (if (65533 : Int32) < y2 then (0 : Int32) else (1 : Int32))) else (0 : Int32))
def own_expected (x0 : Int32) : Int32 := (if x0 < (0 : Int32) then (0 : Int32) else (if (x0 >>> ((16 : Int32) &&& 31)) = (0 : Int32) then (if (x0 &&& (65535 : Int32)) < (160 : Int32) then (own_expected_35 x0 (x0 >>> ((16 : Int32) &&& 31)) (x0 &&& (65535 : Int32))) else (if (55295 : Int32) < (x0 &&& (65535 : Int32)) then (own_expected_35 x0 (x0 >>> ((16 : Int32) &&& 31)) (x0 &&& (65535 : Int32))) else (1 : Int32))) else (if (x0 >>> ((16 : Int32) &&& 31)) < (1 : Int32) then (own_expected_90 x0 (x0 >>> ((16 : Int32) &&& 31)) (x0 &&& (65535 : Int32))) else (if (13 : Int32) < (x0 >>> ((16 : Int32) &&& 31)) then (own_expected_90 x0 (x0 >>> ((16 : Int32) &&& 31)) (x0 &&& (65535 : Int32))) else (if (65533 : Int32) < (x0 &&& (65535 : Int32)) then (0 : Int32) else (1 : Int32))))))
set_option maxRecDepth 65536 in
set_option maxHeartbeats 40000000 in
theorem own_expected_con (l : Launch) (Z : State) (a0 : Array Value) (hw : ∀ d ∈ tables_1, d.before a0 Z = true) (x0 : Int32)  (h0 : Heap) (ws : List Jvm.Cond) :
    own_Con l Z (⟨"com/example/jadeite/jadeite/formats/UriTextIsUcscharPinLaw", "expected", "(I)Z"⟩ : MethodName) method_3_code 3 (some .boolean) ({ frames := 0, cells := 0, slots := 0, locals := 0 } : Room) #[(.int x0)] h0 (own_PQ h0 (.int (own_expected x0))) ws := by
  refine own_con (F := fun m => (mkF m 0 #[.val (.int x0), .unset, .unset] [])) (own_pn (by first | (simp [plainName, overriddenIn]; done) | decide +kernel)) (fun m => by first | (simp [entryFrame, mkF, argsToLocals, Value.category]; done) | rfl) ?_
  intro p e s m below meth c T X hx hby hml hZ hown hnm hret hlk eT
  have g49 : ∀ (T : State) (X : Stand p l e ({ frames := 0, cells := 0, slots := 0, locals := 0 } : Room) s m #[(.int x0)] below meth c T [] 0 0) (eT : T.heap = h0) (y0 : Int32) (y1 : Int32) (y2 : Int32), own_Go p e below (own_Out s (own_PQ h0 (.int (own_expected_49 y0 y1 y2))) 0 0) (T.setTop (mkF m 49 #[.val (.int y0), .val (.int y1), .val (.int y2)] [])) := by
    intro T X eT y0 y1 y2
    show own_Go p e below (own_Out s (own_PQ h0 (.int (if y2 < (65008 : Int32) then (0 : Int32) else (if (65519 : Int32) < y2 then (0 : Int32) else (1 : Int32))))) 0 0) _
    refine own_go (fun _ => XS.iloadN X.here hx rfl (hb hby d2_49) rfl) ?_
    show own_Go p e below _ (T.setTop (mkF m 50 #[.val (.int y0), .val (.int y1), .val (.int y2)] [(.int y2)]))
    refine own_go (X.ldcInt hx hown (mvT hZ (hw _ (List.mem_of_getElem? (i := 21) rfl))) (g := (mkF m 50 #[.val (.int y0), .val (.int y1), .val (.int y2)] [(.int y2)])) rfl (hb hby d2_50)) ?_
    show own_Go p e below _ (T.setTop (mkF m 52 #[.val (.int y0), .val (.int y1), .val (.int y2)] [(.int (65008 : Int32)), (.int y2)]))
    refine own_iteI (fun hc52 => ?_) (fun hc52 => ?_)
    · skip
      refine own_go (fun _ => XS.icmpYes X.here hx rfl (pc0 := 52) (pc' := 65) rfl (hb hby d2_52) rfl (XT.ii_lt_t hc52) (by decide) (by decide)) ?_
      show own_Go p e below _ (T.setTop (mkF m 65 #[.val (.int y0), .val (.int y1), .val (.int y2)] []))
      refine own_go (fun _ => XS.iconst X.here hx rfl (hb hby d2_65)) ?_
      show own_Go p e below _ (T.setTop (mkF m 66 #[.val (.int y0), .val (.int y1), .val (.int y2)] [(.int (0 : Int32))]))
      exact own_iret X hx hlk hret (Or.inr (Or.inl rfl)) rfl (hb hby d2_66) (Nat.zero_le _) (Nat.zero_le _) ⟨rfl, eT, rfl⟩
    · skip
      refine own_go (fun _ => XS.icmpNo X.here hx rfl (hb hby d2_52) rfl (XT.ii_lt_f hc52)) ?_
      show own_Go p e below _ (T.setTop (mkF m 55 #[.val (.int y0), .val (.int y1), .val (.int y2)] []))
      refine own_go (fun _ => XS.iloadN X.here hx rfl (hb hby d2_55) rfl) ?_
      show own_Go p e below _ (T.setTop (mkF m 56 #[.val (.int y0), .val (.int y1), .val (.int y2)] [(.int y2)]))
      refine own_go (X.ldcInt hx hown (mvT hZ (hw _ (List.mem_of_getElem? (i := 25) rfl))) (g := (mkF m 56 #[.val (.int y0), .val (.int y1), .val (.int y2)] [(.int y2)])) rfl (hb hby d2_56)) ?_
      show own_Go p e below _ (T.setTop (mkF m 58 #[.val (.int y0), .val (.int y1), .val (.int y2)] [(.int (65519 : Int32)), (.int y2)]))
      refine own_iteI (fun hc58 => ?_) (fun hc58 => ?_)
      · skip
        refine own_go (fun _ => XS.icmpYes X.here hx rfl (pc0 := 58) (pc' := 65) rfl (hb hby d2_58) rfl (XT.ii_gt_t hc58) (by decide) (by decide)) ?_
        show own_Go p e below _ (T.setTop (mkF m 65 #[.val (.int y0), .val (.int y1), .val (.int y2)] []))
        refine own_go (fun _ => XS.iconst X.here hx rfl (hb hby d2_65)) ?_
        show own_Go p e below _ (T.setTop (mkF m 66 #[.val (.int y0), .val (.int y1), .val (.int y2)] [(.int (0 : Int32))]))
        exact own_iret X hx hlk hret (Or.inr (Or.inl rfl)) rfl (hb hby d2_66) (Nat.zero_le _) (Nat.zero_le _) ⟨rfl, eT, rfl⟩
      · skip
        refine own_go (fun _ => XS.icmpNo X.here hx rfl (hb hby d2_58) rfl (XT.ii_gt_f hc58)) ?_
        show own_Go p e below _ (T.setTop (mkF m 61 #[.val (.int y0), .val (.int y1), .val (.int y2)] []))
        refine own_go (fun _ => XS.iconst X.here hx rfl (hb hby d2_61)) ?_
        show own_Go p e below _ (T.setTop (mkF m 62 #[.val (.int y0), .val (.int y1), .val (.int y2)] [(.int (1 : Int32))]))
        refine own_go (fun _ => XS.goto X.here hx rfl (pc0 := 62) (pc' := 66) rfl (hb hby d2_62) (by decide) (by decide)) ?_
        show own_Go p e below _ (T.setTop (mkF m 66 #[.val (.int y0), .val (.int y1), .val (.int y2)] [(.int (1 : Int32))]))
        exact own_iret X hx hlk hret (Or.inr (Or.inl rfl)) rfl (hb hby d2_66) (Nat.zero_le _) (Nat.zero_le _) ⟨rfl, eT, rfl⟩
  have g35 : ∀ (T : State) (X : Stand p l e ({ frames := 0, cells := 0, slots := 0, locals := 0 } : Room) s m #[(.int x0)] below meth c T [] 0 0) (eT : T.heap = h0) (y0 : Int32) (y1 : Int32) (y2 : Int32), own_Go p e below (own_Out s (own_PQ h0 (.int (own_expected_35 y0 y1 y2))) 0 0) (T.setTop (mkF m 35 #[.val (.int y0), .val (.int y1), .val (.int y2)] [])) := by
    intro T X eT y0 y1 y2
    show own_Go p e below (own_Out s (own_PQ h0 (.int (if y2 < (63744 : Int32) then (own_expected_49 y0 y1 y2) else (if (64975 : Int32) < y2 then (own_expected_49 y0 y1 y2) else (1 : Int32))))) 0 0) _
    refine own_go (fun _ => XS.iloadN X.here hx rfl (hb hby d2_35) rfl) ?_
    show own_Go p e below _ (T.setTop (mkF m 36 #[.val (.int y0), .val (.int y1), .val (.int y2)] [(.int y2)]))
    refine own_go (X.ldcInt hx hown (mvT hZ (hw _ (List.mem_of_getElem? (i := 20) rfl))) (g := (mkF m 36 #[.val (.int y0), .val (.int y1), .val (.int y2)] [(.int y2)])) rfl (hb hby d2_36)) ?_
    show own_Go p e below _ (T.setTop (mkF m 38 #[.val (.int y0), .val (.int y1), .val (.int y2)] [(.int (63744 : Int32)), (.int y2)]))
    refine own_iteI (fun hc38 => ?_) (fun hc38 => ?_)
    · skip
      refine own_go (fun _ => XS.icmpYes X.here hx rfl (pc0 := 38) (pc' := 49) rfl (hb hby d2_38) rfl (XT.ii_lt_t hc38) (by decide) (by decide)) ?_
      show own_Go p e below _ (T.setTop (mkF m 49 #[.val (.int y0), .val (.int y1), .val (.int y2)] []))
      exact g49 T X eT y0 y1 y2
    · skip
      refine own_go (fun _ => XS.icmpNo X.here hx rfl (hb hby d2_38) rfl (XT.ii_lt_f hc38)) ?_
      show own_Go p e below _ (T.setTop (mkF m 41 #[.val (.int y0), .val (.int y1), .val (.int y2)] []))
      refine own_go (fun _ => XS.iloadN X.here hx rfl (hb hby d2_41) rfl) ?_
      show own_Go p e below _ (T.setTop (mkF m 42 #[.val (.int y0), .val (.int y1), .val (.int y2)] [(.int y2)]))
      refine own_go (X.ldcInt hx hown (mvT hZ (hw _ (List.mem_of_getElem? (i := 24) rfl))) (g := (mkF m 42 #[.val (.int y0), .val (.int y1), .val (.int y2)] [(.int y2)])) rfl (hb hby d2_42)) ?_
      show own_Go p e below _ (T.setTop (mkF m 44 #[.val (.int y0), .val (.int y1), .val (.int y2)] [(.int (64975 : Int32)), (.int y2)]))
      refine own_iteI (fun hc44 => ?_) (fun hc44 => ?_)
      · skip
        refine own_go (fun _ => XS.icmpYes X.here hx rfl (pc0 := 44) (pc' := 49) rfl (hb hby d2_44) rfl (XT.ii_gt_t hc44) (by decide) (by decide)) ?_
        show own_Go p e below _ (T.setTop (mkF m 49 #[.val (.int y0), .val (.int y1), .val (.int y2)] []))
        exact g49 T X eT y0 y1 y2
      · skip
        refine own_go (fun _ => XS.icmpNo X.here hx rfl (hb hby d2_44) rfl (XT.ii_gt_f hc44)) ?_
        show own_Go p e below _ (T.setTop (mkF m 47 #[.val (.int y0), .val (.int y1), .val (.int y2)] []))
        refine own_go (fun _ => XS.iconst X.here hx rfl (hb hby d2_47)) ?_
        show own_Go p e below _ (T.setTop (mkF m 48 #[.val (.int y0), .val (.int y1), .val (.int y2)] [(.int (1 : Int32))]))
        exact own_iret X hx hlk hret (Or.inr (Or.inl rfl)) rfl (hb hby d2_48) (Nat.zero_le _) (Nat.zero_le _) ⟨rfl, eT, rfl⟩
  have g90 : ∀ (T : State) (X : Stand p l e ({ frames := 0, cells := 0, slots := 0, locals := 0 } : Room) s m #[(.int x0)] below meth c T [] 0 0) (eT : T.heap = h0) (y0 : Int32) (y1 : Int32) (y2 : Int32), own_Go p e below (own_Out s (own_PQ h0 (.int (own_expected_90 y0 y1 y2))) 0 0) (T.setTop (mkF m 90 #[.val (.int y0), .val (.int y1), .val (.int y2)] [])) := by
    intro T X eT y0 y1 y2
    show own_Go p e below (own_Out s (own_PQ h0 (.int (if y1 = (14 : Int32) then (if y2 < (4096 : Int32) then (0 : Int32) else (if (65533 : Int32) < y2 then (0 : Int32) else (1 : Int32))) else (0 : Int32)))) 0 0) _
    refine own_go (fun _ => XS.iloadN X.here hx rfl (hb hby d2_90) rfl) ?_
    show own_Go p e below _ (T.setTop (mkF m 91 #[.val (.int y0), .val (.int y1), .val (.int y2)] [(.int y1)]))
    refine own_go (fun _ => XS.bipush X.here hx rfl (hb hby d2_91)) ?_
    show own_Go p e below _ (T.setTop (mkF m 93 #[.val (.int y0), .val (.int y1), .val (.int y2)] [(.int (14 : Int32)), (.int y1)]))
    refine own_iteI (fun hc93 => ?_) (fun hc93 => ?_)
    · skip
      refine own_go (fun _ => XS.icmpNo X.here hx rfl (hb hby d2_93) rfl (XT.ii_ne_f hc93)) ?_
      show own_Go p e below _ (T.setTop (mkF m 96 #[.val (.int y0), .val (.int y1), .val (.int y2)] []))
      refine own_go (fun _ => XS.iloadN X.here hx rfl (hb hby d2_96) rfl) ?_
      show own_Go p e below _ (T.setTop (mkF m 97 #[.val (.int y0), .val (.int y1), .val (.int y2)] [(.int y2)]))
      refine own_go (fun _ => XS.sipush X.here hx rfl (hb hby d2_97)) ?_
      show own_Go p e below _ (T.setTop (mkF m 100 #[.val (.int y0), .val (.int y1), .val (.int y2)] [(.int (4096 : Int32)), (.int y2)]))
      refine own_iteI (fun hc100 => ?_) (fun hc100 => ?_)
      · skip
        refine own_go (fun _ => XS.icmpYes X.here hx rfl (pc0 := 100) (pc' := 113) rfl (hb hby d2_100) rfl (XT.ii_lt_t hc100) (by decide) (by decide)) ?_
        show own_Go p e below _ (T.setTop (mkF m 113 #[.val (.int y0), .val (.int y1), .val (.int y2)] []))
        refine own_go (fun _ => XS.iconst X.here hx rfl (hb hby d2_113)) ?_
        show own_Go p e below _ (T.setTop (mkF m 114 #[.val (.int y0), .val (.int y1), .val (.int y2)] [(.int (0 : Int32))]))
        exact own_iret X hx hlk hret (Or.inr (Or.inl rfl)) rfl (hb hby d2_114) (Nat.zero_le _) (Nat.zero_le _) ⟨rfl, eT, rfl⟩
      · skip
        refine own_go (fun _ => XS.icmpNo X.here hx rfl (hb hby d2_100) rfl (XT.ii_lt_f hc100)) ?_
        show own_Go p e below _ (T.setTop (mkF m 103 #[.val (.int y0), .val (.int y1), .val (.int y2)] []))
        refine own_go (fun _ => XS.iloadN X.here hx rfl (hb hby d2_103) rfl) ?_
        show own_Go p e below _ (T.setTop (mkF m 104 #[.val (.int y0), .val (.int y1), .val (.int y2)] [(.int y2)]))
        refine own_go (X.ldcInt hx hown (mvT hZ (hw _ (List.mem_of_getElem? (i := 18) rfl))) (g := (mkF m 104 #[.val (.int y0), .val (.int y1), .val (.int y2)] [(.int y2)])) rfl (hb hby d2_104)) ?_
        show own_Go p e below _ (T.setTop (mkF m 106 #[.val (.int y0), .val (.int y1), .val (.int y2)] [(.int (65533 : Int32)), (.int y2)]))
        refine own_iteI (fun hc106 => ?_) (fun hc106 => ?_)
        · skip
          refine own_go (fun _ => XS.icmpYes X.here hx rfl (pc0 := 106) (pc' := 113) rfl (hb hby d2_106) rfl (XT.ii_gt_t hc106) (by decide) (by decide)) ?_
          show own_Go p e below _ (T.setTop (mkF m 113 #[.val (.int y0), .val (.int y1), .val (.int y2)] []))
          refine own_go (fun _ => XS.iconst X.here hx rfl (hb hby d2_113)) ?_
          show own_Go p e below _ (T.setTop (mkF m 114 #[.val (.int y0), .val (.int y1), .val (.int y2)] [(.int (0 : Int32))]))
          exact own_iret X hx hlk hret (Or.inr (Or.inl rfl)) rfl (hb hby d2_114) (Nat.zero_le _) (Nat.zero_le _) ⟨rfl, eT, rfl⟩
        · skip
          refine own_go (fun _ => XS.icmpNo X.here hx rfl (hb hby d2_106) rfl (XT.ii_gt_f hc106)) ?_
          show own_Go p e below _ (T.setTop (mkF m 109 #[.val (.int y0), .val (.int y1), .val (.int y2)] []))
          refine own_go (fun _ => XS.iconst X.here hx rfl (hb hby d2_109)) ?_
          show own_Go p e below _ (T.setTop (mkF m 110 #[.val (.int y0), .val (.int y1), .val (.int y2)] [(.int (1 : Int32))]))
          refine own_go (fun _ => XS.goto X.here hx rfl (pc0 := 110) (pc' := 114) rfl (hb hby d2_110) (by decide) (by decide)) ?_
          show own_Go p e below _ (T.setTop (mkF m 114 #[.val (.int y0), .val (.int y1), .val (.int y2)] [(.int (1 : Int32))]))
          exact own_iret X hx hlk hret (Or.inr (Or.inl rfl)) rfl (hb hby d2_114) (Nat.zero_le _) (Nat.zero_le _) ⟨rfl, eT, rfl⟩
    · skip
      refine own_go (fun _ => XS.icmpYes X.here hx rfl (pc0 := 93) (pc' := 115) rfl (hb hby d2_93) rfl (XT.ii_ne_t hc93) (by decide) (by decide)) ?_
      show own_Go p e below _ (T.setTop (mkF m 115 #[.val (.int y0), .val (.int y1), .val (.int y2)] []))
      refine own_go (fun _ => XS.iconst X.here hx rfl (hb hby d2_115)) ?_
      show own_Go p e below _ (T.setTop (mkF m 116 #[.val (.int y0), .val (.int y1), .val (.int y2)] [(.int (0 : Int32))]))
      exact own_iret X hx hlk hret (Or.inr (Or.inl rfl)) rfl (hb hby d2_116) (Nat.zero_le _) (Nat.zero_le _) ⟨rfl, eT, rfl⟩
  show own_Go p e below (own_Out s (own_PQ h0 (.int (own_expected x0))) 0 0) (T.setTop (mkF m 0 #[.val (.int x0), .unset, .unset] []))
  show own_Go p e below (own_Out s (own_PQ h0 (.int (if x0 < (0 : Int32) then (0 : Int32) else (if (x0 >>> ((16 : Int32) &&& 31)) = (0 : Int32) then (if (x0 &&& (65535 : Int32)) < (160 : Int32) then (own_expected_35 x0 (x0 >>> ((16 : Int32) &&& 31)) (x0 &&& (65535 : Int32))) else (if (55295 : Int32) < (x0 &&& (65535 : Int32)) then (own_expected_35 x0 (x0 >>> ((16 : Int32) &&& 31)) (x0 &&& (65535 : Int32))) else (1 : Int32))) else (if (x0 >>> ((16 : Int32) &&& 31)) < (1 : Int32) then (own_expected_90 x0 (x0 >>> ((16 : Int32) &&& 31)) (x0 &&& (65535 : Int32))) else (if (13 : Int32) < (x0 >>> ((16 : Int32) &&& 31)) then (own_expected_90 x0 (x0 >>> ((16 : Int32) &&& 31)) (x0 &&& (65535 : Int32))) else (if (65533 : Int32) < (x0 &&& (65535 : Int32)) then (0 : Int32) else (1 : Int32)))))))) 0 0) _
  refine own_go (fun _ => XS.iloadN X.here hx rfl (hb hby d2_0) rfl) ?_
  show own_Go p e below _ (T.setTop (mkF m 1 #[.val (.int x0), .unset, .unset] [(.int x0)]))
  refine own_iteI (fun hc1 => ?_) (fun hc1 => ?_)
  · skip
    refine own_go (fun _ => XS.ifNo X.here hx rfl (hb hby d2_1) rfl (XT.i0_ge_f hc1)) ?_
    show own_Go p e below _ (T.setTop (mkF m 4 #[.val (.int x0), .unset, .unset] []))
    refine own_go (fun _ => XS.iconst X.here hx rfl (hb hby d2_4)) ?_
    show own_Go p e below _ (T.setTop (mkF m 5 #[.val (.int x0), .unset, .unset] [(.int (0 : Int32))]))
    exact own_iret X hx hlk hret (Or.inr (Or.inl rfl)) rfl (hb hby d2_5) (Nat.zero_le _) (Nat.zero_le _) ⟨rfl, eT, rfl⟩
  · skip
    refine own_go (fun _ => XS.ifYes X.here hx rfl (pc0 := 1) (pc' := 6) rfl (hb hby d2_1) rfl (XT.i0_ge_t hc1) (by decide) (by decide)) ?_
    show own_Go p e below _ (T.setTop (mkF m 6 #[.val (.int x0), .unset, .unset] []))
    refine own_go (fun _ => XS.iloadN X.here hx rfl (hb hby d2_6) rfl) ?_
    show own_Go p e below _ (T.setTop (mkF m 7 #[.val (.int x0), .unset, .unset] [(.int x0)]))
    refine own_go (fun _ => XS.bipush X.here hx rfl (hb hby d2_7)) ?_
    show own_Go p e below _ (T.setTop (mkF m 9 #[.val (.int x0), .unset, .unset] [(.int (16 : Int32)), (.int x0)]))
    refine own_go (fun _ => XT.ishr X.here hx rfl (hb hby d2_9) rfl) ?_
    show own_Go p e below _ (T.setTop (mkF m 10 #[.val (.int x0), .unset, .unset] [(.int (x0 >>> ((16 : Int32) &&& 31)))]))
    refine own_go (fun _ => XS.istoreN X.here hx rfl (hb hby d2_10) rfl (l' := #[.val (.int x0), .val (.int (x0 >>> ((16 : Int32) &&& 31))), .unset]) rfl) ?_
    show own_Go p e below _ (T.setTop (mkF m 11 #[.val (.int x0), .val (.int (x0 >>> ((16 : Int32) &&& 31))), .unset] []))
    refine own_go (fun _ => XS.iloadN X.here hx rfl (hb hby d2_11) rfl) ?_
    show own_Go p e below _ (T.setTop (mkF m 12 #[.val (.int x0), .val (.int (x0 >>> ((16 : Int32) &&& 31))), .unset] [(.int x0)]))
    refine own_go (X.ldcInt hx hown (mvT hZ (hw _ (List.mem_of_getElem? (i := 0) rfl))) (g := (mkF m 12 #[.val (.int x0), .val (.int (x0 >>> ((16 : Int32) &&& 31))), .unset] [(.int x0)])) rfl (hb hby d2_12)) ?_
    show own_Go p e below _ (T.setTop (mkF m 14 #[.val (.int x0), .val (.int (x0 >>> ((16 : Int32) &&& 31))), .unset] [(.int (65535 : Int32)), (.int x0)]))
    refine own_go (fun _ => XS.iand X.here hx rfl (hb hby d2_14) rfl) ?_
    show own_Go p e below _ (T.setTop (mkF m 15 #[.val (.int x0), .val (.int (x0 >>> ((16 : Int32) &&& 31))), .unset] [(.int (x0 &&& (65535 : Int32)))]))
    refine own_go (fun _ => XS.istoreN X.here hx rfl (hb hby d2_15) rfl (l' := #[.val (.int x0), .val (.int (x0 >>> ((16 : Int32) &&& 31))), .val (.int (x0 &&& (65535 : Int32)))]) rfl) ?_
    show own_Go p e below _ (T.setTop (mkF m 16 #[.val (.int x0), .val (.int (x0 >>> ((16 : Int32) &&& 31))), .val (.int (x0 &&& (65535 : Int32)))] []))
    refine own_go (fun _ => XS.iloadN X.here hx rfl (hb hby d2_16) rfl) ?_
    show own_Go p e below _ (T.setTop (mkF m 17 #[.val (.int x0), .val (.int (x0 >>> ((16 : Int32) &&& 31))), .val (.int (x0 &&& (65535 : Int32)))] [(.int (x0 >>> ((16 : Int32) &&& 31)))]))
    refine own_iteI (fun hc17 => ?_) (fun hc17 => ?_)
    · skip
      refine own_go (fun _ => XS.ifNo X.here hx rfl (hb hby d2_17) rfl (XT.i0_ne_f hc17)) ?_
      show own_Go p e below _ (T.setTop (mkF m 20 #[.val (.int x0), .val (.int (x0 >>> ((16 : Int32) &&& 31))), .val (.int (x0 &&& (65535 : Int32)))] []))
      refine own_go (fun _ => XS.iloadN X.here hx rfl (hb hby d2_20) rfl) ?_
      show own_Go p e below _ (T.setTop (mkF m 21 #[.val (.int x0), .val (.int (x0 >>> ((16 : Int32) &&& 31))), .val (.int (x0 &&& (65535 : Int32)))] [(.int (x0 &&& (65535 : Int32)))]))
      refine own_go (fun _ => XS.sipush X.here hx rfl (hb hby d2_21)) ?_
      show own_Go p e below _ (T.setTop (mkF m 24 #[.val (.int x0), .val (.int (x0 >>> ((16 : Int32) &&& 31))), .val (.int (x0 &&& (65535 : Int32)))] [(.int (160 : Int32)), (.int (x0 &&& (65535 : Int32)))]))
      refine own_iteI (fun hc24 => ?_) (fun hc24 => ?_)
      · skip
        refine own_go (fun _ => XS.icmpYes X.here hx rfl (pc0 := 24) (pc' := 35) rfl (hb hby d2_24) rfl (XT.ii_lt_t hc24) (by decide) (by decide)) ?_
        show own_Go p e below _ (T.setTop (mkF m 35 #[.val (.int x0), .val (.int (x0 >>> ((16 : Int32) &&& 31))), .val (.int (x0 &&& (65535 : Int32)))] []))
        exact g35 T X eT x0 (x0 >>> ((16 : Int32) &&& 31)) (x0 &&& (65535 : Int32))
      · skip
        refine own_go (fun _ => XS.icmpNo X.here hx rfl (hb hby d2_24) rfl (XT.ii_lt_f hc24)) ?_
        show own_Go p e below _ (T.setTop (mkF m 27 #[.val (.int x0), .val (.int (x0 >>> ((16 : Int32) &&& 31))), .val (.int (x0 &&& (65535 : Int32)))] []))
        refine own_go (fun _ => XS.iloadN X.here hx rfl (hb hby d2_27) rfl) ?_
        show own_Go p e below _ (T.setTop (mkF m 28 #[.val (.int x0), .val (.int (x0 >>> ((16 : Int32) &&& 31))), .val (.int (x0 &&& (65535 : Int32)))] [(.int (x0 &&& (65535 : Int32)))]))
        refine own_go (X.ldcInt hx hown (mvT hZ (hw _ (List.mem_of_getElem? (i := 23) rfl))) (g := (mkF m 28 #[.val (.int x0), .val (.int (x0 >>> ((16 : Int32) &&& 31))), .val (.int (x0 &&& (65535 : Int32)))] [(.int (x0 &&& (65535 : Int32)))])) rfl (hb hby d2_28)) ?_
        show own_Go p e below _ (T.setTop (mkF m 30 #[.val (.int x0), .val (.int (x0 >>> ((16 : Int32) &&& 31))), .val (.int (x0 &&& (65535 : Int32)))] [(.int (55295 : Int32)), (.int (x0 &&& (65535 : Int32)))]))
        refine own_iteI (fun hc30 => ?_) (fun hc30 => ?_)
        · skip
          refine own_go (fun _ => XS.icmpYes X.here hx rfl (pc0 := 30) (pc' := 35) rfl (hb hby d2_30) rfl (XT.ii_gt_t hc30) (by decide) (by decide)) ?_
          show own_Go p e below _ (T.setTop (mkF m 35 #[.val (.int x0), .val (.int (x0 >>> ((16 : Int32) &&& 31))), .val (.int (x0 &&& (65535 : Int32)))] []))
          exact g35 T X eT x0 (x0 >>> ((16 : Int32) &&& 31)) (x0 &&& (65535 : Int32))
        · skip
          refine own_go (fun _ => XS.icmpNo X.here hx rfl (hb hby d2_30) rfl (XT.ii_gt_f hc30)) ?_
          show own_Go p e below _ (T.setTop (mkF m 33 #[.val (.int x0), .val (.int (x0 >>> ((16 : Int32) &&& 31))), .val (.int (x0 &&& (65535 : Int32)))] []))
          refine own_go (fun _ => XS.iconst X.here hx rfl (hb hby d2_33)) ?_
          show own_Go p e below _ (T.setTop (mkF m 34 #[.val (.int x0), .val (.int (x0 >>> ((16 : Int32) &&& 31))), .val (.int (x0 &&& (65535 : Int32)))] [(.int (1 : Int32))]))
          exact own_iret X hx hlk hret (Or.inr (Or.inl rfl)) rfl (hb hby d2_34) (Nat.zero_le _) (Nat.zero_le _) ⟨rfl, eT, rfl⟩
    · skip
      refine own_go (fun _ => XS.ifYes X.here hx rfl (pc0 := 17) (pc' := 67) rfl (hb hby d2_17) rfl (XT.i0_ne_t hc17) (by decide) (by decide)) ?_
      show own_Go p e below _ (T.setTop (mkF m 67 #[.val (.int x0), .val (.int (x0 >>> ((16 : Int32) &&& 31))), .val (.int (x0 &&& (65535 : Int32)))] []))
      refine own_go (fun _ => XS.iloadN X.here hx rfl (hb hby d2_67) rfl) ?_
      show own_Go p e below _ (T.setTop (mkF m 68 #[.val (.int x0), .val (.int (x0 >>> ((16 : Int32) &&& 31))), .val (.int (x0 &&& (65535 : Int32)))] [(.int (x0 >>> ((16 : Int32) &&& 31)))]))
      refine own_go (fun _ => XS.iconst X.here hx rfl (hb hby d2_68)) ?_
      show own_Go p e below _ (T.setTop (mkF m 69 #[.val (.int x0), .val (.int (x0 >>> ((16 : Int32) &&& 31))), .val (.int (x0 &&& (65535 : Int32)))] [(.int (1 : Int32)), (.int (x0 >>> ((16 : Int32) &&& 31)))]))
      refine own_iteI (fun hc69 => ?_) (fun hc69 => ?_)
      · skip
        refine own_go (fun _ => XS.icmpYes X.here hx rfl (pc0 := 69) (pc' := 90) rfl (hb hby d2_69) rfl (XT.ii_lt_t hc69) (by decide) (by decide)) ?_
        show own_Go p e below _ (T.setTop (mkF m 90 #[.val (.int x0), .val (.int (x0 >>> ((16 : Int32) &&& 31))), .val (.int (x0 &&& (65535 : Int32)))] []))
        exact g90 T X eT x0 (x0 >>> ((16 : Int32) &&& 31)) (x0 &&& (65535 : Int32))
      · skip
        refine own_go (fun _ => XS.icmpNo X.here hx rfl (hb hby d2_69) rfl (XT.ii_lt_f hc69)) ?_
        show own_Go p e below _ (T.setTop (mkF m 72 #[.val (.int x0), .val (.int (x0 >>> ((16 : Int32) &&& 31))), .val (.int (x0 &&& (65535 : Int32)))] []))
        refine own_go (fun _ => XS.iloadN X.here hx rfl (hb hby d2_72) rfl) ?_
        show own_Go p e below _ (T.setTop (mkF m 73 #[.val (.int x0), .val (.int (x0 >>> ((16 : Int32) &&& 31))), .val (.int (x0 &&& (65535 : Int32)))] [(.int (x0 >>> ((16 : Int32) &&& 31)))]))
        refine own_go (fun _ => XS.bipush X.here hx rfl (hb hby d2_73)) ?_
        show own_Go p e below _ (T.setTop (mkF m 75 #[.val (.int x0), .val (.int (x0 >>> ((16 : Int32) &&& 31))), .val (.int (x0 &&& (65535 : Int32)))] [(.int (13 : Int32)), (.int (x0 >>> ((16 : Int32) &&& 31)))]))
        refine own_iteI (fun hc75 => ?_) (fun hc75 => ?_)
        · skip
          refine own_go (fun _ => XS.icmpYes X.here hx rfl (pc0 := 75) (pc' := 90) rfl (hb hby d2_75) rfl (XT.ii_gt_t hc75) (by decide) (by decide)) ?_
          show own_Go p e below _ (T.setTop (mkF m 90 #[.val (.int x0), .val (.int (x0 >>> ((16 : Int32) &&& 31))), .val (.int (x0 &&& (65535 : Int32)))] []))
          exact g90 T X eT x0 (x0 >>> ((16 : Int32) &&& 31)) (x0 &&& (65535 : Int32))
        · skip
          refine own_go (fun _ => XS.icmpNo X.here hx rfl (hb hby d2_75) rfl (XT.ii_gt_f hc75)) ?_
          show own_Go p e below _ (T.setTop (mkF m 78 #[.val (.int x0), .val (.int (x0 >>> ((16 : Int32) &&& 31))), .val (.int (x0 &&& (65535 : Int32)))] []))
          refine own_go (fun _ => XS.iloadN X.here hx rfl (hb hby d2_78) rfl) ?_
          show own_Go p e below _ (T.setTop (mkF m 79 #[.val (.int x0), .val (.int (x0 >>> ((16 : Int32) &&& 31))), .val (.int (x0 &&& (65535 : Int32)))] [(.int (x0 &&& (65535 : Int32)))]))
          refine own_go (X.ldcInt hx hown (mvT hZ (hw _ (List.mem_of_getElem? (i := 18) rfl))) (g := (mkF m 79 #[.val (.int x0), .val (.int (x0 >>> ((16 : Int32) &&& 31))), .val (.int (x0 &&& (65535 : Int32)))] [(.int (x0 &&& (65535 : Int32)))])) rfl (hb hby d2_79)) ?_
          show own_Go p e below _ (T.setTop (mkF m 81 #[.val (.int x0), .val (.int (x0 >>> ((16 : Int32) &&& 31))), .val (.int (x0 &&& (65535 : Int32)))] [(.int (65533 : Int32)), (.int (x0 &&& (65535 : Int32)))]))
          refine own_iteI (fun hc81 => ?_) (fun hc81 => ?_)
          · skip
            refine own_go (fun _ => XS.icmpYes X.here hx rfl (pc0 := 81) (pc' := 88) rfl (hb hby d2_81) rfl (XT.ii_gt_t hc81) (by decide) (by decide)) ?_
            show own_Go p e below _ (T.setTop (mkF m 88 #[.val (.int x0), .val (.int (x0 >>> ((16 : Int32) &&& 31))), .val (.int (x0 &&& (65535 : Int32)))] []))
            refine own_go (fun _ => XS.iconst X.here hx rfl (hb hby d2_88)) ?_
            show own_Go p e below _ (T.setTop (mkF m 89 #[.val (.int x0), .val (.int (x0 >>> ((16 : Int32) &&& 31))), .val (.int (x0 &&& (65535 : Int32)))] [(.int (0 : Int32))]))
            exact own_iret X hx hlk hret (Or.inr (Or.inl rfl)) rfl (hb hby d2_89) (Nat.zero_le _) (Nat.zero_le _) ⟨rfl, eT, rfl⟩
          · skip
            refine own_go (fun _ => XS.icmpNo X.here hx rfl (hb hby d2_81) rfl (XT.ii_gt_f hc81)) ?_
            show own_Go p e below _ (T.setTop (mkF m 84 #[.val (.int x0), .val (.int (x0 >>> ((16 : Int32) &&& 31))), .val (.int (x0 &&& (65535 : Int32)))] []))
            refine own_go (fun _ => XS.iconst X.here hx rfl (hb hby d2_84)) ?_
            show own_Go p e below _ (T.setTop (mkF m 85 #[.val (.int x0), .val (.int (x0 >>> ((16 : Int32) &&& 31))), .val (.int (x0 &&& (65535 : Int32)))] [(.int (1 : Int32))]))
            refine own_go (fun _ => XS.goto X.here hx rfl (pc0 := 85) (pc' := 89) rfl (hb hby d2_85) (by decide) (by decide)) ?_
            show own_Go p e below _ (T.setTop (mkF m 89 #[.val (.int x0), .val (.int (x0 >>> ((16 : Int32) &&& 31))), .val (.int (x0 &&& (65535 : Int32)))] [(.int (1 : Int32))]))
            exact own_iret X hx hlk hret (Or.inr (Or.inl rfl)) rfl (hb hby d2_89) (Nat.zero_le _) (Nat.zero_le _) ⟨rfl, eT, rfl⟩
def own_law_22 (y0 : Int32) (y1 : Int32) (y2 : Int32) (y3 : Int32) (z0 : Int32) : Int32 := (if (own_isUcschar z0) = (own_expected z0) then (1 : Int32) else (0 : Int32))
def own_law (x0 : Int32) (x1 : Int32) (x2 : Int32) (x3 : Int32) : Int32 := (if (x3 &&& (1 : Int32)) = (0 : Int32) then (own_law_22 x0 x1 x2 x3 x0) else (own_law_22 x0 x1 x2 x3 (((x1 &&& (31 : Int32)) <<< ((16 : Int32) &&& 31)) ||| (x2 &&& (65535 : Int32)))))
set_option maxRecDepth 65536 in
set_option maxHeartbeats 40000000 in
theorem own_law_con (l : Launch) (Z : State) (a0 : Array Value) (hw : ∀ d ∈ tables_1, d.before a0 Z = true) (x0 : Int32) (x1 : Int32) (x2 : Int32) (x3 : Int32)  (h0 : Heap) (ws : List Jvm.Cond) :
    own_Con l Z x code maxLocals ret room_1 #[(.int x0), (.int x1), (.int x2), (.int x3)] h0 (own_PQ h0 (.int (own_law x0 x1 x2 x3))) ws := by
  refine own_con (F := fun m => (mkF m 0 #[.val (.int x0), .val (.int x1), .val (.int x2), .val (.int x3), .unset] [])) (own_pn (by first | (simp [plainName, overriddenIn]; done) | decide +kernel)) (fun m => by first | (simp [entryFrame, mkF, argsToLocals, Value.category, maxLocals]; done) | rfl) ?_
  intro p e s m below meth c T X hx hby hml hZ hown hnm hret hlk eT
  have g22 : ∀ (T : State) (X : Stand p l e room_1 s m #[(.int x0), (.int x1), (.int x2), (.int x3)] below meth c T [] 0 0) (eT : T.heap = h0) (y0 : Int32) (y1 : Int32) (y2 : Int32) (y3 : Int32) (z0 : Int32), own_Go p e below (own_Out s (own_PQ h0 (.int (own_law_22 y0 y1 y2 y3 z0))) 0 0) (T.setTop (mkF m 22 #[.val (.int y0), .val (.int y1), .val (.int y2), .val (.int y3), .unset] [(.int z0)])) := by
    intro T X eT y0 y1 y2 y3 z0
    show own_Go p e below (own_Out s (own_PQ h0 (.int (if (own_isUcschar z0) = (own_expected z0) then (1 : Int32) else (0 : Int32)))) 0 0) _
    refine own_go (fun _ => XS.istore X.here hx rfl (hb hby at_22) rfl (l' := #[.val (.int y0), .val (.int y1), .val (.int y2), .val (.int y3), .val (.int z0)]) rfl) ?_
    show own_Go p e below _ (T.setTop (mkF m 24 #[.val (.int y0), .val (.int y1), .val (.int y2), .val (.int y3), .val (.int z0)] []))
    refine own_go (fun _ => XS.iload X.here hx rfl (hb hby at_24) rfl) ?_
    show own_Go p e below _ (T.setTop (mkF m 26 #[.val (.int y0), .val (.int y1), .val (.int y2), .val (.int y3), .val (.int z0)] [(.int z0)]))
    obtain ⟨T1, X1, e1, st1⟩ := own_callSP X hx hZ hown (argsL := [(.int z0)]) (rest := []) (own_isUcschar_con l Z a0 hw z0  h0 []) eT (hw _ (List.mem_of_getElem? (i := 1) rfl)) (hw _ (List.mem_of_getElem? (i := 2) rfl)) (hw _ (List.mem_of_getElem? (i := 3) rfl)) (hw _ (List.mem_of_getElem? (i := 4) rfl)) (by decide) (by decide +kernel : parseMethodDescriptor "(I)Z" = some ⟨[.int], some .boolean⟩) rfl (g := (mkF m 26 #[.val (.int y0), .val (.int y1), .val (.int y2), .val (.int y3), .val (.int z0)] [(.int z0)])) rfl (by rw [hml]; rfl) rfl 0 (by show 2 * 0 + _ ≤ _; exact Nat.le_of_eq rfl) (hb hby at_26) (by decide) (by decide) rfl rfl (by decide) (by decide)
    refine own_go st1 ?_
    show own_Go p e below _ (T1.setTop (mkF m 29 #[.val (.int y0), .val (.int y1), .val (.int y2), .val (.int y3), .val (.int z0)] [(.int (own_isUcschar z0))]))
    refine own_go (fun _ => XS.iload X1.here hx rfl (hb hby at_29) rfl) ?_
    show own_Go p e below _ (T1.setTop (mkF m 31 #[.val (.int y0), .val (.int y1), .val (.int y2), .val (.int y3), .val (.int z0)] [(.int z0), (.int (own_isUcschar z0))]))
    obtain ⟨T2, X2, e2, st2⟩ := own_callSP X1 hx hZ hown (argsL := [(.int z0)]) (rest := [(.int (own_isUcschar z0))]) (own_expected_con l Z a0 hw z0  h0 []) e1 (hw _ (List.mem_of_getElem? (i := 14) rfl)) (hw _ (List.mem_of_getElem? (i := 15) rfl)) (hw _ (List.mem_of_getElem? (i := 16) rfl)) (hw _ (List.mem_of_getElem? (i := 17) rfl)) (by decide) (by decide +kernel : parseMethodDescriptor "(I)Z" = some ⟨[.int], some .boolean⟩) rfl (g := (mkF m 31 #[.val (.int y0), .val (.int y1), .val (.int y2), .val (.int y3), .val (.int z0)] [(.int z0), (.int (own_isUcschar z0))])) rfl (by rw [hml]; rfl) rfl 1 (by show 2 * 0 + _ ≤ _; exact Nat.le_of_eq rfl) (hb hby at_31) (by decide) (by decide) rfl rfl (by decide) (by decide)
    refine own_go st2 ?_
    show own_Go p e below _ (T2.setTop (mkF m 34 #[.val (.int y0), .val (.int y1), .val (.int y2), .val (.int y3), .val (.int z0)] [(.int (own_expected z0)), (.int (own_isUcschar z0))]))
    refine own_iteI (fun hc34 => ?_) (fun hc34 => ?_)
    · skip
      refine own_go (fun _ => XS.icmpNo X2.here hx rfl (hb hby at_34) rfl (XT.ii_ne_f hc34)) ?_
      show own_Go p e below _ (T2.setTop (mkF m 37 #[.val (.int y0), .val (.int y1), .val (.int y2), .val (.int y3), .val (.int z0)] []))
      refine own_go (fun _ => XS.iconst X2.here hx rfl (hb hby at_37)) ?_
      show own_Go p e below _ (T2.setTop (mkF m 38 #[.val (.int y0), .val (.int y1), .val (.int y2), .val (.int y3), .val (.int z0)] [(.int (1 : Int32))]))
      refine own_go (fun _ => XS.goto X2.here hx rfl (pc0 := 38) (pc' := 42) rfl (hb hby at_38) (by decide) (by decide)) ?_
      show own_Go p e below _ (T2.setTop (mkF m 42 #[.val (.int y0), .val (.int y1), .val (.int y2), .val (.int y3), .val (.int z0)] [(.int (1 : Int32))]))
      exact own_iret X2 hx hlk hret (Or.inr (Or.inl rfl)) rfl (hb hby at_42) (Nat.zero_le _) (Nat.zero_le _) ⟨rfl, e2, rfl⟩
    · skip
      refine own_go (fun _ => XS.icmpYes X2.here hx rfl (pc0 := 34) (pc' := 41) rfl (hb hby at_34) rfl (XT.ii_ne_t hc34) (by decide) (by decide)) ?_
      show own_Go p e below _ (T2.setTop (mkF m 41 #[.val (.int y0), .val (.int y1), .val (.int y2), .val (.int y3), .val (.int z0)] []))
      refine own_go (fun _ => XS.iconst X2.here hx rfl (hb hby at_41)) ?_
      show own_Go p e below _ (T2.setTop (mkF m 42 #[.val (.int y0), .val (.int y1), .val (.int y2), .val (.int y3), .val (.int z0)] [(.int (0 : Int32))]))
      exact own_iret X2 hx hlk hret (Or.inr (Or.inl rfl)) rfl (hb hby at_42) (Nat.zero_le _) (Nat.zero_le _) ⟨rfl, e2, rfl⟩
  show own_Go p e below (own_Out s (own_PQ h0 (.int (own_law x0 x1 x2 x3))) 0 0) (T.setTop (mkF m 0 #[.val (.int x0), .val (.int x1), .val (.int x2), .val (.int x3), .unset] []))
  show own_Go p e below (own_Out s (own_PQ h0 (.int (if (x3 &&& (1 : Int32)) = (0 : Int32) then (own_law_22 x0 x1 x2 x3 x0) else (own_law_22 x0 x1 x2 x3 (((x1 &&& (31 : Int32)) <<< ((16 : Int32) &&& 31)) ||| (x2 &&& (65535 : Int32))))))) 0 0) _
  refine own_go (fun _ => XS.iloadN X.here hx rfl (hb hby at_0) rfl) ?_
  show own_Go p e below _ (T.setTop (mkF m 1 #[.val (.int x0), .val (.int x1), .val (.int x2), .val (.int x3), .unset] [(.int x3)]))
  refine own_go (fun _ => XS.iconst X.here hx rfl (hb hby at_1)) ?_
  show own_Go p e below _ (T.setTop (mkF m 2 #[.val (.int x0), .val (.int x1), .val (.int x2), .val (.int x3), .unset] [(.int (1 : Int32)), (.int x3)]))
  refine own_go (fun _ => XS.iand X.here hx rfl (hb hby at_2) rfl) ?_
  show own_Go p e below _ (T.setTop (mkF m 3 #[.val (.int x0), .val (.int x1), .val (.int x2), .val (.int x3), .unset] [(.int (x3 &&& (1 : Int32)))]))
  refine own_iteI (fun hc3 => ?_) (fun hc3 => ?_)
  · skip
    refine own_go (fun _ => XS.ifNo X.here hx rfl (hb hby at_3) rfl (XT.i0_ne_f hc3)) ?_
    show own_Go p e below _ (T.setTop (mkF m 6 #[.val (.int x0), .val (.int x1), .val (.int x2), .val (.int x3), .unset] []))
    refine own_go (fun _ => XS.iloadN X.here hx rfl (hb hby at_6) rfl) ?_
    show own_Go p e below _ (T.setTop (mkF m 7 #[.val (.int x0), .val (.int x1), .val (.int x2), .val (.int x3), .unset] [(.int x0)]))
    refine own_go (fun _ => XS.goto X.here hx rfl (pc0 := 7) (pc' := 22) rfl (hb hby at_7) (by decide) (by decide)) ?_
    show own_Go p e below _ (T.setTop (mkF m 22 #[.val (.int x0), .val (.int x1), .val (.int x2), .val (.int x3), .unset] [(.int x0)]))
    exact g22 T X eT x0 x1 x2 x3 x0
  · skip
    refine own_go (fun _ => XS.ifYes X.here hx rfl (pc0 := 3) (pc' := 10) rfl (hb hby at_3) rfl (XT.i0_ne_t hc3) (by decide) (by decide)) ?_
    show own_Go p e below _ (T.setTop (mkF m 10 #[.val (.int x0), .val (.int x1), .val (.int x2), .val (.int x3), .unset] []))
    refine own_go (fun _ => XS.iloadN X.here hx rfl (hb hby at_10) rfl) ?_
    show own_Go p e below _ (T.setTop (mkF m 11 #[.val (.int x0), .val (.int x1), .val (.int x2), .val (.int x3), .unset] [(.int x1)]))
    refine own_go (fun _ => XS.bipush X.here hx rfl (hb hby at_11)) ?_
    show own_Go p e below _ (T.setTop (mkF m 13 #[.val (.int x0), .val (.int x1), .val (.int x2), .val (.int x3), .unset] [(.int (31 : Int32)), (.int x1)]))
    refine own_go (fun _ => XS.iand X.here hx rfl (hb hby at_13) rfl) ?_
    show own_Go p e below _ (T.setTop (mkF m 14 #[.val (.int x0), .val (.int x1), .val (.int x2), .val (.int x3), .unset] [(.int (x1 &&& (31 : Int32)))]))
    refine own_go (fun _ => XS.bipush X.here hx rfl (hb hby at_14)) ?_
    show own_Go p e below _ (T.setTop (mkF m 16 #[.val (.int x0), .val (.int x1), .val (.int x2), .val (.int x3), .unset] [(.int (16 : Int32)), (.int (x1 &&& (31 : Int32)))]))
    refine own_go (fun _ => XT.ishl X.here hx rfl (hb hby at_16) rfl) ?_
    show own_Go p e below _ (T.setTop (mkF m 17 #[.val (.int x0), .val (.int x1), .val (.int x2), .val (.int x3), .unset] [(.int ((x1 &&& (31 : Int32)) <<< ((16 : Int32) &&& 31)))]))
    refine own_go (fun _ => XS.iloadN X.here hx rfl (hb hby at_17) rfl) ?_
    show own_Go p e below _ (T.setTop (mkF m 18 #[.val (.int x0), .val (.int x1), .val (.int x2), .val (.int x3), .unset] [(.int x2), (.int ((x1 &&& (31 : Int32)) <<< ((16 : Int32) &&& 31)))]))
    refine own_go (X.ldcInt hx hown (mvT hZ (hw _ (List.mem_of_getElem? (i := 0) rfl))) (g := (mkF m 18 #[.val (.int x0), .val (.int x1), .val (.int x2), .val (.int x3), .unset] [(.int x2), (.int ((x1 &&& (31 : Int32)) <<< ((16 : Int32) &&& 31)))])) rfl (hb hby at_18)) ?_
    show own_Go p e below _ (T.setTop (mkF m 20 #[.val (.int x0), .val (.int x1), .val (.int x2), .val (.int x3), .unset] [(.int (65535 : Int32)), (.int x2), (.int ((x1 &&& (31 : Int32)) <<< ((16 : Int32) &&& 31)))]))
    refine own_go (fun _ => XS.iand X.here hx rfl (hb hby at_20) rfl) ?_
    show own_Go p e below _ (T.setTop (mkF m 21 #[.val (.int x0), .val (.int x1), .val (.int x2), .val (.int x3), .unset] [(.int (x2 &&& (65535 : Int32))), (.int ((x1 &&& (31 : Int32)) <<< ((16 : Int32) &&& 31)))]))
    refine own_go (fun _ => XT.ior X.here hx rfl (hb hby at_21) rfl) ?_
    show own_Go p e below _ (T.setTop (mkF m 22 #[.val (.int x0), .val (.int x1), .val (.int x2), .val (.int x3), .unset] [(.int (((x1 &&& (31 : Int32)) <<< ((16 : Int32) &&& 31)) ||| (x2 &&& (65535 : Int32))))]))
    exact g22 T X eT x0 x1 x2 x3 (((x1 &&& (31 : Int32)) <<< ((16 : Int32) &&& 31)) ||| (x2 &&& (65535 : Int32)))
theorem own_two {c d : Prop} [Decidable c] [Decidable d] {A B : Int32} : (if c then B else if d then B else A) = if ¬ c ∧ ¬ d then A else B := by
  by_cases h1 : c <;> by_cases h2 : d <;> simp [h1, h2]
theorem own_two' {c d : Prop} [Decidable c] [Decidable d] {A B : Int32} : (if c then B else if d then A else B) = if ¬ c ∧ d then A else B := by
  by_cases h1 : c <;> by_cases h2 : d <;> simp [h1, h2]
theorem own_same (x : Int32) : own_isUcschar x = own_expected x := by
  have e1 : (x &&& (65535 : Int32)).toInt = x.toInt % 65536 := c_mask x 65535 16 (by decide) (by decide)
  have e2 : (x >>> ((16 : Int32) &&& 31)).toInt = x.toInt / 65536 := c_ishr x 16 16 (by decide)
  have b1 := x.toInt_lt
  have b2 := x.le_toInt
  simp only [own_isUcschar, own_isUcschar_13, own_isUcschar_25, own_isUcschar_37, own_isUcschar_58, own_expected, own_expected_35, own_expected_49, own_expected_90, own_two, own_two', Int32.lt_iff_toInt_lt, ← Int32.toInt_inj, e1, e2]
  simp only [Int32.reduceToInt]
  generalize x.toInt = n at *
  by_cases q : n < 0
  · rw [if_pos q]
    repeat' split
    all_goals first | rfl | (exfalso; omega)
  · rw [if_neg q]
    by_cases q2 : n / 65536 = 0
    · rw [if_pos q2]
      repeat' split
      all_goals first | rfl | (exfalso; omega)
    · rw [if_neg q2]
      repeat' split
      all_goals first | rfl | (exfalso; omega)
theorem own_law_one (x0 x1 x2 x3 : Int32) : own_law x0 x1 x2 x3 = 1 := by
  unfold own_law own_law_22
  simp only [own_same, if_true, ite_self]
def own_Q1 (n0 : Nat) (v : Option Value) (h : Heap) (L : List Loc) : Prop := v = some (.int 1) ∧ Fr n0 L
theorem own_main_con (l : Launch) (Z : State) (a0 : Array Value) (hw : ∀ d ∈ tables_1, d.before a0 Z = true) (x0 : Int32) (x1 : Int32) (x2 : Int32) (x3 : Int32) (h0 : Heap) (ws : List Jvm.Cond) :
    own_Con l Z x code maxLocals ret room_1 #[(.int x0), (.int x1), (.int x2), (.int x3)] h0 (own_Q1 h0.size) ws :=
  (own_law_con l Z a0 hw x0 x1 x2 x3 h0 ws).mono fun v h L q => ⟨by rw [q.1, own_law_one], by rw [q.2.2]; exact Fr.nil _⟩
set_option maxRecDepth 65536 in
set_option maxHeartbeats 40000000 in
theorem comes_1 {Post : Tables → Env → Array Value → State → Outcome → State → Prop} (hpost : ∀ tb e args s v u, (limb_1_1.after args s (.returned v) u = true ∧ limb_1_2.after args s (.returned v) u = true ∧ True) → FrameEnd s (.returned v) u (Jvm.fieldLocs frame_1_writes args s ++ Jvm.arrayLocs frame_1_arrays args s ++ Jvm.staticLocs frame_1_statics s) 0 0 → Post tb e args s (.returned v) u) :
    ArmFor flags0 classFile x code maxLocals ret World_1 tables_1 room_1 Calls_1 rest_1 Pre_1 Post := by
  intro l hfl _ _ p e ha hc hk s m args below hf hA hF happ hP
  obtain ⟨hcalls, hrest, hpre⟩ := hP
  obtain ⟨-, -, -, hnamed, -, -, -, hat⟩ := (Spec.applies_iff hf).mp happ
  obtain ⟨hg, hn⟩ := and_e (Cond.before_iff.mp (show (Jvm.Cond.and given_1 narrow_1).before args s = true from hpre))
  obtain ⟨gc, gr0⟩ := and_e hg
  obtain ⟨g0, gr1⟩ := and_e gr0
  obtain ⟨g1, gr2⟩ := and_e gr1
  obtain ⟨g2, gr3⟩ := and_e gr2
  obtain ⟨w0, w1, w2, w3, rfl⟩ : ∃ w0 w1 w2 w3 : Value, args = #[w0, w1, w2, w3] := by
    have hs : args.size = 4 := by simpa [Cond.value, given_1] using gc
    obtain ⟨L⟩ := args
    match L, hs with
    | [w0, w1, w2, w3], _ => exact ⟨w0, w1, w2, w3, rfl⟩
  have hw := fun d (hd : d ∈ tables_1) => atoms_spec (ws := Jvm.Cond.code x code maxLocals ret :: tables_1) hat d (List.mem_cons_of_mem _ hd)
  have hfit : Fit s := fun {y c} hc i hi => by
    obtain ⟨ha, rfl⟩ := Array.getElem?_eq_some_iff.mp hc
    have q := List.all_eq_true.mp ((Array.all_eq_true_iff_forall_mem.mp hF) _ (Array.getElem_mem ha)) i (List.mem_range.mpr hi)
    simpa [Array.getElem?_eq_getElem hi] using q
  obtain ⟨i0, ei0⟩ := is_v g0
  obtain rfl : w0 = (.int i0) := Option.some.inj ei0
  obtain ⟨i1, ei1⟩ := is_v g1
  obtain rfl : w1 = (.int i1) := Option.some.inj ei1
  obtain ⟨i2, ei2⟩ := is_v g2
  obtain rfl : w2 = (.int i2) := Option.some.inj ei2
  obtain ⟨i3, ei3⟩ := is_v gr3
  obtain rfl : w3 = (.int i3) := Option.some.inj ei3
  obtain ⟨n, o, h1, h2, h3, _, L, rfl, ⟨rfl, N⟩, hq⟩ := own_main_con l s _ hw i0 i1 i2 i3  s.heap tables_1 p e ha hc hk s m _ below hf ((Spec.applies_iff_loose hf).mp happ).1 ⟨rfl, State.Warmed39.refl s, rfl⟩ trivial
  refine ⟨n, _, h1, h2, h3, hpost _ _ _ _ _ _ ⟨Cond.after_iff.mpr rfl, Cond.after_iff.mpr (eq_i res_at (Term.int_eval (1)) rfl), trivial⟩ ⟨hq.1, hq.2.1, (hq.2.2.sift fun y hy => Or.inr (N y hy)).mono (by decide) (by decide)⟩⟩
theorem main_1_1 : Claimed_1_1 := comes_1 fun _ _ _ _ _ _ h hF => ⟨h.1, hF⟩
theorem main_1_2 : Claimed_1_2 := comes_1 fun _ _ _ _ _ _ h hF => ⟨h.2.1, hF⟩
end Jvm.Pilot.@@N@@
namespace Jvm.Pilot.@@N@@
open Jvm Jvm.ClassFile Sem Op Lib Jvm.Free Jvm.Stand Jvm.Pilot.@@N@@.Jvm.D
/-! MADE BY PROGRAM (witnessworld.py) out of the Statement's table words and the real class files: 7 classes; the members and pool entries that the words name. The judged class is class 1, her method 1. -/
namespace start1
open Jvm.ClassFile
def u (s : String) : CpInfo := .utf8 (stringToUtf16 s)
/-- a pool by its gaps: so many unusable entries, then the entry; so many at the end -/
def gap : Nat → List CpInfo → List CpInfo
  | 0, r => r
  | n + 1, r => .unusable :: gap n r
def poolList (es : List (Nat × CpInfo)) (last : Nat) : List CpInfo := es.foldr (fun e r => gap e.1 (e.2 :: r)) (gap last [])
def pool (es : List (Nat × CpInfo)) (last : Nat) : Array CpInfo := ⟨poolList es last⟩
def fileOf (pool : Array CpInfo) (this : Nat) (attrs : Array Attribute := #[]) (ms : Array MethodInfo := #[]) (fl : Nat := 33) (sup : Nat := 0) (ifs : Array Nat := #[]) (fds : Array FieldInfo := #[]) : ClassFile where
  minorVersion := 0
  majorVersion := 65
  constantPool := pool
  accessFlags := fl
  thisClass := this
  superClass := sup
  interfaces := ifs
  fields := fds
  methods := ms
  attributes := attrs
def plain (name : String) (sup : Option ClassId) : Class where
  name := name
  kind := .ordinary
  loader := none
  accessFlags := 33
  super := sup
  interfaces := #[]
  cf := none
  fields := #[]
  methods := #[]
  instanceTypes := #[]
  staticTypes := #[]
  resolved := #[]
  callSites := []
  init := .initialized
  statics := none
  mirror := none

def pool0 : Array CpInfo := pool [(5, u "<init>"), (0, u "()V"), (1, .class_ 10), (1, u "java/lang/Object")] 113

def k0m0 : Method := { name := "<init>", desc := "()V", sig := { parameters := [], returnType := none }, accessFlags := 1, code := none }
/-- java/lang/Object -/
def k0 : Class := { plain "java/lang/Object" none with
  accessFlags := 33
  interfaces := #[]
  cf := some (fileOf pool0 8 #[] #[{ accessFlags := 1, nameIndex := 5, descriptorIndex := 6, attributes := #[] }] 33 0 #[] #[])
  fields := #[]
  methods := #[k0m0]
  instanceTypes := #[]
  staticTypes := #[]
  resolved := Array.replicate 124 none
  statics := none }

def pool1 : Array CpInfo := pool [(2, .class_ 4), (1, u "java/lang/Object"), (0, u "<init>"), (0, u "()V"), (0, .integer 65535), (0, .methodref 9 10), (0, .class_ 11), (0, .nameAndType 12 13), (0, u "com/example/jadeite/jadeite/formats/UriText"), (0, u "isUcschar"), (0, u "(I)Z"), (0, .methodref 15 16), (0, .class_ 17), (0, .nameAndType 18 13), (0, u "com/example/jadeite/jadeite/formats/UriTextIsUcscharPinLaw"), (0, u "expected"), (0, .integer 55295), (0, .integer 63744), (0, .integer 64975), (0, .integer 65008), (0, .integer 65519), (0, .integer 65533), (2, u "law"), (0, u "(IIII)Z")] 3

def k1m0 : Method := { name := "<init>", desc := "()V", sig := { parameters := [], returnType := none }, accessFlags := 2, code := none }
def k1c1 : Code := { maxStack := 3, maxLocals := 5, code := code, exceptionTable := #[], attributes := #[] }
def k1m1 : Method := { name := "law", desc := "(IIII)Z", sig := { parameters := [.int, .int, .int, .int], returnType := some .boolean }, accessFlags := 9, code := some k1c1 }
def k1c2 : Code := { maxStack := 2, maxLocals := 3, code := method_3_code, exceptionTable := #[], attributes := #[] }
def k1m2 : Method := { name := "expected", desc := "(I)Z", sig := { parameters := [.int], returnType := some .boolean }, accessFlags := 10, code := some k1c2 }
/-- com/example/jadeite/jadeite/formats/UriTextIsUcscharPinLaw -/
def k1 : Class := { plain "com/example/jadeite/jadeite/formats/UriTextIsUcscharPinLaw" (some 0) with
  accessFlags := 49
  interfaces := #[]
  cf := some (fileOf pool1 15 #[] #[{ accessFlags := 2, nameIndex := 5, descriptorIndex := 6, attributes := #[] }, { accessFlags := 9, nameIndex := 27, descriptorIndex := 28, attributes := #[] }, { accessFlags := 10, nameIndex := 18, descriptorIndex := 13, attributes := #[] }] 49 2 #[] #[])
  fields := #[]
  methods := #[k1m0, k1m1, k1m2]
  instanceTypes := #[]
  staticTypes := #[]
  resolved := Array.replicate 32 none
  statics := none }

def pool2 : Array CpInfo := pool [(2, .class_ 4), (1, u "java/lang/Object"), (0, u "<init>"), (0, u "()V"), (15, .class_ 24), (1, u "com/example/jadeite/jadeite/formats/UriText"), (51, u "(I)Z"), (64, u "isUcschar"), (16, .integer 55295), (0, .integer 63744), (0, .integer 64975), (0, .integer 65008), (0, .integer 65519), (0, .integer 65536), (0, .integer 917501), (0, .integer 65535), (0, .integer 65533), (0, .integer 921600), (0, .integer 983037), (4, u "SUB_DELIMITERS"), (0, u "Ljava/lang/String;"), (3, u "UNRESERVED_SYMBOLS")] 34

def k2m0 : Method := { name := "<init>", desc := "()V", sig := { parameters := [], returnType := none }, accessFlags := 2, code := none }
def k2c1 : Code := { maxStack := 2, maxLocals := 1, code := prog_65_method_8_code, exceptionTable := #[], attributes := #[] }
def k2m1 : Method := { name := "isUcschar", desc := "(I)Z", sig := { parameters := [.int], returnType := some .boolean }, accessFlags := 8, code := some k2c1 }
/-- com/example/jadeite/jadeite/formats/UriText -/
def k2 : Class := { plain "com/example/jadeite/jadeite/formats/UriText" (some 0) with
  accessFlags := 48
  interfaces := #[]
  cf := some (fileOf pool2 22 #[] #[{ accessFlags := 2, nameIndex := 5, descriptorIndex := 6, attributes := #[] }, { accessFlags := 8, nameIndex := 141, descriptorIndex := 76, attributes := #[] }] 48 2 #[] #[{ accessFlags := 26, nameIndex := 173, descriptorIndex := 174, attributes := #[] }, { accessFlags := 26, nameIndex := 178, descriptorIndex := 174, attributes := #[] }])
  fields := #[{ name := "SUB_DELIMITERS", type := (.object "java/lang/String"), accessFlags := 26, slot := 0, constantValue := 0 }, { name := "UNRESERVED_SYMBOLS", type := (.object "java/lang/String"), accessFlags := 26, slot := 1, constantValue := 0 }]
  methods := #[k2m0, k2m1]
  instanceTypes := #[]
  staticTypes := #[(.object "java/lang/String"), (.object "java/lang/String")]
  resolved := Array.replicate 213 none
  statics := none }

def pool3 : Array CpInfo := pool [(1, u "java/lang/Cloneable"), (0, .class_ 1), (0, u "java/lang/Object"), (0, .class_ 3)] 3

/-- java/lang/Cloneable -/
def k3 : Class := { plain "java/lang/Cloneable" (some 0) with
  accessFlags := 1537
  interfaces := #[]
  cf := some (fileOf pool3 2 #[] #[] 1537 4 #[] #[])
  fields := #[]
  methods := #[]
  instanceTypes := #[]
  staticTypes := #[]
  resolved := Array.replicate 8 none
  statics := none }

def pool4 : Array CpInfo := pool [(1, u "java/io/Serializable"), (0, .class_ 1), (0, u "java/lang/Object"), (0, .class_ 3)] 3

/-- java/io/Serializable -/
def k4 : Class := { plain "java/io/Serializable" (some 0) with
  accessFlags := 1537
  interfaces := #[]
  cf := some (fileOf pool4 2 #[] #[] 1537 4 #[] #[])
  fields := #[]
  methods := #[]
  instanceTypes := #[]
  staticTypes := #[]
  resolved := Array.replicate 8 none
  statics := none }

/-- the primitive byte -/
def k5 : Class := { plain "byte" none with kind := .primitive 'B', accessFlags := 0x411 }
/-- [B -/
def k6 : Class := { plain "[B" (some 0) with kind := .array 5 .byte, interfaces := #[3, 4], accessFlags := 1041 }

def heap : Heap := #[]
def classes : Array Class := #[k0, k1, k2, k3, k4, k5, k6]
def interned : List (Array UInt16 × Addr) := []
def slotsUsed : Nat := 0
def theMethod : MethodId := ⟨1, 1⟩
def args0 : Array Value := #[.int 5, .int 7, .int 3, .int 1]
def aboutOver (below : List Frame) : State where
  vm := { classes := classes, interned := interned.toArray }
  heap := heap
  slotsUsed := slotsUsed
  threads := #[{ frames := .invoking theMethod args0 :: below }]
def below0 : List Frame := [.native { method := ⟨0, 0⟩, args := #[] }]
def about1 : State := aboutOver below0
def p0 : Program := .bare "" "" ""
def e0 : Env := launch0.env 0 0 0
theorem w_frames : about1.frames = Frame.invoking theMethod args0 :: below0 := rfl
set_option maxRecDepth 65536 in
theorem w_args : argsFit about1.vm theMethod args0 = true := by decide +kernel
set_option maxRecDepth 65536 in
theorem w_heap : heapFits about1 = true := by decide +kernel
set_option maxRecDepth 65536 in
theorem w_runnable : about1.curStatus? = some .runnable := by decide +kernel
set_option maxRecDepth 65536 in
theorem w_alone : about1.alone = true := by decide +kernel
set_option maxRecDepth 65536 in
theorem w_named : about1.methodNamed? x = some theMethod := by decide +kernel
set_option maxRecDepth 65536 in
theorem w_hears : about1.hears theMethod below0 = true := by decide +kernel
set_option maxRecDepth 65536 in
theorem w_ripe : about1.ripe theMethod args0 below0 = true := by decide +kernel
theorem w_running : about1.status = .running := rfl
set_option maxRecDepth 65536 in
theorem w_room : about1.hasRoom e0.platform room_1 = true :=
  launch0.hasRoom_least _ room_1 (by decide +kernel) (by decide +kernel) (by decide +kernel) (by decide +kernel) (by decide +kernel) (by decide +kernel)
theorem allAtoms_all (ts : List Jvm.Cond) (a : Array Jvm.Value) (st : Jvm.State) : (allAtoms ts).before a st = ts.all (fun c => c.before a st) := by
  induction ts with
  | nil => rfl
  | cons c t ih =>
    show (Jvm.Cond.and c (allAtoms t)).before a st = _
    rw [Jvm.Cond.before_and, ih, List.all_cons]
def words1 : List Jvm.Cond := Jvm.Cond.code x code maxLocals ret :: tables_1
/-- a 'code' word, met by the world's own term for the bytes: nothing is compared byte by byte -/
theorem code_word {y : MethodName} {bytes : ByteArray} {mx : Nat} {rt : Option FieldType} {a : Array Value} {s : State} {m : MethodId} {meth : Method} {c : Code} (h1 : s.methodNamed? y = some m) (h2 : s.vm.method? m = some meth) (h3 : meth.code = some c) (h4 : c.code = bytes)
    (h5 : (c.maxLocals == mx && c.exceptionTable.isEmpty && decide (c.maxStack ≤ mostOperands) && decide (meth.sig.returnType = rt) && !meth.locks && decide (parseMethodDescriptor y.desc = some meth.sig)) = true) : (Jvm.Cond.code y bytes mx rt).before a s = true := by
  simp only [Bool.and_eq_true, beq_iff_eq, Bool.not_eq_true', decide_eq_true_eq] at h5
  obtain ⟨⟨⟨⟨⟨g1, g2⟩, g3⟩, g4⟩, g5⟩, g6⟩ := h5
  simp [Cond.before, Cond.holds, Cond.value, h1, h2, h3, h4, g1, g2, g3, g4, g5, g6]
def isCode : Jvm.Cond → Bool
  | .code _ _ _ _ => true
  | _ => false
theorem all_split {L : List Jvm.Cond} {P : Jvm.Cond → Bool} (h1 : L.all (fun c => isCode c || P c) = true) (h2 : ∀ c ∈ L.filter isCode, P c = true) : L.all P = true := by
  refine List.all_eq_true.mpr fun c hc => ?_
  have h := List.all_eq_true.mp h1 c hc
  rcases Bool.eq_false_or_eq_true (isCode c) with hi | hi
  · exact h2 c (List.mem_filter.mpr ⟨hc, hi⟩)
  · simpa [hi] using h
set_option maxRecDepth 65536 in
theorem w_c0 : (Jvm.Cond.code x code maxLocals ret).before args0 about1 = true := code_word (m := ⟨1, 1⟩) (meth := k1m1) (c := k1c1) (by decide +kernel) rfl rfl rfl (by decide +kernel)
set_option maxRecDepth 65536 in
theorem w_c1 : (Jvm.Cond.code ({ cls := "com/example/jadeite/jadeite/formats/UriText", name := "isUcschar", desc := "(I)Z" } : Jvm.MethodName) prog_65_method_8_code (1 : Nat) (Option.some Jvm.ClassFile.FieldType.boolean)).before args0 about1 = true := code_word (m := ⟨2, 1⟩) (meth := k2m1) (c := k2c1) (by decide +kernel) rfl rfl rfl (by decide +kernel)
set_option maxRecDepth 65536 in
theorem w_c2 : (Jvm.Cond.code ({ cls := "com/example/jadeite/jadeite/formats/UriTextIsUcscharPinLaw", name := "expected", desc := "(I)Z" } : Jvm.MethodName) method_3_code (3 : Nat) (Option.some Jvm.ClassFile.FieldType.boolean)).before args0 about1 = true := code_word (m := ⟨1, 2⟩) (meth := k1m2) (c := k1c2) (by decide +kernel) rfl rfl rfl (by decide +kernel)
def codes1 : List Jvm.Cond := [Jvm.Cond.code x code maxLocals ret, Jvm.Cond.code ({ cls := "com/example/jadeite/jadeite/formats/UriText", name := "isUcschar", desc := "(I)Z" } : Jvm.MethodName) prog_65_method_8_code (1 : Nat) (Option.some Jvm.ClassFile.FieldType.boolean), Jvm.Cond.code ({ cls := "com/example/jadeite/jadeite/formats/UriTextIsUcscharPinLaw", name := "expected", desc := "(I)Z" } : Jvm.MethodName) method_3_code (3 : Nat) (Option.some Jvm.ClassFile.FieldType.boolean)]
set_option maxRecDepth 65536 in
theorem codes_eq : words1.filter isCode = codes1 := rfl
theorem w_codes : ∀ c ∈ words1.filter isCode, c.before args0 about1 = true := by
  rw [codes_eq]
  intro c hc
  simp only [codes1, List.mem_cons, List.not_mem_nil, or_false] at hc
  rcases hc with rfl | rfl | rfl
  · exact w_c0
  · exact w_c1
  · exact w_c2
set_option maxRecDepth 65536 in
theorem w_t1 : (words1.take 24).all (fun c => isCode c || c.before args0 about1) = true := by decide +kernel
set_option maxRecDepth 65536 in
theorem w_t2 : (words1.drop 24).all (fun c => isCode c || c.before args0 about1) = true := by decide +kernel
theorem w_tables : (allAtoms (Jvm.Cond.code x code maxLocals ret :: tables_1)).before args0 about1 = true := by
  rw [allAtoms_all]
  show words1.all (fun c => c.before args0 about1) = true
  refine all_split ?_ w_codes
  rw [← List.take_append_drop 24 words1, List.all_append, w_t1, w_t2]
  rfl
set_option maxRecDepth 65536 in
theorem w_case : (Jvm.Cond.and given_1 narrow_1).before args0 about1 = true := by decide +kernel
theorem w_applies : (headSpec (Jvm.Cond.code x code maxLocals ret :: tables_1) room_1).applies x e0.platform about1 = true :=
  (Spec.applies_iff w_frames).mpr ⟨w_running, w_runnable, w_alone, w_named, w_hears, w_ripe, w_room, w_tables⟩
theorem atStart : AtStart classFile x code maxLocals ret World_1 tables_1 room_1 Calls_1 rest_1 Pre_1 launch0 p0 e0 about1 theMethod args0 below0 :=
  ⟨lists_1, trivial, launch0.admits_env _ _ _, launch0.least_env, fairChoices_fair.cas, fairChoices_fair.clock, w_frames, w_args, w_heap, w_applies, trivial, trivial, w_case⟩
end start1
theorem witness_1 : WitnessClaimed_1 := ⟨start1.p0, start1.e0, start1.about1, start1.theMethod, start1.args0, start1.below0, start1.atStart⟩
end Jvm.Pilot.@@N@@
