import JvmDerived
import JvmDerived.Pilot.@@N@@Statement
import JvmDerived.Pilot.@@N@@Code
set_option linter.unusedVariables false
set_option linter.unusedSimpArgs false
namespace Jvm.Pilot.@@N@@
open Jvm Jvm.ClassFile Sem Op Lib Jvm.Free Jvm.Stand Jvm.LawKit Jvm.RoadKit Bundle Jvm.Pilot.@@N@@.Jvm.D
section OwnKit
variable {p : Program} {l : Launch} {e : Env} {R : Room} {s : State} {m : MethodId} {args : Array Value} {below : List Frame} {meth : Method} {c : Code} {T : State} {locs : List Loc} {cells slots : Nat} {Z : State} {a0 : Array Value} {h h' h0 : Heap}
/-- the rest of the body's run, from A on: it ends, and E holds there -/
def own_Go (p : Program) (e : Env) (below : List Frame) (E : Outcome → State → Prop) (A : State) : Prop :=
  ∃ s₂ o, Steps p.tables e below A s₂ ∧ s₂.status = .running ∧ Ended s₂ below o ∧ E o s₂
theorem own_go {E : Outcome → State → Prop} {A B : State} (k : ∀ t, Steps p.tables e below A t → Steps p.tables e below B t) (g : own_Go p e below E A) : own_Go p e below E B := by
  obtain ⟨s₂, o, h1, h2⟩ := g
  exact ⟨s₂, o, k _ h1, h2⟩
theorem own_goT {E : Outcome → State → Prop} {A B : State} (k : Steps p.tables e below B A) (g : own_Go p e below E A) : own_Go p e below E B := own_go (fun _ q => k.trans q) g
/-- what a body leaves -/
def own_Out (s : State) (Q : Option Value → Heap → List Loc → Prop) (C S : Nat) (o : Outcome) (U : State) : Prop :=
  ∃ v L, o = .returned v ∧ Q v U.heap L ∧ FrameEnd s o U L C S
/-- a body's contract: called with as' over the heap h0 it returns, and Q holds of what it returns, of the heap that it leaves and of the places that it wrote -/
def own_Con (l : Launch) (Z : State) (y : MethodName) (bytes : ByteArray) (maxL : Nat) (ret : Option FieldType) (rm : Room) (as' : Array Value) (h0 : Heap) (Q : Option Value → Heap → List Loc → Prop) (ws : List Jvm.Cond) : Prop :=
  MetFree l y (head1 (Jvm.Cond.code y bytes maxL ret :: ws) rm) (fun a U => a = as' ∧ Z.Warmed39 U.vm ∧ U.heap = h0) (fun _ _ _ _ _ => True) (fun _ U o U' => ∃ v L, o = .returned v ∧ Q v U'.heap L ∧ FrameEnd U o U' L rm.cells rm.slots)
theorem own_con {y : MethodName} {bytes : ByteArray} {maxL : Nat} {ret : Option FieldType} {rm : Room} {as' : Array Value} {Q : Option Value → Heap → List Loc → Prop} {ws : List Jvm.Cond} {F : MethodId → JFrame} (hpn : plainFor y = true) (hef : ∀ m, entryFrame m as' maxL = F m)
    (H : ∀ (p : Program) (e : Env) (s : State) (m : MethodId) (below : List Frame) (meth : Method) (c : Code) (T : State), Stand p l e rm s m as' below meth c T [] 0 0 → p.tables.exec = Jvm.exec → c.code = bytes → c.maxLocals = maxL → Z.Warmed39 s.vm → s.vm.findClass y.cls = some m.cls → meth.name = y.name →
      meth.sig.returnType = ret → meth.locks = false → T.heap = h0 → own_Go p e below (own_Out s Q rm.cells rm.slots) (T.setTop (F m))) :
    own_Con l Z y bytes maxL ret rm as' h0 Q ws := by
  refine MetFree.of_bodySF hpn hisR ?_
  intro p e s m args below meth c s₁ Bd hml0 hP hK
  obtain ⟨rfl, hZ, hh⟩ := hP
  have k := H p e s m below meth c s₁ (Stand.of_body Bd) Bd.exec Bd.bytes hml0 hZ (findClass_of_methodNamed Bd.named) (name_of_methodNamed Bd.named Bd.method).1 Bd.returns Bd.notSynchronized (by rw [← hh, Bd.state]; rfl)
  rw [← hef m] at k
  exact k
theorem own_Con.mono {y : MethodName} {bytes : ByteArray} {maxL : Nat} {ret : Option FieldType} {rm : Room} {as' : Array Value} {Q Q' : Option Value → Heap → List Loc → Prop} {ws : List Jvm.Cond} (H : own_Con l Z y bytes maxL ret rm as' h0 Q ws) (k : ∀ v h L, Q v h L → Q' v h L) : own_Con l Z y bytes maxL ret rm as' h0 Q' ws := by
  intro p e ha hc hk s m args below hf happ hP hK
  obtain ⟨n, o, g1, g2, g3, v, L, g4, g5, g6⟩ := H p e ha hc hk s m args below hf happ hP hK
  exact ⟨n, o, g1, g2, g3, v, L, g4, k _ _ _ g5, g6⟩
/-! leaving -/
theorem own_iret (X : Stand p l e R s m args below meth c T locs cells slots) (hx : p.tables.exec = Jvm.exec) (hlk : meth.locks = false) {t : FieldType} (hret : meth.sig.returnType = some t) (hti : t = .int ∨ t = .boolean ∨ t = .byte ∨ t = .char ∨ t = .short) {pc : Nat} {Ls : Array Slot} {z : Int32} (hn : narrow t (.int z) = .int z)
    (hd : decode c.code pc = .ok (.ireturn, 1)) {Q : Option Value → Heap → List Loc → Prop} {C S : Nat} (hC : cells ≤ C) (hS : slots ≤ S) (hq : Q (some (.int z)) T.heap locs) : own_Go p e below (own_Out s Q C S) (T.setTop (mkF m pc Ls [.int z])) := by
  obtain ⟨fs, hr, hrun, hended, hW, hsame⟩ := X.leave (v := some (.int z)) (fun h => by rw [hret] at h; cases h)
  exact ⟨_, _, X.ireturnOut hx hret hn hti hd hr, hrun, hended, _, _, rfl, hq, ⟨_, rfl⟩, hW, hsame.mono hC hS⟩
theorem own_lret (X : Stand p l e R s m args below meth c T locs cells slots) (hx : p.tables.exec = Jvm.exec) (hlk : meth.locks = false) (hret : meth.sig.returnType = some .long) {pc : Nat} {Ls : Array Slot} {z : Int64}
    (hd : decode c.code pc = .ok (.lreturn, 1)) {Q : Option Value → Heap → List Loc → Prop} {C S : Nat} (hC : cells ≤ C) (hS : slots ≤ S) (hq : Q (some (.long z)) T.heap locs) : own_Go p e below (own_Out s Q C S) (T.setTop (mkF m pc Ls [.long z])) := by
  obtain ⟨fs, hr, hrun, hended, hW, hsame⟩ := X.leave (v := some (.long z)) (fun h => by rw [hret] at h; cases h)
  exact ⟨_, _, X.lreturnOut hx hret hd hr, hrun, hended, _, _, rfl, hq, ⟨_, rfl⟩, hW, hsame.mono hC hS⟩
theorem own_aret (X : Stand p l e R s m args below meth c T locs cells slots) (hx : p.tables.exec = Jvm.exec) (hlk : meth.locks = false) {t : FieldType} (hret : meth.sig.returnType = some t) (ht : t.isReference = true) {pc : Nat} {Ls : Array Slot} {w : Value} (hw : w.isRef = true)
    (hd : decode c.code pc = .ok (.areturn, 1)) {Q : Option Value → Heap → List Loc → Prop} {C S : Nat} (hC : cells ≤ C) (hS : slots ≤ S) (hq : Q (some w) T.heap locs) : own_Go p e below (own_Out s Q C S) (T.setTop (mkF m pc Ls [w])) := by
  obtain ⟨fs, hr, hrun, hended, hW, hsame⟩ := X.leave (v := some w) (fun h => by rw [hret] at h; cases h)
  exact ⟨_, _, X.areturnOut hx hw hret ht hd hr, hrun, hended, _, _, rfl, hq, ⟨_, rfl⟩, hW, hsame.mono hC hS⟩
theorem own_vret (X : Stand p l e R s m args below meth c T locs cells slots) (hx : p.tables.exec = Jvm.exec) (hlk : meth.locks = false) (hret : meth.sig.returnType = none) {pc : Nat} {Ls : Array Slot}
    (hd : decode c.code pc = .ok (.return_, 1)) {Q : Option Value → Heap → List Loc → Prop} {C S : Nat} (hC : cells ≤ C) (hS : slots ≤ S) (hq : Q none T.heap locs) : own_Go p e below (own_Out s Q C S) (T.setTop (mkF m pc Ls [])) := by
  obtain ⟨fs, hr, hrun, hended, hW, hsame⟩ := X.leave (v := none) (fun _ => rfl)
  exact ⟨_, _, X.returnOut hx hret hd hr, hrun, hended, _, _, rfl, hq, ⟨_, rfl⟩, hW, hsame.mono hC hS⟩
/-! a body that leaves the heap alone -/
def own_PQ (h0 : Heap) (w : Value) (v : Option Value) (h : Heap) (L : List Loc) : Prop := v = some w ∧ h = h0 ∧ L = []
theorem own_iteI {C : Prop} [Decidable C] {a b : Int32} {k n : Nat} {A : State} (h1 : C → own_Go p e below (own_Out s (own_PQ h0 (.int a)) k n) A) (h2 : ¬ C → own_Go p e below (own_Out s (own_PQ h0 (.int b)) k n) A) : own_Go p e below (own_Out s (own_PQ h0 (.int (if C then a else b))) k n) A := by
  by_cases q : C
  · rw [if_pos q]; exact h1 q
  · rw [if_neg q]; exact h2 q
theorem own_iteL {C : Prop} [Decidable C] {a b : Int64} {k n : Nat} {A : State} (h1 : C → own_Go p e below (own_Out s (own_PQ h0 (.long a)) k n) A) (h2 : ¬ C → own_Go p e below (own_Out s (own_PQ h0 (.long b)) k n) A) : own_Go p e below (own_Out s (own_PQ h0 (.long (if C then a else b))) k n) A := by
  by_cases q : C
  · rw [if_pos q]; exact h1 q
  · rw [if_neg q]; exact h2 q
/-! calls -/
theorem own_callS (X : Stand p l e R s m args below meth c T locs cells slots) (hx : p.tables.exec = Jvm.exec) (hZ : Z.Warmed39 s.vm) {own : String} (hown : s.vm.findClass own = some m.cls) {index : Nat} {y : MethodName} {bytes : ByteArray} {maxL : Nat} {ret : Option FieldType} {rm : Room} {argsL rest : List Value} {Q : Option Value → Heap → List Loc → Prop}
    (hM : own_Con l Z y bytes maxL ret rm argsL.toArray h Q []) (eT : T.heap = h) (wl : (Jvm.Cond.methodLink own index y).before a0 Z = true) (wst : (Jvm.Cond.static y).before a0 Z = true) (wz : (Jvm.Cond.initialized y.cls).before a0 Z = true) (wc : (Jvm.Cond.code y bytes maxL ret).before a0 Z = true) (hy : y.cls ≠ "java/lang/invoke/MethodHandle" ∧ y.cls ≠ "java/lang/invoke/VarHandle")
    {sig : MethodDescriptor} (hpd : parseMethodDescriptor y.desc = some sig) (hlen : argsL.length = sig.parameters.length) {g : JFrame} (hg : g.method = m) (hsize : g.locals.size = c.maxLocals) (hstack : g.stack = argsL.reverse ++ rest) (W : Nat) (hW : 2 * g.monitorRoom + (rest.map fun v => v.category).sum ≤ W) (hdg : decode c.code g.pc = .ok (.invokestatic index, 3))
    (hf : rm.frames + 1 ≤ R.frames) (hl : W + (maxL + 11) + rm.locals ≤ R.locals) (hcs : cells + rm.cells ≤ R.cells) (hss : slots + rm.slots ≤ R.slots) :
    ∃ (v : Option Value) (T' : State) (L : List Loc), Stand p l e R s m args below meth c T' (locs ++ L) (cells + rm.cells) (slots + rm.slots) ∧ Q v T'.heap L ∧ ∀ t, Steps p.tables e below (T'.setTop { g with pc := g.pc + 3, stack := v.toList ++ rest }) t → Steps p.tables e below (T.setTop g) t := by
  obtain ⟨v, _, ⟨T', L', k', n'⟩, -, X', ⟨L, hQ, q1, q2, q3⟩, st⟩ := Jvm.LawKit.callS X hx hown (mvT hZ wl) (mvT hZ wst) (mvT hZ wz) (mvT hZ wc) hy (backOf (W := W) hM hZ wc wz hf hl) hg hsize (argsL := argsL) (rest := rest) (fun sg hsg => by rw [hpd] at hsg; cases hsg; exact hlen) hstack hW hdg (fun _ _ => ⟨rfl, eT, hcs, hss⟩)
  dsimp only [Pt.U, Pt.locs, Pt.cells, Pt.slots] at X' q1 q2 q3 st hQ
  subst q1 q2 q3
  exact ⟨v, T', L, X', hQ, st⟩
theorem own_callSP (X : Stand p l e R s m args below meth c T locs cells slots) (hx : p.tables.exec = Jvm.exec) (hZ : Z.Warmed39 s.vm) {own : String} (hown : s.vm.findClass own = some m.cls) {index : Nat} {y : MethodName} {bytes : ByteArray} {maxL : Nat} {ret : Option FieldType} {rm : Room} {argsL rest : List Value} {w : Value}
    (hM : own_Con l Z y bytes maxL ret rm argsL.toArray h (own_PQ h w) []) (eT : T.heap = h) (wl : (Jvm.Cond.methodLink own index y).before a0 Z = true) (wst : (Jvm.Cond.static y).before a0 Z = true) (wz : (Jvm.Cond.initialized y.cls).before a0 Z = true) (wc : (Jvm.Cond.code y bytes maxL ret).before a0 Z = true) (hy : y.cls ≠ "java/lang/invoke/MethodHandle" ∧ y.cls ≠ "java/lang/invoke/VarHandle")
    {sig : MethodDescriptor} (hpd : parseMethodDescriptor y.desc = some sig) (hlen : argsL.length = sig.parameters.length) {g : JFrame} (hg : g.method = m) (hsize : g.locals.size = c.maxLocals) (hstack : g.stack = argsL.reverse ++ rest) (W : Nat) (hW : 2 * g.monitorRoom + (rest.map fun v => v.category).sum ≤ W) (hdg : decode c.code g.pc = .ok (.invokestatic index, 3))
    (hf : rm.frames + 1 ≤ R.frames) (hl : W + (maxL + 11) + rm.locals ≤ R.locals) (hrc : rm.cells = 0) (hrs : rm.slots = 0) (hcs : cells ≤ R.cells) (hss : slots ≤ R.slots) :
    ∃ (T' : State), Stand p l e R s m args below meth c T' locs cells slots ∧ T'.heap = h ∧ ∀ t, Steps p.tables e below (T'.setTop { g with pc := g.pc + 3, stack := w :: rest }) t → Steps p.tables e below (T.setTop g) t := by
  obtain ⟨v, T', L, X', ⟨rfl, q2, rfl⟩, st⟩ := own_callS X hx hZ hown hM eT wl wst wz wc hy hpd hlen hg hsize hstack W hW hdg hf hl (by omega) (by omega)
  rw [List.append_nil, hrc, hrs] at X'
  exact ⟨T', X', q2, st⟩
theorem own_callI (X : Stand p l e R s m args below meth c T locs cells slots) (hx : p.tables.exec = Jvm.exec) (hZ : Z.Warmed39 s.vm) {own : String} (hown : s.vm.findClass own = some m.cls) {index : Nat} {y : MethodName} (hy1 : y.name = "<init>") {bytes : ByteArray} {maxL : Nat} {rm : Room} {b : Addr} {argsL rest : List Value} {Q : Option Value → Heap → List Loc → Prop}
    (hM : own_Con l Z y bytes maxL none rm (Value.ref b :: argsL).toArray h Q []) (eT : T.heap = h) (wl : (Jvm.Cond.methodLink own index y).before a0 Z = true) (wi : (Jvm.Cond.instanceMethod y).before a0 Z = true) (wz : (Jvm.Cond.initialized y.cls).before a0 Z = true) (wc : (Jvm.Cond.code y bytes maxL none).before a0 Z = true) (hy : y.cls ≠ "java/lang/invoke/MethodHandle" ∧ y.cls ≠ "java/lang/invoke/VarHandle")
    {sig : MethodDescriptor} (hpd : parseMethodDescriptor y.desc = some sig) (hlen : argsL.length = sig.parameters.length) {g : JFrame} (hg : g.method = m) (hsize : g.locals.size = c.maxLocals) (hstack : g.stack = argsL.reverse ++ .ref b :: rest) (W : Nat) (hW : 2 * g.monitorRoom + (rest.map fun v => v.category).sum ≤ W) (hdg : decode c.code g.pc = .ok (.invokespecial index, 3))
    (hf : rm.frames + 1 ≤ R.frames) (hl : W + (maxL + 11) + rm.locals ≤ R.locals) (hcs : cells + rm.cells ≤ R.cells) (hss : slots + rm.slots ≤ R.slots) :
    ∃ (v : Option Value) (T' : State) (L : List Loc), Stand p l e R s m args below meth c T' (locs ++ L) (cells + rm.cells) (slots + rm.slots) ∧ Q v T'.heap L ∧ ∀ t, Steps p.tables e below (T'.setTop { g with pc := g.pc + 3, stack := v.toList ++ rest }) t → Steps p.tables e below (T.setTop g) t := by
  obtain ⟨v, _, ⟨T', L', k', n'⟩, -, X', ⟨L, hQ, q1, q2, q3⟩, st⟩ := X.specialBack hx hy1 hown (mvT hZ wl) (mvT hZ wi) (mvT hZ wc) hy (backOf (W := W) hM hZ wc wz hf hl) hg hsize (Steps.refl _) (a := b) (argsL := argsL) (rest := rest) (fun sg hsg => by rw [hpd] at hsg; cases hsg; exact hlen) hstack hW hdg (fun _ _ => ⟨rfl, eT, hcs, hss⟩)
  dsimp only [Pt.U, Pt.locs, Pt.cells, Pt.slots] at X' q1 q2 q3 st hQ
  subst q1 q2 q3
  exact ⟨v, T', L, X', hQ, fun _ k => st.trans k⟩
theorem own_callV (X : Stand p l e R s m args below meth c T locs cells slots) (hx : p.tables.exec = Jvm.exec) (hZ : Z.Warmed39 s.vm) {own C : String} (hown : s.vm.findClass own = some m.cls) {index : Nat} {y z : MethodName} {bytes : ByteArray} {maxL : Nat} {ret : Option FieldType} {rm : Room} {b : Addr} {argsL rest : List Value} {Q : Option Value → Heap → List Loc → Prop}
    (hM : own_Con l Z z bytes maxL ret rm (Value.ref b :: argsL).toArray h Q []) (eT : T.heap = h) (hE : Exa Z h b C) (wl : (Jvm.Cond.methodLink own index y).before a0 Z = true) (wd : (Jvm.Cond.declares y).before a0 Z = true) (wsel : (Jvm.Cond.selects C y z).before a0 Z = true) (wi : (Jvm.Cond.instanceMethod z).before a0 Z = true) (wz : (Jvm.Cond.initialized z.cls).before a0 Z = true) (wc : (Jvm.Cond.code z bytes maxL ret).before a0 Z = true) (hnf : NotFace s y) (hy : y.cls ≠ "java/lang/invoke/MethodHandle" ∧ y.cls ≠ "java/lang/invoke/VarHandle")
    {sig : MethodDescriptor} (hpd : parseMethodDescriptor y.desc = some sig) (hlen : argsL.length = sig.parameters.length) {g : JFrame} (hg : g.method = m) (hsize : g.locals.size = c.maxLocals) (hstack : g.stack = argsL.reverse ++ .ref b :: rest) (W : Nat) (hW : 2 * g.monitorRoom + (rest.map fun v => v.category).sum ≤ W) (hdg : decode c.code g.pc = .ok (.invokevirtual index, 3))
    (hf : rm.frames + 1 ≤ R.frames) (hl : W + (maxL + 11) + rm.locals ≤ R.locals) (hcs : cells + rm.cells ≤ R.cells) (hss : slots + rm.slots ≤ R.slots) :
    ∃ (v : Option Value) (T' : State) (L : List Loc), Stand p l e R s m args below meth c T' (locs ++ L) (cells + rm.cells) (slots + rm.slots) ∧ Q v T'.heap L ∧ ∀ t, Steps p.tables e below (T'.setTop { g with pc := g.pc + 3, stack := v.toList ++ rest }) t → Steps p.tables e below (T.setTop g) t := by
  obtain ⟨cq, kq, qa, qb, qc⟩ := isOf hZ eT hE
  obtain ⟨v, _, ⟨T', L', k', n'⟩, -, X', ⟨L, hQ, q1, q2, q3⟩, st⟩ := X.virtualBack hx hown (mvT hZ wl) (mvT hZ wd) hnf (mvT hZ wsel) (mvT hZ wi) hy (backOf (W := W) hM hZ wc wz hf hl) qa qc hg hsize (Steps.refl _) (argsL := argsL) (rest := rest) (fun sg hsg => by rw [hpd] at hsg; cases hsg; exact hlen) hstack hW hdg (fun _ _ => ⟨rfl, eT, hcs, hss⟩)
  dsimp only [Pt.U, Pt.locs, Pt.cells, Pt.slots] at X' q1 q2 q3 st hQ
  subst q1 q2 q3
  exact ⟨v, T', L, X', hQ, fun _ k => st.trans k⟩
theorem own_callP (X : Stand p l e R s m args below meth c T locs cells slots) (hx : p.tables.exec = Jvm.exec) (hZ : Z.Warmed39 s.vm) {own C : String} (hown : s.vm.findClass own = some m.cls) {index kk : Nat} {y : MethodName} {bytes : ByteArray} {maxL : Nat} {ret : Option FieldType} {rm : Room} {b : Addr} {argsL rest : List Value} {Q : Option Value → Heap → List Loc → Prop}
    (hM : own_Con l Z y bytes maxL ret rm (Value.ref b :: argsL).toArray h Q []) (eT : T.heap = h) (hE : Exa Z h b C) (wl : (Jvm.Cond.methodLink own index y).before a0 Z = true) (wi : (Jvm.Cond.instanceMethod y).before a0 Z = true) (wp : (Jvm.Cond.privateMethod y).before a0 Z = true) (wn : (Jvm.Cond.instantiable y.cls kk).before a0 Z = true) (wz : (Jvm.Cond.initialized y.cls).before a0 Z = true) (wc : (Jvm.Cond.code y bytes maxL ret).before a0 Z = true) (hy : y.cls ≠ "java/lang/invoke/MethodHandle" ∧ y.cls ≠ "java/lang/invoke/VarHandle")
    {sig : MethodDescriptor} (hpd : parseMethodDescriptor y.desc = some sig) (hlen : argsL.length = sig.parameters.length) {g : JFrame} (hg : g.method = m) (hsize : g.locals.size = c.maxLocals) (hstack : g.stack = argsL.reverse ++ .ref b :: rest) (W : Nat) (hW : 2 * g.monitorRoom + (rest.map fun v => v.category).sum ≤ W) (hdg : decode c.code g.pc = .ok (.invokevirtual index, 3))
    (hf : rm.frames + 1 ≤ R.frames) (hl : W + (maxL + 11) + rm.locals ≤ R.locals) (hcs : cells + rm.cells ≤ R.cells) (hss : slots + rm.slots ≤ R.slots) :
    ∃ (v : Option Value) (T' : State) (L : List Loc), Stand p l e R s m args below meth c T' (locs ++ L) (cells + rm.cells) (slots + rm.slots) ∧ Q v T'.heap L ∧ ∀ t, Steps p.tables e below (T'.setTop { g with pc := g.pc + 3, stack := v.toList ++ rest }) t → Steps p.tables e below (T.setTop g) t := by
  obtain ⟨cq, q, q'⟩ := hE.cell
  have hp := Cond.privateMethod_at (mvP hZ wp (args := #[]))
  have hn : (Jvm.Cond.instantiable y.cls kk).before args s = true := mvT hZ wn
  obtain ⟨c2, k2, i1, i2, i3, i4, -⟩ := Cond.instantiable_spec hn
  have hsel : (Jvm.Cond.selects y.cls y y).before args s = true := selects_self_of_private i1 i2 (Bool.or_eq_false_iff.mp i4).1 hp (mvT hZ wi) hy
  obtain ⟨v, _, ⟨T', L', k', n'⟩, -, X', ⟨L, hQ, q1, q2, q3⟩, st⟩ := X.privateBack hx hown (mvT hZ wl) (mvT hZ wi) hsel hp (mvT hZ wc) hy (backOf (W := W) hM hZ wc wz hf hl) hg hsize (Steps.refl _) (a := b) (by rw [eT]; exact q) q' (argsL := argsL) (rest := rest) (fun sg hsg => by rw [hpd] at hsg; cases hsg; exact hlen) hstack hW hdg (fun _ _ => ⟨rfl, eT, hcs, hss⟩)
  dsimp only [Pt.U, Pt.locs, Pt.cells, Pt.slots] at X' q1 q2 q3 st hQ
  subst q1 q2 q3
  exact ⟨v, T', L, X', hQ, fun _ k => st.trans k⟩
theorem own_pn {y : MethodName} (hq : plainName y.cls = true) : plainFor y = true := plainFor_of_name hq
end OwnKit
section OwnArr
variable {p : Program} {l : Launch} {e : Env} {R : Room} {s : State} {m : MethodId} {args : Array Value} {below : List Frame} {meth : Method} {c : Code} {T : State} {locs : List Loc} {cells slots : Nat} {Z : State} {a0 : Array Value} {h h' h0 : Heap} {a b : Addr} {ty : FieldType} {vs : List Value} {v : Value} {i sl : Nat} {ws : List Addr}
/-- an array of ty's at a, its components vs -/
def own_AV (Z : State) (h : Heap) (a : Addr) (ty : FieldType) (vs : List Value) : Prop := ∃ c : Cell, Arr Z h a c ty ∧ c.slots.toList = vs ∧ vs.length < 2147483648 ∧ ∀ v ∈ vs, fits ty v = true
theorem own_AV.lt (A : own_AV Z h a ty vs) : a < h.size := by obtain ⟨c, q, -⟩ := A; exact q.lt
theorem own_AV.short (A : own_AV Z h a ty vs) : vs.length < 2147483648 := by obtain ⟨c, -, -, q, -⟩ := A; exact q
theorem own_AV.ext (A : own_AV Z h a ty vs) (E : Ext h h') : own_AV Z h' a ty vs := by obtain ⟨c, q, r⟩ := A; exact ⟨c, q.ext E, r⟩
theorem own_AV.other (A : own_AV Z h b ty vs) (W : Wr h h' a sl v) (q : b ≠ a) : own_AV Z h' b ty vs := by obtain ⟨c, k, r⟩ := A; exact ⟨c, k.other W q, r⟩
theorem own_AV.keep (A : own_AV Z h a ty vs) (K : Keep h h' ws) (q : a ∉ ws) : own_AV Z h' a ty vs := by obtain ⟨c, k, r⟩ := A; exact ⟨c, ⟨K.2.1 a c k.1 q, k.2⟩, r⟩
theorem own_AV.set (A : own_AV Z h a ty vs) (W : Wr h h' a i v) (hv : fits ty v = true) : own_AV Z h' a ty (vs.set i v) := by
  obtain ⟨c, k, r, z, f⟩ := A
  refine ⟨c.setSlot i v, k.same W, ?_, by rw [List.length_set]; exact z, fun u hu => ?_⟩
  · show (c.slots.setIfInBounds i v).toList = _
    rw [Array.toList_setIfInBounds, r]
  · rcases List.mem_or_eq_of_mem_set hu with q | q
    · exact f u q
    · rw [q]; exact hv
theorem own_idx {j : Int32} {i : Nat} (hj : j.toInt = i) : ¬ j < 0 ∧ j.toNatClampNeg = i := by
  refine ⟨?_, ?_⟩
  · rw [Int32.lt_iff_toInt_lt, hj]; show ¬ (i : Int) < 0; omega
  · simp only [Int32.toNatClampNeg, hj]; rfl
theorem own_AV_new {cA : ClassId} {n : Int32} {k : Nat} (A : Arr Z h a (newA cA ty n) ty) (hn : n.toInt = k) : own_AV Z h a ty (List.replicate k (defaultValue ty)) := by
  obtain ⟨q1, q2⟩ := own_idx hn
  refine ⟨_, A, ?_, ?_, fun v hv => ?_⟩
  · show (Array.replicate n.toNatClampNeg _).toList = _
    rw [q2, Array.toList_replicate]
  · rw [List.length_replicate]
    have := n.toInt_lt
    omega
  · rw [(List.mem_replicate.mp hv).2]; cases ty <;> rfl
theorem own_newA (X : Stand p l e R s m args below meth c T locs cells slots) (hx : p.tables.exec = Jvm.exec) (hZ : Z.Warmed39 s.vm) {aty : ArrayType} (w : (Jvm.Cond.arrayClass (newarray.typeOf aty)).before a0 Z = true) (eT : T.heap = h) {g : JFrame} (hg : g.method = m) (hd : decode c.code g.pc = .ok (.newarray aty, 2)) {n : Int32} {rest : List Value} (hs : g.stack = .int n :: rest)
    (k cap : Nat) (hn : n.toInt = k) (hk : k ≤ cap) (hb : cap * 8 ≤ 536870912) (hc : cells + 1 ≤ R.cells) (hl : slots + cap ≤ R.slots) :
    ∃ T' h', Stand p l e R s m args below meth c T' locs (cells + 1) (slots + cap) ∧ T'.heap = h' ∧ Ext h h' ∧ own_AV Z h' h.size (newarray.typeOf aty) (List.replicate k (defaultValue (newarray.typeOf aty))) ∧ ∀ t, Steps p.tables e below (T'.setTop { g with pc := g.pc + 2, stack := .ref h.size :: rest }) t → Steps p.tables e below (T.setTop g) t := by
  obtain ⟨q1, q2⟩ := own_idx hn
  obtain ⟨T', h', cA, X', e', E, A, st⟩ := newP X hx hZ w eT hg hd hs q1 (cap := cap) (by rw [q2]; exact hk) hb hc hl
  exact ⟨T', h', X', e', E, own_AV_new A hn, st⟩
theorem own_stI (X : Stand p l e R s m args below meth c T locs cells slots) (hx : p.tables.exec = Jvm.exec) (hZ : Z.Warmed39 s.vm) (eT : T.heap = h) (A : own_AV Z h a .int vs) {j x : Int32} {g : JFrame} (hg : g.method = m) {rest : List Value} (hs : g.stack = .int x :: .int j :: .ref a :: rest) (hd : decode c.code g.pc = .ok (.iastore, 1)) (i : Nat) (hj : j.toInt = i) (hi : i < vs.length) :
    ∃ T' h', Stand p l e R s m args below meth c T' (locs ++ [⟨a, i⟩]) cells slots ∧ T'.heap = h' ∧ Wr h h' a i (.int x) ∧ own_AV Z h' a .int (vs.set i (.int x)) ∧ ∀ t, Steps p.tables e below (T'.setTop { g with pc := g.pc + 1, stack := rest }) t → Steps p.tables e below (T.setTop g) t := by
  obtain ⟨q1, q2⟩ := own_idx hj
  have A' := A
  obtain ⟨cl, k, r, -, -⟩ := A
  have hz : cl.slots.size = vs.length := by rw [← r]; simp
  obtain ⟨T', h', X', e', W, st⟩ := stI X hx hZ eT k (j := j) (x := x) (by rw [q2, hz]; exact fun u => u.elim q1 (fun z => by omega)) hg hs hd
  rw [q2] at X' W
  exact ⟨T', h', X', e', W, A'.set W rfl, st⟩
theorem own_stJ (X : Stand p l e R s m args below meth c T locs cells slots) (hx : p.tables.exec = Jvm.exec) (hZ : Z.Warmed39 s.vm) (eT : T.heap = h) (A : own_AV Z h a .long vs) {j : Int32} {x : Int64} {g : JFrame} (hg : g.method = m) {rest : List Value} (hs : g.stack = .long x :: .int j :: .ref a :: rest) (hd : decode c.code g.pc = .ok (.lastore, 1)) (i : Nat) (hj : j.toInt = i) (hi : i < vs.length) :
    ∃ T' h', Stand p l e R s m args below meth c T' (locs ++ [⟨a, i⟩]) cells slots ∧ T'.heap = h' ∧ Wr h h' a i (.long x) ∧ own_AV Z h' a .long (vs.set i (.long x)) ∧ ∀ t, Steps p.tables e below (T'.setTop { g with pc := g.pc + 1, stack := rest }) t → Steps p.tables e below (T.setTop g) t := by
  obtain ⟨q1, q2⟩ := own_idx hj
  have A' := A
  obtain ⟨cl, k, r, -, -⟩ := A
  have hz : cl.slots.size = vs.length := by rw [← r]; simp
  obtain ⟨T', h', X', e', W, st⟩ := stJ X hx hZ eT k (j := j) (x := x) (by rw [q2, hz]; exact fun u => u.elim q1 (fun z => by omega)) hg hs hd
  rw [q2] at X' W
  exact ⟨T', h', X', e', W, A'.set W rfl, st⟩
theorem own_ldI (X : Stand p l e R s m args below meth c T locs cells slots) (hx : p.tables.exec = Jvm.exec) (hZ : Z.Warmed39 s.vm) (eT : T.heap = h) (A : own_AV Z h a .int vs) {j : Int32} {g : JFrame} (hg : g.method = m) {rest : List Value} (hs : g.stack = .int j :: .ref a :: rest) (hd : decode c.code g.pc = .ok (.iaload, 1)) (i : Nat) (hj : j.toInt = i) {x : Value} (hi : vs[i]? = some x) :
    ∀ t, Steps p.tables e below (T.setTop { g with pc := g.pc + 1, stack := x :: rest }) t → Steps p.tables e below (T.setTop g) t := by
  obtain ⟨q1, q2⟩ := own_idx hj
  obtain ⟨cl, k, r, -, -⟩ := A
  have hz : cl.slots.size = vs.length := by rw [← r]; simp
  have hv : cl.slots[i]? = some x := by rw [← Array.getElem?_toList, r]; exact hi
  have hl := (List.getElem?_eq_some_iff.mp hi).1
  exact X.iaload hx (by rw [eT]; exact k.1) (State.isArrayOf_alike hZ.alike k.2.1) k.2.2 (by rw [q2, hz]; exact fun u => u.elim q1 (fun z => by omega)) (by rw [q2]; exact hv) hg hs hd
theorem own_ldJ (X : Stand p l e R s m args below meth c T locs cells slots) (hx : p.tables.exec = Jvm.exec) (hZ : Z.Warmed39 s.vm) (eT : T.heap = h) (A : own_AV Z h a .long vs) {j : Int32} {g : JFrame} (hg : g.method = m) {rest : List Value} (hs : g.stack = .int j :: .ref a :: rest) (hd : decode c.code g.pc = .ok (.laload, 1)) (i : Nat) (hj : j.toInt = i) {x : Value} (hi : vs[i]? = some x) :
    ∀ t, Steps p.tables e below (T.setTop { g with pc := g.pc + 1, stack := x :: rest }) t → Steps p.tables e below (T.setTop g) t := by
  obtain ⟨q1, q2⟩ := own_idx hj
  obtain ⟨cl, k, r, -, -⟩ := A
  have hz : cl.slots.size = vs.length := by rw [← r]; simp
  have hv : cl.slots[i]? = some x := by rw [← Array.getElem?_toList, r]; exact hi
  have hl := (List.getElem?_eq_some_iff.mp hi).1
  exact X.laload hx (by rw [eT]; exact k.1) (State.isArrayOf_alike hZ.alike k.2.1) k.2.2 (by rw [q2, hz]; exact fun u => u.elim q1 (fun z => by omega)) (by rw [q2]; exact hv) hg hs hd
theorem own_len (X : Stand p l e R s m args below meth c T locs cells slots) (hx : p.tables.exec = Jvm.exec) (hZ : Z.Warmed39 s.vm) (eT : T.heap = h) (A : own_AV Z h a ty vs) {g : JFrame} (hg : g.method = m) {rest : List Value} (hs : g.stack = .ref a :: rest) (hd : decode c.code g.pc = .ok (.arraylength, 1)) (n : Int32) (hn : n.toInt = vs.length) :
    ∀ t, Steps p.tables e below (T.setTop { g with pc := g.pc + 1, stack := .int n :: rest }) t → Steps p.tables e below (T.setTop g) t := by
  obtain ⟨cl, k, r, z, -⟩ := A
  have hz : cl.slots.size = vs.length := by rw [← r]; simp
  have en : cl.slots.size.toInt32 = n := Int32.toInt_inj.mp (by rw [hn, hz]; exact len_toInt z)
  intro t q
  refine X.arraylength hx (by rw [eT]; exact k.1) (State.isArrayOf_alike hZ.alike k.2.1) hg hs hd t ?_
  rw [en]; exact q
theorem own_newAE (X : Stand p l e R s m args below meth c T locs cells slots) (hx : p.tables.exec = Jvm.exec) (hZ : Z.Warmed39 s.vm) {aty : ArrayType} (w : (Jvm.Cond.arrayClass (newarray.typeOf aty)).before a0 Z = true) (eT : T.heap = h) {g : JFrame} (hg : g.method = m) (hd : decode c.code g.pc = .ok (.newarray aty, 2)) {n : Int32} {rest : List Value} (hs : g.stack = .int n :: rest)
    (k cap : Nat) (hn : n.toInt = k) (hk : k ≤ cap) (hb : cap * 8 ≤ 536870912) (hc : cells + 1 ≤ R.cells) (hl : slots + cap ≤ R.slots) {ad : String} (had : "[" ++ (newarray.typeOf aty).toString = ad) :
    ∃ T' h', Stand p l e R s m args below meth c T' locs (cells + 1) (slots + cap) ∧ T'.heap = h' ∧ Ext h h' ∧ own_AV Z h' h.size (newarray.typeOf aty) (List.replicate k (defaultValue (newarray.typeOf aty))) ∧ Exa Z h' h.size ad ∧ ∀ t, Steps p.tables e below (T'.setTop { g with pc := g.pc + 2, stack := .ref h.size :: rest }) t → Steps p.tables e below (T.setTop g) t := by
  obtain ⟨q1, q2⟩ := own_idx hn
  obtain ⟨T', h', cA, X', e', E, A, C, st⟩ := newPE X hx hZ w eT hg hd hs q1 (cap := cap) (by rw [q2]; exact hk) hb hc hl had
  exact ⟨T', h', X', e', E, own_AV_new A hn, C, st⟩
theorem own_AV.arv (A : own_AV Z h a ty vs) {z : Int32} (hz : z.toInt = vs.length) (dv : Value) : ∃ k, Arv Z h a k ty z vs dv := by
  obtain ⟨q1, q2⟩ := own_idx hz
  obtain ⟨cl, k, r, -, f⟩ := A
  have hs : cl.slots.size = vs.length := by rw [← r]; simp
  refine ⟨cl.cls, cl, k, rfl, by rw [hs, q2], q1, fun i hi => ?_, fun i hi => ?_⟩
  · rw [← Array.getElem?_toList, r, List.getD_eq_getElem?_getD, List.getElem?_eq_getElem (by omega)]; rfl
  · rw [List.getD_eq_getElem?_getD, List.getElem?_eq_getElem (by omega)]; exact f _ (List.getElem_mem _)
theorem own_arv {k : ClassId} {z : Int32} {dv : Value} (F : Arv Z h a k ty z vs dv) (hl : vs.length = z.toNatClampNeg) : own_AV Z h a ty vs := by
  obtain ⟨cl, A, -, S, q, H, G⟩ := F
  have hs : cl.slots.size = vs.length := by rw [S, hl]
  have e1 : cl.slots.toList = vs := by
    apply List.ext_getElem?
    intro i
    by_cases hi : i < vs.length
    · have := H i (by omega)
      rw [Array.getElem?_toList, this, List.getD_eq_getElem?_getD, List.getElem?_eq_getElem hi]; rfl
    · rw [List.getElem?_eq_none (l := vs) (by omega), List.getElem?_eq_none (l := cl.slots.toList) (by rw [Array.length_toList]; omega)]
  refine ⟨cl, A, e1, ?_, fun v hv => ?_⟩
  · have := z.toInt_lt
    rw [hl]; simp only [Int32.toNatClampNeg]; omega
  · obtain ⟨i, hi, rfl⟩ := List.getElem_of_mem hv
    have := G i (by omega)
    rw [List.getD_eq_getElem?_getD, List.getElem?_eq_getElem hi] at this
    exact this
theorem own_copy (X : Stand p l e R s m args below meth c T locs cells slots) (hx : p.tables.exec = Jvm.exec) (hZ : Z.Warmed39 s.vm) {own : String} {index : Nat} (hown : s.vm.findClass own = some m.cls)
    (w1 : (Jvm.Cond.methodLink own index Jvm.Stand.acN).before a0 Z = true) (w2 : (Jvm.Cond.native Jvm.Stand.acN).before a0 Z = true) (w3 : (Jvm.Cond.static Jvm.Stand.acN).before a0 Z = true) (w4 : (Jvm.Cond.initialized "java/lang/System").before a0 Z = true) (eT : T.heap = h)
    {us : List Value} (A : own_AV Z h a ty vs) (B : own_AV Z h b ty us) (hp : refKind ty = false) {sp dp nn : Int32} {g : JFrame} (hg : g.method = m) (hsize : g.locals.size = c.maxLocals) {rest : List Value} (hs : g.stack = .int nn :: .int dp :: .ref b :: .int sp :: .ref a :: rest) (hd : decode c.code g.pc = .ok (.invokestatic index, 3))
    (i j n : Nat) (hsp : sp.toInt = i) (hdp : dp.toInt = j) (hn : nn.toInt = n) (h4 : i + n ≤ vs.length) (h5 : j + n ≤ us.length) {n0 : Nat} (N : Fr n0 locs) (ge : n0 ≤ b)
    (W : Nat) (hW : 2 * g.monitorRoom + (rest.map fun v => v.category).sum ≤ W) (hf : 1 ≤ R.frames) (hlo : W + (nativeFrameWords "java/lang/System" "arraycopy" 5 + 11) ≤ R.locals) :
    ∃ T' h' L, Stand p l e R s m args below meth c T' L cells slots ∧ T'.heap = h' ∧ Fr n0 L ∧ Keep h h' [b] ∧ own_AV Z h' b ty (us.take j ++ (vs.drop i).take n ++ us.drop (j + n)) ∧
      ∀ t, Steps p.tables e below (T'.setTop { g with pc := g.pc + 3, stack := rest }) t → Steps p.tables e below (T.setTop g) t := by
  obtain ⟨s1, s2⟩ := own_idx hsp
  obtain ⟨d1, d2⟩ := own_idx hdp
  obtain ⟨n1, n2⟩ := own_idx hn
  have zA := len_toInt A.short
  have zB := len_toInt B.short
  obtain ⟨kA, FA⟩ := A.arv zA .null
  obtain ⟨kB, FB⟩ := B.arv zB .null
  have cA : vs.length.toInt32.toNatClampNeg = vs.length := (own_idx zA).2
  have cB : us.length.toInt32.toNatClampNeg = us.length := (own_idx zB).2
  have hus : (vs.drop i).take n = (List.range nn.toNatClampNeg).map fun q => vs.getD (sp.toNatClampNeg + q) .null := by
    rw [n2, s2]
    apply List.ext_getElem?
    intro q
    by_cases hq : q < n
    · rw [List.getElem?_take_of_lt hq, List.getElem?_drop, List.getElem?_map, List.getElem?_range hq, List.getElem?_eq_getElem (by omega)]
      show some _ = some (vs.getD (i + q) .null)
      rw [List.getD_eq_getElem?_getD, List.getElem?_eq_getElem (by omega)]; rfl
    · rw [List.getElem?_eq_none (by rw [List.length_take]; omega), List.getElem?_eq_none (by simp; omega)]
  obtain ⟨T', h', L, X', e', NL, K, F', st⟩ := cpA X hx hZ hown w1 w2 w3 w4 eT FA FB (Or.inl ⟨rfl, hp⟩) s1 d1 n1 (by rw [s2, n2, cA]; exact h4) (by rw [d2, n2, cB]; exact h5) hus (by rw [d2, n2]; exact h5) N ge hg hsize hs hd hf hW hlo
  rw [d2, n2] at F'
  exact ⟨T', h', L, X', e', NL, K, own_arv F' (by rw [cB]; simp only [List.length_append, List.length_take, List.length_drop]; omega), st⟩
theorem own_clone (X : Stand p l e R s m args below meth c T locs cells slots) (hx : p.tables.exec = Jvm.exec) (hZ : Z.Warmed39 s.vm) {own ad : String} {index : Nat} (hown : s.vm.findClass own = some m.cls)
    (w1 : (Jvm.Cond.methodLink own index ⟨ad, "clone", "()Ljava/lang/Object;"⟩).before a0 Z = true) (w2 : (Jvm.Cond.sameMethod ad "java/lang/Object" "clone" "()Ljava/lang/Object;").before a0 Z = true) (w3 : (Jvm.Cond.native ⟨"java/lang/Object", "clone", "()Ljava/lang/Object;"⟩).before a0 Z = true)
    (w4 : (Jvm.Cond.instanceMethod ⟨"java/lang/Object", "clone", "()Ljava/lang/Object;"⟩).before a0 Z = true) (w5 : (Jvm.Cond.selects ad ⟨ad, "clone", "()Ljava/lang/Object;"⟩ ⟨"java/lang/Object", "clone", "()Ljava/lang/Object;"⟩).before a0 Z = true) (w6 : (Jvm.Cond.castable ad "java/lang/Cloneable").before a0 Z = true)
    (eT : T.heap = h) (A : own_AV Z h a ty vs) (E : Exa Z h a ad) {g : JFrame} (hg : g.method = m) (hsize : g.locals.size = c.maxLocals) {rest : List Value} (hs : g.stack = .ref a :: rest) (hd : decode c.code g.pc = .ok (.invokevirtual index, 3))
    (W cap : Nat) (hW : 2 * g.monitorRoom + (rest.map fun v => v.category).sum ≤ W) (hf : 1 ≤ R.frames) (hl : W + 14 ≤ R.locals) (hcap : vs.length ≤ cap) (hc : cells + 1 ≤ R.cells) (hsl : slots + cap ≤ R.slots) :
    ∃ T' h', Stand p l e R s m args below meth c T' locs (cells + 1) (slots + cap) ∧ T'.heap = h' ∧ Ext h h' ∧ own_AV Z h' h.size ty vs ∧ Exa Z h' h.size ad ∧
      ∀ t, Steps p.tables e below (T'.setTop { g with pc := g.pc + 3, stack := .ref h.size :: rest }) t → Steps p.tables e below (T.setTop g) t := by
  obtain ⟨cl, k, r, z, f⟩ := A
  have hz : cl.slots.size = vs.length := by rw [← r]; simp
  have FC : FitC Z cl := fitC_of k fun i hi v hv => f v (by rw [← r]; exact List.mem_of_getElem? (i := i) (by rw [Array.getElem?_toList]; exact hv))
  obtain ⟨T', h', X', e', E', A', C', st⟩ := cloneA X hx hZ hown w1 w2 w3 w4 w5 w6 eT k E FC hg hsize hs hd hf (W := W) hW hl (cap := cap) (by omega) hc hsl
  exact ⟨T', h', X', e', E', ⟨_, A', r, z, f⟩, C', st⟩
end OwnArr
theorem d1_0 : decode prog_65_method_9_code 0 = .ok (.iload_n 0, 1) := by decide +kernel
theorem d1_1 : decode prog_65_method_9_code 1 = .ok (.ldc 169, 2) := by decide +kernel
theorem d1_3 : decode prog_65_method_9_code 3 = .ok (.if_icmp .lt 9, 3) := by decide +kernel
theorem d1_6 : decode prog_65_method_9_code 6 = .ok (.iload_n 0, 1) := by decide +kernel
theorem d1_7 : decode prog_65_method_9_code 7 = .ok (.ldc 170, 2) := by decide +kernel
theorem d1_9 : decode prog_65_method_9_code 9 = .ok (.if_icmp .le 24, 3) := by decide +kernel
theorem d1_12 : decode prog_65_method_9_code 12 = .ok (.iload_n 0, 1) := by decide +kernel
theorem d1_13 : decode prog_65_method_9_code 13 = .ok (.ldc 171, 2) := by decide +kernel
theorem d1_15 : decode prog_65_method_9_code 15 = .ok (.if_icmp .lt 22, 3) := by decide +kernel
theorem d1_18 : decode prog_65_method_9_code 18 = .ok (.iload_n 0, 1) := by decide +kernel
theorem d1_19 : decode prog_65_method_9_code 19 = .ok (.ldc 172, 2) := by decide +kernel
theorem d1_21 : decode prog_65_method_9_code 21 = .ok (.if_icmp .gt 16, 3) := by decide +kernel
theorem d1_24 : decode prog_65_method_9_code 24 = .ok (.iload_n 0, 1) := by decide +kernel
theorem d1_25 : decode prog_65_method_9_code 25 = .ok (.ldc 165, 2) := by decide +kernel
theorem d1_27 : decode prog_65_method_9_code 27 = .ok (.iand, 1) := by decide +kernel
theorem d1_28 : decode prog_65_method_9_code 28 = .ok (.ldc 166, 2) := by decide +kernel
theorem d1_30 : decode prog_65_method_9_code 30 = .ok (.if_icmp .gt 7, 3) := by decide +kernel
theorem d1_33 : decode prog_65_method_9_code 33 = .ok (.iconst 1, 1) := by decide +kernel
theorem d1_34 : decode prog_65_method_9_code 34 = .ok (.goto 4, 3) := by decide +kernel
theorem d1_37 : decode prog_65_method_9_code 37 = .ok (.iconst 0, 1) := by decide +kernel
theorem d1_38 : decode prog_65_method_9_code 38 = .ok (.ireturn, 1) := by decide +kernel
def own_isIprivate_12 (y0 : Int32) : Int32 := (if y0 < (983040 : Int32) then (0 : Int32) else (if (1114109 : Int32) < y0 then (0 : Int32) else (if (65533 : Int32) < (y0 &&& (65535 : Int32)) then (0 : Int32) else (1 : Int32))))
def own_isIprivate (x0 : Int32) : Int32 := (if x0 < (57344 : Int32) then (own_isIprivate_12 x0) else (if (63743 : Int32) < x0 then (own_isIprivate_12 x0) else (1 : Int32)))
set_option maxRecDepth 65536 in
set_option maxHeartbeats 40000000 in
theorem own_isIprivate_con (l : Launch) (Z : State) (a0 : Array Value) (hw : ∀ d ∈ tables_1, d.before a0 Z = true) (x0 : Int32)  (h0 : Heap) (ws : List Jvm.Cond) :
    own_Con l Z (⟨"com/example/jadeite/jadeite/formats/UriText", "isIprivate", "(I)Z"⟩ : MethodName) prog_65_method_9_code 1 (some .boolean) ({ frames := 0, cells := 0, slots := 0, locals := 0 } : Room) #[(.int x0)] h0 (own_PQ h0 (.int (own_isIprivate x0))) ws := by
  refine own_con (F := fun m => (mkF m 0 #[.val (.int x0)] [])) (own_pn (by first | (simp [plainName, overriddenIn]; done) | decide +kernel)) (fun m => by first | (simp [entryFrame, mkF, argsToLocals, Value.category]; done) | rfl) ?_
  intro p e s m below meth c T X hx hby hml hZ hown hnm hret hlk eT
  have g12 : ∀ (T : State) (X : Stand p l e ({ frames := 0, cells := 0, slots := 0, locals := 0 } : Room) s m #[(.int x0)] below meth c T [] 0 0) (eT : T.heap = h0) (y0 : Int32), own_Go p e below (own_Out s (own_PQ h0 (.int (own_isIprivate_12 y0))) 0 0) (T.setTop (mkF m 12 #[.val (.int y0)] [])) := by
    intro T X eT y0
    show own_Go p e below (own_Out s (own_PQ h0 (.int (if y0 < (983040 : Int32) then (0 : Int32) else (if (1114109 : Int32) < y0 then (0 : Int32) else (if (65533 : Int32) < (y0 &&& (65535 : Int32)) then (0 : Int32) else (1 : Int32)))))) 0 0) _
    refine own_go (fun _ => XS.iloadN X.here hx rfl (hb hby d1_12) rfl) ?_
    show own_Go p e below _ (T.setTop (mkF m 13 #[.val (.int y0)] [(.int y0)]))
    refine own_go (X.ldcInt hx hown (mvT hZ (hw _ (List.mem_of_getElem? (i := 21) rfl))) (g := (mkF m 13 #[.val (.int y0)] [(.int y0)])) rfl (hb hby d1_13)) ?_
    show own_Go p e below _ (T.setTop (mkF m 15 #[.val (.int y0)] [(.int (983040 : Int32)), (.int y0)]))
    refine own_iteI (fun hc15 => ?_) (fun hc15 => ?_)
    · skip
      refine own_go (fun _ => XS.icmpYes X.here hx rfl (pc0 := 15) (pc' := 37) rfl (hb hby d1_15) rfl (XT.ii_lt_t hc15) (by decide) (by decide)) ?_
      show own_Go p e below _ (T.setTop (mkF m 37 #[.val (.int y0)] []))
      refine own_go (fun _ => XS.iconst X.here hx rfl (hb hby d1_37)) ?_
      show own_Go p e below _ (T.setTop (mkF m 38 #[.val (.int y0)] [(.int (0 : Int32))]))
      exact own_iret X hx hlk hret (Or.inr (Or.inl rfl)) rfl (hb hby d1_38) (Nat.zero_le _) (Nat.zero_le _) ⟨rfl, eT, rfl⟩
    · skip
      refine own_go (fun _ => XS.icmpNo X.here hx rfl (hb hby d1_15) rfl (XT.ii_lt_f hc15)) ?_
      show own_Go p e below _ (T.setTop (mkF m 18 #[.val (.int y0)] []))
      refine own_go (fun _ => XS.iloadN X.here hx rfl (hb hby d1_18) rfl) ?_
      show own_Go p e below _ (T.setTop (mkF m 19 #[.val (.int y0)] [(.int y0)]))
      refine own_go (X.ldcInt hx hown (mvT hZ (hw _ (List.mem_of_getElem? (i := 27) rfl))) (g := (mkF m 19 #[.val (.int y0)] [(.int y0)])) rfl (hb hby d1_19)) ?_
      show own_Go p e below _ (T.setTop (mkF m 21 #[.val (.int y0)] [(.int (1114109 : Int32)), (.int y0)]))
      refine own_iteI (fun hc21 => ?_) (fun hc21 => ?_)
      · skip
        refine own_go (fun _ => XS.icmpYes X.here hx rfl (pc0 := 21) (pc' := 37) rfl (hb hby d1_21) rfl (XT.ii_gt_t hc21) (by decide) (by decide)) ?_
        show own_Go p e below _ (T.setTop (mkF m 37 #[.val (.int y0)] []))
        refine own_go (fun _ => XS.iconst X.here hx rfl (hb hby d1_37)) ?_
        show own_Go p e below _ (T.setTop (mkF m 38 #[.val (.int y0)] [(.int (0 : Int32))]))
        exact own_iret X hx hlk hret (Or.inr (Or.inl rfl)) rfl (hb hby d1_38) (Nat.zero_le _) (Nat.zero_le _) ⟨rfl, eT, rfl⟩
      · skip
        refine own_go (fun _ => XS.icmpNo X.here hx rfl (hb hby d1_21) rfl (XT.ii_gt_f hc21)) ?_
        show own_Go p e below _ (T.setTop (mkF m 24 #[.val (.int y0)] []))
        refine own_go (fun _ => XS.iloadN X.here hx rfl (hb hby d1_24) rfl) ?_
        show own_Go p e below _ (T.setTop (mkF m 25 #[.val (.int y0)] [(.int y0)]))
        refine own_go (X.ldcInt hx hown (mvT hZ (hw _ (List.mem_of_getElem? (i := 28) rfl))) (g := (mkF m 25 #[.val (.int y0)] [(.int y0)])) rfl (hb hby d1_25)) ?_
        show own_Go p e below _ (T.setTop (mkF m 27 #[.val (.int y0)] [(.int (65535 : Int32)), (.int y0)]))
        refine own_go (fun _ => XS.iand X.here hx rfl (hb hby d1_27) rfl) ?_
        show own_Go p e below _ (T.setTop (mkF m 28 #[.val (.int y0)] [(.int (y0 &&& (65535 : Int32)))]))
        refine own_go (X.ldcInt hx hown (mvT hZ (hw _ (List.mem_of_getElem? (i := 29) rfl))) (g := (mkF m 28 #[.val (.int y0)] [(.int (y0 &&& (65535 : Int32)))])) rfl (hb hby d1_28)) ?_
        show own_Go p e below _ (T.setTop (mkF m 30 #[.val (.int y0)] [(.int (65533 : Int32)), (.int (y0 &&& (65535 : Int32)))]))
        refine own_iteI (fun hc30 => ?_) (fun hc30 => ?_)
        · skip
          refine own_go (fun _ => XS.icmpYes X.here hx rfl (pc0 := 30) (pc' := 37) rfl (hb hby d1_30) rfl (XT.ii_gt_t hc30) (by decide) (by decide)) ?_
          show own_Go p e below _ (T.setTop (mkF m 37 #[.val (.int y0)] []))
          refine own_go (fun _ => XS.iconst X.here hx rfl (hb hby d1_37)) ?_
          show own_Go p e below _ (T.setTop (mkF m 38 #[.val (.int y0)] [(.int (0 : Int32))]))
          exact own_iret X hx hlk hret (Or.inr (Or.inl rfl)) rfl (hb hby d1_38) (Nat.zero_le _) (Nat.zero_le _) ⟨rfl, eT, rfl⟩
        · skip
          refine own_go (fun _ => XS.icmpNo X.here hx rfl (hb hby d1_30) rfl (XT.ii_gt_f hc30)) ?_
          show own_Go p e below _ (T.setTop (mkF m 33 #[.val (.int y0)] []))
          refine own_go (fun _ => XS.iconst X.here hx rfl (hb hby d1_33)) ?_
          show own_Go p e below _ (T.setTop (mkF m 34 #[.val (.int y0)] [(.int (1 : Int32))]))
          refine own_go (fun _ => XS.goto X.here hx rfl (pc0 := 34) (pc' := 38) rfl (hb hby d1_34) (by decide) (by decide)) ?_
          show own_Go p e below _ (T.setTop (mkF m 38 #[.val (.int y0)] [(.int (1 : Int32))]))
          exact own_iret X hx hlk hret (Or.inr (Or.inl rfl)) rfl (hb hby d1_38) (Nat.zero_le _) (Nat.zero_le _) ⟨rfl, eT, rfl⟩
  show own_Go p e below (own_Out s (own_PQ h0 (.int (own_isIprivate x0))) 0 0) (T.setTop (mkF m 0 #[.val (.int x0)] []))
  show own_Go p e below (own_Out s (own_PQ h0 (.int (if x0 < (57344 : Int32) then (own_isIprivate_12 x0) else (if (63743 : Int32) < x0 then (own_isIprivate_12 x0) else (1 : Int32))))) 0 0) _
  refine own_go (fun _ => XS.iloadN X.here hx rfl (hb hby d1_0) rfl) ?_
  show own_Go p e below _ (T.setTop (mkF m 1 #[.val (.int x0)] [(.int x0)]))
  refine own_go (X.ldcInt hx hown (mvT hZ (hw _ (List.mem_of_getElem? (i := 20) rfl))) (g := (mkF m 1 #[.val (.int x0)] [(.int x0)])) rfl (hb hby d1_1)) ?_
  show own_Go p e below _ (T.setTop (mkF m 3 #[.val (.int x0)] [(.int (57344 : Int32)), (.int x0)]))
  refine own_iteI (fun hc3 => ?_) (fun hc3 => ?_)
  · skip
    refine own_go (fun _ => XS.icmpYes X.here hx rfl (pc0 := 3) (pc' := 12) rfl (hb hby d1_3) rfl (XT.ii_lt_t hc3) (by decide) (by decide)) ?_
    show own_Go p e below _ (T.setTop (mkF m 12 #[.val (.int x0)] []))
    exact g12 T X eT x0
  · skip
    refine own_go (fun _ => XS.icmpNo X.here hx rfl (hb hby d1_3) rfl (XT.ii_lt_f hc3)) ?_
    show own_Go p e below _ (T.setTop (mkF m 6 #[.val (.int x0)] []))
    refine own_go (fun _ => XS.iloadN X.here hx rfl (hb hby d1_6) rfl) ?_
    show own_Go p e below _ (T.setTop (mkF m 7 #[.val (.int x0)] [(.int x0)]))
    refine own_go (X.ldcInt hx hown (mvT hZ (hw _ (List.mem_of_getElem? (i := 26) rfl))) (g := (mkF m 7 #[.val (.int x0)] [(.int x0)])) rfl (hb hby d1_7)) ?_
    show own_Go p e below _ (T.setTop (mkF m 9 #[.val (.int x0)] [(.int (63743 : Int32)), (.int x0)]))
    refine own_iteI (fun hc9 => ?_) (fun hc9 => ?_)
    · skip
      refine own_go (fun _ => XS.icmpNo X.here hx rfl (hb hby d1_9) rfl (XT.ii_le_f hc9)) ?_
      show own_Go p e below _ (T.setTop (mkF m 12 #[.val (.int x0)] []))
      exact g12 T X eT x0
    · skip
      refine own_go (fun _ => XS.icmpYes X.here hx rfl (pc0 := 9) (pc' := 33) rfl (hb hby d1_9) rfl (XT.ii_le_t hc9) (by decide) (by decide)) ?_
      show own_Go p e below _ (T.setTop (mkF m 33 #[.val (.int x0)] []))
      refine own_go (fun _ => XS.iconst X.here hx rfl (hb hby d1_33)) ?_
      show own_Go p e below _ (T.setTop (mkF m 34 #[.val (.int x0)] [(.int (1 : Int32))]))
      refine own_go (fun _ => XS.goto X.here hx rfl (pc0 := 34) (pc' := 38) rfl (hb hby d1_34) (by decide) (by decide)) ?_
      show own_Go p e below _ (T.setTop (mkF m 38 #[.val (.int x0)] [(.int (1 : Int32))]))
      exact own_iret X hx hlk hret (Or.inr (Or.inl rfl)) rfl (hb hby d1_38) (Nat.zero_le _) (Nat.zero_le _) ⟨rfl, eT, rfl⟩
theorem d2_0 : decode method_2_code 0 = .ok (.iload_n 0, 1) := by decide +kernel
theorem d2_1 : decode method_2_code 1 = .ok (.ldc 7, 2) := by decide +kernel
theorem d2_3 : decode method_2_code 3 = .ok (.if_icmp .lt 11, 3) := by decide +kernel
theorem d2_6 : decode method_2_code 6 = .ok (.iload_n 0, 1) := by decide +kernel
theorem d2_7 : decode method_2_code 7 = .ok (.ldc 8, 2) := by decide +kernel
theorem d2_9 : decode method_2_code 9 = .ok (.if_icmp .gt 5, 3) := by decide +kernel
theorem d2_12 : decode method_2_code 12 = .ok (.iconst 1, 1) := by decide +kernel
theorem d2_13 : decode method_2_code 13 = .ok (.ireturn, 1) := by decide +kernel
theorem d2_14 : decode method_2_code 14 = .ok (.iload_n 0, 1) := by decide +kernel
theorem d2_15 : decode method_2_code 15 = .ok (.ldc 9, 2) := by decide +kernel
theorem d2_17 : decode method_2_code 17 = .ok (.if_icmp .lt 11, 3) := by decide +kernel
theorem d2_20 : decode method_2_code 20 = .ok (.iload_n 0, 1) := by decide +kernel
theorem d2_21 : decode method_2_code 21 = .ok (.ldc 10, 2) := by decide +kernel
theorem d2_23 : decode method_2_code 23 = .ok (.if_icmp .gt 5, 3) := by decide +kernel
theorem d2_26 : decode method_2_code 26 = .ok (.iconst 1, 1) := by decide +kernel
theorem d2_27 : decode method_2_code 27 = .ok (.ireturn, 1) := by decide +kernel
theorem d2_28 : decode method_2_code 28 = .ok (.iload_n 0, 1) := by decide +kernel
theorem d2_29 : decode method_2_code 29 = .ok (.ldc 11, 2) := by decide +kernel
theorem d2_31 : decode method_2_code 31 = .ok (.if_icmp .lt 11, 3) := by decide +kernel
theorem d2_34 : decode method_2_code 34 = .ok (.iload_n 0, 1) := by decide +kernel
theorem d2_35 : decode method_2_code 35 = .ok (.ldc 12, 2) := by decide +kernel
theorem d2_37 : decode method_2_code 37 = .ok (.if_icmp .gt 5, 3) := by decide +kernel
theorem d2_40 : decode method_2_code 40 = .ok (.iconst 1, 1) := by decide +kernel
theorem d2_41 : decode method_2_code 41 = .ok (.ireturn, 1) := by decide +kernel
theorem d2_42 : decode method_2_code 42 = .ok (.iconst 0, 1) := by decide +kernel
theorem d2_43 : decode method_2_code 43 = .ok (.ireturn, 1) := by decide +kernel
def own_reference_28 (y0 : Int32) : Int32 := (if y0 < (1048576 : Int32) then (0 : Int32) else (if (1114109 : Int32) < y0 then (0 : Int32) else (1 : Int32)))
def own_reference_14 (y0 : Int32) : Int32 := (if y0 < (983040 : Int32) then (own_reference_28 y0) else (if (1048573 : Int32) < y0 then (own_reference_28 y0) else (1 : Int32)))
def own_reference (x0 : Int32) : Int32 := (if x0 < (57344 : Int32) then (own_reference_14 x0) else (if (63743 : Int32) < x0 then (own_reference_14 x0) else (1 : Int32)))
set_option maxRecDepth 65536 in
set_option maxHeartbeats 40000000 in
theorem own_reference_con (l : Launch) (Z : State) (a0 : Array Value) (hw : ∀ d ∈ tables_1, d.before a0 Z = true) (x0 : Int32)  (h0 : Heap) (ws : List Jvm.Cond) :
    own_Con l Z (⟨"com/example/jadeite/jadeite/formats/UriTextIsIprivatePinLaw", "reference", "(I)Z"⟩ : MethodName) method_2_code 1 (some .boolean) ({ frames := 0, cells := 0, slots := 0, locals := 0 } : Room) #[(.int x0)] h0 (own_PQ h0 (.int (own_reference x0))) ws := by
  refine own_con (F := fun m => (mkF m 0 #[.val (.int x0)] [])) (own_pn (by first | (simp [plainName, overriddenIn]; done) | decide +kernel)) (fun m => by first | (simp [entryFrame, mkF, argsToLocals, Value.category]; done) | rfl) ?_
  intro p e s m below meth c T X hx hby hml hZ hown hnm hret hlk eT
  have g28 : ∀ (T : State) (X : Stand p l e ({ frames := 0, cells := 0, slots := 0, locals := 0 } : Room) s m #[(.int x0)] below meth c T [] 0 0) (eT : T.heap = h0) (y0 : Int32), own_Go p e below (own_Out s (own_PQ h0 (.int (own_reference_28 y0))) 0 0) (T.setTop (mkF m 28 #[.val (.int y0)] [])) := by
    intro T X eT y0
    show own_Go p e below (own_Out s (own_PQ h0 (.int (if y0 < (1048576 : Int32) then (0 : Int32) else (if (1114109 : Int32) < y0 then (0 : Int32) else (1 : Int32))))) 0 0) _
    refine own_go (fun _ => XS.iloadN X.here hx rfl (hb hby d2_28) rfl) ?_
    show own_Go p e below _ (T.setTop (mkF m 29 #[.val (.int y0)] [(.int y0)]))
    refine own_go (X.ldcInt hx hown (mvT hZ (hw _ (List.mem_of_getElem? (i := 5) rfl))) (g := (mkF m 29 #[.val (.int y0)] [(.int y0)])) rfl (hb hby d2_29)) ?_
    show own_Go p e below _ (T.setTop (mkF m 31 #[.val (.int y0)] [(.int (1048576 : Int32)), (.int y0)]))
    refine own_iteI (fun hc31 => ?_) (fun hc31 => ?_)
    · skip
      refine own_go (fun _ => XS.icmpYes X.here hx rfl (pc0 := 31) (pc' := 42) rfl (hb hby d2_31) rfl (XT.ii_lt_t hc31) (by decide) (by decide)) ?_
      show own_Go p e below _ (T.setTop (mkF m 42 #[.val (.int y0)] []))
      refine own_go (fun _ => XS.iconst X.here hx rfl (hb hby d2_42)) ?_
      show own_Go p e below _ (T.setTop (mkF m 43 #[.val (.int y0)] [(.int (0 : Int32))]))
      exact own_iret X hx hlk hret (Or.inr (Or.inl rfl)) rfl (hb hby d2_43) (Nat.zero_le _) (Nat.zero_le _) ⟨rfl, eT, rfl⟩
    · skip
      refine own_go (fun _ => XS.icmpNo X.here hx rfl (hb hby d2_31) rfl (XT.ii_lt_f hc31)) ?_
      show own_Go p e below _ (T.setTop (mkF m 34 #[.val (.int y0)] []))
      refine own_go (fun _ => XS.iloadN X.here hx rfl (hb hby d2_34) rfl) ?_
      show own_Go p e below _ (T.setTop (mkF m 35 #[.val (.int y0)] [(.int y0)]))
      refine own_go (X.ldcInt hx hown (mvT hZ (hw _ (List.mem_of_getElem? (i := 6) rfl))) (g := (mkF m 35 #[.val (.int y0)] [(.int y0)])) rfl (hb hby d2_35)) ?_
      show own_Go p e below _ (T.setTop (mkF m 37 #[.val (.int y0)] [(.int (1114109 : Int32)), (.int y0)]))
      refine own_iteI (fun hc37 => ?_) (fun hc37 => ?_)
      · skip
        refine own_go (fun _ => XS.icmpYes X.here hx rfl (pc0 := 37) (pc' := 42) rfl (hb hby d2_37) rfl (XT.ii_gt_t hc37) (by decide) (by decide)) ?_
        show own_Go p e below _ (T.setTop (mkF m 42 #[.val (.int y0)] []))
        refine own_go (fun _ => XS.iconst X.here hx rfl (hb hby d2_42)) ?_
        show own_Go p e below _ (T.setTop (mkF m 43 #[.val (.int y0)] [(.int (0 : Int32))]))
        exact own_iret X hx hlk hret (Or.inr (Or.inl rfl)) rfl (hb hby d2_43) (Nat.zero_le _) (Nat.zero_le _) ⟨rfl, eT, rfl⟩
      · skip
        refine own_go (fun _ => XS.icmpNo X.here hx rfl (hb hby d2_37) rfl (XT.ii_gt_f hc37)) ?_
        show own_Go p e below _ (T.setTop (mkF m 40 #[.val (.int y0)] []))
        refine own_go (fun _ => XS.iconst X.here hx rfl (hb hby d2_40)) ?_
        show own_Go p e below _ (T.setTop (mkF m 41 #[.val (.int y0)] [(.int (1 : Int32))]))
        exact own_iret X hx hlk hret (Or.inr (Or.inl rfl)) rfl (hb hby d2_41) (Nat.zero_le _) (Nat.zero_le _) ⟨rfl, eT, rfl⟩
  have g14 : ∀ (T : State) (X : Stand p l e ({ frames := 0, cells := 0, slots := 0, locals := 0 } : Room) s m #[(.int x0)] below meth c T [] 0 0) (eT : T.heap = h0) (y0 : Int32), own_Go p e below (own_Out s (own_PQ h0 (.int (own_reference_14 y0))) 0 0) (T.setTop (mkF m 14 #[.val (.int y0)] [])) := by
    intro T X eT y0
    show own_Go p e below (own_Out s (own_PQ h0 (.int (if y0 < (983040 : Int32) then (own_reference_28 y0) else (if (1048573 : Int32) < y0 then (own_reference_28 y0) else (1 : Int32))))) 0 0) _
    refine own_go (fun _ => XS.iloadN X.here hx rfl (hb hby d2_14) rfl) ?_
    show own_Go p e below _ (T.setTop (mkF m 15 #[.val (.int y0)] [(.int y0)]))
    refine own_go (X.ldcInt hx hown (mvT hZ (hw _ (List.mem_of_getElem? (i := 3) rfl))) (g := (mkF m 15 #[.val (.int y0)] [(.int y0)])) rfl (hb hby d2_15)) ?_
    show own_Go p e below _ (T.setTop (mkF m 17 #[.val (.int y0)] [(.int (983040 : Int32)), (.int y0)]))
    refine own_iteI (fun hc17 => ?_) (fun hc17 => ?_)
    · skip
      refine own_go (fun _ => XS.icmpYes X.here hx rfl (pc0 := 17) (pc' := 28) rfl (hb hby d2_17) rfl (XT.ii_lt_t hc17) (by decide) (by decide)) ?_
      show own_Go p e below _ (T.setTop (mkF m 28 #[.val (.int y0)] []))
      exact g28 T X eT y0
    · skip
      refine own_go (fun _ => XS.icmpNo X.here hx rfl (hb hby d2_17) rfl (XT.ii_lt_f hc17)) ?_
      show own_Go p e below _ (T.setTop (mkF m 20 #[.val (.int y0)] []))
      refine own_go (fun _ => XS.iloadN X.here hx rfl (hb hby d2_20) rfl) ?_
      show own_Go p e below _ (T.setTop (mkF m 21 #[.val (.int y0)] [(.int y0)]))
      refine own_go (X.ldcInt hx hown (mvT hZ (hw _ (List.mem_of_getElem? (i := 4) rfl))) (g := (mkF m 21 #[.val (.int y0)] [(.int y0)])) rfl (hb hby d2_21)) ?_
      show own_Go p e below _ (T.setTop (mkF m 23 #[.val (.int y0)] [(.int (1048573 : Int32)), (.int y0)]))
      refine own_iteI (fun hc23 => ?_) (fun hc23 => ?_)
      · skip
        refine own_go (fun _ => XS.icmpYes X.here hx rfl (pc0 := 23) (pc' := 28) rfl (hb hby d2_23) rfl (XT.ii_gt_t hc23) (by decide) (by decide)) ?_
        show own_Go p e below _ (T.setTop (mkF m 28 #[.val (.int y0)] []))
        exact g28 T X eT y0
      · skip
        refine own_go (fun _ => XS.icmpNo X.here hx rfl (hb hby d2_23) rfl (XT.ii_gt_f hc23)) ?_
        show own_Go p e below _ (T.setTop (mkF m 26 #[.val (.int y0)] []))
        refine own_go (fun _ => XS.iconst X.here hx rfl (hb hby d2_26)) ?_
        show own_Go p e below _ (T.setTop (mkF m 27 #[.val (.int y0)] [(.int (1 : Int32))]))
        exact own_iret X hx hlk hret (Or.inr (Or.inl rfl)) rfl (hb hby d2_27) (Nat.zero_le _) (Nat.zero_le _) ⟨rfl, eT, rfl⟩
  show own_Go p e below (own_Out s (own_PQ h0 (.int (own_reference x0))) 0 0) (T.setTop (mkF m 0 #[.val (.int x0)] []))
  show own_Go p e below (own_Out s (own_PQ h0 (.int (if x0 < (57344 : Int32) then (own_reference_14 x0) else (if (63743 : Int32) < x0 then (own_reference_14 x0) else (1 : Int32))))) 0 0) _
  refine own_go (fun _ => XS.iloadN X.here hx rfl (hb hby d2_0) rfl) ?_
  show own_Go p e below _ (T.setTop (mkF m 1 #[.val (.int x0)] [(.int x0)]))
  refine own_go (X.ldcInt hx hown (mvT hZ (hw _ (List.mem_of_getElem? (i := 1) rfl))) (g := (mkF m 1 #[.val (.int x0)] [(.int x0)])) rfl (hb hby d2_1)) ?_
  show own_Go p e below _ (T.setTop (mkF m 3 #[.val (.int x0)] [(.int (57344 : Int32)), (.int x0)]))
  refine own_iteI (fun hc3 => ?_) (fun hc3 => ?_)
  · skip
    refine own_go (fun _ => XS.icmpYes X.here hx rfl (pc0 := 3) (pc' := 14) rfl (hb hby d2_3) rfl (XT.ii_lt_t hc3) (by decide) (by decide)) ?_
    show own_Go p e below _ (T.setTop (mkF m 14 #[.val (.int x0)] []))
    exact g14 T X eT x0
  · skip
    refine own_go (fun _ => XS.icmpNo X.here hx rfl (hb hby d2_3) rfl (XT.ii_lt_f hc3)) ?_
    show own_Go p e below _ (T.setTop (mkF m 6 #[.val (.int x0)] []))
    refine own_go (fun _ => XS.iloadN X.here hx rfl (hb hby d2_6) rfl) ?_
    show own_Go p e below _ (T.setTop (mkF m 7 #[.val (.int x0)] [(.int x0)]))
    refine own_go (X.ldcInt hx hown (mvT hZ (hw _ (List.mem_of_getElem? (i := 2) rfl))) (g := (mkF m 7 #[.val (.int x0)] [(.int x0)])) rfl (hb hby d2_7)) ?_
    show own_Go p e below _ (T.setTop (mkF m 9 #[.val (.int x0)] [(.int (63743 : Int32)), (.int x0)]))
    refine own_iteI (fun hc9 => ?_) (fun hc9 => ?_)
    · skip
      refine own_go (fun _ => XS.icmpYes X.here hx rfl (pc0 := 9) (pc' := 14) rfl (hb hby d2_9) rfl (XT.ii_gt_t hc9) (by decide) (by decide)) ?_
      show own_Go p e below _ (T.setTop (mkF m 14 #[.val (.int x0)] []))
      exact g14 T X eT x0
    · skip
      refine own_go (fun _ => XS.icmpNo X.here hx rfl (hb hby d2_9) rfl (XT.ii_gt_f hc9)) ?_
      show own_Go p e below _ (T.setTop (mkF m 12 #[.val (.int x0)] []))
      refine own_go (fun _ => XS.iconst X.here hx rfl (hb hby d2_12)) ?_
      show own_Go p e below _ (T.setTop (mkF m 13 #[.val (.int x0)] [(.int (1 : Int32))]))
      exact own_iret X hx hlk hret (Or.inr (Or.inl rfl)) rfl (hb hby d2_13) (Nat.zero_le _) (Nat.zero_le _) ⟨rfl, eT, rfl⟩
theorem own_ex (xs : List Int32) (i : Nat) (h : i < xs.length) : ∃ y, (xs.map Value.int)[i]? = some (.int y) := by
  refine ⟨xs[i], ?_⟩
  rw [List.getElem?_map, List.getElem?_eq_getElem h]; rfl
theorem own_two {c d : Prop} [Decidable c] [Decidable d] {A B : Int32} : (if c then B else if d then B else A) = if ¬ c ∧ ¬ d then A else B := by
  by_cases h1 : c <;> by_cases h2 : d <;> simp [h1, h2]
theorem own_same (x : Int32) : own_isIprivate x = own_reference x := by
  have e1 : (x &&& (65535 : Int32)).toInt = x.toInt % 65536 := c_mask x 65535 16 (by decide) (by decide)
  simp only [own_isIprivate, own_isIprivate_12, own_reference, own_reference_14, own_reference_28, own_two, Int32.lt_iff_toInt_lt, ← Int32.toInt_inj, e1]
  simp only [Int32.reduceToInt]
  generalize x.toInt = n at *
  repeat' split
  all_goals first | rfl | (exfalso; omega)
def own_Q1 (n0 : Nat) (v : Option Value) (h : Heap) (L : List Loc) : Prop := v = some (.int 1) ∧ Fr n0 L
set_option maxRecDepth 65536 in
set_option maxHeartbeats 40000000 in
theorem own_main_con (l : Launch) (Z : State) (a0 : Array Value) (hw : ∀ d ∈ tables_1, d.before a0 Z = true) (x0 : Int32) (x1 : Int32) (x2 : Int32)  (h0 : Heap) (ws : List Jvm.Cond) :
    own_Con l Z x code maxLocals ret room_1 #[(.int x0), (.int x1), (.int x2)] h0 (own_Q1 h0.size) ws := by
  refine own_con (F := fun m => (mkF m 0 #[.val (.int x0), .val (.int x1), .val (.int x2), .unset, .unset, .unset, .unset] [])) (own_pn (by first | (simp [plainName, overriddenIn]; done) | decide +kernel)) (fun m => by first | (simp [entryFrame, mkF, argsToLocals, Value.category, maxLocals]; done) | rfl) ?_
  intro p e s m below meth c T X hx hby hml hZ hown hnm hret hlk eT
  show own_Go p e below (own_Out s (own_Q1 h0.size) room_1.cells room_1.slots) (T.setTop (mkF m 0 #[.val (.int x0), .val (.int x1), .val (.int x2), .unset, .unset, .unset, .unset] []))
  have N0 := Fr.nil h0.size
  refine own_go (fun _ => XS.bipush X.here hx rfl (hb hby at_0)) ?_
  show own_Go p e below _ (T.setTop (mkF m 2 #[.val (.int x0), .val (.int x1), .val (.int x2), .unset, .unset, .unset, .unset] [(.int (16 : Int32))]))
  obtain ⟨T1, h1, X1, e1, E1, A1, st1⟩ := own_newA X hx hZ (aty := .int) (hw _ (List.mem_of_getElem? (i := 0) rfl)) eT (g := (mkF m 2 #[.val (.int x0), .val (.int x1), .val (.int x2), .unset, .unset, .unset, .unset] [(.int (16 : Int32))])) rfl (hb hby at_2) rfl 16 16 (by decide) (by decide) (by decide) (by decide) (by decide)
  obtain ⟨a1, q1⟩ : ∃ z, z = h0.size := ⟨_, rfl⟩
  rw [← q1] at A1 st1
  refine own_go st1 ?_
  show own_Go p e below _ (T1.setTop (mkF m 4 #[.val (.int x0), .val (.int x1), .val (.int x2), .unset, .unset, .unset, .unset] [(.ref a1)]))
  refine own_go (fun _ => XS.dup X1.here hx rfl (hb hby at_4) rfl rfl) ?_
  show own_Go p e below _ (T1.setTop (mkF m 5 #[.val (.int x0), .val (.int x1), .val (.int x2), .unset, .unset, .unset, .unset] [(.ref a1), (.ref a1)]))
  refine own_go (fun _ => XS.iconst X1.here hx rfl (hb hby at_5)) ?_
  show own_Go p e below _ (T1.setTop (mkF m 6 #[.val (.int x0), .val (.int x1), .val (.int x2), .unset, .unset, .unset, .unset] [(.int (0 : Int32)), (.ref a1), (.ref a1)]))
  refine own_go (X1.ldcInt hx hown (mvT hZ (hw _ (List.mem_of_getElem? (i := 1) rfl))) (g := (mkF m 6 #[.val (.int x0), .val (.int x1), .val (.int x2), .unset, .unset, .unset, .unset] [(.int (0 : Int32)), (.ref a1), (.ref a1)])) rfl (hb hby at_6)) ?_
  show own_Go p e below _ (T1.setTop (mkF m 8 #[.val (.int x0), .val (.int x1), .val (.int x2), .unset, .unset, .unset, .unset] [(.int (57344 : Int32)), (.int (0 : Int32)), (.ref a1), (.ref a1)]))
  obtain ⟨T2, h2, X2, e2, W2, A2, st2⟩ := own_stI X1 hx hZ e1 A1 (g := (mkF m 8 #[.val (.int x0), .val (.int x1), .val (.int x2), .unset, .unset, .unset, .unset] [(.int (57344 : Int32)), (.int (0 : Int32)), (.ref a1), (.ref a1)])) rfl rfl (hb hby at_8) 0 (by decide) (by simp)
  have N2 := Fr.snoc X2 N0 (Nat.le_of_eq q1.symm)
  refine own_go st2 ?_
  show own_Go p e below _ (T2.setTop (mkF m 9 #[.val (.int x0), .val (.int x1), .val (.int x2), .unset, .unset, .unset, .unset] [(.ref a1)]))
  refine own_go (fun _ => XS.dup X2.here hx rfl (hb hby at_9) rfl rfl) ?_
  show own_Go p e below _ (T2.setTop (mkF m 10 #[.val (.int x0), .val (.int x1), .val (.int x2), .unset, .unset, .unset, .unset] [(.ref a1), (.ref a1)]))
  refine own_go (fun _ => XS.iconst X2.here hx rfl (hb hby at_10)) ?_
  show own_Go p e below _ (T2.setTop (mkF m 11 #[.val (.int x0), .val (.int x1), .val (.int x2), .unset, .unset, .unset, .unset] [(.int (1 : Int32)), (.ref a1), (.ref a1)]))
  refine own_go (X2.ldcInt hx hown (mvT hZ (hw _ (List.mem_of_getElem? (i := 2) rfl))) (g := (mkF m 11 #[.val (.int x0), .val (.int x1), .val (.int x2), .unset, .unset, .unset, .unset] [(.int (1 : Int32)), (.ref a1), (.ref a1)])) rfl (hb hby at_11)) ?_
  show own_Go p e below _ (T2.setTop (mkF m 13 #[.val (.int x0), .val (.int x1), .val (.int x2), .unset, .unset, .unset, .unset] [(.int (63743 : Int32)), (.int (1 : Int32)), (.ref a1), (.ref a1)]))
  obtain ⟨T3, h3, X3, e3, W3, A3, st3⟩ := own_stI X2 hx hZ e2 A2 (g := (mkF m 13 #[.val (.int x0), .val (.int x1), .val (.int x2), .unset, .unset, .unset, .unset] [(.int (63743 : Int32)), (.int (1 : Int32)), (.ref a1), (.ref a1)])) rfl rfl (hb hby at_13) 1 (by decide) (by simp)
  have N3 := Fr.snoc X3 N2 (Nat.le_of_eq q1.symm)
  refine own_go st3 ?_
  show own_Go p e below _ (T3.setTop (mkF m 14 #[.val (.int x0), .val (.int x1), .val (.int x2), .unset, .unset, .unset, .unset] [(.ref a1)]))
  refine own_go (fun _ => XS.dup X3.here hx rfl (hb hby at_14) rfl rfl) ?_
  show own_Go p e below _ (T3.setTop (mkF m 15 #[.val (.int x0), .val (.int x1), .val (.int x2), .unset, .unset, .unset, .unset] [(.ref a1), (.ref a1)]))
  refine own_go (fun _ => XS.iconst X3.here hx rfl (hb hby at_15)) ?_
  show own_Go p e below _ (T3.setTop (mkF m 16 #[.val (.int x0), .val (.int x1), .val (.int x2), .unset, .unset, .unset, .unset] [(.int (2 : Int32)), (.ref a1), (.ref a1)]))
  refine own_go (X3.ldcInt hx hown (mvT hZ (hw _ (List.mem_of_getElem? (i := 3) rfl))) (g := (mkF m 16 #[.val (.int x0), .val (.int x1), .val (.int x2), .unset, .unset, .unset, .unset] [(.int (2 : Int32)), (.ref a1), (.ref a1)])) rfl (hb hby at_16)) ?_
  show own_Go p e below _ (T3.setTop (mkF m 18 #[.val (.int x0), .val (.int x1), .val (.int x2), .unset, .unset, .unset, .unset] [(.int (983040 : Int32)), (.int (2 : Int32)), (.ref a1), (.ref a1)]))
  obtain ⟨T4, h4, X4, e4, W4, A4, st4⟩ := own_stI X3 hx hZ e3 A3 (g := (mkF m 18 #[.val (.int x0), .val (.int x1), .val (.int x2), .unset, .unset, .unset, .unset] [(.int (983040 : Int32)), (.int (2 : Int32)), (.ref a1), (.ref a1)])) rfl rfl (hb hby at_18) 2 (by decide) (by simp)
  have N4 := Fr.snoc X4 N3 (Nat.le_of_eq q1.symm)
  refine own_go st4 ?_
  show own_Go p e below _ (T4.setTop (mkF m 19 #[.val (.int x0), .val (.int x1), .val (.int x2), .unset, .unset, .unset, .unset] [(.ref a1)]))
  refine own_go (fun _ => XS.dup X4.here hx rfl (hb hby at_19) rfl rfl) ?_
  show own_Go p e below _ (T4.setTop (mkF m 20 #[.val (.int x0), .val (.int x1), .val (.int x2), .unset, .unset, .unset, .unset] [(.ref a1), (.ref a1)]))
  refine own_go (fun _ => XS.iconst X4.here hx rfl (hb hby at_20)) ?_
  show own_Go p e below _ (T4.setTop (mkF m 21 #[.val (.int x0), .val (.int x1), .val (.int x2), .unset, .unset, .unset, .unset] [(.int (3 : Int32)), (.ref a1), (.ref a1)]))
  refine own_go (X4.ldcInt hx hown (mvT hZ (hw _ (List.mem_of_getElem? (i := 4) rfl))) (g := (mkF m 21 #[.val (.int x0), .val (.int x1), .val (.int x2), .unset, .unset, .unset, .unset] [(.int (3 : Int32)), (.ref a1), (.ref a1)])) rfl (hb hby at_21)) ?_
  show own_Go p e below _ (T4.setTop (mkF m 23 #[.val (.int x0), .val (.int x1), .val (.int x2), .unset, .unset, .unset, .unset] [(.int (1048573 : Int32)), (.int (3 : Int32)), (.ref a1), (.ref a1)]))
  obtain ⟨T5, h5, X5, e5, W5, A5, st5⟩ := own_stI X4 hx hZ e4 A4 (g := (mkF m 23 #[.val (.int x0), .val (.int x1), .val (.int x2), .unset, .unset, .unset, .unset] [(.int (1048573 : Int32)), (.int (3 : Int32)), (.ref a1), (.ref a1)])) rfl rfl (hb hby at_23) 3 (by decide) (by simp)
  have N5 := Fr.snoc X5 N4 (Nat.le_of_eq q1.symm)
  refine own_go st5 ?_
  show own_Go p e below _ (T5.setTop (mkF m 24 #[.val (.int x0), .val (.int x1), .val (.int x2), .unset, .unset, .unset, .unset] [(.ref a1)]))
  refine own_go (fun _ => XS.dup X5.here hx rfl (hb hby at_24) rfl rfl) ?_
  show own_Go p e below _ (T5.setTop (mkF m 25 #[.val (.int x0), .val (.int x1), .val (.int x2), .unset, .unset, .unset, .unset] [(.ref a1), (.ref a1)]))
  refine own_go (fun _ => XS.iconst X5.here hx rfl (hb hby at_25)) ?_
  show own_Go p e below _ (T5.setTop (mkF m 26 #[.val (.int x0), .val (.int x1), .val (.int x2), .unset, .unset, .unset, .unset] [(.int (4 : Int32)), (.ref a1), (.ref a1)]))
  refine own_go (X5.ldcInt hx hown (mvT hZ (hw _ (List.mem_of_getElem? (i := 5) rfl))) (g := (mkF m 26 #[.val (.int x0), .val (.int x1), .val (.int x2), .unset, .unset, .unset, .unset] [(.int (4 : Int32)), (.ref a1), (.ref a1)])) rfl (hb hby at_26)) ?_
  show own_Go p e below _ (T5.setTop (mkF m 28 #[.val (.int x0), .val (.int x1), .val (.int x2), .unset, .unset, .unset, .unset] [(.int (1048576 : Int32)), (.int (4 : Int32)), (.ref a1), (.ref a1)]))
  obtain ⟨T6, h6, X6, e6, W6, A6, st6⟩ := own_stI X5 hx hZ e5 A5 (g := (mkF m 28 #[.val (.int x0), .val (.int x1), .val (.int x2), .unset, .unset, .unset, .unset] [(.int (1048576 : Int32)), (.int (4 : Int32)), (.ref a1), (.ref a1)])) rfl rfl (hb hby at_28) 4 (by decide) (by simp)
  have N6 := Fr.snoc X6 N5 (Nat.le_of_eq q1.symm)
  refine own_go st6 ?_
  show own_Go p e below _ (T6.setTop (mkF m 29 #[.val (.int x0), .val (.int x1), .val (.int x2), .unset, .unset, .unset, .unset] [(.ref a1)]))
  refine own_go (fun _ => XS.dup X6.here hx rfl (hb hby at_29) rfl rfl) ?_
  show own_Go p e below _ (T6.setTop (mkF m 30 #[.val (.int x0), .val (.int x1), .val (.int x2), .unset, .unset, .unset, .unset] [(.ref a1), (.ref a1)]))
  refine own_go (fun _ => XS.iconst X6.here hx rfl (hb hby at_30)) ?_
  show own_Go p e below _ (T6.setTop (mkF m 31 #[.val (.int x0), .val (.int x1), .val (.int x2), .unset, .unset, .unset, .unset] [(.int (5 : Int32)), (.ref a1), (.ref a1)]))
  refine own_go (X6.ldcInt hx hown (mvT hZ (hw _ (List.mem_of_getElem? (i := 6) rfl))) (g := (mkF m 31 #[.val (.int x0), .val (.int x1), .val (.int x2), .unset, .unset, .unset, .unset] [(.int (5 : Int32)), (.ref a1), (.ref a1)])) rfl (hb hby at_31)) ?_
  show own_Go p e below _ (T6.setTop (mkF m 33 #[.val (.int x0), .val (.int x1), .val (.int x2), .unset, .unset, .unset, .unset] [(.int (1114109 : Int32)), (.int (5 : Int32)), (.ref a1), (.ref a1)]))
  obtain ⟨T7, h7, X7, e7, W7, A7, st7⟩ := own_stI X6 hx hZ e6 A6 (g := (mkF m 33 #[.val (.int x0), .val (.int x1), .val (.int x2), .unset, .unset, .unset, .unset] [(.int (1114109 : Int32)), (.int (5 : Int32)), (.ref a1), (.ref a1)])) rfl rfl (hb hby at_33) 5 (by decide) (by simp)
  have N7 := Fr.snoc X7 N6 (Nat.le_of_eq q1.symm)
  refine own_go st7 ?_
  show own_Go p e below _ (T7.setTop (mkF m 34 #[.val (.int x0), .val (.int x1), .val (.int x2), .unset, .unset, .unset, .unset] [(.ref a1)]))
  refine own_go (fun _ => XS.dup X7.here hx rfl (hb hby at_34) rfl rfl) ?_
  show own_Go p e below _ (T7.setTop (mkF m 35 #[.val (.int x0), .val (.int x1), .val (.int x2), .unset, .unset, .unset, .unset] [(.ref a1), (.ref a1)]))
  refine own_go (fun _ => XS.bipush X7.here hx rfl (hb hby at_35)) ?_
  show own_Go p e below _ (T7.setTop (mkF m 37 #[.val (.int x0), .val (.int x1), .val (.int x2), .unset, .unset, .unset, .unset] [(.int (6 : Int32)), (.ref a1), (.ref a1)]))
  refine own_go (X7.ldcInt hx hown (mvT hZ (hw _ (List.mem_of_getElem? (i := 7) rfl))) (g := (mkF m 37 #[.val (.int x0), .val (.int x1), .val (.int x2), .unset, .unset, .unset, .unset] [(.int (6 : Int32)), (.ref a1), (.ref a1)])) rfl (hb hby at_37)) ?_
  show own_Go p e below _ (T7.setTop (mkF m 39 #[.val (.int x0), .val (.int x1), .val (.int x2), .unset, .unset, .unset, .unset] [(.int (57343 : Int32)), (.int (6 : Int32)), (.ref a1), (.ref a1)]))
  obtain ⟨T8, h8, X8, e8, W8, A8, st8⟩ := own_stI X7 hx hZ e7 A7 (g := (mkF m 39 #[.val (.int x0), .val (.int x1), .val (.int x2), .unset, .unset, .unset, .unset] [(.int (57343 : Int32)), (.int (6 : Int32)), (.ref a1), (.ref a1)])) rfl rfl (hb hby at_39) 6 (by decide) (by simp)
  have N8 := Fr.snoc X8 N7 (Nat.le_of_eq q1.symm)
  refine own_go st8 ?_
  show own_Go p e below _ (T8.setTop (mkF m 40 #[.val (.int x0), .val (.int x1), .val (.int x2), .unset, .unset, .unset, .unset] [(.ref a1)]))
  refine own_go (fun _ => XS.dup X8.here hx rfl (hb hby at_40) rfl rfl) ?_
  show own_Go p e below _ (T8.setTop (mkF m 41 #[.val (.int x0), .val (.int x1), .val (.int x2), .unset, .unset, .unset, .unset] [(.ref a1), (.ref a1)]))
  refine own_go (fun _ => XS.bipush X8.here hx rfl (hb hby at_41)) ?_
  show own_Go p e below _ (T8.setTop (mkF m 43 #[.val (.int x0), .val (.int x1), .val (.int x2), .unset, .unset, .unset, .unset] [(.int (7 : Int32)), (.ref a1), (.ref a1)]))
  refine own_go (X8.ldcInt hx hown (mvT hZ (hw _ (List.mem_of_getElem? (i := 8) rfl))) (g := (mkF m 43 #[.val (.int x0), .val (.int x1), .val (.int x2), .unset, .unset, .unset, .unset] [(.int (7 : Int32)), (.ref a1), (.ref a1)])) rfl (hb hby at_43)) ?_
  show own_Go p e below _ (T8.setTop (mkF m 45 #[.val (.int x0), .val (.int x1), .val (.int x2), .unset, .unset, .unset, .unset] [(.int (63744 : Int32)), (.int (7 : Int32)), (.ref a1), (.ref a1)]))
  obtain ⟨T9, h9, X9, e9, W9, A9, st9⟩ := own_stI X8 hx hZ e8 A8 (g := (mkF m 45 #[.val (.int x0), .val (.int x1), .val (.int x2), .unset, .unset, .unset, .unset] [(.int (63744 : Int32)), (.int (7 : Int32)), (.ref a1), (.ref a1)])) rfl rfl (hb hby at_45) 7 (by decide) (by simp)
  have N9 := Fr.snoc X9 N8 (Nat.le_of_eq q1.symm)
  refine own_go st9 ?_
  show own_Go p e below _ (T9.setTop (mkF m 46 #[.val (.int x0), .val (.int x1), .val (.int x2), .unset, .unset, .unset, .unset] [(.ref a1)]))
  refine own_go (fun _ => XS.dup X9.here hx rfl (hb hby at_46) rfl rfl) ?_
  show own_Go p e below _ (T9.setTop (mkF m 47 #[.val (.int x0), .val (.int x1), .val (.int x2), .unset, .unset, .unset, .unset] [(.ref a1), (.ref a1)]))
  refine own_go (fun _ => XS.bipush X9.here hx rfl (hb hby at_47)) ?_
  show own_Go p e below _ (T9.setTop (mkF m 49 #[.val (.int x0), .val (.int x1), .val (.int x2), .unset, .unset, .unset, .unset] [(.int (8 : Int32)), (.ref a1), (.ref a1)]))
  refine own_go (X9.ldcInt hx hown (mvT hZ (hw _ (List.mem_of_getElem? (i := 9) rfl))) (g := (mkF m 49 #[.val (.int x0), .val (.int x1), .val (.int x2), .unset, .unset, .unset, .unset] [(.int (8 : Int32)), (.ref a1), (.ref a1)])) rfl (hb hby at_49)) ?_
  show own_Go p e below _ (T9.setTop (mkF m 51 #[.val (.int x0), .val (.int x1), .val (.int x2), .unset, .unset, .unset, .unset] [(.int (983039 : Int32)), (.int (8 : Int32)), (.ref a1), (.ref a1)]))
  obtain ⟨T10, h10, X10, e10, W10, A10, st10⟩ := own_stI X9 hx hZ e9 A9 (g := (mkF m 51 #[.val (.int x0), .val (.int x1), .val (.int x2), .unset, .unset, .unset, .unset] [(.int (983039 : Int32)), (.int (8 : Int32)), (.ref a1), (.ref a1)])) rfl rfl (hb hby at_51) 8 (by decide) (by simp)
  have N10 := Fr.snoc X10 N9 (Nat.le_of_eq q1.symm)
  refine own_go st10 ?_
  show own_Go p e below _ (T10.setTop (mkF m 52 #[.val (.int x0), .val (.int x1), .val (.int x2), .unset, .unset, .unset, .unset] [(.ref a1)]))
  refine own_go (fun _ => XS.dup X10.here hx rfl (hb hby at_52) rfl rfl) ?_
  show own_Go p e below _ (T10.setTop (mkF m 53 #[.val (.int x0), .val (.int x1), .val (.int x2), .unset, .unset, .unset, .unset] [(.ref a1), (.ref a1)]))
  refine own_go (fun _ => XS.bipush X10.here hx rfl (hb hby at_53)) ?_
  show own_Go p e below _ (T10.setTop (mkF m 55 #[.val (.int x0), .val (.int x1), .val (.int x2), .unset, .unset, .unset, .unset] [(.int (9 : Int32)), (.ref a1), (.ref a1)]))
  refine own_go (X10.ldcInt hx hown (mvT hZ (hw _ (List.mem_of_getElem? (i := 10) rfl))) (g := (mkF m 55 #[.val (.int x0), .val (.int x1), .val (.int x2), .unset, .unset, .unset, .unset] [(.int (9 : Int32)), (.ref a1), (.ref a1)])) rfl (hb hby at_55)) ?_
  show own_Go p e below _ (T10.setTop (mkF m 57 #[.val (.int x0), .val (.int x1), .val (.int x2), .unset, .unset, .unset, .unset] [(.int (1048574 : Int32)), (.int (9 : Int32)), (.ref a1), (.ref a1)]))
  obtain ⟨T11, h11, X11, e11, W11, A11, st11⟩ := own_stI X10 hx hZ e10 A10 (g := (mkF m 57 #[.val (.int x0), .val (.int x1), .val (.int x2), .unset, .unset, .unset, .unset] [(.int (1048574 : Int32)), (.int (9 : Int32)), (.ref a1), (.ref a1)])) rfl rfl (hb hby at_57) 9 (by decide) (by simp)
  have N11 := Fr.snoc X11 N10 (Nat.le_of_eq q1.symm)
  refine own_go st11 ?_
  show own_Go p e below _ (T11.setTop (mkF m 58 #[.val (.int x0), .val (.int x1), .val (.int x2), .unset, .unset, .unset, .unset] [(.ref a1)]))
  refine own_go (fun _ => XS.dup X11.here hx rfl (hb hby at_58) rfl rfl) ?_
  show own_Go p e below _ (T11.setTop (mkF m 59 #[.val (.int x0), .val (.int x1), .val (.int x2), .unset, .unset, .unset, .unset] [(.ref a1), (.ref a1)]))
  refine own_go (fun _ => XS.bipush X11.here hx rfl (hb hby at_59)) ?_
  show own_Go p e below _ (T11.setTop (mkF m 61 #[.val (.int x0), .val (.int x1), .val (.int x2), .unset, .unset, .unset, .unset] [(.int (10 : Int32)), (.ref a1), (.ref a1)]))
  refine own_go (X11.ldcInt hx hown (mvT hZ (hw _ (List.mem_of_getElem? (i := 11) rfl))) (g := (mkF m 61 #[.val (.int x0), .val (.int x1), .val (.int x2), .unset, .unset, .unset, .unset] [(.int (10 : Int32)), (.ref a1), (.ref a1)])) rfl (hb hby at_61)) ?_
  show own_Go p e below _ (T11.setTop (mkF m 63 #[.val (.int x0), .val (.int x1), .val (.int x2), .unset, .unset, .unset, .unset] [(.int (1048575 : Int32)), (.int (10 : Int32)), (.ref a1), (.ref a1)]))
  obtain ⟨T12, h12, X12, e12, W12, A12, st12⟩ := own_stI X11 hx hZ e11 A11 (g := (mkF m 63 #[.val (.int x0), .val (.int x1), .val (.int x2), .unset, .unset, .unset, .unset] [(.int (1048575 : Int32)), (.int (10 : Int32)), (.ref a1), (.ref a1)])) rfl rfl (hb hby at_63) 10 (by decide) (by simp)
  have N12 := Fr.snoc X12 N11 (Nat.le_of_eq q1.symm)
  refine own_go st12 ?_
  show own_Go p e below _ (T12.setTop (mkF m 64 #[.val (.int x0), .val (.int x1), .val (.int x2), .unset, .unset, .unset, .unset] [(.ref a1)]))
  refine own_go (fun _ => XS.dup X12.here hx rfl (hb hby at_64) rfl rfl) ?_
  show own_Go p e below _ (T12.setTop (mkF m 65 #[.val (.int x0), .val (.int x1), .val (.int x2), .unset, .unset, .unset, .unset] [(.ref a1), (.ref a1)]))
  refine own_go (fun _ => XS.bipush X12.here hx rfl (hb hby at_65)) ?_
  show own_Go p e below _ (T12.setTop (mkF m 67 #[.val (.int x0), .val (.int x1), .val (.int x2), .unset, .unset, .unset, .unset] [(.int (11 : Int32)), (.ref a1), (.ref a1)]))
  refine own_go (X12.ldcInt hx hown (mvT hZ (hw _ (List.mem_of_getElem? (i := 12) rfl))) (g := (mkF m 67 #[.val (.int x0), .val (.int x1), .val (.int x2), .unset, .unset, .unset, .unset] [(.int (11 : Int32)), (.ref a1), (.ref a1)])) rfl (hb hby at_67)) ?_
  show own_Go p e below _ (T12.setTop (mkF m 69 #[.val (.int x0), .val (.int x1), .val (.int x2), .unset, .unset, .unset, .unset] [(.int (1114110 : Int32)), (.int (11 : Int32)), (.ref a1), (.ref a1)]))
  obtain ⟨T13, h13, X13, e13, W13, A13, st13⟩ := own_stI X12 hx hZ e12 A12 (g := (mkF m 69 #[.val (.int x0), .val (.int x1), .val (.int x2), .unset, .unset, .unset, .unset] [(.int (1114110 : Int32)), (.int (11 : Int32)), (.ref a1), (.ref a1)])) rfl rfl (hb hby at_69) 11 (by decide) (by simp)
  have N13 := Fr.snoc X13 N12 (Nat.le_of_eq q1.symm)
  refine own_go st13 ?_
  show own_Go p e below _ (T13.setTop (mkF m 70 #[.val (.int x0), .val (.int x1), .val (.int x2), .unset, .unset, .unset, .unset] [(.ref a1)]))
  refine own_go (fun _ => XS.dup X13.here hx rfl (hb hby at_70) rfl rfl) ?_
  show own_Go p e below _ (T13.setTop (mkF m 71 #[.val (.int x0), .val (.int x1), .val (.int x2), .unset, .unset, .unset, .unset] [(.ref a1), (.ref a1)]))
  refine own_go (fun _ => XS.bipush X13.here hx rfl (hb hby at_71)) ?_
  show own_Go p e below _ (T13.setTop (mkF m 73 #[.val (.int x0), .val (.int x1), .val (.int x2), .unset, .unset, .unset, .unset] [(.int (12 : Int32)), (.ref a1), (.ref a1)]))
  refine own_go (X13.ldcInt hx hown (mvT hZ (hw _ (List.mem_of_getElem? (i := 13) rfl))) (g := (mkF m 73 #[.val (.int x0), .val (.int x1), .val (.int x2), .unset, .unset, .unset, .unset] [(.int (12 : Int32)), (.ref a1), (.ref a1)])) rfl (hb hby at_73)) ?_
  show own_Go p e below _ (T13.setTop (mkF m 75 #[.val (.int x0), .val (.int x1), .val (.int x2), .unset, .unset, .unset, .unset] [(.int (1114111 : Int32)), (.int (12 : Int32)), (.ref a1), (.ref a1)]))
  obtain ⟨T14, h14, X14, e14, W14, A14, st14⟩ := own_stI X13 hx hZ e13 A13 (g := (mkF m 75 #[.val (.int x0), .val (.int x1), .val (.int x2), .unset, .unset, .unset, .unset] [(.int (1114111 : Int32)), (.int (12 : Int32)), (.ref a1), (.ref a1)])) rfl rfl (hb hby at_75) 12 (by decide) (by simp)
  have N14 := Fr.snoc X14 N13 (Nat.le_of_eq q1.symm)
  refine own_go st14 ?_
  show own_Go p e below _ (T14.setTop (mkF m 76 #[.val (.int x0), .val (.int x1), .val (.int x2), .unset, .unset, .unset, .unset] [(.ref a1)]))
  refine own_go (fun _ => XS.dup X14.here hx rfl (hb hby at_76) rfl rfl) ?_
  show own_Go p e below _ (T14.setTop (mkF m 77 #[.val (.int x0), .val (.int x1), .val (.int x2), .unset, .unset, .unset, .unset] [(.ref a1), (.ref a1)]))
  refine own_go (fun _ => XS.bipush X14.here hx rfl (hb hby at_77)) ?_
  show own_Go p e below _ (T14.setTop (mkF m 79 #[.val (.int x0), .val (.int x1), .val (.int x2), .unset, .unset, .unset, .unset] [(.int (13 : Int32)), (.ref a1), (.ref a1)]))
  refine own_go (X14.ldcInt hx hown (mvT hZ (hw _ (List.mem_of_getElem? (i := 14) rfl))) (g := (mkF m 79 #[.val (.int x0), .val (.int x1), .val (.int x2), .unset, .unset, .unset, .unset] [(.int (13 : Int32)), (.ref a1), (.ref a1)])) rfl (hb hby at_79)) ?_
  show own_Go p e below _ (T14.setTop (mkF m 81 #[.val (.int x0), .val (.int x1), .val (.int x2), .unset, .unset, .unset, .unset] [(.int (1114112 : Int32)), (.int (13 : Int32)), (.ref a1), (.ref a1)]))
  obtain ⟨T15, h15, X15, e15, W15, A15, st15⟩ := own_stI X14 hx hZ e14 A14 (g := (mkF m 81 #[.val (.int x0), .val (.int x1), .val (.int x2), .unset, .unset, .unset, .unset] [(.int (1114112 : Int32)), (.int (13 : Int32)), (.ref a1), (.ref a1)])) rfl rfl (hb hby at_81) 13 (by decide) (by simp)
  have N15 := Fr.snoc X15 N14 (Nat.le_of_eq q1.symm)
  refine own_go st15 ?_
  show own_Go p e below _ (T15.setTop (mkF m 82 #[.val (.int x0), .val (.int x1), .val (.int x2), .unset, .unset, .unset, .unset] [(.ref a1)]))
  refine own_go (fun _ => XS.dup X15.here hx rfl (hb hby at_82) rfl rfl) ?_
  show own_Go p e below _ (T15.setTop (mkF m 83 #[.val (.int x0), .val (.int x1), .val (.int x2), .unset, .unset, .unset, .unset] [(.ref a1), (.ref a1)]))
  refine own_go (fun _ => XS.bipush X15.here hx rfl (hb hby at_83)) ?_
  show own_Go p e below _ (T15.setTop (mkF m 85 #[.val (.int x0), .val (.int x1), .val (.int x2), .unset, .unset, .unset, .unset] [(.int (14 : Int32)), (.ref a1), (.ref a1)]))
  refine own_go (fun _ => XS.iconst X15.here hx rfl (hb hby at_85)) ?_
  show own_Go p e below _ (T15.setTop (mkF m 86 #[.val (.int x0), .val (.int x1), .val (.int x2), .unset, .unset, .unset, .unset] [(.int (0 : Int32)), (.int (14 : Int32)), (.ref a1), (.ref a1)]))
  obtain ⟨T16, h16, X16, e16, W16, A16, st16⟩ := own_stI X15 hx hZ e15 A15 (g := (mkF m 86 #[.val (.int x0), .val (.int x1), .val (.int x2), .unset, .unset, .unset, .unset] [(.int (0 : Int32)), (.int (14 : Int32)), (.ref a1), (.ref a1)])) rfl rfl (hb hby at_86) 14 (by decide) (by simp)
  have N16 := Fr.snoc X16 N15 (Nat.le_of_eq q1.symm)
  refine own_go st16 ?_
  show own_Go p e below _ (T16.setTop (mkF m 87 #[.val (.int x0), .val (.int x1), .val (.int x2), .unset, .unset, .unset, .unset] [(.ref a1)]))
  refine own_go (fun _ => XS.dup X16.here hx rfl (hb hby at_87) rfl rfl) ?_
  show own_Go p e below _ (T16.setTop (mkF m 88 #[.val (.int x0), .val (.int x1), .val (.int x2), .unset, .unset, .unset, .unset] [(.ref a1), (.ref a1)]))
  refine own_go (fun _ => XS.bipush X16.here hx rfl (hb hby at_88)) ?_
  show own_Go p e below _ (T16.setTop (mkF m 90 #[.val (.int x0), .val (.int x1), .val (.int x2), .unset, .unset, .unset, .unset] [(.int (15 : Int32)), (.ref a1), (.ref a1)]))
  refine own_go (X16.ldcInt hx hown (mvT hZ (hw _ (List.mem_of_getElem? (i := 15) rfl))) (g := (mkF m 90 #[.val (.int x0), .val (.int x1), .val (.int x2), .unset, .unset, .unset, .unset] [(.int (15 : Int32)), (.ref a1), (.ref a1)])) rfl (hb hby at_90)) ?_
  show own_Go p e below _ (T16.setTop (mkF m 92 #[.val (.int x0), .val (.int x1), .val (.int x2), .unset, .unset, .unset, .unset] [(.int (131069 : Int32)), (.int (15 : Int32)), (.ref a1), (.ref a1)]))
  obtain ⟨T17, h17, X17, e17, W17, A17, st17⟩ := own_stI X16 hx hZ e16 A16 (g := (mkF m 92 #[.val (.int x0), .val (.int x1), .val (.int x2), .unset, .unset, .unset, .unset] [(.int (131069 : Int32)), (.int (15 : Int32)), (.ref a1), (.ref a1)])) rfl rfl (hb hby at_92) 15 (by decide) (by simp)
  have N17 := Fr.snoc X17 N16 (Nat.le_of_eq q1.symm)
  refine own_go st17 ?_
  show own_Go p e below _ (T17.setTop (mkF m 93 #[.val (.int x0), .val (.int x1), .val (.int x2), .unset, .unset, .unset, .unset] [(.ref a1)]))
  have AF : own_AV Z h17 a1 .int (([(57344 : Int32), (63743 : Int32), (983040 : Int32), (1048573 : Int32), (1048576 : Int32), (1114109 : Int32), (57343 : Int32), (63744 : Int32), (983039 : Int32), (1048574 : Int32), (1048575 : Int32), (1114110 : Int32), (1114111 : Int32), (1114112 : Int32), (0 : Int32), (131069 : Int32)] : List Int32).map Value.int) := A17
  refine own_go (fun _ => XS.astoreN X17.here hx rfl (hb hby at_93) rfl rfl (l' := #[.val (.int x0), .val (.int x1), .val (.int x2), .val (.ref a1), .unset, .unset, .unset]) rfl) ?_
  show own_Go p e below _ (T17.setTop (mkF m 94 #[.val (.int x0), .val (.int x1), .val (.int x2), .val (.ref a1), .unset, .unset, .unset] []))
  refine own_go (fun _ => XS.aloadN X17.here hx rfl (hb hby at_94) rfl rfl) ?_
  show own_Go p e below _ (T17.setTop (mkF m 95 #[.val (.int x0), .val (.int x1), .val (.int x2), .val (.ref a1), .unset, .unset, .unset] [(.ref a1)]))
  refine own_go (fun _ => XS.iloadN X17.here hx rfl (hb hby at_95) rfl) ?_
  show own_Go p e below _ (T17.setTop (mkF m 96 #[.val (.int x0), .val (.int x1), .val (.int x2), .val (.ref a1), .unset, .unset, .unset] [(.int x1), (.ref a1)]))
  refine own_go (fun _ => XS.bipush X17.here hx rfl (hb hby at_96)) ?_
  show own_Go p e below _ (T17.setTop (mkF m 98 #[.val (.int x0), .val (.int x1), .val (.int x2), .val (.ref a1), .unset, .unset, .unset] [(.int (15 : Int32)), (.int x1), (.ref a1)]))
  refine own_go (fun _ => XS.iand X17.here hx rfl (hb hby at_98) rfl) ?_
  show own_Go p e below _ (T17.setTop (mkF m 99 #[.val (.int x0), .val (.int x1), .val (.int x2), .val (.ref a1), .unset, .unset, .unset] [(.int (x1 &&& (15 : Int32))), (.ref a1)]))
  have ej : (x1 &&& (15 : Int32)).toInt = ((x1.toInt % 16).toNat : Nat) := by
    rw [c_mask x1 15 4 (by decide) (by decide)]; show x1.toInt % 16 = _; omega
  obtain ⟨yv, hyv⟩ := own_ex [(57344 : Int32), (63743 : Int32), (983040 : Int32), (1048573 : Int32), (1048576 : Int32), (1114109 : Int32), (57343 : Int32), (63744 : Int32), (983039 : Int32), (1048574 : Int32), (1048575 : Int32), (1114110 : Int32), (1114111 : Int32), (1114112 : Int32), (0 : Int32), (131069 : Int32)] (x1.toInt % 16).toNat (by show _ < 16; omega)
  refine own_go (own_ldI X17 hx hZ e17 AF (g := (mkF m 99 #[.val (.int x0), .val (.int x1), .val (.int x2), .val (.ref a1), .unset, .unset, .unset] [(.int (x1 &&& (15 : Int32))), (.ref a1)])) rfl rfl (hb hby at_99) (x1.toInt % 16).toNat ej (x := (.int yv)) hyv) ?_
  show own_Go p e below _ (T17.setTop (mkF m 100 #[.val (.int x0), .val (.int x1), .val (.int x2), .val (.ref a1), .unset, .unset, .unset] [(.int yv)]))
  refine own_go (fun _ => XS.iloadN X17.here hx rfl (hb hby at_100) rfl) ?_
  show own_Go p e below _ (T17.setTop (mkF m 101 #[.val (.int x0), .val (.int x1), .val (.int x2), .val (.ref a1), .unset, .unset, .unset] [(.int x2), (.int yv)]))
  refine own_go (fun _ => XS.bipush X17.here hx rfl (hb hby at_101)) ?_
  show own_Go p e below _ (T17.setTop (mkF m 103 #[.val (.int x0), .val (.int x1), .val (.int x2), .val (.ref a1), .unset, .unset, .unset] [(.int (7 : Int32)), (.int x2), (.int yv)]))
  refine own_go (fun _ => XS.iand X17.here hx rfl (hb hby at_103) rfl) ?_
  show own_Go p e below _ (T17.setTop (mkF m 104 #[.val (.int x0), .val (.int x1), .val (.int x2), .val (.ref a1), .unset, .unset, .unset] [(.int (x2 &&& (7 : Int32))), (.int yv)]))
  refine own_go (fun _ => XS.iconst X17.here hx rfl (hb hby at_104)) ?_
  show own_Go p e below _ (T17.setTop (mkF m 105 #[.val (.int x0), .val (.int x1), .val (.int x2), .val (.ref a1), .unset, .unset, .unset] [(.int (4 : Int32)), (.int (x2 &&& (7 : Int32))), (.int yv)]))
  refine own_go (fun _ => XS.isub X17.here hx rfl (hb hby at_105) rfl) ?_
  show own_Go p e below _ (T17.setTop (mkF m 106 #[.val (.int x0), .val (.int x1), .val (.int x2), .val (.ref a1), .unset, .unset, .unset] [(.int ((x2 &&& (7 : Int32)) - (4 : Int32))), (.int yv)]))
  refine own_go (fun _ => XS.iadd X17.here hx rfl (hb hby at_106) rfl) ?_
  show own_Go p e below _ (T17.setTop (mkF m 107 #[.val (.int x0), .val (.int x1), .val (.int x2), .val (.ref a1), .unset, .unset, .unset] [(.int (yv + ((x2 &&& (7 : Int32)) - (4 : Int32))))]))
  obtain ⟨pv, hpv⟩ : ∃ z, z = (yv + ((x2 &&& (7 : Int32)) - (4 : Int32))) := ⟨_, rfl⟩
  rw [← hpv]
  show own_Go p e below _ (T17.setTop (mkF m 107 #[.val (.int x0), .val (.int x1), .val (.int x2), .val (.ref a1), .unset, .unset, .unset] [(.int pv)]))
  refine own_go (fun _ => XS.istore X17.here hx rfl (hb hby at_107) rfl (l' := #[.val (.int x0), .val (.int x1), .val (.int x2), .val (.ref a1), .val (.int pv), .unset, .unset]) rfl) ?_
  show own_Go p e below _ (T17.setTop (mkF m 109 #[.val (.int x0), .val (.int x1), .val (.int x2), .val (.ref a1), .val (.int pv), .unset, .unset] []))
  refine own_go (fun _ => XS.iloadN X17.here hx rfl (hb hby at_109) rfl) ?_
  show own_Go p e below _ (T17.setTop (mkF m 110 #[.val (.int x0), .val (.int x1), .val (.int x2), .val (.ref a1), .val (.int pv), .unset, .unset] [(.int x0)]))
  obtain ⟨T18, X18, e18, st18⟩ := own_callSP X17 hx hZ hown (argsL := [(.int x0)]) (rest := []) (own_isIprivate_con l Z a0 hw x0 h17 []) e17 (hw _ (List.mem_of_getElem? (i := 16) rfl)) (hw _ (List.mem_of_getElem? (i := 17) rfl)) (hw _ (List.mem_of_getElem? (i := 18) rfl)) (hw _ (List.mem_of_getElem? (i := 19) rfl)) (by decide) (by decide +kernel : parseMethodDescriptor "(I)Z" = some ⟨[.int], some .boolean⟩) rfl (g := (mkF m 110 #[.val (.int x0), .val (.int x1), .val (.int x2), .val (.ref a1), .val (.int pv), .unset, .unset] [(.int x0)])) rfl (by rw [hml]; rfl) rfl 0 (by show 2 * 0 + _ ≤ _; exact Nat.le_of_eq rfl) (hb hby at_110) (by decide) (by decide) rfl rfl (by decide) (by decide)
  refine own_go st18 ?_
  show own_Go p e below _ (T18.setTop (mkF m 113 #[.val (.int x0), .val (.int x1), .val (.int x2), .val (.ref a1), .val (.int pv), .unset, .unset] [(.int (own_isIprivate x0))]))
  refine own_go (fun _ => XS.iloadN X18.here hx rfl (hb hby at_113) rfl) ?_
  show own_Go p e below _ (T18.setTop (mkF m 114 #[.val (.int x0), .val (.int x1), .val (.int x2), .val (.ref a1), .val (.int pv), .unset, .unset] [(.int x0), (.int (own_isIprivate x0))]))
  obtain ⟨T19, X19, e19, st19⟩ := own_callSP X18 hx hZ hown (argsL := [(.int x0)]) (rest := [(.int (own_isIprivate x0))]) (own_reference_con l Z a0 hw x0 h17 []) e18 (hw _ (List.mem_of_getElem? (i := 22) rfl)) (hw _ (List.mem_of_getElem? (i := 23) rfl)) (hw _ (List.mem_of_getElem? (i := 24) rfl)) (hw _ (List.mem_of_getElem? (i := 25) rfl)) (by decide) (by decide +kernel : parseMethodDescriptor "(I)Z" = some ⟨[.int], some .boolean⟩) rfl (g := (mkF m 114 #[.val (.int x0), .val (.int x1), .val (.int x2), .val (.ref a1), .val (.int pv), .unset, .unset] [(.int x0), (.int (own_isIprivate x0))])) rfl (by rw [hml]; rfl) rfl 1 (by show 2 * 0 + _ ≤ _; exact Nat.le_of_eq rfl) (hb hby at_114) (by decide) (by decide) rfl rfl (by decide) (by decide)
  refine own_go st19 ?_
  show own_Go p e below _ (T19.setTop (mkF m 117 #[.val (.int x0), .val (.int x1), .val (.int x2), .val (.ref a1), .val (.int pv), .unset, .unset] [(.int (own_reference x0)), (.int (own_isIprivate x0))]))
  refine own_go (fun _ => XS.icmpNo X19.here hx rfl (hb hby at_117) rfl (XT.ii_ne_f (own_same x0))) ?_
  show own_Go p e below _ (T19.setTop (mkF m 120 #[.val (.int x0), .val (.int x1), .val (.int x2), .val (.ref a1), .val (.int pv), .unset, .unset] []))
  refine own_go (fun _ => XS.iconst X19.here hx rfl (hb hby at_120)) ?_
  show own_Go p e below _ (T19.setTop (mkF m 121 #[.val (.int x0), .val (.int x1), .val (.int x2), .val (.ref a1), .val (.int pv), .unset, .unset] [(.int (1 : Int32))]))
  refine own_go (fun _ => XS.goto X19.here hx rfl (pc0 := 121) (pc' := 125) rfl (hb hby at_121) (by decide) (by decide)) ?_
  show own_Go p e below _ (T19.setTop (mkF m 125 #[.val (.int x0), .val (.int x1), .val (.int x2), .val (.ref a1), .val (.int pv), .unset, .unset] [(.int (1 : Int32))]))
  refine own_go (fun _ => XS.istore X19.here hx rfl (hb hby at_125) rfl (l' := #[.val (.int x0), .val (.int x1), .val (.int x2), .val (.ref a1), .val (.int pv), .val (.int (1 : Int32)), .unset]) rfl) ?_
  show own_Go p e below _ (T19.setTop (mkF m 127 #[.val (.int x0), .val (.int x1), .val (.int x2), .val (.ref a1), .val (.int pv), .val (.int (1 : Int32)), .unset] []))
  refine own_go (fun _ => XS.iload X19.here hx rfl (hb hby at_127) rfl) ?_
  show own_Go p e below _ (T19.setTop (mkF m 129 #[.val (.int x0), .val (.int x1), .val (.int x2), .val (.ref a1), .val (.int pv), .val (.int (1 : Int32)), .unset] [(.int pv)]))
  obtain ⟨T20, X20, e20, st20⟩ := own_callSP X19 hx hZ hown (argsL := [(.int pv)]) (rest := []) (own_isIprivate_con l Z a0 hw pv h17 []) e19 (hw _ (List.mem_of_getElem? (i := 16) rfl)) (hw _ (List.mem_of_getElem? (i := 17) rfl)) (hw _ (List.mem_of_getElem? (i := 18) rfl)) (hw _ (List.mem_of_getElem? (i := 19) rfl)) (by decide) (by decide +kernel : parseMethodDescriptor "(I)Z" = some ⟨[.int], some .boolean⟩) rfl (g := (mkF m 129 #[.val (.int x0), .val (.int x1), .val (.int x2), .val (.ref a1), .val (.int pv), .val (.int (1 : Int32)), .unset] [(.int pv)])) rfl (by rw [hml]; rfl) rfl 0 (by show 2 * 0 + _ ≤ _; exact Nat.le_of_eq rfl) (hb hby at_129) (by decide) (by decide) rfl rfl (by decide) (by decide)
  refine own_go st20 ?_
  show own_Go p e below _ (T20.setTop (mkF m 132 #[.val (.int x0), .val (.int x1), .val (.int x2), .val (.ref a1), .val (.int pv), .val (.int (1 : Int32)), .unset] [(.int (own_isIprivate pv))]))
  refine own_go (fun _ => XS.iload X20.here hx rfl (hb hby at_132) rfl) ?_
  show own_Go p e below _ (T20.setTop (mkF m 134 #[.val (.int x0), .val (.int x1), .val (.int x2), .val (.ref a1), .val (.int pv), .val (.int (1 : Int32)), .unset] [(.int pv), (.int (own_isIprivate pv))]))
  obtain ⟨T21, X21, e21, st21⟩ := own_callSP X20 hx hZ hown (argsL := [(.int pv)]) (rest := [(.int (own_isIprivate pv))]) (own_reference_con l Z a0 hw pv h17 []) e20 (hw _ (List.mem_of_getElem? (i := 22) rfl)) (hw _ (List.mem_of_getElem? (i := 23) rfl)) (hw _ (List.mem_of_getElem? (i := 24) rfl)) (hw _ (List.mem_of_getElem? (i := 25) rfl)) (by decide) (by decide +kernel : parseMethodDescriptor "(I)Z" = some ⟨[.int], some .boolean⟩) rfl (g := (mkF m 134 #[.val (.int x0), .val (.int x1), .val (.int x2), .val (.ref a1), .val (.int pv), .val (.int (1 : Int32)), .unset] [(.int pv), (.int (own_isIprivate pv))])) rfl (by rw [hml]; rfl) rfl 1 (by show 2 * 0 + _ ≤ _; exact Nat.le_of_eq rfl) (hb hby at_134) (by decide) (by decide) rfl rfl (by decide) (by decide)
  refine own_go st21 ?_
  show own_Go p e below _ (T21.setTop (mkF m 137 #[.val (.int x0), .val (.int x1), .val (.int x2), .val (.ref a1), .val (.int pv), .val (.int (1 : Int32)), .unset] [(.int (own_reference pv)), (.int (own_isIprivate pv))]))
  refine own_go (fun _ => XS.icmpNo X21.here hx rfl (hb hby at_137) rfl (XT.ii_ne_f (own_same pv))) ?_
  show own_Go p e below _ (T21.setTop (mkF m 140 #[.val (.int x0), .val (.int x1), .val (.int x2), .val (.ref a1), .val (.int pv), .val (.int (1 : Int32)), .unset] []))
  refine own_go (fun _ => XS.iconst X21.here hx rfl (hb hby at_140)) ?_
  show own_Go p e below _ (T21.setTop (mkF m 141 #[.val (.int x0), .val (.int x1), .val (.int x2), .val (.ref a1), .val (.int pv), .val (.int (1 : Int32)), .unset] [(.int (1 : Int32))]))
  refine own_go (fun _ => XS.goto X21.here hx rfl (pc0 := 141) (pc' := 145) rfl (hb hby at_141) (by decide) (by decide)) ?_
  show own_Go p e below _ (T21.setTop (mkF m 145 #[.val (.int x0), .val (.int x1), .val (.int x2), .val (.ref a1), .val (.int pv), .val (.int (1 : Int32)), .unset] [(.int (1 : Int32))]))
  refine own_go (fun _ => XS.istore X21.here hx rfl (hb hby at_145) rfl (l' := #[.val (.int x0), .val (.int x1), .val (.int x2), .val (.ref a1), .val (.int pv), .val (.int (1 : Int32)), .val (.int (1 : Int32))]) rfl) ?_
  show own_Go p e below _ (T21.setTop (mkF m 147 #[.val (.int x0), .val (.int x1), .val (.int x2), .val (.ref a1), .val (.int pv), .val (.int (1 : Int32)), .val (.int (1 : Int32))] []))
  refine own_go (fun _ => XS.iload X21.here hx rfl (hb hby at_147) rfl) ?_
  show own_Go p e below _ (T21.setTop (mkF m 149 #[.val (.int x0), .val (.int x1), .val (.int x2), .val (.ref a1), .val (.int pv), .val (.int (1 : Int32)), .val (.int (1 : Int32))] [(.int (1 : Int32))]))
  refine own_go (fun _ => XS.ifNo X21.here hx rfl (hb hby at_149) rfl (XT.i0_eq_f (by decide))) ?_
  show own_Go p e below _ (T21.setTop (mkF m 152 #[.val (.int x0), .val (.int x1), .val (.int x2), .val (.ref a1), .val (.int pv), .val (.int (1 : Int32)), .val (.int (1 : Int32))] []))
  refine own_go (fun _ => XS.iload X21.here hx rfl (hb hby at_152) rfl) ?_
  show own_Go p e below _ (T21.setTop (mkF m 154 #[.val (.int x0), .val (.int x1), .val (.int x2), .val (.ref a1), .val (.int pv), .val (.int (1 : Int32)), .val (.int (1 : Int32))] [(.int (1 : Int32))]))
  refine own_go (fun _ => XS.ifNo X21.here hx rfl (hb hby at_154) rfl (XT.i0_eq_f (by decide))) ?_
  show own_Go p e below _ (T21.setTop (mkF m 157 #[.val (.int x0), .val (.int x1), .val (.int x2), .val (.ref a1), .val (.int pv), .val (.int (1 : Int32)), .val (.int (1 : Int32))] []))
  refine own_go (fun _ => XS.iconst X21.here hx rfl (hb hby at_157)) ?_
  show own_Go p e below _ (T21.setTop (mkF m 158 #[.val (.int x0), .val (.int x1), .val (.int x2), .val (.ref a1), .val (.int pv), .val (.int (1 : Int32)), .val (.int (1 : Int32))] [(.int (1 : Int32))]))
  refine own_go (fun _ => XS.goto X21.here hx rfl (pc0 := 158) (pc' := 162) rfl (hb hby at_158) (by decide) (by decide)) ?_
  show own_Go p e below _ (T21.setTop (mkF m 162 #[.val (.int x0), .val (.int x1), .val (.int x2), .val (.ref a1), .val (.int pv), .val (.int (1 : Int32)), .val (.int (1 : Int32))] [(.int (1 : Int32))]))
  exact own_iret X21 hx hlk hret (Or.inr (Or.inl rfl)) rfl (hb hby at_162) (by decide) (by decide) ⟨rfl, N17⟩
set_option maxRecDepth 65536 in
set_option maxHeartbeats 40000000 in
theorem comes_1 {Post : Tables → Env → Array Value → State → Outcome → State → Prop} (hpost : ∀ tb e args s v u, (limb_1_1.after args s (.returned v) u = true ∧ limb_1_2.after args s (.returned v) u = true ∧ True) → FrameEnd s (.returned v) u (Jvm.fieldLocs frame_1_writes args s ++ Jvm.arrayLocs frame_1_arrays args s ++ Jvm.staticLocs frame_1_statics s) 16 128 → Post tb e args s (.returned v) u) :
    ArmFor flags0 classFile x code maxLocals ret World_1 tables_1 room_1 Calls_1 rest_1 Pre_1 Post := by
  intro l hfl _ _ p e ha hc hk s m args below hf hA hF happ hP
  obtain ⟨hcalls, hrest, hpre⟩ := hP
  obtain ⟨-, -, -, hnamed, -, -, -, hat⟩ := (Spec.applies_iff hf).mp happ
  obtain ⟨hg, hn⟩ := and_e (Cond.before_iff.mp (show (Jvm.Cond.and given_1 narrow_1).before args s = true from hpre))
  obtain ⟨gc, gr0⟩ := and_e hg
  obtain ⟨g0, gr1⟩ := and_e gr0
  obtain ⟨g1, gr2⟩ := and_e gr1
  obtain ⟨w0, w1, w2, rfl⟩ : ∃ w0 w1 w2 : Value, args = #[w0, w1, w2] := by
    have hs : args.size = 3 := by simpa [Cond.value, given_1] using gc
    obtain ⟨L⟩ := args
    match L, hs with
    | [w0, w1, w2], _ => exact ⟨w0, w1, w2, rfl⟩
  have hw := fun d (hd : d ∈ tables_1) => atoms_spec (ws := Jvm.Cond.code x code maxLocals ret :: tables_1) hat d (List.mem_cons_of_mem _ hd)
  have hfit : Fit s := fun {y c} hc i hi => by
    obtain ⟨ha, rfl⟩ := Array.getElem?_eq_some_iff.mp hc
    have q := List.all_eq_true.mp ((Array.all_eq_true_iff_forall_mem.mp hF) _ (Array.getElem_mem ha)) i (List.mem_range.mpr hi)
    simpa [Array.getElem?_eq_getElem hi] using q
  obtain ⟨i0, ei0⟩ := is_v g0
  obtain rfl : w0 = (.int i0) := Option.some.inj ei0
  obtain ⟨i1, ei1⟩ := is_v g1
  obtain rfl : w1 = (.int i1) := Option.some.inj ei1
  obtain ⟨i2, ei2⟩ := is_v gr2
  obtain rfl : w2 = (.int i2) := Option.some.inj ei2
  obtain ⟨n, o, h1, h2, h3, _, L, rfl, ⟨rfl, N⟩, hq⟩ := own_main_con l s _ hw i0 i1 i2  s.heap tables_1 p e ha hc hk s m _ below hf ((Spec.applies_iff_loose hf).mp happ).1 ⟨rfl, State.Warmed39.refl s, rfl⟩ trivial
  refine ⟨n, _, h1, h2, h3, hpost _ _ _ _ _ _ ⟨Cond.after_iff.mpr rfl, Cond.after_iff.mpr (eq_i res_at (Term.int_eval (1)) rfl), trivial⟩ ⟨hq.1, hq.2.1, (hq.2.2.sift fun y hy => Or.inr (N y hy)).mono (by decide) (by decide)⟩⟩
theorem main_1_1 : Claimed_1_1 := comes_1 fun _ _ _ _ _ _ h hF => ⟨h.1, hF⟩
theorem main_1_2 : Claimed_1_2 := comes_1 fun _ _ _ _ _ _ h hF => ⟨h.2.1, hF⟩
end Jvm.Pilot.@@N@@
namespace Jvm.Pilot.@@N@@
open Jvm Jvm.ClassFile Sem Op Lib Jvm.Free Jvm.Stand Jvm.Pilot.@@N@@.Jvm.D
/-! MADE BY PROGRAM (witnessworld.py) out of the Statement's table words and the real class files: 9 classes; the members and pool entries that the words name. The judged class is class 1, her method 2. -/
namespace start1
open Jvm.ClassFile
def u (s : String) : CpInfo := .utf8 (stringToUtf16 s)
/-- a pool by its gaps: so many unusable entries, then the entry; so many at the end -/
def gap : Nat → List CpInfo → List CpInfo
  | 0, r => r
  | n + 1, r => .unusable :: gap n r
def poolList (es : List (Nat × CpInfo)) (last : Nat) : List CpInfo := es.foldr (fun e r => gap e.1 (e.2 :: r)) (gap last [])
def pool (es : List (Nat × CpInfo)) (last : Nat) : Array CpInfo := ⟨poolList es last⟩
def fileOf (pool : Array CpInfo) (this : Nat) (attrs : Array Attribute := #[]) (ms : Array MethodInfo := #[]) (fl : Nat := 33) (sup : Nat := 0) (ifs : Array Nat := #[]) (fds : Array FieldInfo := #[]) : ClassFile where
  minorVersion := 0
  majorVersion := 65
  constantPool := pool
  accessFlags := fl
  thisClass := this
  superClass := sup
  interfaces := ifs
  fields := fds
  methods := ms
  attributes := attrs
def plain (name : String) (sup : Option ClassId) : Class where
  name := name
  kind := .ordinary
  loader := none
  accessFlags := 33
  super := sup
  interfaces := #[]
  cf := none
  fields := #[]
  methods := #[]
  instanceTypes := #[]
  staticTypes := #[]
  resolved := #[]
  callSites := []
  init := .initialized
  statics := none
  mirror := none

def pool0 : Array CpInfo := pool [(5, u "<init>"), (0, u "()V"), (1, .class_ 10), (1, u "java/lang/Object")] 113

def k0m0 : Method := { name := "<init>", desc := "()V", sig := { parameters := [], returnType := none }, accessFlags := 1, code := none }
/-- java/lang/Object -/
def k0 : Class := { plain "java/lang/Object" none with
  accessFlags := 33
  interfaces := #[]
  cf := some (fileOf pool0 8 #[] #[{ accessFlags := 1, nameIndex := 5, descriptorIndex := 6, attributes := #[] }] 33 0 #[] #[])
  fields := #[]
  methods := #[k0m0]
  instanceTypes := #[]
  staticTypes := #[]
  resolved := Array.replicate 124 none
  statics := none }

def pool1 : Array CpInfo := pool [(2, .class_ 4), (1, u "java/lang/Object"), (0, u "<init>"), (0, u "()V"), (0, .integer 57344), (0, .integer 63743), (0, .integer 983040), (0, .integer 1048573), (0, .integer 1048576), (0, .integer 1114109), (0, .integer 57343), (0, .integer 63744), (0, .integer 983039), (0, .integer 1048574), (0, .integer 1048575), (0, .integer 1114110), (0, .integer 1114111), (0, .integer 1114112), (0, .integer 131069), (0, .methodref 23 24), (0, .class_ 25), (0, .nameAndType 26 27), (0, u "com/example/jadeite/jadeite/formats/UriText"), (0, u "isIprivate"), (0, u "(I)Z"), (0, .methodref 29 30), (0, .class_ 31), (0, .nameAndType 32 27), (0, u "com/example/jadeite/jadeite/formats/UriTextIsIprivatePinLaw"), (0, u "reference"), (3, u "law"), (0, u "(III)Z")] 4

def k1m0 : Method := { name := "<init>", desc := "()V", sig := { parameters := [], returnType := none }, accessFlags := 2, code := none }
def k1c1 : Code := { maxStack := 2, maxLocals := 1, code := method_2_code, exceptionTable := #[], attributes := #[] }
def k1m1 : Method := { name := "reference", desc := "(I)Z", sig := { parameters := [.int], returnType := some .boolean }, accessFlags := 10, code := some k1c1 }
def k1c2 : Code := { maxStack := 4, maxLocals := 7, code := code, exceptionTable := #[], attributes := #[] }
def k1m2 : Method := { name := "law", desc := "(III)Z", sig := { parameters := [.int, .int, .int], returnType := some .boolean }, accessFlags := 9, code := some k1c2 }
/-- com/example/jadeite/jadeite/formats/UriTextIsIprivatePinLaw -/
def k1 : Class := { plain "com/example/jadeite/jadeite/formats/UriTextIsIprivatePinLaw" (some 0) with
  accessFlags := 49
  interfaces := #[]
  cf := some (fileOf pool1 29 #[] #[{ accessFlags := 2, nameIndex := 5, descriptorIndex := 6, attributes := #[] }, { accessFlags := 10, nameIndex := 32, descriptorIndex := 27, attributes := #[] }, { accessFlags := 9, nameIndex := 36, descriptorIndex := 37, attributes := #[] }] 49 2 #[] #[])
  fields := #[]
  methods := #[k1m0, k1m1, k1m2]
  instanceTypes := #[]
  staticTypes := #[]
  resolved := Array.replicate 42 none
  statics := none }

def pool2 : Array CpInfo := pool [(2, .class_ 4), (1, u "java/lang/Object"), (0, u "<init>"), (0, u "()V"), (15, .class_ 24), (1, u "com/example/jadeite/jadeite/formats/UriText"), (51, u "(I)Z"), (67, u "isIprivate"), (20, .integer 65535), (0, .integer 65533), (2, .integer 57344), (0, .integer 63743), (0, .integer 983040), (0, .integer 1114109), (0, u "SUB_DELIMITERS"), (0, u "Ljava/lang/String;"), (3, u "UNRESERVED_SYMBOLS")] 34

def k2m0 : Method := { name := "<init>", desc := "()V", sig := { parameters := [], returnType := none }, accessFlags := 2, code := none }
def k2c1 : Code := { maxStack := 2, maxLocals := 1, code := prog_65_method_9_code, exceptionTable := #[], attributes := #[] }
def k2m1 : Method := { name := "isIprivate", desc := "(I)Z", sig := { parameters := [.int], returnType := some .boolean }, accessFlags := 8, code := some k2c1 }
/-- com/example/jadeite/jadeite/formats/UriText -/
def k2 : Class := { plain "com/example/jadeite/jadeite/formats/UriText" (some 0) with
  accessFlags := 48
  interfaces := #[]
  cf := some (fileOf pool2 22 #[] #[{ accessFlags := 2, nameIndex := 5, descriptorIndex := 6, attributes := #[] }, { accessFlags := 8, nameIndex := 144, descriptorIndex := 76, attributes := #[] }] 48 2 #[] #[{ accessFlags := 26, nameIndex := 173, descriptorIndex := 174, attributes := #[] }, { accessFlags := 26, nameIndex := 178, descriptorIndex := 174, attributes := #[] }])
  fields := #[{ name := "SUB_DELIMITERS", type := (.object "java/lang/String"), accessFlags := 26, slot := 0, constantValue := 0 }, { name := "UNRESERVED_SYMBOLS", type := (.object "java/lang/String"), accessFlags := 26, slot := 1, constantValue := 0 }]
  methods := #[k2m0, k2m1]
  instanceTypes := #[]
  staticTypes := #[(.object "java/lang/String"), (.object "java/lang/String")]
  resolved := Array.replicate 213 none
  statics := none }

def pool3 : Array CpInfo := pool [(1, u "java/lang/Cloneable"), (0, .class_ 1), (0, u "java/lang/Object"), (0, .class_ 3)] 3

/-- java/lang/Cloneable -/
def k3 : Class := { plain "java/lang/Cloneable" (some 0) with
  accessFlags := 1537
  interfaces := #[]
  cf := some (fileOf pool3 2 #[] #[] 1537 4 #[] #[])
  fields := #[]
  methods := #[]
  instanceTypes := #[]
  staticTypes := #[]
  resolved := Array.replicate 8 none
  statics := none }

def pool4 : Array CpInfo := pool [(1, u "java/io/Serializable"), (0, .class_ 1), (0, u "java/lang/Object"), (0, .class_ 3)] 3

/-- java/io/Serializable -/
def k4 : Class := { plain "java/io/Serializable" (some 0) with
  accessFlags := 1537
  interfaces := #[]
  cf := some (fileOf pool4 2 #[] #[] 1537 4 #[] #[])
  fields := #[]
  methods := #[]
  instanceTypes := #[]
  staticTypes := #[]
  resolved := Array.replicate 8 none
  statics := none }

/-- the primitive byte -/
def k5 : Class := { plain "byte" none with kind := .primitive 'B', accessFlags := 0x411 }
/-- [B -/
def k6 : Class := { plain "[B" (some 0) with kind := .array 5 .byte, interfaces := #[3, 4], accessFlags := 1041 }

/-- the primitive int -/
def k7 : Class := { plain "int" none with kind := .primitive 'I', accessFlags := 0x411 }
/-- [I -/
def k8 : Class := { plain "[I" (some 0) with kind := .array 7 .int, interfaces := #[3, 4], accessFlags := 1041 }

def heap : Heap := #[]
def classes : Array Class := #[k0, k1, k2, k3, k4, k5, k6, k7, k8]
def interned : List (Array UInt16 × Addr) := []
def slotsUsed : Nat := 0
def theMethod : MethodId := ⟨1, 2⟩
def args0 : Array Value := #[.int 5, .int 7, .int 3]
def aboutOver (below : List Frame) : State where
  vm := { classes := classes, interned := interned.toArray }
  heap := heap
  slotsUsed := slotsUsed
  threads := #[{ frames := .invoking theMethod args0 :: below }]
def below0 : List Frame := [.native { method := ⟨0, 0⟩, args := #[] }]
def about1 : State := aboutOver below0
def p0 : Program := .bare "" "" ""
def e0 : Env := launch0.env 0 0 0
theorem w_frames : about1.frames = Frame.invoking theMethod args0 :: below0 := rfl
set_option maxRecDepth 65536 in
theorem w_args : argsFit about1.vm theMethod args0 = true := by decide +kernel
set_option maxRecDepth 65536 in
theorem w_heap : heapFits about1 = true := by decide +kernel
set_option maxRecDepth 65536 in
theorem w_runnable : about1.curStatus? = some .runnable := by decide +kernel
set_option maxRecDepth 65536 in
theorem w_alone : about1.alone = true := by decide +kernel
set_option maxRecDepth 65536 in
theorem w_named : about1.methodNamed? x = some theMethod := by decide +kernel
set_option maxRecDepth 65536 in
theorem w_hears : about1.hears theMethod below0 = true := by decide +kernel
set_option maxRecDepth 65536 in
theorem w_ripe : about1.ripe theMethod args0 below0 = true := by decide +kernel
theorem w_running : about1.status = .running := rfl
set_option maxRecDepth 65536 in
theorem w_room : about1.hasRoom e0.platform room_1 = true :=
  launch0.hasRoom_least _ room_1 (by decide +kernel) (by decide +kernel) (by decide +kernel) (by decide +kernel) (by decide +kernel) (by decide +kernel)
theorem allAtoms_all (ts : List Jvm.Cond) (a : Array Jvm.Value) (st : Jvm.State) : (allAtoms ts).before a st = ts.all (fun c => c.before a st) := by
  induction ts with
  | nil => rfl
  | cons c t ih =>
    show (Jvm.Cond.and c (allAtoms t)).before a st = _
    rw [Jvm.Cond.before_and, ih, List.all_cons]
def words1 : List Jvm.Cond := Jvm.Cond.code x code maxLocals ret :: tables_1
/-- a 'code' word, met by the world's own term for the bytes: nothing is compared byte by byte -/
theorem code_word {y : MethodName} {bytes : ByteArray} {mx : Nat} {rt : Option FieldType} {a : Array Value} {s : State} {m : MethodId} {meth : Method} {c : Code} (h1 : s.methodNamed? y = some m) (h2 : s.vm.method? m = some meth) (h3 : meth.code = some c) (h4 : c.code = bytes)
    (h5 : (c.maxLocals == mx && c.exceptionTable.isEmpty && decide (c.maxStack ≤ mostOperands) && decide (meth.sig.returnType = rt) && !meth.locks && decide (parseMethodDescriptor y.desc = some meth.sig)) = true) : (Jvm.Cond.code y bytes mx rt).before a s = true := by
  simp only [Bool.and_eq_true, beq_iff_eq, Bool.not_eq_true', decide_eq_true_eq] at h5
  obtain ⟨⟨⟨⟨⟨g1, g2⟩, g3⟩, g4⟩, g5⟩, g6⟩ := h5
  simp [Cond.before, Cond.holds, Cond.value, h1, h2, h3, h4, g1, g2, g3, g4, g5, g6]
def isCode : Jvm.Cond → Bool
  | .code _ _ _ _ => true
  | _ => false
theorem all_split {L : List Jvm.Cond} {P : Jvm.Cond → Bool} (h1 : L.all (fun c => isCode c || P c) = true) (h2 : ∀ c ∈ L.filter isCode, P c = true) : L.all P = true := by
  refine List.all_eq_true.mpr fun c hc => ?_
  have h := List.all_eq_true.mp h1 c hc
  rcases Bool.eq_false_or_eq_true (isCode c) with hi | hi
  · exact h2 c (List.mem_filter.mpr ⟨hc, hi⟩)
  · simpa [hi] using h
set_option maxRecDepth 65536 in
theorem w_c0 : (Jvm.Cond.code x code maxLocals ret).before args0 about1 = true := code_word (m := ⟨1, 2⟩) (meth := k1m2) (c := k1c2) (by decide +kernel) rfl rfl rfl (by decide +kernel)
set_option maxRecDepth 65536 in
theorem w_c1 : (Jvm.Cond.code ({ cls := "com/example/jadeite/jadeite/formats/UriText", name := "isIprivate", desc := "(I)Z" } : Jvm.MethodName) prog_65_method_9_code (1 : Nat) (Option.some Jvm.ClassFile.FieldType.boolean)).before args0 about1 = true := code_word (m := ⟨2, 1⟩) (meth := k2m1) (c := k2c1) (by decide +kernel) rfl rfl rfl (by decide +kernel)
set_option maxRecDepth 65536 in
theorem w_c2 : (Jvm.Cond.code ({ cls := "com/example/jadeite/jadeite/formats/UriTextIsIprivatePinLaw", name := "reference", desc := "(I)Z" } : Jvm.MethodName) method_2_code (1 : Nat) (Option.some Jvm.ClassFile.FieldType.boolean)).before args0 about1 = true := code_word (m := ⟨1, 1⟩) (meth := k1m1) (c := k1c1) (by decide +kernel) rfl rfl rfl (by decide +kernel)
def codes1 : List Jvm.Cond := [Jvm.Cond.code x code maxLocals ret, Jvm.Cond.code ({ cls := "com/example/jadeite/jadeite/formats/UriText", name := "isIprivate", desc := "(I)Z" } : Jvm.MethodName) prog_65_method_9_code (1 : Nat) (Option.some Jvm.ClassFile.FieldType.boolean), Jvm.Cond.code ({ cls := "com/example/jadeite/jadeite/formats/UriTextIsIprivatePinLaw", name := "reference", desc := "(I)Z" } : Jvm.MethodName) method_2_code (1 : Nat) (Option.some Jvm.ClassFile.FieldType.boolean)]
set_option maxRecDepth 65536 in
theorem codes_eq : words1.filter isCode = codes1 := rfl
theorem w_codes : ∀ c ∈ words1.filter isCode, c.before args0 about1 = true := by
  rw [codes_eq]
  intro c hc
  simp only [codes1, List.mem_cons, List.not_mem_nil, or_false] at hc
  rcases hc with rfl | rfl | rfl
  · exact w_c0
  · exact w_c1
  · exact w_c2
set_option maxRecDepth 65536 in
theorem w_t1 : (words1.take 24).all (fun c => isCode c || c.before args0 about1) = true := by decide +kernel
set_option maxRecDepth 65536 in
theorem w_t2 : (words1.drop 24).all (fun c => isCode c || c.before args0 about1) = true := by decide +kernel
theorem w_tables : (allAtoms (Jvm.Cond.code x code maxLocals ret :: tables_1)).before args0 about1 = true := by
  rw [allAtoms_all]
  show words1.all (fun c => c.before args0 about1) = true
  refine all_split ?_ w_codes
  rw [← List.take_append_drop 24 words1, List.all_append, w_t1, w_t2]
  rfl
set_option maxRecDepth 65536 in
theorem w_case : (Jvm.Cond.and given_1 narrow_1).before args0 about1 = true := by decide +kernel
theorem w_applies : (headSpec (Jvm.Cond.code x code maxLocals ret :: tables_1) room_1).applies x e0.platform about1 = true :=
  (Spec.applies_iff w_frames).mpr ⟨w_running, w_runnable, w_alone, w_named, w_hears, w_ripe, w_room, w_tables⟩
theorem atStart : AtStart classFile x code maxLocals ret World_1 tables_1 room_1 Calls_1 rest_1 Pre_1 launch0 p0 e0 about1 theMethod args0 below0 :=
  ⟨lists_1, trivial, launch0.admits_env _ _ _, launch0.least_env, fairChoices_fair.cas, fairChoices_fair.clock, w_frames, w_args, w_heap, w_applies, trivial, trivial, w_case⟩
end start1
theorem witness_1 : WitnessClaimed_1 := ⟨start1.p0, start1.e0, start1.about1, start1.theMethod, start1.args0, start1.below0, start1.atStart⟩
end Jvm.Pilot.@@N@@
