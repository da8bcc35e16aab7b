import JvmDerived
import JvmDerived.Pilot.@@N@@Statement
import JvmDerived.Pilot.@@N@@Code
set_option linter.unusedVariables false
set_option linter.unusedSimpArgs false
namespace Jvm.Pilot.@@N@@
open Jvm Jvm.ClassFile Sem Op Lib Jvm.Free Jvm.Stand Jvm.LawKit Jvm.RoadKit Bundle Jvm.Pilot.@@N@@.Jvm.D
section OwnKit
variable {p : Program} {l : Launch} {e : Env} {R : Room} {s : State} {m : MethodId} {args : Array Value} {below : List Frame} {meth : Method} {c : Code} {T : State} {locs : List Loc} {cells slots : Nat} {Z : State} {a0 : Array Value} {h h' h0 : Heap}
/-- the rest of the body's run, from A on: it ends, and E holds there -/
def own_Go (p : Program) (e : Env) (below : List Frame) (E : Outcome → State → Prop) (A : State) : Prop :=
  ∃ s₂ o, Steps p.tables e below A s₂ ∧ s₂.status = .running ∧ Ended s₂ below o ∧ E o s₂
theorem own_go {E : Outcome → State → Prop} {A B : State} (k : ∀ t, Steps p.tables e below A t → Steps p.tables e below B t) (g : own_Go p e below E A) : own_Go p e below E B := by
  obtain ⟨s₂, o, h1, h2⟩ := g
  exact ⟨s₂, o, k _ h1, h2⟩
theorem own_goT {E : Outcome → State → Prop} {A B : State} (k : Steps p.tables e below B A) (g : own_Go p e below E A) : own_Go p e below E B := own_go (fun _ q => k.trans q) g
/-- what a body leaves -/
def own_Out (s : State) (Q : Option Value → Heap → List Loc → Prop) (C S : Nat) (o : Outcome) (U : State) : Prop :=
  ∃ v L, o = .returned v ∧ Q v U.heap L ∧ FrameEnd s o U L C S
/-- a body's contract: called with as' over the heap h0 it returns, and Q holds of what it returns, of the heap that it leaves and of the places that it wrote -/
def own_Con (l : Launch) (Z : State) (y : MethodName) (bytes : ByteArray) (maxL : Nat) (ret : Option FieldType) (rm : Room) (as' : Array Value) (h0 : Heap) (Q : Option Value → Heap → List Loc → Prop) (ws : List Jvm.Cond) : Prop :=
  MetFree l y (head1 (Jvm.Cond.code y bytes maxL ret :: ws) rm) (fun a U => a = as' ∧ Z.Warmed39 U.vm ∧ U.heap = h0) (fun _ _ _ _ _ => True) (fun _ U o U' => ∃ v L, o = .returned v ∧ Q v U'.heap L ∧ FrameEnd U o U' L rm.cells rm.slots)
theorem own_con {y : MethodName} {bytes : ByteArray} {maxL : Nat} {ret : Option FieldType} {rm : Room} {as' : Array Value} {Q : Option Value → Heap → List Loc → Prop} {ws : List Jvm.Cond} {F : MethodId → JFrame} (hpn : plainFor y = true) (hef : ∀ m, entryFrame m as' maxL = F m)
    (H : ∀ (p : Program) (e : Env) (s : State) (m : MethodId) (below : List Frame) (meth : Method) (c : Code) (T : State), Stand p l e rm s m as' below meth c T [] 0 0 → p.tables.exec = Jvm.exec → c.code = bytes → c.maxLocals = maxL → Z.Warmed39 s.vm → s.vm.findClass y.cls = some m.cls → meth.name = y.name →
      meth.sig.returnType = ret → meth.locks = false → T.heap = h0 → own_Go p e below (own_Out s Q rm.cells rm.slots) (T.setTop (F m))) :
    own_Con l Z y bytes maxL ret rm as' h0 Q ws := by
  refine MetFree.of_bodySF hpn hisR ?_
  intro p e s m args below meth c s₁ Bd hml0 hP hK
  obtain ⟨rfl, hZ, hh⟩ := hP
  have k := H p e s m below meth c s₁ (Stand.of_body Bd) Bd.exec Bd.bytes hml0 hZ (findClass_of_methodNamed Bd.named) (name_of_methodNamed Bd.named Bd.method).1 Bd.returns Bd.notSynchronized (by rw [← hh, Bd.state]; rfl)
  rw [← hef m] at k
  exact k
theorem own_Con.mono {y : MethodName} {bytes : ByteArray} {maxL : Nat} {ret : Option FieldType} {rm : Room} {as' : Array Value} {Q Q' : Option Value → Heap → List Loc → Prop} {ws : List Jvm.Cond} (H : own_Con l Z y bytes maxL ret rm as' h0 Q ws) (k : ∀ v h L, Q v h L → Q' v h L) : own_Con l Z y bytes maxL ret rm as' h0 Q' ws := by
  intro p e ha hc hk s m args below hf happ hP hK
  obtain ⟨n, o, g1, g2, g3, v, L, g4, g5, g6⟩ := H p e ha hc hk s m args below hf happ hP hK
  exact ⟨n, o, g1, g2, g3, v, L, g4, k _ _ _ g5, g6⟩
/-! leaving -/
theorem own_iret (X : Stand p l e R s m args below meth c T locs cells slots) (hx : p.tables.exec = Jvm.exec) (hlk : meth.locks = false) {t : FieldType} (hret : meth.sig.returnType = some t) (hti : t = .int ∨ t = .boolean ∨ t = .byte ∨ t = .char ∨ t = .short) {pc : Nat} {Ls : Array Slot} {z : Int32} (hn : narrow t (.int z) = .int z)
    (hd : decode c.code pc = .ok (.ireturn, 1)) {Q : Option Value → Heap → List Loc → Prop} {C S : Nat} (hC : cells ≤ C) (hS : slots ≤ S) (hq : Q (some (.int z)) T.heap locs) : own_Go p e below (own_Out s Q C S) (T.setTop (mkF m pc Ls [.int z])) := by
  obtain ⟨fs, hr, hrun, hended, hW, hsame⟩ := X.leave (v := some (.int z)) (fun h => by rw [hret] at h; cases h)
  exact ⟨_, _, X.ireturnOut hx hret hn hti hd hr, hrun, hended, _, _, rfl, hq, ⟨_, rfl⟩, hW, hsame.mono hC hS⟩
theorem own_lret (X : Stand p l e R s m args below meth c T locs cells slots) (hx : p.tables.exec = Jvm.exec) (hlk : meth.locks = false) (hret : meth.sig.returnType = some .long) {pc : Nat} {Ls : Array Slot} {z : Int64}
    (hd : decode c.code pc = .ok (.lreturn, 1)) {Q : Option Value → Heap → List Loc → Prop} {C S : Nat} (hC : cells ≤ C) (hS : slots ≤ S) (hq : Q (some (.long z)) T.heap locs) : own_Go p e below (own_Out s Q C S) (T.setTop (mkF m pc Ls [.long z])) := by
  obtain ⟨fs, hr, hrun, hended, hW, hsame⟩ := X.leave (v := some (.long z)) (fun h => by rw [hret] at h; cases h)
  exact ⟨_, _, X.lreturnOut hx hret hd hr, hrun, hended, _, _, rfl, hq, ⟨_, rfl⟩, hW, hsame.mono hC hS⟩
theorem own_aret (X : Stand p l e R s m args below meth c T locs cells slots) (hx : p.tables.exec = Jvm.exec) (hlk : meth.locks = false) {t : FieldType} (hret : meth.sig.returnType = some t) (ht : t.isReference = true) {pc : Nat} {Ls : Array Slot} {w : Value} (hw : w.isRef = true)
    (hd : decode c.code pc = .ok (.areturn, 1)) {Q : Option Value → Heap → List Loc → Prop} {C S : Nat} (hC : cells ≤ C) (hS : slots ≤ S) (hq : Q (some w) T.heap locs) : own_Go p e below (own_Out s Q C S) (T.setTop (mkF m pc Ls [w])) := by
  obtain ⟨fs, hr, hrun, hended, hW, hsame⟩ := X.leave (v := some w) (fun h => by rw [hret] at h; cases h)
  exact ⟨_, _, X.areturnOut hx hw hret ht hd hr, hrun, hended, _, _, rfl, hq, ⟨_, rfl⟩, hW, hsame.mono hC hS⟩
theorem own_vret (X : Stand p l e R s m args below meth c T locs cells slots) (hx : p.tables.exec = Jvm.exec) (hlk : meth.locks = false) (hret : meth.sig.returnType = none) {pc : Nat} {Ls : Array Slot}
    (hd : decode c.code pc = .ok (.return_, 1)) {Q : Option Value → Heap → List Loc → Prop} {C S : Nat} (hC : cells ≤ C) (hS : slots ≤ S) (hq : Q none T.heap locs) : own_Go p e below (own_Out s Q C S) (T.setTop (mkF m pc Ls [])) := by
  obtain ⟨fs, hr, hrun, hended, hW, hsame⟩ := X.leave (v := none) (fun _ => rfl)
  exact ⟨_, _, X.returnOut hx hret hd hr, hrun, hended, _, _, rfl, hq, ⟨_, rfl⟩, hW, hsame.mono hC hS⟩
/-! a body that leaves the heap alone -/
def own_PQ (h0 : Heap) (w : Value) (v : Option Value) (h : Heap) (L : List Loc) : Prop := v = some w ∧ h = h0 ∧ L = []
theorem own_iteI {C : Prop} [Decidable C] {a b : Int32} {k n : Nat} {A : State} (h1 : C → own_Go p e below (own_Out s (own_PQ h0 (.int a)) k n) A) (h2 : ¬ C → own_Go p e below (own_Out s (own_PQ h0 (.int b)) k n) A) : own_Go p e below (own_Out s (own_PQ h0 (.int (if C then a else b))) k n) A := by
  by_cases q : C
  · rw [if_pos q]; exact h1 q
  · rw [if_neg q]; exact h2 q
theorem own_iteL {C : Prop} [Decidable C] {a b : Int64} {k n : Nat} {A : State} (h1 : C → own_Go p e below (own_Out s (own_PQ h0 (.long a)) k n) A) (h2 : ¬ C → own_Go p e below (own_Out s (own_PQ h0 (.long b)) k n) A) : own_Go p e below (own_Out s (own_PQ h0 (.long (if C then a else b))) k n) A := by
  by_cases q : C
  · rw [if_pos q]; exact h1 q
  · rw [if_neg q]; exact h2 q
/-! calls -/
theorem own_callS (X : Stand p l e R s m args below meth c T locs cells slots) (hx : p.tables.exec = Jvm.exec) (hZ : Z.Warmed39 s.vm) {own : String} (hown : s.vm.findClass own = some m.cls) {index : Nat} {y : MethodName} {bytes : ByteArray} {maxL : Nat} {ret : Option FieldType} {rm : Room} {argsL rest : List Value} {Q : Option Value → Heap → List Loc → Prop}
    (hM : own_Con l Z y bytes maxL ret rm argsL.toArray h Q []) (eT : T.heap = h) (wl : (Jvm.Cond.methodLink own index y).before a0 Z = true) (wst : (Jvm.Cond.static y).before a0 Z = true) (wz : (Jvm.Cond.initialized y.cls).before a0 Z = true) (wc : (Jvm.Cond.code y bytes maxL ret).before a0 Z = true) (hy : y.cls ≠ "java/lang/invoke/MethodHandle" ∧ y.cls ≠ "java/lang/invoke/VarHandle")
    {sig : MethodDescriptor} (hpd : parseMethodDescriptor y.desc = some sig) (hlen : argsL.length = sig.parameters.length) {g : JFrame} (hg : g.method = m) (hsize : g.locals.size = c.maxLocals) (hstack : g.stack = argsL.reverse ++ rest) (W : Nat) (hW : 2 * g.monitorRoom + (rest.map fun v => v.category).sum ≤ W) (hdg : decode c.code g.pc = .ok (.invokestatic index, 3))
    (hf : rm.frames + 1 ≤ R.frames) (hl : W + (maxL + 11) + rm.locals ≤ R.locals) (hcs : cells + rm.cells ≤ R.cells) (hss : slots + rm.slots ≤ R.slots) :
    ∃ (v : Option Value) (T' : State) (L : List Loc), Stand p l e R s m args below meth c T' (locs ++ L) (cells + rm.cells) (slots + rm.slots) ∧ Q v T'.heap L ∧ ∀ t, Steps p.tables e below (T'.setTop { g with pc := g.pc + 3, stack := v.toList ++ rest }) t → Steps p.tables e below (T.setTop g) t := by
  obtain ⟨v, _, ⟨T', L', k', n'⟩, -, X', ⟨L, hQ, q1, q2, q3⟩, st⟩ := Jvm.LawKit.callS X hx hown (mvT hZ wl) (mvT hZ wst) (mvT hZ wz) (mvT hZ wc) hy (backOf (W := W) hM hZ wc wz hf hl) hg hsize (argsL := argsL) (rest := rest) (fun sg hsg => by rw [hpd] at hsg; cases hsg; exact hlen) hstack hW hdg (fun _ _ => ⟨rfl, eT, hcs, hss⟩)
  dsimp only [Pt.U, Pt.locs, Pt.cells, Pt.slots] at X' q1 q2 q3 st hQ
  subst q1 q2 q3
  exact ⟨v, T', L, X', hQ, st⟩
theorem own_callSP (X : Stand p l e R s m args below meth c T locs cells slots) (hx : p.tables.exec = Jvm.exec) (hZ : Z.Warmed39 s.vm) {own : String} (hown : s.vm.findClass own = some m.cls) {index : Nat} {y : MethodName} {bytes : ByteArray} {maxL : Nat} {ret : Option FieldType} {rm : Room} {argsL rest : List Value} {w : Value}
    (hM : own_Con l Z y bytes maxL ret rm argsL.toArray h (own_PQ h w) []) (eT : T.heap = h) (wl : (Jvm.Cond.methodLink own index y).before a0 Z = true) (wst : (Jvm.Cond.static y).before a0 Z = true) (wz : (Jvm.Cond.initialized y.cls).before a0 Z = true) (wc : (Jvm.Cond.code y bytes maxL ret).before a0 Z = true) (hy : y.cls ≠ "java/lang/invoke/MethodHandle" ∧ y.cls ≠ "java/lang/invoke/VarHandle")
    {sig : MethodDescriptor} (hpd : parseMethodDescriptor y.desc = some sig) (hlen : argsL.length = sig.parameters.length) {g : JFrame} (hg : g.method = m) (hsize : g.locals.size = c.maxLocals) (hstack : g.stack = argsL.reverse ++ rest) (W : Nat) (hW : 2 * g.monitorRoom + (rest.map fun v => v.category).sum ≤ W) (hdg : decode c.code g.pc = .ok (.invokestatic index, 3))
    (hf : rm.frames + 1 ≤ R.frames) (hl : W + (maxL + 11) + rm.locals ≤ R.locals) (hrc : rm.cells = 0) (hrs : rm.slots = 0) (hcs : cells ≤ R.cells) (hss : slots ≤ R.slots) :
    ∃ (T' : State), Stand p l e R s m args below meth c T' locs cells slots ∧ T'.heap = h ∧ ∀ t, Steps p.tables e below (T'.setTop { g with pc := g.pc + 3, stack := w :: rest }) t → Steps p.tables e below (T.setTop g) t := by
  obtain ⟨v, T', L, X', ⟨rfl, q2, rfl⟩, st⟩ := own_callS X hx hZ hown hM eT wl wst wz wc hy hpd hlen hg hsize hstack W hW hdg hf hl (by omega) (by omega)
  rw [List.append_nil, hrc, hrs] at X'
  exact ⟨T', X', q2, st⟩
theorem own_callI (X : Stand p l e R s m args below meth c T locs cells slots) (hx : p.tables.exec = Jvm.exec) (hZ : Z.Warmed39 s.vm) {own : String} (hown : s.vm.findClass own = some m.cls) {index : Nat} {y : MethodName} (hy1 : y.name = "<init>") {bytes : ByteArray} {maxL : Nat} {rm : Room} {b : Addr} {argsL rest : List Value} {Q : Option Value → Heap → List Loc → Prop}
    (hM : own_Con l Z y bytes maxL none rm (Value.ref b :: argsL).toArray h Q []) (eT : T.heap = h) (wl : (Jvm.Cond.methodLink own index y).before a0 Z = true) (wi : (Jvm.Cond.instanceMethod y).before a0 Z = true) (wz : (Jvm.Cond.initialized y.cls).before a0 Z = true) (wc : (Jvm.Cond.code y bytes maxL none).before a0 Z = true) (hy : y.cls ≠ "java/lang/invoke/MethodHandle" ∧ y.cls ≠ "java/lang/invoke/VarHandle")
    {sig : MethodDescriptor} (hpd : parseMethodDescriptor y.desc = some sig) (hlen : argsL.length = sig.parameters.length) {g : JFrame} (hg : g.method = m) (hsize : g.locals.size = c.maxLocals) (hstack : g.stack = argsL.reverse ++ .ref b :: rest) (W : Nat) (hW : 2 * g.monitorRoom + (rest.map fun v => v.category).sum ≤ W) (hdg : decode c.code g.pc = .ok (.invokespecial index, 3))
    (hf : rm.frames + 1 ≤ R.frames) (hl : W + (maxL + 11) + rm.locals ≤ R.locals) (hcs : cells + rm.cells ≤ R.cells) (hss : slots + rm.slots ≤ R.slots) :
    ∃ (v : Option Value) (T' : State) (L : List Loc), Stand p l e R s m args below meth c T' (locs ++ L) (cells + rm.cells) (slots + rm.slots) ∧ Q v T'.heap L ∧ ∀ t, Steps p.tables e below (T'.setTop { g with pc := g.pc + 3, stack := v.toList ++ rest }) t → Steps p.tables e below (T.setTop g) t := by
  obtain ⟨v, _, ⟨T', L', k', n'⟩, -, X', ⟨L, hQ, q1, q2, q3⟩, st⟩ := X.specialBack hx hy1 hown (mvT hZ wl) (mvT hZ wi) (mvT hZ wc) hy (backOf (W := W) hM hZ wc wz hf hl) hg hsize (Steps.refl _) (a := b) (argsL := argsL) (rest := rest) (fun sg hsg => by rw [hpd] at hsg; cases hsg; exact hlen) hstack hW hdg (fun _ _ => ⟨rfl, eT, hcs, hss⟩)
  dsimp only [Pt.U, Pt.locs, Pt.cells, Pt.slots] at X' q1 q2 q3 st hQ
  subst q1 q2 q3
  exact ⟨v, T', L, X', hQ, fun _ k => st.trans k⟩
theorem own_callV (X : Stand p l e R s m args below meth c T locs cells slots) (hx : p.tables.exec = Jvm.exec) (hZ : Z.Warmed39 s.vm) {own C : String} (hown : s.vm.findClass own = some m.cls) {index : Nat} {y z : MethodName} {bytes : ByteArray} {maxL : Nat} {ret : Option FieldType} {rm : Room} {b : Addr} {argsL rest : List Value} {Q : Option Value → Heap → List Loc → Prop}
    (hM : own_Con l Z z bytes maxL ret rm (Value.ref b :: argsL).toArray h Q []) (eT : T.heap = h) (hE : Exa Z h b C) (wl : (Jvm.Cond.methodLink own index y).before a0 Z = true) (wd : (Jvm.Cond.declares y).before a0 Z = true) (wsel : (Jvm.Cond.selects C y z).before a0 Z = true) (wi : (Jvm.Cond.instanceMethod z).before a0 Z = true) (wz : (Jvm.Cond.initialized z.cls).before a0 Z = true) (wc : (Jvm.Cond.code z bytes maxL ret).before a0 Z = true) (hnf : NotFace s y) (hy : y.cls ≠ "java/lang/invoke/MethodHandle" ∧ y.cls ≠ "java/lang/invoke/VarHandle")
    {sig : MethodDescriptor} (hpd : parseMethodDescriptor y.desc = some sig) (hlen : argsL.length = sig.parameters.length) {g : JFrame} (hg : g.method = m) (hsize : g.locals.size = c.maxLocals) (hstack : g.stack = argsL.reverse ++ .ref b :: rest) (W : Nat) (hW : 2 * g.monitorRoom + (rest.map fun v => v.category).sum ≤ W) (hdg : decode c.code g.pc = .ok (.invokevirtual index, 3))
    (hf : rm.frames + 1 ≤ R.frames) (hl : W + (maxL + 11) + rm.locals ≤ R.locals) (hcs : cells + rm.cells ≤ R.cells) (hss : slots + rm.slots ≤ R.slots) :
    ∃ (v : Option Value) (T' : State) (L : List Loc), Stand p l e R s m args below meth c T' (locs ++ L) (cells + rm.cells) (slots + rm.slots) ∧ Q v T'.heap L ∧ ∀ t, Steps p.tables e below (T'.setTop { g with pc := g.pc + 3, stack := v.toList ++ rest }) t → Steps p.tables e below (T.setTop g) t := by
  obtain ⟨cq, kq, qa, qb, qc⟩ := isOf hZ eT hE
  obtain ⟨v, _, ⟨T', L', k', n'⟩, -, X', ⟨L, hQ, q1, q2, q3⟩, st⟩ := X.virtualBack hx hown (mvT hZ wl) (mvT hZ wd) hnf (mvT hZ wsel) (mvT hZ wi) hy (backOf (W := W) hM hZ wc wz hf hl) qa qc hg hsize (Steps.refl _) (argsL := argsL) (rest := rest) (fun sg hsg => by rw [hpd] at hsg; cases hsg; exact hlen) hstack hW hdg (fun _ _ => ⟨rfl, eT, hcs, hss⟩)
  dsimp only [Pt.U, Pt.locs, Pt.cells, Pt.slots] at X' q1 q2 q3 st hQ
  subst q1 q2 q3
  exact ⟨v, T', L, X', hQ, fun _ k => st.trans k⟩
theorem own_callP (X : Stand p l e R s m args below meth c T locs cells slots) (hx : p.tables.exec = Jvm.exec) (hZ : Z.Warmed39 s.vm) {own C : String} (hown : s.vm.findClass own = some m.cls) {index kk : Nat} {y : MethodName} {bytes : ByteArray} {maxL : Nat} {ret : Option FieldType} {rm : Room} {b : Addr} {argsL rest : List Value} {Q : Option Value → Heap → List Loc → Prop}
    (hM : own_Con l Z y bytes maxL ret rm (Value.ref b :: argsL).toArray h Q []) (eT : T.heap = h) (hE : Exa Z h b C) (wl : (Jvm.Cond.methodLink own index y).before a0 Z = true) (wi : (Jvm.Cond.instanceMethod y).before a0 Z = true) (wp : (Jvm.Cond.privateMethod y).before a0 Z = true) (wn : (Jvm.Cond.instantiable y.cls kk).before a0 Z = true) (wz : (Jvm.Cond.initialized y.cls).before a0 Z = true) (wc : (Jvm.Cond.code y bytes maxL ret).before a0 Z = true) (hy : y.cls ≠ "java/lang/invoke/MethodHandle" ∧ y.cls ≠ "java/lang/invoke/VarHandle")
    {sig : MethodDescriptor} (hpd : parseMethodDescriptor y.desc = some sig) (hlen : argsL.length = sig.parameters.length) {g : JFrame} (hg : g.method = m) (hsize : g.locals.size = c.maxLocals) (hstack : g.stack = argsL.reverse ++ .ref b :: rest) (W : Nat) (hW : 2 * g.monitorRoom + (rest.map fun v => v.category).sum ≤ W) (hdg : decode c.code g.pc = .ok (.invokevirtual index, 3))
    (hf : rm.frames + 1 ≤ R.frames) (hl : W + (maxL + 11) + rm.locals ≤ R.locals) (hcs : cells + rm.cells ≤ R.cells) (hss : slots + rm.slots ≤ R.slots) :
    ∃ (v : Option Value) (T' : State) (L : List Loc), Stand p l e R s m args below meth c T' (locs ++ L) (cells + rm.cells) (slots + rm.slots) ∧ Q v T'.heap L ∧ ∀ t, Steps p.tables e below (T'.setTop { g with pc := g.pc + 3, stack := v.toList ++ rest }) t → Steps p.tables e below (T.setTop g) t := by
  obtain ⟨cq, q, q'⟩ := hE.cell
  have hp := Cond.privateMethod_at (mvP hZ wp (args := #[]))
  have hn : (Jvm.Cond.instantiable y.cls kk).before args s = true := mvT hZ wn
  obtain ⟨c2, k2, i1, i2, i3, i4, -⟩ := Cond.instantiable_spec hn
  have hsel : (Jvm.Cond.selects y.cls y y).before args s = true := selects_self_of_private i1 i2 (Bool.or_eq_false_iff.mp i4).1 hp (mvT hZ wi) hy
  obtain ⟨v, _, ⟨T', L', k', n'⟩, -, X', ⟨L, hQ, q1, q2, q3⟩, st⟩ := X.privateBack hx hown (mvT hZ wl) (mvT hZ wi) hsel hp (mvT hZ wc) hy (backOf (W := W) hM hZ wc wz hf hl) hg hsize (Steps.refl _) (a := b) (by rw [eT]; exact q) q' (argsL := argsL) (rest := rest) (fun sg hsg => by rw [hpd] at hsg; cases hsg; exact hlen) hstack hW hdg (fun _ _ => ⟨rfl, eT, hcs, hss⟩)
  dsimp only [Pt.U, Pt.locs, Pt.cells, Pt.slots] at X' q1 q2 q3 st hQ
  subst q1 q2 q3
  exact ⟨v, T', L, X', hQ, fun _ k => st.trans k⟩
theorem own_pn {y : MethodName} (hq : plainName y.cls = true) : plainFor y = true := plainFor_of_name hq
end OwnKit
section OwnArr
variable {p : Program} {l : Launch} {e : Env} {R : Room} {s : State} {m : MethodId} {args : Array Value} {below : List Frame} {meth : Method} {c : Code} {T : State} {locs : List Loc} {cells slots : Nat} {Z : State} {a0 : Array Value} {h h' h0 : Heap} {a b : Addr} {ty : FieldType} {vs : List Value} {v : Value} {i sl : Nat} {ws : List Addr}
/-- an array of ty's at a, its components vs -/
def own_AV (Z : State) (h : Heap) (a : Addr) (ty : FieldType) (vs : List Value) : Prop := ∃ c : Cell, Arr Z h a c ty ∧ c.slots.toList = vs ∧ vs.length < 2147483648 ∧ ∀ v ∈ vs, fits ty v = true
theorem own_AV.lt (A : own_AV Z h a ty vs) : a < h.size := by obtain ⟨c, q, -⟩ := A; exact q.lt
theorem own_AV.short (A : own_AV Z h a ty vs) : vs.length < 2147483648 := by obtain ⟨c, -, -, q, -⟩ := A; exact q
theorem own_AV.ext (A : own_AV Z h a ty vs) (E : Ext h h') : own_AV Z h' a ty vs := by obtain ⟨c, q, r⟩ := A; exact ⟨c, q.ext E, r⟩
theorem own_AV.other (A : own_AV Z h b ty vs) (W : Wr h h' a sl v) (q : b ≠ a) : own_AV Z h' b ty vs := by obtain ⟨c, k, r⟩ := A; exact ⟨c, k.other W q, r⟩
theorem own_AV.keep (A : own_AV Z h a ty vs) (K : Keep h h' ws) (q : a ∉ ws) : own_AV Z h' a ty vs := by obtain ⟨c, k, r⟩ := A; exact ⟨c, ⟨K.2.1 a c k.1 q, k.2⟩, r⟩
theorem own_AV.set (A : own_AV Z h a ty vs) (W : Wr h h' a i v) (hv : fits ty v = true) : own_AV Z h' a ty (vs.set i v) := by
  obtain ⟨c, k, r, z, f⟩ := A
  refine ⟨c.setSlot i v, k.same W, ?_, by rw [List.length_set]; exact z, fun u hu => ?_⟩
  · show (c.slots.setIfInBounds i v).toList = _
    rw [Array.toList_setIfInBounds, r]
  · rcases List.mem_or_eq_of_mem_set hu with q | q
    · exact f u q
    · rw [q]; exact hv
theorem own_idx {j : Int32} {i : Nat} (hj : j.toInt = i) : ¬ j < 0 ∧ j.toNatClampNeg = i := by
  refine ⟨?_, ?_⟩
  · rw [Int32.lt_iff_toInt_lt, hj]; show ¬ (i : Int) < 0; omega
  · simp only [Int32.toNatClampNeg, hj]; rfl
theorem own_AV_new {cA : ClassId} {n : Int32} {k : Nat} (A : Arr Z h a (newA cA ty n) ty) (hn : n.toInt = k) : own_AV Z h a ty (List.replicate k (defaultValue ty)) := by
  obtain ⟨q1, q2⟩ := own_idx hn
  refine ⟨_, A, ?_, ?_, fun v hv => ?_⟩
  · show (Array.replicate n.toNatClampNeg _).toList = _
    rw [q2, Array.toList_replicate]
  · rw [List.length_replicate]
    have := n.toInt_lt
    omega
  · rw [(List.mem_replicate.mp hv).2]; cases ty <;> rfl
theorem own_newA (X : Stand p l e R s m args below meth c T locs cells slots) (hx : p.tables.exec = Jvm.exec) (hZ : Z.Warmed39 s.vm) {aty : ArrayType} (w : (Jvm.Cond.arrayClass (newarray.typeOf aty)).before a0 Z = true) (eT : T.heap = h) {g : JFrame} (hg : g.method = m) (hd : decode c.code g.pc = .ok (.newarray aty, 2)) {n : Int32} {rest : List Value} (hs : g.stack = .int n :: rest)
    (k cap : Nat) (hn : n.toInt = k) (hk : k ≤ cap) (hb : cap * 8 ≤ 536870912) (hc : cells + 1 ≤ R.cells) (hl : slots + cap ≤ R.slots) :
    ∃ T' h', Stand p l e R s m args below meth c T' locs (cells + 1) (slots + cap) ∧ T'.heap = h' ∧ Ext h h' ∧ own_AV Z h' h.size (newarray.typeOf aty) (List.replicate k (defaultValue (newarray.typeOf aty))) ∧ ∀ t, Steps p.tables e below (T'.setTop { g with pc := g.pc + 2, stack := .ref h.size :: rest }) t → Steps p.tables e below (T.setTop g) t := by
  obtain ⟨q1, q2⟩ := own_idx hn
  obtain ⟨T', h', cA, X', e', E, A, st⟩ := newP X hx hZ w eT hg hd hs q1 (cap := cap) (by rw [q2]; exact hk) hb hc hl
  exact ⟨T', h', X', e', E, own_AV_new A hn, st⟩
theorem own_stI (X : Stand p l e R s m args below meth c T locs cells slots) (hx : p.tables.exec = Jvm.exec) (hZ : Z.Warmed39 s.vm) (eT : T.heap = h) (A : own_AV Z h a .int vs) {j x : Int32} {g : JFrame} (hg : g.method = m) {rest : List Value} (hs : g.stack = .int x :: .int j :: .ref a :: rest) (hd : decode c.code g.pc = .ok (.iastore, 1)) (i : Nat) (hj : j.toInt = i) (hi : i < vs.length) :
    ∃ T' h', Stand p l e R s m args below meth c T' (locs ++ [⟨a, i⟩]) cells slots ∧ T'.heap = h' ∧ Wr h h' a i (.int x) ∧ own_AV Z h' a .int (vs.set i (.int x)) ∧ ∀ t, Steps p.tables e below (T'.setTop { g with pc := g.pc + 1, stack := rest }) t → Steps p.tables e below (T.setTop g) t := by
  obtain ⟨q1, q2⟩ := own_idx hj
  have A' := A
  obtain ⟨cl, k, r, -, -⟩ := A
  have hz : cl.slots.size = vs.length := by rw [← r]; simp
  obtain ⟨T', h', X', e', W, st⟩ := stI X hx hZ eT k (j := j) (x := x) (by rw [q2, hz]; exact fun u => u.elim q1 (fun z => by omega)) hg hs hd
  rw [q2] at X' W
  exact ⟨T', h', X', e', W, A'.set W rfl, st⟩
theorem own_stJ (X : Stand p l e R s m args below meth c T locs cells slots) (hx : p.tables.exec = Jvm.exec) (hZ : Z.Warmed39 s.vm) (eT : T.heap = h) (A : own_AV Z h a .long vs) {j : Int32} {x : Int64} {g : JFrame} (hg : g.method = m) {rest : List Value} (hs : g.stack = .long x :: .int j :: .ref a :: rest) (hd : decode c.code g.pc = .ok (.lastore, 1)) (i : Nat) (hj : j.toInt = i) (hi : i < vs.length) :
    ∃ T' h', Stand p l e R s m args below meth c T' (locs ++ [⟨a, i⟩]) cells slots ∧ T'.heap = h' ∧ Wr h h' a i (.long x) ∧ own_AV Z h' a .long (vs.set i (.long x)) ∧ ∀ t, Steps p.tables e below (T'.setTop { g with pc := g.pc + 1, stack := rest }) t → Steps p.tables e below (T.setTop g) t := by
  obtain ⟨q1, q2⟩ := own_idx hj
  have A' := A
  obtain ⟨cl, k, r, -, -⟩ := A
  have hz : cl.slots.size = vs.length := by rw [← r]; simp
  obtain ⟨T', h', X', e', W, st⟩ := stJ X hx hZ eT k (j := j) (x := x) (by rw [q2, hz]; exact fun u => u.elim q1 (fun z => by omega)) hg hs hd
  rw [q2] at X' W
  exact ⟨T', h', X', e', W, A'.set W rfl, st⟩
theorem own_ldI (X : Stand p l e R s m args below meth c T locs cells slots) (hx : p.tables.exec = Jvm.exec) (hZ : Z.Warmed39 s.vm) (eT : T.heap = h) (A : own_AV Z h a .int vs) {j : Int32} {g : JFrame} (hg : g.method = m) {rest : List Value} (hs : g.stack = .int j :: .ref a :: rest) (hd : decode c.code g.pc = .ok (.iaload, 1)) (i : Nat) (hj : j.toInt = i) {x : Value} (hi : vs[i]? = some x) :
    ∀ t, Steps p.tables e below (T.setTop { g with pc := g.pc + 1, stack := x :: rest }) t → Steps p.tables e below (T.setTop g) t := by
  obtain ⟨q1, q2⟩ := own_idx hj
  obtain ⟨cl, k, r, -, -⟩ := A
  have hz : cl.slots.size = vs.length := by rw [← r]; simp
  have hv : cl.slots[i]? = some x := by rw [← Array.getElem?_toList, r]; exact hi
  have hl := (List.getElem?_eq_some_iff.mp hi).1
  exact X.iaload hx (by rw [eT]; exact k.1) (State.isArrayOf_alike hZ.alike k.2.1) k.2.2 (by rw [q2, hz]; exact fun u => u.elim q1 (fun z => by omega)) (by rw [q2]; exact hv) hg hs hd
theorem own_ldJ (X : Stand p l e R s m args below meth c T locs cells slots) (hx : p.tables.exec = Jvm.exec) (hZ : Z.Warmed39 s.vm) (eT : T.heap = h) (A : own_AV Z h a .long vs) {j : Int32} {g : JFrame} (hg : g.method = m) {rest : List Value} (hs : g.stack = .int j :: .ref a :: rest) (hd : decode c.code g.pc = .ok (.laload, 1)) (i : Nat) (hj : j.toInt = i) {x : Value} (hi : vs[i]? = some x) :
    ∀ t, Steps p.tables e below (T.setTop { g with pc := g.pc + 1, stack := x :: rest }) t → Steps p.tables e below (T.setTop g) t := by
  obtain ⟨q1, q2⟩ := own_idx hj
  obtain ⟨cl, k, r, -, -⟩ := A
  have hz : cl.slots.size = vs.length := by rw [← r]; simp
  have hv : cl.slots[i]? = some x := by rw [← Array.getElem?_toList, r]; exact hi
  have hl := (List.getElem?_eq_some_iff.mp hi).1
  exact X.laload hx (by rw [eT]; exact k.1) (State.isArrayOf_alike hZ.alike k.2.1) k.2.2 (by rw [q2, hz]; exact fun u => u.elim q1 (fun z => by omega)) (by rw [q2]; exact hv) hg hs hd
theorem own_len (X : Stand p l e R s m args below meth c T locs cells slots) (hx : p.tables.exec = Jvm.exec) (hZ : Z.Warmed39 s.vm) (eT : T.heap = h) (A : own_AV Z h a ty vs) {g : JFrame} (hg : g.method = m) {rest : List Value} (hs : g.stack = .ref a :: rest) (hd : decode c.code g.pc = .ok (.arraylength, 1)) (n : Int32) (hn : n.toInt = vs.length) :
    ∀ t, Steps p.tables e below (T.setTop { g with pc := g.pc + 1, stack := .int n :: rest }) t → Steps p.tables e below (T.setTop g) t := by
  obtain ⟨cl, k, r, z, -⟩ := A
  have hz : cl.slots.size = vs.length := by rw [← r]; simp
  have en : cl.slots.size.toInt32 = n := Int32.toInt_inj.mp (by rw [hn, hz]; exact len_toInt z)
  intro t q
  refine X.arraylength hx (by rw [eT]; exact k.1) (State.isArrayOf_alike hZ.alike k.2.1) hg hs hd t ?_
  rw [en]; exact q
theorem own_newAE (X : Stand p l e R s m args below meth c T locs cells slots) (hx : p.tables.exec = Jvm.exec) (hZ : Z.Warmed39 s.vm) {aty : ArrayType} (w : (Jvm.Cond.arrayClass (newarray.typeOf aty)).before a0 Z = true) (eT : T.heap = h) {g : JFrame} (hg : g.method = m) (hd : decode c.code g.pc = .ok (.newarray aty, 2)) {n : Int32} {rest : List Value} (hs : g.stack = .int n :: rest)
    (k cap : Nat) (hn : n.toInt = k) (hk : k ≤ cap) (hb : cap * 8 ≤ 536870912) (hc : cells + 1 ≤ R.cells) (hl : slots + cap ≤ R.slots) {ad : String} (had : "[" ++ (newarray.typeOf aty).toString = ad) :
    ∃ T' h', Stand p l e R s m args below meth c T' locs (cells + 1) (slots + cap) ∧ T'.heap = h' ∧ Ext h h' ∧ own_AV Z h' h.size (newarray.typeOf aty) (List.replicate k (defaultValue (newarray.typeOf aty))) ∧ Exa Z h' h.size ad ∧ ∀ t, Steps p.tables e below (T'.setTop { g with pc := g.pc + 2, stack := .ref h.size :: rest }) t → Steps p.tables e below (T.setTop g) t := by
  obtain ⟨q1, q2⟩ := own_idx hn
  obtain ⟨T', h', cA, X', e', E, A, C, st⟩ := newPE X hx hZ w eT hg hd hs q1 (cap := cap) (by rw [q2]; exact hk) hb hc hl had
  exact ⟨T', h', X', e', E, own_AV_new A hn, C, st⟩
theorem own_AV.arv (A : own_AV Z h a ty vs) {z : Int32} (hz : z.toInt = vs.length) (dv : Value) : ∃ k, Arv Z h a k ty z vs dv := by
  obtain ⟨q1, q2⟩ := own_idx hz
  obtain ⟨cl, k, r, -, f⟩ := A
  have hs : cl.slots.size = vs.length := by rw [← r]; simp
  refine ⟨cl.cls, cl, k, rfl, by rw [hs, q2], q1, fun i hi => ?_, fun i hi => ?_⟩
  · rw [← Array.getElem?_toList, r, List.getD_eq_getElem?_getD, List.getElem?_eq_getElem (by omega)]; rfl
  · rw [List.getD_eq_getElem?_getD, List.getElem?_eq_getElem (by omega)]; exact f _ (List.getElem_mem _)
theorem own_arv {k : ClassId} {z : Int32} {dv : Value} (F : Arv Z h a k ty z vs dv) (hl : vs.length = z.toNatClampNeg) : own_AV Z h a ty vs := by
  obtain ⟨cl, A, -, S, q, H, G⟩ := F
  have hs : cl.slots.size = vs.length := by rw [S, hl]
  have e1 : cl.slots.toList = vs := by
    apply List.ext_getElem?
    intro i
    by_cases hi : i < vs.length
    · have := H i (by omega)
      rw [Array.getElem?_toList, this, List.getD_eq_getElem?_getD, List.getElem?_eq_getElem hi]; rfl
    · rw [List.getElem?_eq_none (l := vs) (by omega), List.getElem?_eq_none (l := cl.slots.toList) (by rw [Array.length_toList]; omega)]
  refine ⟨cl, A, e1, ?_, fun v hv => ?_⟩
  · have := z.toInt_lt
    rw [hl]; simp only [Int32.toNatClampNeg]; omega
  · obtain ⟨i, hi, rfl⟩ := List.getElem_of_mem hv
    have := G i (by omega)
    rw [List.getD_eq_getElem?_getD, List.getElem?_eq_getElem hi] at this
    exact this
theorem own_copy (X : Stand p l e R s m args below meth c T locs cells slots) (hx : p.tables.exec = Jvm.exec) (hZ : Z.Warmed39 s.vm) {own : String} {index : Nat} (hown : s.vm.findClass own = some m.cls)
    (w1 : (Jvm.Cond.methodLink own index Jvm.Stand.acN).before a0 Z = true) (w2 : (Jvm.Cond.native Jvm.Stand.acN).before a0 Z = true) (w3 : (Jvm.Cond.static Jvm.Stand.acN).before a0 Z = true) (w4 : (Jvm.Cond.initialized "java/lang/System").before a0 Z = true) (eT : T.heap = h)
    {us : List Value} (A : own_AV Z h a ty vs) (B : own_AV Z h b ty us) (hp : refKind ty = false) {sp dp nn : Int32} {g : JFrame} (hg : g.method = m) (hsize : g.locals.size = c.maxLocals) {rest : List Value} (hs : g.stack = .int nn :: .int dp :: .ref b :: .int sp :: .ref a :: rest) (hd : decode c.code g.pc = .ok (.invokestatic index, 3))
    (i j n : Nat) (hsp : sp.toInt = i) (hdp : dp.toInt = j) (hn : nn.toInt = n) (h4 : i + n ≤ vs.length) (h5 : j + n ≤ us.length) {n0 : Nat} (N : Fr n0 locs) (ge : n0 ≤ b)
    (W : Nat) (hW : 2 * g.monitorRoom + (rest.map fun v => v.category).sum ≤ W) (hf : 1 ≤ R.frames) (hlo : W + (nativeFrameWords "java/lang/System" "arraycopy" 5 + 11) ≤ R.locals) :
    ∃ T' h' L, Stand p l e R s m args below meth c T' L cells slots ∧ T'.heap = h' ∧ Fr n0 L ∧ Keep h h' [b] ∧ own_AV Z h' b ty (us.take j ++ (vs.drop i).take n ++ us.drop (j + n)) ∧
      ∀ t, Steps p.tables e below (T'.setTop { g with pc := g.pc + 3, stack := rest }) t → Steps p.tables e below (T.setTop g) t := by
  obtain ⟨s1, s2⟩ := own_idx hsp
  obtain ⟨d1, d2⟩ := own_idx hdp
  obtain ⟨n1, n2⟩ := own_idx hn
  have zA := len_toInt A.short
  have zB := len_toInt B.short
  obtain ⟨kA, FA⟩ := A.arv zA .null
  obtain ⟨kB, FB⟩ := B.arv zB .null
  have cA : vs.length.toInt32.toNatClampNeg = vs.length := (own_idx zA).2
  have cB : us.length.toInt32.toNatClampNeg = us.length := (own_idx zB).2
  have hus : (vs.drop i).take n = (List.range nn.toNatClampNeg).map fun q => vs.getD (sp.toNatClampNeg + q) .null := by
    rw [n2, s2]
    apply List.ext_getElem?
    intro q
    by_cases hq : q < n
    · rw [List.getElem?_take_of_lt hq, List.getElem?_drop, List.getElem?_map, List.getElem?_range hq, List.getElem?_eq_getElem (by omega)]
      show some _ = some (vs.getD (i + q) .null)
      rw [List.getD_eq_getElem?_getD, List.getElem?_eq_getElem (by omega)]; rfl
    · rw [List.getElem?_eq_none (by rw [List.length_take]; omega), List.getElem?_eq_none (by simp; omega)]
  obtain ⟨T', h', L, X', e', NL, K, F', st⟩ := cpA X hx hZ hown w1 w2 w3 w4 eT FA FB (Or.inl ⟨rfl, hp⟩) s1 d1 n1 (by rw [s2, n2, cA]; exact h4) (by rw [d2, n2, cB]; exact h5) hus (by rw [d2, n2]; exact h5) N ge hg hsize hs hd hf hW hlo
  rw [d2, n2] at F'
  exact ⟨T', h', L, X', e', NL, K, own_arv F' (by rw [cB]; simp only [List.length_append, List.length_take, List.length_drop]; omega), st⟩
theorem own_clone (X : Stand p l e R s m args below meth c T locs cells slots) (hx : p.tables.exec = Jvm.exec) (hZ : Z.Warmed39 s.vm) {own ad : String} {index : Nat} (hown : s.vm.findClass own = some m.cls)
    (w1 : (Jvm.Cond.methodLink own index ⟨ad, "clone", "()Ljava/lang/Object;"⟩).before a0 Z = true) (w2 : (Jvm.Cond.sameMethod ad "java/lang/Object" "clone" "()Ljava/lang/Object;").before a0 Z = true) (w3 : (Jvm.Cond.native ⟨"java/lang/Object", "clone", "()Ljava/lang/Object;"⟩).before a0 Z = true)
    (w4 : (Jvm.Cond.instanceMethod ⟨"java/lang/Object", "clone", "()Ljava/lang/Object;"⟩).before a0 Z = true) (w5 : (Jvm.Cond.selects ad ⟨ad, "clone", "()Ljava/lang/Object;"⟩ ⟨"java/lang/Object", "clone", "()Ljava/lang/Object;"⟩).before a0 Z = true) (w6 : (Jvm.Cond.castable ad "java/lang/Cloneable").before a0 Z = true)
    (eT : T.heap = h) (A : own_AV Z h a ty vs) (E : Exa Z h a ad) {g : JFrame} (hg : g.method = m) (hsize : g.locals.size = c.maxLocals) {rest : List Value} (hs : g.stack = .ref a :: rest) (hd : decode c.code g.pc = .ok (.invokevirtual index, 3))
    (W cap : Nat) (hW : 2 * g.monitorRoom + (rest.map fun v => v.category).sum ≤ W) (hf : 1 ≤ R.frames) (hl : W + 14 ≤ R.locals) (hcap : vs.length ≤ cap) (hc : cells + 1 ≤ R.cells) (hsl : slots + cap ≤ R.slots) :
    ∃ T' h', Stand p l e R s m args below meth c T' locs (cells + 1) (slots + cap) ∧ T'.heap = h' ∧ Ext h h' ∧ own_AV Z h' h.size ty vs ∧ Exa Z h' h.size ad ∧
      ∀ t, Steps p.tables e below (T'.setTop { g with pc := g.pc + 3, stack := .ref h.size :: rest }) t → Steps p.tables e below (T.setTop g) t := by
  obtain ⟨cl, k, r, z, f⟩ := A
  have hz : cl.slots.size = vs.length := by rw [← r]; simp
  have FC : FitC Z cl := fitC_of k fun i hi v hv => f v (by rw [← r]; exact List.mem_of_getElem? (i := i) (by rw [Array.getElem?_toList]; exact hv))
  obtain ⟨T', h', X', e', E', A', C', st⟩ := cloneA X hx hZ hown w1 w2 w3 w4 w5 w6 eT k E FC hg hsize hs hd hf (W := W) hW hl (cap := cap) (by omega) hc hsl
  exact ⟨T', h', X', e', E', ⟨_, A', r, z, f⟩, C', st⟩
end OwnArr
section OwnDbl
variable {tb : Tables} [Ours tb] {e : Env} {below : List Frame} {T target : State} {m : MethodId} {c : Code} {g : JFrame}
theorem own_i2d (h : At T m c below) (hx : tb.exec = Jvm.exec) (hg : g.method = m) {x : Int32} {rest : List Value} (hd : decode c.code g.pc = .ok (.i2d, 1)) (hs : g.stack = .int x :: rest)
    (hr : Steps tb e below (T.setTop { g with pc := g.pc + 1, stack := .double (FP.i2d x) :: rest }) target) : Steps tb e below (T.setTop g) target := by
  subst hg
  jvm_step h [h.top, hx, hd, hs]
  exact hr
theorem own_l2d (h : At T m c below) (hx : tb.exec = Jvm.exec) (hg : g.method = m) {x : Int64} {rest : List Value} (hd : decode c.code g.pc = .ok (.l2d, 1)) (hs : g.stack = .long x :: rest)
    (hr : Steps tb e below (T.setTop { g with pc := g.pc + 1, stack := .double (FP.l2d x) :: rest }) target) : Steps tb e below (T.setTop g) target := by
  subst hg
  jvm_step h [h.top, hx, hd, hs]
  exact hr
theorem own_dmul (h : At T m c below) (hx : tb.exec = Jvm.exec) (hg : g.method = m) {x y : UInt64} {rest : List Value} (hd : decode c.code g.pc = .ok (.dmul, 1)) (hs : g.stack = .double y :: .double x :: rest) (hn : Jvm.Free.Fl.NoNaN64 (FP.dmul x y))
    (hr : Steps tb e below (T.setTop { g with pc := g.pc + 1, stack := .double (FP.dmul x y) :: rest }) target) : Steps tb e below (T.setTop g) target := by
  subst hg
  jvm_step h [h.top, hx, hd, dmul.wp_number (s := T) (f := g) h.top hs hn]
  exact hr
theorem own_ddiv (h : At T m c below) (hx : tb.exec = Jvm.exec) (hg : g.method = m) {x y : UInt64} {rest : List Value} (hd : decode c.code g.pc = .ok (.ddiv, 1)) (hs : g.stack = .double y :: .double x :: rest) (hn : Jvm.Free.Fl.NoNaN64 (FP.ddiv x y))
    (hr : Steps tb e below (T.setTop { g with pc := g.pc + 1, stack := .double (FP.ddiv x y) :: rest }) target) : Steps tb e below (T.setTop g) target := by
  subst hg
  jvm_step h [h.top, hx, hd, ddiv.wp_number (s := T) (f := g) h.top hs hn]
  exact hr
theorem own_dadd (h : At T m c below) (hx : tb.exec = Jvm.exec) (hg : g.method = m) {x y : UInt64} {rest : List Value} (hd : decode c.code g.pc = .ok (.dadd, 1)) (hs : g.stack = .double y :: .double x :: rest) (hn : Jvm.Free.Fl.NoNaN64 (FP.dadd x y))
    (hr : Steps tb e below (T.setTop { g with pc := g.pc + 1, stack := .double (FP.dadd x y) :: rest }) target) : Steps tb e below (T.setTop g) target := by
  subst hg
  jvm_step h [h.top, hx, hd, dadd.wp_number (s := T) (f := g) h.top hs hn]
  exact hr
theorem own_dsub (h : At T m c below) (hx : tb.exec = Jvm.exec) (hg : g.method = m) {x y : UInt64} {rest : List Value} (hd : decode c.code g.pc = .ok (.dsub, 1)) (hs : g.stack = .double y :: .double x :: rest) (hn : Jvm.Free.Fl.NoNaN64 (FP.dsub x y))
    (hr : Steps tb e below (T.setTop { g with pc := g.pc + 1, stack := .double (FP.dsub x y) :: rest }) target) : Steps tb e below (T.setTop g) target := by
  subst hg
  jvm_step h [h.top, hx, hd, dsub.wp_number (s := T) (f := g) h.top hs hn]
  exact hr
end OwnDbl
section OwnDbl2
variable {p : Program} {l : Launch} {e : Env} {R : Room} {s : State} {m : MethodId} {args : Array Value} {below : List Frame} {meth : Method} {c : Code} {T : State} {locs : List Loc} {cells slots : Nat}
theorem own_dret (X : Stand p l e R s m args below meth c T locs cells slots) (hx : p.tables.exec = Jvm.exec) (hlk : meth.locks = false) (hret : meth.sig.returnType = some .double) {pc : Nat} {Ls : Array Slot} {z : UInt64}
    (hd : decode c.code pc = .ok (.dreturn, 1)) {Q : Option Value → Heap → List Loc → Prop} {C S : Nat} (hC : cells ≤ C) (hS : slots ≤ S) (hq : Q (some (.double z)) T.heap locs) : own_Go p e below (own_Out s Q C S) (T.setTop (mkF m pc Ls [.double z])) := by
  obtain ⟨fs, hr, hrun, hended, hW, hsame⟩ := X.leave (v := some (.double z)) (fun h => by rw [hret] at h; cases h)
  have hm' : T.vm.method? m = some meth := X.method'
  refine ⟨_, _, ?_, hrun, hended, _, _, rfl, hq, ⟨_, rfl⟩, hW, hsame.mono hC hS⟩
  show Steps p.tables e below (T.setTop { method := m, pc := pc, locals := Ls, stack := [.double z], locked := none }) _
  jvm_step X.here [X.here.top, hx, hd, hm', hret, narrow]
  first | (intro acts; rw [hr _ acts rfl rfl rfl]) | rw [hr _ _ rfl rfl rfl]
  exact Steps.refl _
end OwnDbl2
section OwnDbl3
variable {tb : Tables} [Ours tb] {e : Env} {below : List Frame} {T target : State} {m : MethodId} {c : Code} {g : JFrame}
theorem own_dloadN (h : At T m c below) (hx : tb.exec = Jvm.exec) (hg : g.method = m) {k : Fin 4} {v : UInt64} (hd : decode c.code g.pc = .ok (.dload_n k, 1)) (hl : g.locals[k.val]? = some (.val (.double v)))
    (hr : Steps tb e below (T.setTop { g with pc := g.pc + 1, stack := .double v :: g.stack }) target) : Steps tb e below (T.setTop g) target := by
  subst hg
  jvm_step h [h.top, hx, hd, hl]
  exact hr
theorem own_dload (h : At T m c below) (hx : tb.exec = Jvm.exec) (hg : g.method = m) {k : Nat} {v : UInt64} (hd : decode c.code g.pc = .ok (.dload k, 2)) (hl : g.locals[k]? = some (.val (.double v)))
    (hr : Steps tb e below (T.setTop { g with pc := g.pc + 2, stack := .double v :: g.stack }) target) : Steps tb e below (T.setTop g) target := by
  subst hg
  jvm_step h [h.top, hx, hd, hl]
  exact hr
theorem own_dconst0 (h : At T m c below) (hx : tb.exec = Jvm.exec) (hg : g.method = m) (hd : decode c.code g.pc = .ok (.dconst 0, 1))
    (hr : Steps tb e below (T.setTop { g with pc := g.pc + 1, stack := .double FP.dconst0 :: g.stack }) target) : Steps tb e below (T.setTop g) target := by
  subst hg
  jvm_step h [h.top, hx, hd]
  exact hr
theorem own_dconst1 (h : At T m c below) (hx : tb.exec = Jvm.exec) (hg : g.method = m) (hd : decode c.code g.pc = .ok (.dconst 1, 1))
    (hr : Steps tb e below (T.setTop { g with pc := g.pc + 1, stack := .double FP.dconst1 :: g.stack }) target) : Steps tb e below (T.setTop g) target := by
  subst hg
  jvm_step h [h.top, hx, hd]
  exact hr
theorem own_d2i (h : At T m c below) (hx : tb.exec = Jvm.exec) (hg : g.method = m) {x : UInt64} {rest : List Value} (hd : decode c.code g.pc = .ok (.d2i, 1)) (hs : g.stack = .double x :: rest)
    (hr : Steps tb e below (T.setTop { g with pc := g.pc + 1, stack := .int (FP.d2i x) :: rest }) target) : Steps tb e below (T.setTop g) target := by
  subst hg
  jvm_step h [h.top, hx, hd, hs]
  exact hr
def own_ord (i j : Int) : Int32 := if i < j then -1 else if i = j then 0 else 1
theorem own_ord_lt {i j : Int} (h : i < j) : own_ord i j = -1 := by unfold own_ord; rw [if_pos h]
theorem own_ord_eq {i j : Int} (h : i = j) : own_ord i j = 0 := by unfold own_ord; rw [if_neg (by omega), if_pos h]
theorem own_ord_gt {i j : Int} (h : j < i) : own_ord i j = 1 := by unfold own_ord; rw [if_neg (by omega), if_neg (by omega)]
theorem own_oo_eq_t {i j : Int} (h : i = j) : ifCond.holds .eq (own_ord i j) = true := by rw [own_ord_eq h]; decide
theorem own_oo_eq_f {i j : Int} (h : ¬ i = j) : ifCond.holds .eq (own_ord i j) = false := by
  rcases Int.lt_trichotomy i j with q | q | q
  · rw [own_ord_lt q]; decide
  · exact absurd q h
  · rw [own_ord_gt q]; decide
theorem own_oo_lt_t {i j : Int} (h : i < j) : ifCond.holds .lt (own_ord i j) = true := by rw [own_ord_lt h]; decide
theorem own_oo_lt_f {i j : Int} (h : ¬ i < j) : ifCond.holds .lt (own_ord i j) = false := by
  rcases Int.lt_trichotomy i j with q | q | q
  · exact absurd q h
  · rw [own_ord_eq q]; decide
  · rw [own_ord_gt q]; decide
theorem own_oo_ge_t {i j : Int} (h : ¬ i < j) : ifCond.holds .ge (own_ord i j) = true := by
  rcases Int.lt_trichotomy i j with q | q | q
  · exact absurd q h
  · rw [own_ord_eq q]; decide
  · rw [own_ord_gt q]; decide
theorem own_oo_ge_f {i j : Int} (h : i < j) : ifCond.holds .ge (own_ord i j) = false := by rw [own_ord_lt h]; decide
theorem own_oo_gt_t {i j : Int} (h : j < i) : ifCond.holds .gt (own_ord i j) = true := by rw [own_ord_gt h]; decide
theorem own_oo_gt_f {i j : Int} (h : ¬ j < i) : ifCond.holds .gt (own_ord i j) = false := by
  rcases Int.lt_trichotomy i j with q | q | q
  · rw [own_ord_lt q]; decide
  · rw [own_ord_eq q]; decide
  · exact absurd q h
theorem own_cmpV {r : Option Ordering} {i j : Int} {op : CmpOp} (h : r = some (compare i j)) : cmpValue r op = own_ord i j := by
  rw [h]
  rcases Int.lt_trichotomy i j with q | q | q
  · rw [Int.compare_eq_lt.mpr q, own_ord_lt q]; rfl
  · rw [Int.compare_eq_eq.mpr q, own_ord_eq q]; rfl
  · rw [Int.compare_eq_gt.mpr q, own_ord_gt q]; rfl
theorem own_dcmp (h : At T m c below) (hx : tb.exec = Jvm.exec) (hg : g.method = m) {op : CmpOp} {x y : UInt64} {i j : Int} {rest : List Value} (hd : decode c.code g.pc = .ok (.dcmp op, 1)) (hs : g.stack = .double y :: .double x :: rest) (hc : FP.dcmp x y = some (compare i j))
    (hr : Steps tb e below (T.setTop { g with pc := g.pc + 1, stack := .int (own_ord i j) :: rest }) target) : Steps tb e below (T.setTop g) target := by
  subst hg
  have hv := own_cmpV (op := op) hc
  jvm_step h [h.top, hx, hd, hs, hv]
  exact hr
end OwnDbl3
section OwnDbl4
variable {p : Program} {l : Launch} {e : Env} {R : Room} {s : State} {m : MethodId} {args : Array Value} {below : List Frame} {meth : Method} {c : Code} {T : State} {locs : List Loc} {cells slots : Nat} {Z : State} {a0 : Array Value} {h : Heap} {h0 : Heap}
theorem own_iteD {C : Prop} [Decidable C] {a b : UInt64} {k n : Nat} {A : State} (h1 : C → own_Go p e below (own_Out s (own_PQ h0 (.double a)) k n) A) (h2 : ¬ C → own_Go p e below (own_Out s (own_PQ h0 (.double b)) k n) A) : own_Go p e below (own_Out s (own_PQ h0 (.double (if C then a else b))) k n) A := by
  by_cases q : C
  · rw [if_pos q]; exact h1 q
  · rw [if_neg q]; exact h2 q
theorem own_maxD (X : Stand p l e R s m args below meth c T locs cells slots) (hx : p.tables.exec = Jvm.exec) (hZ : Z.Warmed39 s.vm) {own : String} (hown : s.vm.findClass own = some m.cls) {index : Nat} (wl : (Jvm.Cond.methodLink own index Jvm.Free.Fl.Abs.maxDN).before a0 Z = true) (wst : (Jvm.Cond.static Jvm.Free.Fl.Abs.maxDN).before a0 Z = true) (wz : (Jvm.Cond.initialized "java/lang/Math").before a0 Z = true) (wc : (Jvm.Cond.code Jvm.Free.Fl.Abs.maxDN Jvm.Free.Fl.Abs.maxDCode 4 (some .double)).before a0 Z = true) (eT : T.heap = h)
    {a b : UInt64} (ha : Jvm.Free.Fl.NoNaN64 a) (hb : Jvm.Free.Fl.NoNaN64 b) {rest : List Value} {g : JFrame} (hg : g.method = m) (hsize : g.locals.size = c.maxLocals) (hstack : g.stack = .double b :: .double a :: rest) (W : Nat) (hW : 2 * g.monitorRoom + (rest.map fun v => v.category).sum ≤ W) (hdg : decode c.code g.pc = .ok (.invokestatic index, 3)) (hf : 1 ≤ R.frames) (hl : W + 15 ≤ R.locals) (hcs : cells ≤ R.cells) (hss : slots ≤ R.slots) :
    ∃ T', Stand p l e R s m args below meth c T' locs cells slots ∧ T'.heap = h ∧ ∀ t, Steps p.tables e below (T'.setTop { g with pc := g.pc + 3, stack := .double (Native.java_lang_Math.nans.pick64 true a b) :: rest }) t → Steps p.tables e below (T.setTop g) t := by
  obtain ⟨v, vm₁, B, -, X', ⟨rfl, rfl⟩, st⟩ := Jvm.LawKit.callS X hx hown (mvT hZ wl) (mvT hZ wst) (mvT hZ wz) (mvT hZ wc) (by decide) (Jvm.Free.Fl.Abs.maxD_pays (W := W) a b (mvT hZ wc) hf hl) hg hsize (argsL := [.double a, .double b]) (rest := rest) (fun sg hsg => by rw [show parseMethodDescriptor Jvm.Free.Fl.Abs.maxDN.desc = some ⟨[.double, .double], some .double⟩ from by decide +kernel] at hsg; cases hsg; rfl) hstack hW hdg (fun _ _ => ⟨hcs, hss, rfl, ha, hb⟩)
  exact ⟨_, X', eT, st⟩
theorem own_minD (X : Stand p l e R s m args below meth c T locs cells slots) (hx : p.tables.exec = Jvm.exec) (hZ : Z.Warmed39 s.vm) {own : String} (hown : s.vm.findClass own = some m.cls) {index : Nat} (wl : (Jvm.Cond.methodLink own index Jvm.Free.Fl.Abs.minDN).before a0 Z = true) (wst : (Jvm.Cond.static Jvm.Free.Fl.Abs.minDN).before a0 Z = true) (wz : (Jvm.Cond.initialized "java/lang/Math").before a0 Z = true) (wc : (Jvm.Cond.code Jvm.Free.Fl.Abs.minDN Jvm.Free.Fl.Abs.minDCode 4 (some .double)).before a0 Z = true) (eT : T.heap = h)
    {a b : UInt64} (ha : Jvm.Free.Fl.NoNaN64 a) (hb : Jvm.Free.Fl.NoNaN64 b) {rest : List Value} {g : JFrame} (hg : g.method = m) (hsize : g.locals.size = c.maxLocals) (hstack : g.stack = .double b :: .double a :: rest) (W : Nat) (hW : 2 * g.monitorRoom + (rest.map fun v => v.category).sum ≤ W) (hdg : decode c.code g.pc = .ok (.invokestatic index, 3)) (hf : 1 ≤ R.frames) (hl : W + 15 ≤ R.locals) (hcs : cells ≤ R.cells) (hss : slots ≤ R.slots) :
    ∃ T', Stand p l e R s m args below meth c T' locs cells slots ∧ T'.heap = h ∧ ∀ t, Steps p.tables e below (T'.setTop { g with pc := g.pc + 3, stack := .double (Native.java_lang_Math.nans.pick64 false a b) :: rest }) t → Steps p.tables e below (T.setTop g) t := by
  obtain ⟨v, vm₁, B, -, X', ⟨rfl, rfl⟩, st⟩ := Jvm.LawKit.callS X hx hown (mvT hZ wl) (mvT hZ wst) (mvT hZ wz) (mvT hZ wc) (by decide) (Jvm.Free.Fl.Abs.minD_pays (W := W) a b (mvT hZ wc) hf hl) hg hsize (argsL := [.double a, .double b]) (rest := rest) (fun sg hsg => by rw [show parseMethodDescriptor Jvm.Free.Fl.Abs.minDN.desc = some ⟨[.double, .double], some .double⟩ from by decide +kernel] at hsg; cases hsg; rfl) hstack hW hdg (fun _ _ => ⟨hcs, hss, rfl, ha, hb⟩)
  exact ⟨_, X', eT, st⟩
end OwnDbl4
/-- the double b stands for i: a whole number of at most K, or an infinity (that of a million) -/
def own_DE (K : Nat) (i : Int) (b : UInt64) : Prop := (i.natAbs ≤ K ∧ FP.Core.DInt i b) ∨ (i = 1000000 ∧ FP.Core.val64 b = .inf false) ∨ (i = -1000000 ∧ FP.Core.val64 b = .inf true)
theorem own_DE.mono {K K' : Nat} {i : Int} {b : UInt64} (h : own_DE K i b) (hk : K ≤ K') : own_DE K' i b := by
  rcases h with ⟨h1, h2⟩ | h | h
  · exact Or.inl ⟨by omega, h2⟩
  · exact Or.inr (Or.inl h)
  · exact Or.inr (Or.inr h)
theorem own_DE.i2d (a : Int32) {K : Nat} (h : a.toInt.natAbs ≤ K) : own_DE K a.toInt (FP.i2d a) := Or.inl ⟨h, FP.Core.i2d_int a⟩
theorem own_DE.pinf (K : Nat) : own_DE K 1000000 (9218868437227405312 : UInt64) := Or.inr (Or.inl ⟨rfl, by decide +kernel⟩)
theorem own_DE.ninf (K : Nat) : own_DE K (-1000000) (18442240474082181120 : UInt64) := Or.inr (Or.inr ⟨rfl, by decide +kernel⟩)
theorem own_DE.zero (K : Nat) : own_DE K 0 FP.dconst0 := Or.inl ⟨by simp, by
  have h := FP.Core.i2d_int 0
  have e : FP.Core.i2d 0 = FP.dconst0 := by decide +kernel
  rw [e] at h; exact h⟩
theorem own_DE.one (K : Nat) (hK : 1 ≤ K) : own_DE K 1 FP.dconst1 := Or.inl ⟨by omega, by
  have h := FP.Core.i2d_int 1
  have e : FP.Core.i2d 1 = FP.dconst1 := by decide +kernel
  rw [e] at h; exact h⟩
theorem own_DE.noNaN {K : Nat} {i : Int} {b : UInt64} (h : own_DE K i b) : Jvm.Free.Fl.NoNaN64 b := by
  rw [Jvm.Free.Fl.val64_no]
  intro q
  rcases h with ⟨-, h⟩ | ⟨-, h⟩ | ⟨-, h⟩
  · unfold FP.Core.DInt at h; rw [q] at h; exact h
  · rw [q] at h; cases h
  · rw [q] at h; cases h
theorem own_whole_fin {i : Int} {x : FP.Core.Datum} (h : FP.Core.Whole i x) : ∃ s c q, x = .fin s c q := by
  cases x with
  | nan => exact h.elim
  | inf s => exact h.elim
  | fin s c q => exact ⟨s, c, q, rfl⟩
def own_sub (i j : Int) : Int := if j = 1000000 then -1000000 else if j = -1000000 then 1000000 else i - j
theorem own_DE.sub {K K' : Nat} {i j : Int} {a b : UInt64} (ha : i.natAbs ≤ K ∧ FP.Core.DInt i a) (hb : own_DE K' j b) (hK : K ≤ 1000) (hK' : K' ≤ 1000) : own_DE (K + K') (own_sub i j) (FP.dsub a b) := by
  rcases hb with ⟨h1, h2⟩ | ⟨rfl, h2⟩ | ⟨rfl, h2⟩
  · refine Or.inl ⟨?_, ?_⟩
    · unfold own_sub; rw [if_neg (by omega), if_neg (by omega)]; omega
    · unfold own_sub; rw [if_neg (by omega), if_neg (by omega)]; exact FP.Core.dsub_int ha.2 h2 (by omega)
  · obtain ⟨s, c, q, e⟩ := own_whole_fin ha.2
    refine Or.inr (Or.inr ⟨rfl, ?_⟩)
    show FP.Core.val64 (FP.Core.dsub a b) = _
    rw [FP.Core.val64_dsub, e, h2]; rfl
  · obtain ⟨s, c, q, e⟩ := own_whole_fin ha.2
    refine Or.inr (Or.inl ⟨rfl, ?_⟩)
    show FP.Core.val64 (FP.Core.dsub a b) = _
    rw [FP.Core.val64_dsub, e, h2]; rfl
theorem own_cmp_lt {i j : Int} (h : i < j) : compare i j = .lt := Int.compare_eq_lt.mpr h
theorem own_cmp_gt {i j : Int} (h : j < i) : compare i j = .gt := Int.compare_eq_gt.mpr h
theorem own_DE.cmp {K K' : Nat} {i j : Int} {a b : UInt64} (ha : own_DE K i a) (hb : own_DE K' j b) (hK : K ≤ 2000) (hK' : K' ≤ 2000) : FP.dcmp a b = some (compare i j) := by
  show FP.Core.order (FP.Core.val64 a) (FP.Core.val64 b) = some (compare i j)
  rcases ha with ⟨h1, h2⟩ | ⟨rfl, h2⟩ | ⟨rfl, h2⟩ <;> rcases hb with ⟨g1, g2⟩ | ⟨rfl, g2⟩ | ⟨rfl, g2⟩
  · exact FP.Core.order_whole h2 g2
  · obtain ⟨s, c, q, e⟩ := own_whole_fin h2; rw [e, g2, own_cmp_lt (by omega)]; rfl
  · obtain ⟨s, c, q, e⟩ := own_whole_fin h2; rw [e, g2, own_cmp_gt (by omega)]; rfl
  · obtain ⟨s, c, q, e⟩ := own_whole_fin g2; rw [e, h2, own_cmp_gt (by omega)]; rfl
  · rw [h2, g2]; rfl
  · rw [h2, g2]; rfl
  · obtain ⟨s, c, q, e⟩ := own_whole_fin g2; rw [e, h2, own_cmp_lt (by omega)]; rfl
  · rw [h2, g2]; rfl
  · rw [h2, g2]; rfl
theorem own_DE.max {K : Nat} {i j : Int} {a b : UInt64} (ha : own_DE K i a) (hb : own_DE K j b) (hK : K ≤ 2000) : own_DE K (max i j) (Native.java_lang_Math.nans.pick64 true a b) := by
  have h := ha.cmp hb hK hK
  unfold Native.java_lang_Math.nans.pick64
  rw [h]
  rcases Int.lt_trichotomy i j with q | q | q
  · rw [own_cmp_lt q, Int.max_eq_right (Int.le_of_lt q)]; exact hb
  · subst q
    rw [Int.max_self, show compare i i = .eq from Int.compare_eq_eq.mpr rfl]
    dsimp only
    split <;> assumption
  · rw [own_cmp_gt q, Int.max_eq_left (Int.le_of_lt q)]; exact ha
theorem own_DE.min {K : Nat} {i j : Int} {a b : UInt64} (ha : own_DE K i a) (hb : own_DE K j b) (hK : K ≤ 2000) : own_DE K (min i j) (Native.java_lang_Math.nans.pick64 false a b) := by
  have h := ha.cmp hb hK hK
  unfold Native.java_lang_Math.nans.pick64
  rw [h]
  rcases Int.lt_trichotomy i j with q | q | q
  · rw [own_cmp_lt q, Int.min_eq_left (Int.le_of_lt q)]; exact ha
  · subst q
    rw [Int.min_self, show compare i i = .eq from Int.compare_eq_eq.mpr rfl]
    dsimp only
    split <;> assumption
  · rw [own_cmp_gt q, Int.min_eq_right (Int.le_of_lt q)]; exact hb
def own_clip (i : Int) : Int := if i = 1000000 then 2147483647 else if i = -1000000 then -2147483648 else i
theorem own_DE.d2i {K : Nat} {i : Int} {b : UInt64} (h : own_DE K i b) (hK : K ≤ 2000) : (FP.d2i b).toInt = own_clip i := by
  rcases h with ⟨h1, h2⟩ | ⟨rfl, h2⟩ | ⟨rfl, h2⟩
  · have e : (Int32.ofInt i).toInt = i := Int32.toInt_ofInt_of_le (by omega) (by omega)
    have q : FP.d2i b = Int32.ofInt i := FP.Core.d2i_int (a := Int32.ofInt i) (by rw [e]; exact h2)
    rw [q, e]; unfold own_clip; rw [if_neg (by omega), if_neg (by omega)]
  · show (Int32.ofInt (FP.Core.toInt (-2 ^ 31) (2 ^ 31 - 1) (FP.Core.val64 b))).toInt = _
    rw [h2]; decide
  · show (Int32.ofInt (FP.Core.toInt (-2 ^ 31) (2 ^ 31 - 1) (FP.Core.val64 b))).toInt = _
    rw [h2]; decide
theorem d1_0 : decode method_2_code 0 = .ok (.iload_n 0, 1) := by decide +kernel
theorem d1_1 : decode method_2_code 1 = .ok (.bipush 31, 2) := by decide +kernel
theorem d1_3 : decode method_2_code 3 = .ok (.iand, 1) := by decide +kernel
theorem d1_4 : decode method_2_code 4 = .ok (.istore_n 1, 1) := by decide +kernel
theorem d1_5 : decode method_2_code 5 = .ok (.iload_n 1, 1) := by decide +kernel
theorem d1_6 : decode method_2_code 6 = .ok (.ifCond .ne 7, 3) := by decide +kernel
theorem d1_9 : decode method_2_code 9 = .ok (.ldc2_w 9, 3) := by decide +kernel
theorem d1_12 : decode method_2_code 12 = .ok (.dreturn, 1) := by decide +kernel
theorem d1_13 : decode method_2_code 13 = .ok (.iload_n 1, 1) := by decide +kernel
theorem d1_14 : decode method_2_code 14 = .ok (.iconst 1, 1) := by decide +kernel
theorem d1_15 : decode method_2_code 15 = .ok (.if_icmp .ne 7, 3) := by decide +kernel
theorem d1_18 : decode method_2_code 18 = .ok (.ldc2_w 11, 3) := by decide +kernel
theorem d1_21 : decode method_2_code 21 = .ok (.dreturn, 1) := by decide +kernel
theorem d1_22 : decode method_2_code 22 = .ok (.iload_n 1, 1) := by decide +kernel
theorem d1_23 : decode method_2_code 23 = .ok (.bipush 16, 2) := by decide +kernel
theorem d1_25 : decode method_2_code 25 = .ok (.isub, 1) := by decide +kernel
theorem d1_26 : decode method_2_code 26 = .ok (.i2d, 1) := by decide +kernel
theorem d1_27 : decode method_2_code 27 = .ok (.dreturn, 1) := by decide +kernel
def own_bound (x0 : Int32) : UInt64 := (if (x0 &&& (31 : Int32)) = (0 : Int32) then (18442240474082181120 : UInt64) else (if (x0 &&& (31 : Int32)) = (1 : Int32) then (9218868437227405312 : UInt64) else (FP.i2d ((x0 &&& (31 : Int32)) - (16 : Int32)))))
set_option maxRecDepth 65536 in
set_option maxHeartbeats 40000000 in
theorem own_bound_con (l : Launch) (Z : State) (a0 : Array Value) (hw : ∀ d ∈ tables_1, d.before a0 Z = true) (x0 : Int32)  (h0 : Heap) (ws : List Jvm.Cond) :
    own_Con l Z (⟨"com/example/rowtree/rowtree/query/xpath/IntervalEmptyPinLaw", "bound", "(I)D"⟩ : MethodName) method_2_code 2 (some .double) ({ frames := 0, cells := 0, slots := 0, locals := 0 } : Room) #[(.int x0)] h0 (own_PQ h0 (.double (own_bound x0))) ws := by
  refine own_con (F := fun m => (mkF m 0 #[.val (.int x0), .unset] [])) (own_pn (by first | (simp [plainName, overriddenIn]; done) | decide +kernel)) (fun m => by first | (simp [entryFrame, mkF, argsToLocals, Value.category]; done) | rfl) ?_
  intro p e s m below meth c T X hx hby hml hZ hown hnm hret hlk eT
  show own_Go p e below (own_Out s (own_PQ h0 (.double (own_bound x0))) 0 0) (T.setTop (mkF m 0 #[.val (.int x0), .unset] []))
  show own_Go p e below (own_Out s (own_PQ h0 (.double (if (x0 &&& (31 : Int32)) = (0 : Int32) then (18442240474082181120 : UInt64) else (if (x0 &&& (31 : Int32)) = (1 : Int32) then (9218868437227405312 : UInt64) else (FP.i2d ((x0 &&& (31 : Int32)) - (16 : Int32))))))) 0 0) _
  refine own_go (fun _ => XS.iloadN X.here hx rfl (hb hby d1_0) rfl) ?_
  show own_Go p e below _ (T.setTop (mkF m 1 #[.val (.int x0), .unset] [(.int x0)]))
  refine own_go (fun _ => XS.bipush X.here hx rfl (hb hby d1_1)) ?_
  show own_Go p e below _ (T.setTop (mkF m 3 #[.val (.int x0), .unset] [(.int (31 : Int32)), (.int x0)]))
  refine own_go (fun _ => XS.iand X.here hx rfl (hb hby d1_3) rfl) ?_
  show own_Go p e below _ (T.setTop (mkF m 4 #[.val (.int x0), .unset] [(.int (x0 &&& (31 : Int32)))]))
  refine own_go (fun _ => XS.istoreN X.here hx rfl (hb hby d1_4) rfl (l' := #[.val (.int x0), .val (.int (x0 &&& (31 : Int32)))]) rfl) ?_
  show own_Go p e below _ (T.setTop (mkF m 5 #[.val (.int x0), .val (.int (x0 &&& (31 : Int32)))] []))
  refine own_go (fun _ => XS.iloadN X.here hx rfl (hb hby d1_5) rfl) ?_
  show own_Go p e below _ (T.setTop (mkF m 6 #[.val (.int x0), .val (.int (x0 &&& (31 : Int32)))] [(.int (x0 &&& (31 : Int32)))]))
  refine own_iteD (fun hc6 => ?_) (fun hc6 => ?_)
  · skip
    refine own_go (fun _ => XS.ifNo X.here hx rfl (hb hby d1_6) rfl (XT.i0_ne_f hc6)) ?_
    show own_Go p e below _ (T.setTop (mkF m 9 #[.val (.int x0), .val (.int (x0 &&& (31 : Int32)))] []))
    refine own_go (X.ldc2DoubleC hx hown (mvT hZ (hw _ (List.mem_of_getElem? (i := 7) rfl))) (g := (mkF m 9 #[.val (.int x0), .val (.int (x0 &&& (31 : Int32)))] [])) rfl (hb hby d1_9)) ?_
    show own_Go p e below _ (T.setTop (mkF m 12 #[.val (.int x0), .val (.int (x0 &&& (31 : Int32)))] [(.double (18442240474082181120 : UInt64))]))
    exact own_dret X hx hlk hret (hb hby d1_12) (Nat.zero_le _) (Nat.zero_le _) ⟨rfl, eT, rfl⟩
  · skip
    refine own_go (fun _ => XS.ifYes X.here hx rfl (pc0 := 6) (pc' := 13) rfl (hb hby d1_6) rfl (XT.i0_ne_t hc6) (by decide) (by decide)) ?_
    show own_Go p e below _ (T.setTop (mkF m 13 #[.val (.int x0), .val (.int (x0 &&& (31 : Int32)))] []))
    refine own_go (fun _ => XS.iloadN X.here hx rfl (hb hby d1_13) rfl) ?_
    show own_Go p e below _ (T.setTop (mkF m 14 #[.val (.int x0), .val (.int (x0 &&& (31 : Int32)))] [(.int (x0 &&& (31 : Int32)))]))
    refine own_go (fun _ => XS.iconst X.here hx rfl (hb hby d1_14)) ?_
    show own_Go p e below _ (T.setTop (mkF m 15 #[.val (.int x0), .val (.int (x0 &&& (31 : Int32)))] [(.int (1 : Int32)), (.int (x0 &&& (31 : Int32)))]))
    refine own_iteD (fun hc15 => ?_) (fun hc15 => ?_)
    · skip
      refine own_go (fun _ => XS.icmpNo X.here hx rfl (hb hby d1_15) rfl (XT.ii_ne_f hc15)) ?_
      show own_Go p e below _ (T.setTop (mkF m 18 #[.val (.int x0), .val (.int (x0 &&& (31 : Int32)))] []))
      refine own_go (X.ldc2DoubleC hx hown (mvT hZ (hw _ (List.mem_of_getElem? (i := 8) rfl))) (g := (mkF m 18 #[.val (.int x0), .val (.int (x0 &&& (31 : Int32)))] [])) rfl (hb hby d1_18)) ?_
      show own_Go p e below _ (T.setTop (mkF m 21 #[.val (.int x0), .val (.int (x0 &&& (31 : Int32)))] [(.double (9218868437227405312 : UInt64))]))
      exact own_dret X hx hlk hret (hb hby d1_21) (Nat.zero_le _) (Nat.zero_le _) ⟨rfl, eT, rfl⟩
    · skip
      refine own_go (fun _ => XS.icmpYes X.here hx rfl (pc0 := 15) (pc' := 22) rfl (hb hby d1_15) rfl (XT.ii_ne_t hc15) (by decide) (by decide)) ?_
      show own_Go p e below _ (T.setTop (mkF m 22 #[.val (.int x0), .val (.int (x0 &&& (31 : Int32)))] []))
      refine own_go (fun _ => XS.iloadN X.here hx rfl (hb hby d1_22) rfl) ?_
      show own_Go p e below _ (T.setTop (mkF m 23 #[.val (.int x0), .val (.int (x0 &&& (31 : Int32)))] [(.int (x0 &&& (31 : Int32)))]))
      refine own_go (fun _ => XS.bipush X.here hx rfl (hb hby d1_23)) ?_
      show own_Go p e below _ (T.setTop (mkF m 25 #[.val (.int x0), .val (.int (x0 &&& (31 : Int32)))] [(.int (16 : Int32)), (.int (x0 &&& (31 : Int32)))]))
      refine own_go (fun _ => XS.isub X.here hx rfl (hb hby d1_25) rfl) ?_
      show own_Go p e below _ (T.setTop (mkF m 26 #[.val (.int x0), .val (.int (x0 &&& (31 : Int32)))] [(.int ((x0 &&& (31 : Int32)) - (16 : Int32)))]))
      refine own_go (fun _ => own_i2d X.here hx rfl (hb hby d1_26) rfl) ?_
      show own_Go p e below _ (T.setTop (mkF m 27 #[.val (.int x0), .val (.int (x0 &&& (31 : Int32)))] [(.double (FP.i2d ((x0 &&& (31 : Int32)) - (16 : Int32))))]))
      exact own_dret X hx hlk hret (hb hby d1_27) (Nat.zero_le _) (Nat.zero_le _) ⟨rfl, eT, rfl⟩
theorem d6_0 : decode method_3_code 0 = .ok (.iload_n 0, 1) := by decide +kernel
theorem d6_1 : decode method_3_code 1 = .ok (.bipush 31, 2) := by decide +kernel
theorem d6_3 : decode method_3_code 3 = .ok (.iand, 1) := by decide +kernel
theorem d6_4 : decode method_3_code 4 = .ok (.istore_n 1, 1) := by decide +kernel
theorem d6_5 : decode method_3_code 5 = .ok (.iload_n 1, 1) := by decide +kernel
theorem d6_6 : decode method_3_code 6 = .ok (.iconst 2, 1) := by decide +kernel
theorem d6_7 : decode method_3_code 7 = .ok (.if_icmp .ge 5, 3) := by decide +kernel
theorem d6_10 : decode method_3_code 10 = .ok (.iconst 0, 1) := by decide +kernel
theorem d6_11 : decode method_3_code 11 = .ok (.ireturn, 1) := by decide +kernel
theorem d6_12 : decode method_3_code 12 = .ok (.iload_n 1, 1) := by decide +kernel
theorem d6_13 : decode method_3_code 13 = .ok (.bipush 16, 2) := by decide +kernel
theorem d6_15 : decode method_3_code 15 = .ok (.isub, 1) := by decide +kernel
theorem d6_16 : decode method_3_code 16 = .ok (.ireturn, 1) := by decide +kernel
def own_fz (x0 : Int32) : Int32 := (if (x0 &&& (31 : Int32)) < (2 : Int32) then (0 : Int32) else ((x0 &&& (31 : Int32)) - (16 : Int32)))
set_option maxRecDepth 65536 in
set_option maxHeartbeats 40000000 in
theorem own_fz_con (l : Launch) (Z : State) (a0 : Array Value) (hw : ∀ d ∈ tables_1, d.before a0 Z = true) (x0 : Int32)  (h0 : Heap) (ws : List Jvm.Cond) :
    own_Con l Z (⟨"com/example/rowtree/rowtree/query/xpath/IntervalEmptyPinLaw", "finiteOrZero", "(I)I"⟩ : MethodName) method_3_code 2 (some .int) ({ frames := 0, cells := 0, slots := 0, locals := 0 } : Room) #[(.int x0)] h0 (own_PQ h0 (.int (own_fz x0))) ws := by
  refine own_con (F := fun m => (mkF m 0 #[.val (.int x0), .unset] [])) (own_pn (by first | (simp [plainName, overriddenIn]; done) | decide +kernel)) (fun m => by first | (simp [entryFrame, mkF, argsToLocals, Value.category]; done) | rfl) ?_
  intro p e s m below meth c T X hx hby hml hZ hown hnm hret hlk eT
  show own_Go p e below (own_Out s (own_PQ h0 (.int (own_fz x0))) 0 0) (T.setTop (mkF m 0 #[.val (.int x0), .unset] []))
  show own_Go p e below (own_Out s (own_PQ h0 (.int (if (x0 &&& (31 : Int32)) < (2 : Int32) then (0 : Int32) else ((x0 &&& (31 : Int32)) - (16 : Int32))))) 0 0) _
  refine own_go (fun _ => XS.iloadN X.here hx rfl (hb hby d6_0) rfl) ?_
  show own_Go p e below _ (T.setTop (mkF m 1 #[.val (.int x0), .unset] [(.int x0)]))
  refine own_go (fun _ => XS.bipush X.here hx rfl (hb hby d6_1)) ?_
  show own_Go p e below _ (T.setTop (mkF m 3 #[.val (.int x0), .unset] [(.int (31 : Int32)), (.int x0)]))
  refine own_go (fun _ => XS.iand X.here hx rfl (hb hby d6_3) rfl) ?_
  show own_Go p e below _ (T.setTop (mkF m 4 #[.val (.int x0), .unset] [(.int (x0 &&& (31 : Int32)))]))
  refine own_go (fun _ => XS.istoreN X.here hx rfl (hb hby d6_4) rfl (l' := #[.val (.int x0), .val (.int (x0 &&& (31 : Int32)))]) rfl) ?_
  show own_Go p e below _ (T.setTop (mkF m 5 #[.val (.int x0), .val (.int (x0 &&& (31 : Int32)))] []))
  refine own_go (fun _ => XS.iloadN X.here hx rfl (hb hby d6_5) rfl) ?_
  show own_Go p e below _ (T.setTop (mkF m 6 #[.val (.int x0), .val (.int (x0 &&& (31 : Int32)))] [(.int (x0 &&& (31 : Int32)))]))
  refine own_go (fun _ => XS.iconst X.here hx rfl (hb hby d6_6)) ?_
  show own_Go p e below _ (T.setTop (mkF m 7 #[.val (.int x0), .val (.int (x0 &&& (31 : Int32)))] [(.int (2 : Int32)), (.int (x0 &&& (31 : Int32)))]))
  refine own_iteI (fun hc7 => ?_) (fun hc7 => ?_)
  · skip
    refine own_go (fun _ => XS.icmpNo X.here hx rfl (hb hby d6_7) rfl (XT.ii_ge_f hc7)) ?_
    show own_Go p e below _ (T.setTop (mkF m 10 #[.val (.int x0), .val (.int (x0 &&& (31 : Int32)))] []))
    refine own_go (fun _ => XS.iconst X.here hx rfl (hb hby d6_10)) ?_
    show own_Go p e below _ (T.setTop (mkF m 11 #[.val (.int x0), .val (.int (x0 &&& (31 : Int32)))] [(.int (0 : Int32))]))
    exact own_iret X hx hlk hret (Or.inl rfl) rfl (hb hby d6_11) (Nat.zero_le _) (Nat.zero_le _) ⟨rfl, eT, rfl⟩
  · skip
    refine own_go (fun _ => XS.icmpYes X.here hx rfl (pc0 := 7) (pc' := 12) rfl (hb hby d6_7) rfl (XT.ii_ge_t hc7) (by decide) (by decide)) ?_
    show own_Go p e below _ (T.setTop (mkF m 12 #[.val (.int x0), .val (.int (x0 &&& (31 : Int32)))] []))
    refine own_go (fun _ => XS.iloadN X.here hx rfl (hb hby d6_12) rfl) ?_
    show own_Go p e below _ (T.setTop (mkF m 13 #[.val (.int x0), .val (.int (x0 &&& (31 : Int32)))] [(.int (x0 &&& (31 : Int32)))]))
    refine own_go (fun _ => XS.bipush X.here hx rfl (hb hby d6_13)) ?_
    show own_Go p e below _ (T.setTop (mkF m 15 #[.val (.int x0), .val (.int (x0 &&& (31 : Int32)))] [(.int (16 : Int32)), (.int (x0 &&& (31 : Int32)))]))
    refine own_go (fun _ => XS.isub X.here hx rfl (hb hby d6_15) rfl) ?_
    show own_Go p e below _ (T.setTop (mkF m 16 #[.val (.int x0), .val (.int (x0 &&& (31 : Int32)))] [(.int ((x0 &&& (31 : Int32)) - (16 : Int32)))]))
    exact own_iret X hx hlk hret (Or.inl rfl) rfl (hb hby d6_16) (Nat.zero_le _) (Nat.zero_le _) ⟨rfl, eT, rfl⟩
theorem d7_0 : decode jdk_29_method_65_code 0 = .ok (.iload_n 0, 1) := by decide +kernel
theorem d7_1 : decode jdk_29_method_65_code 1 = .ok (.iload_n 1, 1) := by decide +kernel
theorem d7_2 : decode jdk_29_method_65_code 2 = .ok (.if_icmp .lt 7, 3) := by decide +kernel
theorem d7_5 : decode jdk_29_method_65_code 5 = .ok (.iload_n 0, 1) := by decide +kernel
theorem d7_6 : decode jdk_29_method_65_code 6 = .ok (.goto 4, 3) := by decide +kernel
theorem d7_9 : decode jdk_29_method_65_code 9 = .ok (.iload_n 1, 1) := by decide +kernel
theorem d7_10 : decode jdk_29_method_65_code 10 = .ok (.ireturn, 1) := by decide +kernel
def own_maxI (x0 : Int32) (x1 : Int32) : Int32 := (if x0 < x1 then x1 else x0)
set_option maxRecDepth 65536 in
set_option maxHeartbeats 40000000 in
theorem own_maxI_con (l : Launch) (Z : State) (a0 : Array Value) (hw : ∀ d ∈ tables_1, d.before a0 Z = true) (x0 : Int32) (x1 : Int32)  (h0 : Heap) (ws : List Jvm.Cond) :
    own_Con l Z (⟨"java/lang/Math", "max", "(II)I"⟩ : MethodName) jdk_29_method_65_code 2 (some .int) ({ frames := 0, cells := 0, slots := 0, locals := 0 } : Room) #[(.int x0), (.int x1)] h0 (own_PQ h0 (.int (own_maxI x0 x1))) ws := by
  refine own_con (F := fun m => (mkF m 0 #[.val (.int x0), .val (.int x1)] [])) (by decide +kernel) (fun m => by first | (simp [entryFrame, mkF, argsToLocals, Value.category]; done) | rfl) ?_
  intro p e s m below meth c T X hx hby hml hZ hown hnm hret hlk eT
  show own_Go p e below (own_Out s (own_PQ h0 (.int (own_maxI x0 x1))) 0 0) (T.setTop (mkF m 0 #[.val (.int x0), .val (.int x1)] []))
  show own_Go p e below (own_Out s (own_PQ h0 (.int (if x0 < x1 then x1 else x0))) 0 0) _
  refine own_go (fun _ => XS.iloadN X.here hx rfl (hb hby d7_0) rfl) ?_
  show own_Go p e below _ (T.setTop (mkF m 1 #[.val (.int x0), .val (.int x1)] [(.int x0)]))
  refine own_go (fun _ => XS.iloadN X.here hx rfl (hb hby d7_1) rfl) ?_
  show own_Go p e below _ (T.setTop (mkF m 2 #[.val (.int x0), .val (.int x1)] [(.int x1), (.int x0)]))
  refine own_iteI (fun hc2 => ?_) (fun hc2 => ?_)
  · skip
    refine own_go (fun _ => XS.icmpYes X.here hx rfl (pc0 := 2) (pc' := 9) rfl (hb hby d7_2) rfl (XT.ii_lt_t hc2) (by decide) (by decide)) ?_
    show own_Go p e below _ (T.setTop (mkF m 9 #[.val (.int x0), .val (.int x1)] []))
    refine own_go (fun _ => XS.iloadN X.here hx rfl (hb hby d7_9) rfl) ?_
    show own_Go p e below _ (T.setTop (mkF m 10 #[.val (.int x0), .val (.int x1)] [(.int x1)]))
    exact own_iret X hx hlk hret (Or.inl rfl) rfl (hb hby d7_10) (Nat.zero_le _) (Nat.zero_le _) ⟨rfl, eT, rfl⟩
  · skip
    refine own_go (fun _ => XS.icmpNo X.here hx rfl (hb hby d7_2) rfl (XT.ii_lt_f hc2)) ?_
    show own_Go p e below _ (T.setTop (mkF m 5 #[.val (.int x0), .val (.int x1)] []))
    refine own_go (fun _ => XS.iloadN X.here hx rfl (hb hby d7_5) rfl) ?_
    show own_Go p e below _ (T.setTop (mkF m 6 #[.val (.int x0), .val (.int x1)] [(.int x0)]))
    refine own_go (fun _ => XS.goto X.here hx rfl (pc0 := 6) (pc' := 10) rfl (hb hby d7_6) (by decide) (by decide)) ?_
    show own_Go p e below _ (T.setTop (mkF m 10 #[.val (.int x0), .val (.int x1)] [(.int x0)]))
    exact own_iret X hx hlk hret (Or.inl rfl) rfl (hb hby d7_10) (Nat.zero_le _) (Nat.zero_le _) ⟨rfl, eT, rfl⟩
theorem d3_0 : decode jdk_30_method_1_code 0 = .ok (.aload_n 0, 1) := by decide +kernel
theorem d3_1 : decode jdk_30_method_1_code 1 = .ok (.invokespecial 1, 3) := by decide +kernel
theorem d3_4 : decode jdk_30_method_1_code 4 = .ok (.return_, 1) := by decide +kernel
set_option maxRecDepth 65536 in
set_option maxHeartbeats 40000000 in
theorem own_record_con (l : Launch) (Z : State) (a0 : Array Value) (hw : ∀ d ∈ tables_1, d.before a0 Z = true) (a : Addr) (h0 : Heap)  (ws : List Jvm.Cond) :
    own_Con l Z (⟨"java/lang/Record", "<init>", "()V"⟩ : MethodName) jdk_30_method_1_code 1 none ({ frames := 1, cells := 0, slots := 0, locals := 20 } : Room) #[(.ref a)] h0 (fun v h L => v = none ∧ h = h0 ∧ L = []) ws := by
  refine own_con (F := fun m => (mkF m 0 #[.val (.ref a)] [])) (own_pn (by first | (simp [plainName, overriddenIn]; done) | decide +kernel)) (fun m => by first | (simp [entryFrame, mkF, argsToLocals, Value.category]; done) | rfl) ?_
  intro p e s m below meth c T X hx hby hml hZ hown hnm hret hlk eT
  show own_Go p e below (own_Out s (fun v h L => v = none ∧ h = h0 ∧ L = []) ({ frames := 1, cells := 0, slots := 0, locals := 20 } : Room).cells ({ frames := 1, cells := 0, slots := 0, locals := 20 } : Room).slots) (T.setTop (mkF m 0 #[.val (.ref a)] []))
  refine own_go (fun _ => XS.aloadN X.here hx rfl (hb hby d3_0) rfl rfl) ?_
  show own_Go p e below _ (T.setTop (mkF m 1 #[.val (.ref a)] [(.ref a)]))
  obtain ⟨T1, X1, e1, st1⟩ := initO X hx hZ hown (hw _ (List.mem_of_getElem? (i := 17) rfl)) (hw _ (List.mem_of_getElem? (i := 18) rfl)) (hw _ (List.mem_of_getElem? (i := 19) rfl)) eT (g := (mkF m 1 #[.val (.ref a)] [(.ref a)])) rfl (by rw [hml]; rfl) rfl (hb hby d3_1) (by decide) (W := 0) (by show 2 * 0 + _ ≤ _; exact Nat.le_of_eq rfl) (by decide)
  refine own_go st1 ?_
  show own_Go p e below _ (T1.setTop (mkF m 4 #[.val (.ref a)] []))
  exact own_vret X1 hx hlk hret (hb hby d3_4) (Nat.zero_le _) (Nat.zero_le _) ⟨rfl, e1, rfl⟩
def own_Iv (Z : State) (h : Heap) (a : Addr) (d0 d1 d2 d3 : UInt64) : Prop := Exa Z h a "com/example/rowtree/rowtree/query/xpath/Span$Interval" ∧ Fld Z h a "com/example/rowtree/rowtree/query/xpath/Span$Interval" "lowAt" "D" (.double d0) ∧ Fld Z h a "com/example/rowtree/rowtree/query/xpath/Span$Interval" "lowBack" "D" (.double d1) ∧ Fld Z h a "com/example/rowtree/rowtree/query/xpath/Span$Interval" "highAt" "D" (.double d2) ∧ Fld Z h a "com/example/rowtree/rowtree/query/xpath/Span$Interval" "highBack" "D" (.double d3)
theorem d2_0 : decode prog_54_method_1_code 0 = .ok (.aload_n 0, 1) := by decide +kernel
theorem d2_1 : decode prog_54_method_1_code 1 = .ok (.invokespecial 1, 3) := by decide +kernel
theorem d2_4 : decode prog_54_method_1_code 4 = .ok (.aload_n 0, 1) := by decide +kernel
theorem d2_5 : decode prog_54_method_1_code 5 = .ok (.dload_n 1, 1) := by decide +kernel
theorem d2_6 : decode prog_54_method_1_code 6 = .ok (.putfield 7, 3) := by decide +kernel
theorem d2_9 : decode prog_54_method_1_code 9 = .ok (.aload_n 0, 1) := by decide +kernel
theorem d2_10 : decode prog_54_method_1_code 10 = .ok (.dload_n 3, 1) := by decide +kernel
theorem d2_11 : decode prog_54_method_1_code 11 = .ok (.putfield 13, 3) := by decide +kernel
theorem d2_14 : decode prog_54_method_1_code 14 = .ok (.aload_n 0, 1) := by decide +kernel
theorem d2_15 : decode prog_54_method_1_code 15 = .ok (.dload 5, 2) := by decide +kernel
theorem d2_17 : decode prog_54_method_1_code 17 = .ok (.putfield 16, 3) := by decide +kernel
theorem d2_20 : decode prog_54_method_1_code 20 = .ok (.aload_n 0, 1) := by decide +kernel
theorem d2_21 : decode prog_54_method_1_code 21 = .ok (.dload 7, 2) := by decide +kernel
theorem d2_23 : decode prog_54_method_1_code 23 = .ok (.putfield 19, 3) := by decide +kernel
theorem d2_26 : decode prog_54_method_1_code 26 = .ok (.return_, 1) := by decide +kernel
set_option maxRecDepth 65536 in
set_option maxHeartbeats 40000000 in
theorem own_init_con (l : Launch) (Z : State) (a0 : Array Value) (hw : ∀ d ∈ tables_1, d.before a0 Z = true) (a : Addr) (d0 d1 d2 d3 : UInt64) (n0 : Nat) (h0 : Heap) (o_E0 : Exa Z h0 a "com/example/rowtree/rowtree/query/xpath/Span$Interval") (o_0 : Fld Z h0 a "com/example/rowtree/rowtree/query/xpath/Span$Interval" "lowAt" "D" (.double 0)) (o_1 : Fld Z h0 a "com/example/rowtree/rowtree/query/xpath/Span$Interval" "lowBack" "D" (.double 0)) (o_2 : Fld Z h0 a "com/example/rowtree/rowtree/query/xpath/Span$Interval" "highAt" "D" (.double 0)) (o_3 : Fld Z h0 a "com/example/rowtree/rowtree/query/xpath/Span$Interval" "highBack" "D" (.double 0)) (ga : n0 ≤ a) (ws : List Jvm.Cond) :
    own_Con l Z (⟨"com/example/rowtree/rowtree/query/xpath/Span$Interval", "<init>", "(DDDD)V"⟩ : MethodName) prog_54_method_1_code 9 none ({ frames := 2, cells := 0, slots := 0, locals := 40 } : Room) #[(.ref a), (.double d0), (.double d1), (.double d2), (.double d3)] h0 (fun v h L => v = none ∧ Fr n0 L ∧ Keep h0 h [a] ∧ own_Iv Z h a d0 d1 d2 d3) ws := by
  refine own_con (F := fun m => (mkF m 0 #[.val (.ref a), .val (.double d0), .second, .val (.double d1), .second, .val (.double d2), .second, .val (.double d3), .second] [])) (own_pn (by first | (simp [plainName, overriddenIn]; done) | decide +kernel)) (fun m => by first | (simp [entryFrame, mkF, argsToLocals, Value.category]; done) | rfl) ?_
  intro p e s m below meth c T X hx hby hml hZ hown hnm hret hlk eT
  show own_Go p e below (own_Out s (fun v h L => v = none ∧ Fr n0 L ∧ Keep h0 h [a] ∧ own_Iv Z h a d0 d1 d2 d3) ({ frames := 2, cells := 0, slots := 0, locals := 40 } : Room).cells ({ frames := 2, cells := 0, slots := 0, locals := 40 } : Room).slots) (T.setTop (mkF m 0 #[.val (.ref a), .val (.double d0), .second, .val (.double d1), .second, .val (.double d2), .second, .val (.double d3), .second] []))
  have N0 := Fr.nil n0
  have K0 := Keep.refl h0 [a]
  refine own_go (fun _ => XS.aloadN X.here hx rfl (hb hby d2_0) rfl rfl) ?_
  show own_Go p e below _ (T.setTop (mkF m 1 #[.val (.ref a), .val (.double d0), .second, .val (.double d1), .second, .val (.double d2), .second, .val (.double d3), .second] [(.ref a)]))
  obtain ⟨_, T1, L1, X1, ⟨rfl, eh1, rfl⟩, st1⟩ := own_callI X hx hZ hown rfl (argsL := []) (rest := []) (own_record_con l Z a0 hw a h0 []) eT (hw _ (List.mem_of_getElem? (i := 12) rfl)) (hw _ (List.mem_of_getElem? (i := 13) rfl)) (hw _ (List.mem_of_getElem? (i := 15) rfl)) (hw _ (List.mem_of_getElem? (i := 16) rfl)) (by decide) (by decide +kernel : parseMethodDescriptor "()V" = some ⟨[], none⟩) rfl (g := (mkF m 1 #[.val (.ref a), .val (.double d0), .second, .val (.double d1), .second, .val (.double d2), .second, .val (.double d3), .second] [(.ref a)])) rfl (by rw [hml]; rfl) rfl 0 (by show 2 * 0 + _ ≤ _; exact Nat.le_of_eq rfl) (hb hby d2_1) (by decide) (by decide) (by decide) (by decide)
  rw [List.append_nil] at X1
  refine own_go st1 ?_
  show own_Go p e below _ (T1.setTop (mkF m 4 #[.val (.ref a), .val (.double d0), .second, .val (.double d1), .second, .val (.double d2), .second, .val (.double d3), .second] []))
  refine own_go (fun _ => XS.aloadN X1.here hx rfl (hb hby d2_4) rfl rfl) ?_
  show own_Go p e below _ (T1.setTop (mkF m 5 #[.val (.ref a), .val (.double d0), .second, .val (.double d1), .second, .val (.double d2), .second, .val (.double d3), .second] [(.ref a)]))
  refine own_go (fun _ => own_dloadN X1.here hx rfl (hb hby d2_5) rfl) ?_
  show own_Go p e below _ (T1.setTop (mkF m 6 #[.val (.ref a), .val (.double d0), .second, .val (.double d1), .second, .val (.double d2), .second, .val (.double d3), .second] [(.double d0), (.ref a)]))
  obtain ⟨T2, h2, X2, e2, W2, st2⟩ := putF X1 hx hZ hown (host := "") (Or.inl (hw _ (List.mem_of_getElem? (i := 20) rfl))) Via.refl eh1 o_0 o_E0 (Or.inr ⟨(hw _ (List.mem_of_getElem? (i := 21) rfl)), rfl, hnm⟩) (hw _ (List.mem_of_getElem? (i := 1) rfl)) (ty := .double) (by decide) rfl rfl (g := (mkF m 6 #[.val (.ref a), .val (.double d0), .second, .val (.double d1), .second, .val (.double d2), .second, .val (.double d3), .second] [(.double d0), (.ref a)])) rfl rfl (hb hby d2_6)
  have N2 := Fr.snoc X2 N0 ga
  have o_E_2 := o_E0.wr W2
  have o_lowAt_2 := o_0.same W2
  have o_lowBack_2 := o_1.other W2 (Or.inr (slot_ne (t := .double) (t' := .double) (Or.inr (hw _ (List.mem_of_getElem? (i := 23) rfl))) (Or.inr (hw _ (List.mem_of_getElem? (i := 21) rfl))) (by decide) (by decide) (by decide)))
  have o_highAt_2 := o_2.other W2 (Or.inr (slot_ne (t := .double) (t' := .double) (Or.inr (hw _ (List.mem_of_getElem? (i := 25) rfl))) (Or.inr (hw _ (List.mem_of_getElem? (i := 21) rfl))) (by decide) (by decide) (by decide)))
  have o_highBack_2 := o_3.other W2 (Or.inr (slot_ne (t := .double) (t' := .double) (Or.inr (hw _ (List.mem_of_getElem? (i := 27) rfl))) (Or.inr (hw _ (List.mem_of_getElem? (i := 21) rfl))) (by decide) (by decide) (by decide)))
  have K2 := K0.wr W2 (Or.inl (List.mem_of_getElem? (i := 0) rfl))
  refine own_go st2 ?_
  show own_Go p e below _ (T2.setTop (mkF m 9 #[.val (.ref a), .val (.double d0), .second, .val (.double d1), .second, .val (.double d2), .second, .val (.double d3), .second] []))
  refine own_go (fun _ => XS.aloadN X2.here hx rfl (hb hby d2_9) rfl rfl) ?_
  show own_Go p e below _ (T2.setTop (mkF m 10 #[.val (.ref a), .val (.double d0), .second, .val (.double d1), .second, .val (.double d2), .second, .val (.double d3), .second] [(.ref a)]))
  refine own_go (fun _ => own_dloadN X2.here hx rfl (hb hby d2_10) rfl) ?_
  show own_Go p e below _ (T2.setTop (mkF m 11 #[.val (.ref a), .val (.double d0), .second, .val (.double d1), .second, .val (.double d2), .second, .val (.double d3), .second] [(.double d1), (.ref a)]))
  obtain ⟨T3, h3, X3, e3, W3, st3⟩ := putF X2 hx hZ hown (host := "") (Or.inl (hw _ (List.mem_of_getElem? (i := 22) rfl))) Via.refl e2 o_lowBack_2 o_E_2 (Or.inr ⟨(hw _ (List.mem_of_getElem? (i := 23) rfl)), rfl, hnm⟩) (hw _ (List.mem_of_getElem? (i := 1) rfl)) (ty := .double) (by decide) rfl rfl (g := (mkF m 11 #[.val (.ref a), .val (.double d0), .second, .val (.double d1), .second, .val (.double d2), .second, .val (.double d3), .second] [(.double d1), (.ref a)])) rfl rfl (hb hby d2_11)
  have N3 := Fr.snoc X3 N2 ga
  have o_E_3 := o_E_2.wr W3
  have o_lowAt_3 := o_lowAt_2.other W3 (Or.inr (slot_ne (t := .double) (t' := .double) (Or.inr (hw _ (List.mem_of_getElem? (i := 21) rfl))) (Or.inr (hw _ (List.mem_of_getElem? (i := 23) rfl))) (by decide) (by decide) (by decide)))
  have o_lowBack_3 := o_lowBack_2.same W3
  have o_highAt_3 := o_highAt_2.other W3 (Or.inr (slot_ne (t := .double) (t' := .double) (Or.inr (hw _ (List.mem_of_getElem? (i := 25) rfl))) (Or.inr (hw _ (List.mem_of_getElem? (i := 23) rfl))) (by decide) (by decide) (by decide)))
  have o_highBack_3 := o_highBack_2.other W3 (Or.inr (slot_ne (t := .double) (t' := .double) (Or.inr (hw _ (List.mem_of_getElem? (i := 27) rfl))) (Or.inr (hw _ (List.mem_of_getElem? (i := 23) rfl))) (by decide) (by decide) (by decide)))
  have K3 := K2.wr W3 (Or.inl (List.mem_of_getElem? (i := 0) rfl))
  refine own_go st3 ?_
  show own_Go p e below _ (T3.setTop (mkF m 14 #[.val (.ref a), .val (.double d0), .second, .val (.double d1), .second, .val (.double d2), .second, .val (.double d3), .second] []))
  refine own_go (fun _ => XS.aloadN X3.here hx rfl (hb hby d2_14) rfl rfl) ?_
  show own_Go p e below _ (T3.setTop (mkF m 15 #[.val (.ref a), .val (.double d0), .second, .val (.double d1), .second, .val (.double d2), .second, .val (.double d3), .second] [(.ref a)]))
  refine own_go (fun _ => own_dload X3.here hx rfl (hb hby d2_15) rfl) ?_
  show own_Go p e below _ (T3.setTop (mkF m 17 #[.val (.ref a), .val (.double d0), .second, .val (.double d1), .second, .val (.double d2), .second, .val (.double d3), .second] [(.double d2), (.ref a)]))
  obtain ⟨T4, h4, X4, e4, W4, st4⟩ := putF X3 hx hZ hown (host := "") (Or.inl (hw _ (List.mem_of_getElem? (i := 24) rfl))) Via.refl e3 o_highAt_3 o_E_3 (Or.inr ⟨(hw _ (List.mem_of_getElem? (i := 25) rfl)), rfl, hnm⟩) (hw _ (List.mem_of_getElem? (i := 1) rfl)) (ty := .double) (by decide) rfl rfl (g := (mkF m 17 #[.val (.ref a), .val (.double d0), .second, .val (.double d1), .second, .val (.double d2), .second, .val (.double d3), .second] [(.double d2), (.ref a)])) rfl rfl (hb hby d2_17)
  have N4 := Fr.snoc X4 N3 ga
  have o_E_4 := o_E_3.wr W4
  have o_lowAt_4 := o_lowAt_3.other W4 (Or.inr (slot_ne (t := .double) (t' := .double) (Or.inr (hw _ (List.mem_of_getElem? (i := 21) rfl))) (Or.inr (hw _ (List.mem_of_getElem? (i := 25) rfl))) (by decide) (by decide) (by decide)))
  have o_lowBack_4 := o_lowBack_3.other W4 (Or.inr (slot_ne (t := .double) (t' := .double) (Or.inr (hw _ (List.mem_of_getElem? (i := 23) rfl))) (Or.inr (hw _ (List.mem_of_getElem? (i := 25) rfl))) (by decide) (by decide) (by decide)))
  have o_highAt_4 := o_highAt_3.same W4
  have o_highBack_4 := o_highBack_3.other W4 (Or.inr (slot_ne (t := .double) (t' := .double) (Or.inr (hw _ (List.mem_of_getElem? (i := 27) rfl))) (Or.inr (hw _ (List.mem_of_getElem? (i := 25) rfl))) (by decide) (by decide) (by decide)))
  have K4 := K3.wr W4 (Or.inl (List.mem_of_getElem? (i := 0) rfl))
  refine own_go st4 ?_
  show own_Go p e below _ (T4.setTop (mkF m 20 #[.val (.ref a), .val (.double d0), .second, .val (.double d1), .second, .val (.double d2), .second, .val (.double d3), .second] []))
  refine own_go (fun _ => XS.aloadN X4.here hx rfl (hb hby d2_20) rfl rfl) ?_
  show own_Go p e below _ (T4.setTop (mkF m 21 #[.val (.ref a), .val (.double d0), .second, .val (.double d1), .second, .val (.double d2), .second, .val (.double d3), .second] [(.ref a)]))
  refine own_go (fun _ => own_dload X4.here hx rfl (hb hby d2_21) rfl) ?_
  show own_Go p e below _ (T4.setTop (mkF m 23 #[.val (.ref a), .val (.double d0), .second, .val (.double d1), .second, .val (.double d2), .second, .val (.double d3), .second] [(.double d3), (.ref a)]))
  obtain ⟨T5, h5, X5, e5, W5, st5⟩ := putF X4 hx hZ hown (host := "") (Or.inl (hw _ (List.mem_of_getElem? (i := 26) rfl))) Via.refl e4 o_highBack_4 o_E_4 (Or.inr ⟨(hw _ (List.mem_of_getElem? (i := 27) rfl)), rfl, hnm⟩) (hw _ (List.mem_of_getElem? (i := 1) rfl)) (ty := .double) (by decide) rfl rfl (g := (mkF m 23 #[.val (.ref a), .val (.double d0), .second, .val (.double d1), .second, .val (.double d2), .second, .val (.double d3), .second] [(.double d3), (.ref a)])) rfl rfl (hb hby d2_23)
  have N5 := Fr.snoc X5 N4 ga
  have o_E_5 := o_E_4.wr W5
  have o_lowAt_5 := o_lowAt_4.other W5 (Or.inr (slot_ne (t := .double) (t' := .double) (Or.inr (hw _ (List.mem_of_getElem? (i := 21) rfl))) (Or.inr (hw _ (List.mem_of_getElem? (i := 27) rfl))) (by decide) (by decide) (by decide)))
  have o_lowBack_5 := o_lowBack_4.other W5 (Or.inr (slot_ne (t := .double) (t' := .double) (Or.inr (hw _ (List.mem_of_getElem? (i := 23) rfl))) (Or.inr (hw _ (List.mem_of_getElem? (i := 27) rfl))) (by decide) (by decide) (by decide)))
  have o_highAt_5 := o_highAt_4.other W5 (Or.inr (slot_ne (t := .double) (t' := .double) (Or.inr (hw _ (List.mem_of_getElem? (i := 25) rfl))) (Or.inr (hw _ (List.mem_of_getElem? (i := 27) rfl))) (by decide) (by decide) (by decide)))
  have o_highBack_5 := o_highBack_4.same W5
  have K5 := K4.wr W5 (Or.inl (List.mem_of_getElem? (i := 0) rfl))
  refine own_go st5 ?_
  show own_Go p e below _ (T5.setTop (mkF m 26 #[.val (.ref a), .val (.double d0), .second, .val (.double d1), .second, .val (.double d2), .second, .val (.double d3), .second] []))
  exact own_vret X5 hx hlk hret (hb hby d2_26) (by decide) (by decide) (by rw [e5]; exact ⟨rfl, N5, K5, o_E_5, o_lowAt_5, o_lowBack_5, o_highAt_5, o_highBack_5⟩)
def own_empty (i0 i1 i2 i3 : Int) : Int32 := if (1000000 : Int) = i0 then 1 else if i1 < 0 then 1 else if i2 < 1 then 1 else if (1000000 : Int) = i3 then 1 else if i2 < i0 then 1 else if i1 < i3 then 1 else 0
theorem d5_0 : decode prog_54_method_9_code 0 = .ok (.ldc2_w 26, 3) := by decide +kernel
theorem d5_3 : decode prog_54_method_9_code 3 = .ok (.aload_n 0, 1) := by decide +kernel
theorem d5_4 : decode prog_54_method_9_code 4 = .ok (.getfield 7, 3) := by decide +kernel
theorem d5_7 : decode prog_54_method_9_code 7 = .ok (.dcmp .l, 1) := by decide +kernel
theorem d5_8 : decode prog_54_method_9_code 8 = .ok (.ifCond .eq 56, 3) := by decide +kernel
theorem d5_11 : decode prog_54_method_9_code 11 = .ok (.aload_n 0, 1) := by decide +kernel
theorem d5_12 : decode prog_54_method_9_code 12 = .ok (.getfield 13, 3) := by decide +kernel
theorem d5_15 : decode prog_54_method_9_code 15 = .ok (.dconst 0, 1) := by decide +kernel
theorem d5_16 : decode prog_54_method_9_code 16 = .ok (.dcmp .g, 1) := by decide +kernel
theorem d5_17 : decode prog_54_method_9_code 17 = .ok (.ifCond .lt 47, 3) := by decide +kernel
theorem d5_20 : decode prog_54_method_9_code 20 = .ok (.aload_n 0, 1) := by decide +kernel
theorem d5_21 : decode prog_54_method_9_code 21 = .ok (.getfield 16, 3) := by decide +kernel
theorem d5_24 : decode prog_54_method_9_code 24 = .ok (.dconst 1, 1) := by decide +kernel
theorem d5_25 : decode prog_54_method_9_code 25 = .ok (.dcmp .g, 1) := by decide +kernel
theorem d5_26 : decode prog_54_method_9_code 26 = .ok (.ifCond .lt 38, 3) := by decide +kernel
theorem d5_29 : decode prog_54_method_9_code 29 = .ok (.ldc2_w 26, 3) := by decide +kernel
theorem d5_32 : decode prog_54_method_9_code 32 = .ok (.aload_n 0, 1) := by decide +kernel
theorem d5_33 : decode prog_54_method_9_code 33 = .ok (.getfield 19, 3) := by decide +kernel
theorem d5_36 : decode prog_54_method_9_code 36 = .ok (.dcmp .l, 1) := by decide +kernel
theorem d5_37 : decode prog_54_method_9_code 37 = .ok (.ifCond .eq 27, 3) := by decide +kernel
theorem d5_40 : decode prog_54_method_9_code 40 = .ok (.aload_n 0, 1) := by decide +kernel
theorem d5_41 : decode prog_54_method_9_code 41 = .ok (.getfield 7, 3) := by decide +kernel
theorem d5_44 : decode prog_54_method_9_code 44 = .ok (.aload_n 0, 1) := by decide +kernel
theorem d5_45 : decode prog_54_method_9_code 45 = .ok (.getfield 16, 3) := by decide +kernel
theorem d5_48 : decode prog_54_method_9_code 48 = .ok (.dcmp .l, 1) := by decide +kernel
theorem d5_49 : decode prog_54_method_9_code 49 = .ok (.ifCond .gt 15, 3) := by decide +kernel
theorem d5_52 : decode prog_54_method_9_code 52 = .ok (.aload_n 0, 1) := by decide +kernel
theorem d5_53 : decode prog_54_method_9_code 53 = .ok (.getfield 13, 3) := by decide +kernel
theorem d5_56 : decode prog_54_method_9_code 56 = .ok (.aload_n 0, 1) := by decide +kernel
theorem d5_57 : decode prog_54_method_9_code 57 = .ok (.getfield 19, 3) := by decide +kernel
theorem d5_60 : decode prog_54_method_9_code 60 = .ok (.dcmp .g, 1) := by decide +kernel
theorem d5_61 : decode prog_54_method_9_code 61 = .ok (.ifCond .ge 7, 3) := by decide +kernel
theorem d5_64 : decode prog_54_method_9_code 64 = .ok (.iconst 1, 1) := by decide +kernel
theorem d5_65 : decode prog_54_method_9_code 65 = .ok (.goto 4, 3) := by decide +kernel
theorem d5_68 : decode prog_54_method_9_code 68 = .ok (.iconst 0, 1) := by decide +kernel
theorem d5_69 : decode prog_54_method_9_code 69 = .ok (.ireturn, 1) := by decide +kernel
set_option maxRecDepth 65536 in
set_option maxHeartbeats 40000000 in
theorem own_empty_con (l : Launch) (Z : State) (a0 : Array Value) (hw : ∀ d ∈ tables_1, d.before a0 Z = true) (a : Addr) (d0 d1 d2 d3 : UInt64) (i0 i1 i2 i3 : Int) (h0 : Heap) (I0 : own_Iv Z h0 a d0 d1 d2 d3) (E0 : own_DE 16 i0 d0) (E1 : own_DE 16 i1 d1) (E2 : own_DE 16 i2 d2) (E3 : own_DE 16 i3 d3) (ws : List Jvm.Cond) :
    own_Con l Z (⟨"com/example/rowtree/rowtree/query/xpath/Span$Interval", "empty", "()Z"⟩ : MethodName) prog_54_method_9_code 1 (some .boolean) ({ frames := 0, cells := 0, slots := 0, locals := 0 } : Room) #[(.ref a)] h0 (own_PQ h0 (.int (own_empty i0 i1 i2 i3))) ws := by
  refine own_con (F := fun m => (mkF m 0 #[.val (.ref a)] [])) (own_pn (by first | (simp [plainName, overriddenIn]; done) | decide +kernel)) (fun m => by first | (simp [entryFrame, mkF, argsToLocals, Value.category]; done) | rfl) ?_
  intro p e s m below meth c T X hx hby hml hZ hown hnm hret hlk eT
  show own_Go p e below (own_Out s (own_PQ h0 (.int (own_empty i0 i1 i2 i3))) ({ frames := 0, cells := 0, slots := 0, locals := 0 } : Room).cells ({ frames := 0, cells := 0, slots := 0, locals := 0 } : Room).slots) (T.setTop (mkF m 0 #[.val (.ref a)] []))
  obtain ⟨o_E0, o_0, o_1, o_2, o_3⟩ := I0
  show own_Go p e below (own_Out s (own_PQ h0 (.int (if (1000000 : Int) = i0 then 1 else if i1 < 0 then 1 else if i2 < 1 then 1 else if (1000000 : Int) = i3 then 1 else if i2 < i0 then 1 else if i1 < i3 then 1 else 0))) 0 0) _
  refine own_go (X.ldc2DoubleC hx hown (mvT hZ (hw _ (List.mem_of_getElem? (i := 33) rfl))) (g := (mkF m 0 #[.val (.ref a)] [])) rfl (hb hby d5_0)) ?_
  show own_Go p e below _ (T.setTop (mkF m 3 #[.val (.ref a)] [(.double (9218868437227405312 : UInt64))]))
  refine own_go (fun _ => XS.aloadN X.here hx rfl (hb hby d5_3) rfl rfl) ?_
  show own_Go p e below _ (T.setTop (mkF m 4 #[.val (.ref a)] [(.ref a), (.double (9218868437227405312 : UInt64))]))
  obtain ⟨T1, X1, e1, st1⟩ := getF X hx hZ hown (host := "") (Or.inl (hw _ (List.mem_of_getElem? (i := 20) rfl))) Via.refl eT o_0 (g := (mkF m 4 #[.val (.ref a)] [(.ref a), (.double (9218868437227405312 : UInt64))])) rfl rfl (hb hby d5_4)
  refine own_go st1 ?_
  show own_Go p e below _ (T1.setTop (mkF m 7 #[.val (.ref a)] [(.double d0), (.double (9218868437227405312 : UInt64))]))
  refine own_go (fun _ => own_dcmp X1.here hx rfl (hb hby d5_7) rfl (own_DE.cmp (own_DE.pinf 16) E0 (by decide) (by decide))) ?_
  show own_Go p e below _ (T1.setTop (mkF m 8 #[.val (.ref a)] [(.int (own_ord (1000000 : Int) i0))]))
  refine own_iteI (fun hc0 => ?_) (fun hc0 => ?_)
  · skip
    refine own_go (fun _ => XS.ifYes X1.here hx rfl (pc0 := 8) (pc' := 64) rfl (hb hby d5_8) rfl (own_oo_eq_t hc0) (by decide) (by decide)) ?_
    show own_Go p e below _ (T1.setTop (mkF m 64 #[.val (.ref a)] []))
    refine own_go (fun _ => XS.iconst X1.here hx rfl (hb hby d5_64)) ?_
    show own_Go p e below _ (T1.setTop (mkF m 65 #[.val (.ref a)] [(.int (1 : Int32))]))
    refine own_go (fun _ => XS.goto X1.here hx rfl (pc0 := 65) (pc' := 69) rfl (hb hby d5_65) (by decide) (by decide)) ?_
    show own_Go p e below _ (T1.setTop (mkF m 69 #[.val (.ref a)] [(.int (1 : Int32))]))
    exact own_iret X1 hx hlk hret (Or.inr (Or.inl rfl)) rfl (hb hby d5_69) (Nat.zero_le _) (Nat.zero_le _) ⟨rfl, e1, rfl⟩
  refine own_go (fun _ => XS.ifNo X1.here hx rfl (hb hby d5_8) rfl (own_oo_eq_f hc0)) ?_
  show own_Go p e below _ (T1.setTop (mkF m 11 #[.val (.ref a)] []))
  refine own_go (fun _ => XS.aloadN X1.here hx rfl (hb hby d5_11) rfl rfl) ?_
  show own_Go p e below _ (T1.setTop (mkF m 12 #[.val (.ref a)] [(.ref a)]))
  obtain ⟨T2, X2, e2, st2⟩ := getF X1 hx hZ hown (host := "") (Or.inl (hw _ (List.mem_of_getElem? (i := 22) rfl))) Via.refl e1 o_1 (g := (mkF m 12 #[.val (.ref a)] [(.ref a)])) rfl rfl (hb hby d5_12)
  refine own_go st2 ?_
  show own_Go p e below _ (T2.setTop (mkF m 15 #[.val (.ref a)] [(.double d1)]))
  refine own_go (fun _ => own_dconst0 X2.here hx rfl (hb hby d5_15)) ?_
  show own_Go p e below _ (T2.setTop (mkF m 16 #[.val (.ref a)] [(.double FP.dconst0), (.double d1)]))
  refine own_go (fun _ => own_dcmp X2.here hx rfl (hb hby d5_16) rfl (own_DE.cmp E1 (own_DE.zero 16) (by decide) (by decide))) ?_
  show own_Go p e below _ (T2.setTop (mkF m 17 #[.val (.ref a)] [(.int (own_ord i1 (0 : Int)))]))
  refine own_iteI (fun hc1 => ?_) (fun hc1 => ?_)
  · skip
    refine own_go (fun _ => XS.ifYes X2.here hx rfl (pc0 := 17) (pc' := 64) rfl (hb hby d5_17) rfl (own_oo_lt_t hc1) (by decide) (by decide)) ?_
    show own_Go p e below _ (T2.setTop (mkF m 64 #[.val (.ref a)] []))
    refine own_go (fun _ => XS.iconst X2.here hx rfl (hb hby d5_64)) ?_
    show own_Go p e below _ (T2.setTop (mkF m 65 #[.val (.ref a)] [(.int (1 : Int32))]))
    refine own_go (fun _ => XS.goto X2.here hx rfl (pc0 := 65) (pc' := 69) rfl (hb hby d5_65) (by decide) (by decide)) ?_
    show own_Go p e below _ (T2.setTop (mkF m 69 #[.val (.ref a)] [(.int (1 : Int32))]))
    exact own_iret X2 hx hlk hret (Or.inr (Or.inl rfl)) rfl (hb hby d5_69) (Nat.zero_le _) (Nat.zero_le _) ⟨rfl, e2, rfl⟩
  refine own_go (fun _ => XS.ifNo X2.here hx rfl (hb hby d5_17) rfl (own_oo_lt_f hc1)) ?_
  show own_Go p e below _ (T2.setTop (mkF m 20 #[.val (.ref a)] []))
  refine own_go (fun _ => XS.aloadN X2.here hx rfl (hb hby d5_20) rfl rfl) ?_
  show own_Go p e below _ (T2.setTop (mkF m 21 #[.val (.ref a)] [(.ref a)]))
  obtain ⟨T3, X3, e3, st3⟩ := getF X2 hx hZ hown (host := "") (Or.inl (hw _ (List.mem_of_getElem? (i := 24) rfl))) Via.refl e2 o_2 (g := (mkF m 21 #[.val (.ref a)] [(.ref a)])) rfl rfl (hb hby d5_21)
  refine own_go st3 ?_
  show own_Go p e below _ (T3.setTop (mkF m 24 #[.val (.ref a)] [(.double d2)]))
  refine own_go (fun _ => own_dconst1 X3.here hx rfl (hb hby d5_24)) ?_
  show own_Go p e below _ (T3.setTop (mkF m 25 #[.val (.ref a)] [(.double FP.dconst1), (.double d2)]))
  refine own_go (fun _ => own_dcmp X3.here hx rfl (hb hby d5_25) rfl (own_DE.cmp E2 (own_DE.one 16 (by decide)) (by decide) (by decide))) ?_
  show own_Go p e below _ (T3.setTop (mkF m 26 #[.val (.ref a)] [(.int (own_ord i2 (1 : Int)))]))
  refine own_iteI (fun hc2 => ?_) (fun hc2 => ?_)
  · skip
    refine own_go (fun _ => XS.ifYes X3.here hx rfl (pc0 := 26) (pc' := 64) rfl (hb hby d5_26) rfl (own_oo_lt_t hc2) (by decide) (by decide)) ?_
    show own_Go p e below _ (T3.setTop (mkF m 64 #[.val (.ref a)] []))
    refine own_go (fun _ => XS.iconst X3.here hx rfl (hb hby d5_64)) ?_
    show own_Go p e below _ (T3.setTop (mkF m 65 #[.val (.ref a)] [(.int (1 : Int32))]))
    refine own_go (fun _ => XS.goto X3.here hx rfl (pc0 := 65) (pc' := 69) rfl (hb hby d5_65) (by decide) (by decide)) ?_
    show own_Go p e below _ (T3.setTop (mkF m 69 #[.val (.ref a)] [(.int (1 : Int32))]))
    exact own_iret X3 hx hlk hret (Or.inr (Or.inl rfl)) rfl (hb hby d5_69) (Nat.zero_le _) (Nat.zero_le _) ⟨rfl, e3, rfl⟩
  refine own_go (fun _ => XS.ifNo X3.here hx rfl (hb hby d5_26) rfl (own_oo_lt_f hc2)) ?_
  show own_Go p e below _ (T3.setTop (mkF m 29 #[.val (.ref a)] []))
  refine own_go (X3.ldc2DoubleC hx hown (mvT hZ (hw _ (List.mem_of_getElem? (i := 33) rfl))) (g := (mkF m 29 #[.val (.ref a)] [])) rfl (hb hby d5_29)) ?_
  show own_Go p e below _ (T3.setTop (mkF m 32 #[.val (.ref a)] [(.double (9218868437227405312 : UInt64))]))
  refine own_go (fun _ => XS.aloadN X3.here hx rfl (hb hby d5_32) rfl rfl) ?_
  show own_Go p e below _ (T3.setTop (mkF m 33 #[.val (.ref a)] [(.ref a), (.double (9218868437227405312 : UInt64))]))
  obtain ⟨T4, X4, e4, st4⟩ := getF X3 hx hZ hown (host := "") (Or.inl (hw _ (List.mem_of_getElem? (i := 26) rfl))) Via.refl e3 o_3 (g := (mkF m 33 #[.val (.ref a)] [(.ref a), (.double (9218868437227405312 : UInt64))])) rfl rfl (hb hby d5_33)
  refine own_go st4 ?_
  show own_Go p e below _ (T4.setTop (mkF m 36 #[.val (.ref a)] [(.double d3), (.double (9218868437227405312 : UInt64))]))
  refine own_go (fun _ => own_dcmp X4.here hx rfl (hb hby d5_36) rfl (own_DE.cmp (own_DE.pinf 16) E3 (by decide) (by decide))) ?_
  show own_Go p e below _ (T4.setTop (mkF m 37 #[.val (.ref a)] [(.int (own_ord (1000000 : Int) i3))]))
  refine own_iteI (fun hc3 => ?_) (fun hc3 => ?_)
  · skip
    refine own_go (fun _ => XS.ifYes X4.here hx rfl (pc0 := 37) (pc' := 64) rfl (hb hby d5_37) rfl (own_oo_eq_t hc3) (by decide) (by decide)) ?_
    show own_Go p e below _ (T4.setTop (mkF m 64 #[.val (.ref a)] []))
    refine own_go (fun _ => XS.iconst X4.here hx rfl (hb hby d5_64)) ?_
    show own_Go p e below _ (T4.setTop (mkF m 65 #[.val (.ref a)] [(.int (1 : Int32))]))
    refine own_go (fun _ => XS.goto X4.here hx rfl (pc0 := 65) (pc' := 69) rfl (hb hby d5_65) (by decide) (by decide)) ?_
    show own_Go p e below _ (T4.setTop (mkF m 69 #[.val (.ref a)] [(.int (1 : Int32))]))
    exact own_iret X4 hx hlk hret (Or.inr (Or.inl rfl)) rfl (hb hby d5_69) (Nat.zero_le _) (Nat.zero_le _) ⟨rfl, e4, rfl⟩
  refine own_go (fun _ => XS.ifNo X4.here hx rfl (hb hby d5_37) rfl (own_oo_eq_f hc3)) ?_
  show own_Go p e below _ (T4.setTop (mkF m 40 #[.val (.ref a)] []))
  refine own_go (fun _ => XS.aloadN X4.here hx rfl (hb hby d5_40) rfl rfl) ?_
  show own_Go p e below _ (T4.setTop (mkF m 41 #[.val (.ref a)] [(.ref a)]))
  obtain ⟨T5, X5, e5, st5⟩ := getF X4 hx hZ hown (host := "") (Or.inl (hw _ (List.mem_of_getElem? (i := 20) rfl))) Via.refl e4 o_0 (g := (mkF m 41 #[.val (.ref a)] [(.ref a)])) rfl rfl (hb hby d5_41)
  refine own_go st5 ?_
  show own_Go p e below _ (T5.setTop (mkF m 44 #[.val (.ref a)] [(.double d0)]))
  refine own_go (fun _ => XS.aloadN X5.here hx rfl (hb hby d5_44) rfl rfl) ?_
  show own_Go p e below _ (T5.setTop (mkF m 45 #[.val (.ref a)] [(.ref a), (.double d0)]))
  obtain ⟨T6, X6, e6, st6⟩ := getF X5 hx hZ hown (host := "") (Or.inl (hw _ (List.mem_of_getElem? (i := 24) rfl))) Via.refl e5 o_2 (g := (mkF m 45 #[.val (.ref a)] [(.ref a), (.double d0)])) rfl rfl (hb hby d5_45)
  refine own_go st6 ?_
  show own_Go p e below _ (T6.setTop (mkF m 48 #[.val (.ref a)] [(.double d2), (.double d0)]))
  refine own_go (fun _ => own_dcmp X6.here hx rfl (hb hby d5_48) rfl (own_DE.cmp E0 E2 (by decide) (by decide))) ?_
  show own_Go p e below _ (T6.setTop (mkF m 49 #[.val (.ref a)] [(.int (own_ord i0 i2))]))
  refine own_iteI (fun hc4 => ?_) (fun hc4 => ?_)
  · skip
    refine own_go (fun _ => XS.ifYes X6.here hx rfl (pc0 := 49) (pc' := 64) rfl (hb hby d5_49) rfl (own_oo_gt_t hc4) (by decide) (by decide)) ?_
    show own_Go p e below _ (T6.setTop (mkF m 64 #[.val (.ref a)] []))
    refine own_go (fun _ => XS.iconst X6.here hx rfl (hb hby d5_64)) ?_
    show own_Go p e below _ (T6.setTop (mkF m 65 #[.val (.ref a)] [(.int (1 : Int32))]))
    refine own_go (fun _ => XS.goto X6.here hx rfl (pc0 := 65) (pc' := 69) rfl (hb hby d5_65) (by decide) (by decide)) ?_
    show own_Go p e below _ (T6.setTop (mkF m 69 #[.val (.ref a)] [(.int (1 : Int32))]))
    exact own_iret X6 hx hlk hret (Or.inr (Or.inl rfl)) rfl (hb hby d5_69) (Nat.zero_le _) (Nat.zero_le _) ⟨rfl, e6, rfl⟩
  refine own_go (fun _ => XS.ifNo X6.here hx rfl (hb hby d5_49) rfl (own_oo_gt_f hc4)) ?_
  show own_Go p e below _ (T6.setTop (mkF m 52 #[.val (.ref a)] []))
  refine own_go (fun _ => XS.aloadN X6.here hx rfl (hb hby d5_52) rfl rfl) ?_
  show own_Go p e below _ (T6.setTop (mkF m 53 #[.val (.ref a)] [(.ref a)]))
  obtain ⟨T7, X7, e7, st7⟩ := getF X6 hx hZ hown (host := "") (Or.inl (hw _ (List.mem_of_getElem? (i := 22) rfl))) Via.refl e6 o_1 (g := (mkF m 53 #[.val (.ref a)] [(.ref a)])) rfl rfl (hb hby d5_53)
  refine own_go st7 ?_
  show own_Go p e below _ (T7.setTop (mkF m 56 #[.val (.ref a)] [(.double d1)]))
  refine own_go (fun _ => XS.aloadN X7.here hx rfl (hb hby d5_56) rfl rfl) ?_
  show own_Go p e below _ (T7.setTop (mkF m 57 #[.val (.ref a)] [(.ref a), (.double d1)]))
  obtain ⟨T8, X8, e8, st8⟩ := getF X7 hx hZ hown (host := "") (Or.inl (hw _ (List.mem_of_getElem? (i := 26) rfl))) Via.refl e7 o_3 (g := (mkF m 57 #[.val (.ref a)] [(.ref a), (.double d1)])) rfl rfl (hb hby d5_57)
  refine own_go st8 ?_
  show own_Go p e below _ (T8.setTop (mkF m 60 #[.val (.ref a)] [(.double d3), (.double d1)]))
  refine own_go (fun _ => own_dcmp X8.here hx rfl (hb hby d5_60) rfl (own_DE.cmp E1 E3 (by decide) (by decide))) ?_
  show own_Go p e below _ (T8.setTop (mkF m 61 #[.val (.ref a)] [(.int (own_ord i1 i3))]))
  refine own_iteI (fun hc5 => ?_) (fun hc5 => ?_)
  · skip
    refine own_go (fun _ => XS.ifNo X8.here hx rfl (hb hby d5_61) rfl (own_oo_ge_f hc5)) ?_
    show own_Go p e below _ (T8.setTop (mkF m 64 #[.val (.ref a)] []))
    refine own_go (fun _ => XS.iconst X8.here hx rfl (hb hby d5_64)) ?_
    show own_Go p e below _ (T8.setTop (mkF m 65 #[.val (.ref a)] [(.int (1 : Int32))]))
    refine own_go (fun _ => XS.goto X8.here hx rfl (pc0 := 65) (pc' := 69) rfl (hb hby d5_65) (by decide) (by decide)) ?_
    show own_Go p e below _ (T8.setTop (mkF m 69 #[.val (.ref a)] [(.int (1 : Int32))]))
    exact own_iret X8 hx hlk hret (Or.inr (Or.inl rfl)) rfl (hb hby d5_69) (Nat.zero_le _) (Nat.zero_le _) ⟨rfl, e8, rfl⟩
  refine own_go (fun _ => XS.ifYes X8.here hx rfl (pc0 := 61) (pc' := 68) rfl (hb hby d5_61) rfl (own_oo_ge_t hc5) (by decide) (by decide)) ?_
  show own_Go p e below _ (T8.setTop (mkF m 68 #[.val (.ref a)] []))
  refine own_go (fun _ => XS.iconst X8.here hx rfl (hb hby d5_68)) ?_
  show own_Go p e below _ (T8.setTop (mkF m 69 #[.val (.ref a)] [(.int (0 : Int32))]))
  exact own_iret X8 hx hlk hret (Or.inr (Or.inl rfl)) rfl (hb hby d5_69) (Nat.zero_le _) (Nat.zero_le _) ⟨rfl, e8, rfl⟩
theorem d8_0 : decode prog_54_method_7_code 0 = .ok (.dconst 1, 1) := by decide +kernel
theorem d8_1 : decode prog_54_method_7_code 1 = .ok (.aload_n 0, 1) := by decide +kernel
theorem d8_2 : decode prog_54_method_7_code 2 = .ok (.getfield 7, 3) := by decide +kernel
theorem d8_5 : decode prog_54_method_7_code 5 = .ok (.iload_n 1, 1) := by decide +kernel
theorem d8_6 : decode prog_54_method_7_code 6 = .ok (.i2d, 1) := by decide +kernel
theorem d8_7 : decode prog_54_method_7_code 7 = .ok (.aload_n 0, 1) := by decide +kernel
theorem d8_8 : decode prog_54_method_7_code 8 = .ok (.getfield 13, 3) := by decide +kernel
theorem d8_11 : decode prog_54_method_7_code 11 = .ok (.dsub, 1) := by decide +kernel
theorem d8_12 : decode prog_54_method_7_code 12 = .ok (.invokestatic 31, 3) := by decide +kernel
theorem d8_15 : decode prog_54_method_7_code 15 = .ok (.invokestatic 31, 3) := by decide +kernel
theorem d8_18 : decode prog_54_method_7_code 18 = .ok (.d2i, 1) := by decide +kernel
theorem d8_19 : decode prog_54_method_7_code 19 = .ok (.ireturn, 1) := by decide +kernel
set_option maxRecDepth 65536 in
set_option maxHeartbeats 40000000 in
theorem own_low_con (l : Launch) (Z : State) (a0 : Array Value) (hw : ∀ d ∈ tables_1, d.before a0 Z = true) (a : Addr) (d0 d1 d2 d3 : UInt64) (i0 i1 i2 i3 : Int) (n : Int32) (h0 : Heap) (I0 : own_Iv Z h0 a d0 d1 d2 d3) (E0 : own_DE 16 i0 d0) (E1 : own_DE 16 i1 d1) (E2 : own_DE 16 i2 d2) (E3 : own_DE 16 i3 d3) (hn : n.toInt.natAbs ≤ 64) (ws : List Jvm.Cond) :
    own_Con l Z (⟨"com/example/rowtree/rowtree/query/xpath/Span$Interval", "low", "(I)I"⟩ : MethodName) prog_54_method_7_code 2 (some .int) ({ frames := 1, cells := 0, slots := 0, locals := 40 } : Room) #[(.ref a), (.int n)] h0 (fun v h L => ∃ z : Int32, v = some (.int z) ∧ z.toInt = own_clip (max 1 (max i0 (own_sub n.toInt i1))) ∧ h = h0 ∧ L = []) ws := by
  refine own_con (F := fun m => (mkF m 0 #[.val (.ref a), .val (.int n)] [])) (own_pn (by first | (simp [plainName, overriddenIn]; done) | decide +kernel)) (fun m => by first | (simp [entryFrame, mkF, argsToLocals, Value.category]; done) | rfl) ?_
  intro p e s m below meth c T X hx hby hml hZ hown hnm hret hlk eT
  show own_Go p e below (own_Out s (fun v h L => ∃ z : Int32, v = some (.int z) ∧ z.toInt = own_clip (max 1 (max i0 (own_sub n.toInt i1))) ∧ h = h0 ∧ L = []) ({ frames := 1, cells := 0, slots := 0, locals := 40 } : Room).cells ({ frames := 1, cells := 0, slots := 0, locals := 40 } : Room).slots) (T.setTop (mkF m 0 #[.val (.ref a), .val (.int n)] []))
  obtain ⟨o_E0, o_0, o_1, o_2, o_3⟩ := I0
  have En := own_DE.i2d n hn
  have Es := own_DE.sub (K := 64) ⟨hn, FP.Core.i2d_int n⟩ E1 (by decide) (by decide)
  have Em := own_DE.max (E0.mono (K' := 80) (by decide)) Es (by decide)
  have Ef := own_DE.max (own_DE.one 80 (by decide)) Em (by decide)
  refine own_go (fun _ => own_dconst1 X.here hx rfl (hb hby d8_0)) ?_
  show own_Go p e below _ (T.setTop (mkF m 1 #[.val (.ref a), .val (.int n)] [(.double FP.dconst1)]))
  refine own_go (fun _ => XS.aloadN X.here hx rfl (hb hby d8_1) rfl rfl) ?_
  show own_Go p e below _ (T.setTop (mkF m 2 #[.val (.ref a), .val (.int n)] [(.ref a), (.double FP.dconst1)]))
  obtain ⟨T1, X1, e1, st1⟩ := getF X hx hZ hown (host := "") (Or.inl (hw _ (List.mem_of_getElem? (i := 20) rfl))) Via.refl eT o_0 (g := (mkF m 2 #[.val (.ref a), .val (.int n)] [(.ref a), (.double FP.dconst1)])) rfl rfl (hb hby d8_2)
  refine own_go st1 ?_
  show own_Go p e below _ (T1.setTop (mkF m 5 #[.val (.ref a), .val (.int n)] [(.double d0), (.double FP.dconst1)]))
  refine own_go (fun _ => XS.iloadN X1.here hx rfl (hb hby d8_5) rfl) ?_
  show own_Go p e below _ (T1.setTop (mkF m 6 #[.val (.ref a), .val (.int n)] [(.int n), (.double d0), (.double FP.dconst1)]))
  refine own_go (fun _ => own_i2d X1.here hx rfl (hb hby d8_6) rfl) ?_
  show own_Go p e below _ (T1.setTop (mkF m 7 #[.val (.ref a), .val (.int n)] [(.double (FP.i2d n)), (.double d0), (.double FP.dconst1)]))
  refine own_go (fun _ => XS.aloadN X1.here hx rfl (hb hby d8_7) rfl rfl) ?_
  show own_Go p e below _ (T1.setTop (mkF m 8 #[.val (.ref a), .val (.int n)] [(.ref a), (.double (FP.i2d n)), (.double d0), (.double FP.dconst1)]))
  obtain ⟨T2, X2, e2, st2⟩ := getF X1 hx hZ hown (host := "") (Or.inl (hw _ (List.mem_of_getElem? (i := 22) rfl))) Via.refl e1 o_1 (g := (mkF m 8 #[.val (.ref a), .val (.int n)] [(.ref a), (.double (FP.i2d n)), (.double d0), (.double FP.dconst1)])) rfl rfl (hb hby d8_8)
  refine own_go st2 ?_
  show own_Go p e below _ (T2.setTop (mkF m 11 #[.val (.ref a), .val (.int n)] [(.double d1), (.double (FP.i2d n)), (.double d0), (.double FP.dconst1)]))
  refine own_go (fun _ => own_dsub X2.here hx rfl (hb hby d8_11) rfl Es.noNaN) ?_
  show own_Go p e below _ (T2.setTop (mkF m 12 #[.val (.ref a), .val (.int n)] [(.double (FP.dsub (FP.i2d n) d1)), (.double d0), (.double FP.dconst1)]))
  obtain ⟨T3, X3, e3, st3⟩ := own_maxD X2 hx hZ hown (hw _ (List.mem_of_getElem? (i := 46) rfl)) (hw _ (List.mem_of_getElem? (i := 47) rfl)) (hw _ (List.mem_of_getElem? (i := 39) rfl)) (hw _ (List.mem_of_getElem? (i := 48) rfl)) e2 (E0).noNaN (Es).noNaN (g := (mkF m 12 #[.val (.ref a), .val (.int n)] [(.double (FP.dsub (FP.i2d n) d1)), (.double d0), (.double FP.dconst1)])) rfl (by rw [hml]; rfl) rfl 2 (by show 2 * 0 + _ ≤ _; exact Nat.le_of_eq rfl) (hb hby d8_12) (by decide) (by decide) (by decide) (by decide)
  refine own_go st3 ?_
  show own_Go p e below _ (T3.setTop (mkF m 15 #[.val (.ref a), .val (.int n)] [(.double (Native.java_lang_Math.nans.pick64 true d0 (FP.dsub (FP.i2d n) d1))), (.double FP.dconst1)]))
  obtain ⟨T4, X4, e4, st4⟩ := own_maxD X3 hx hZ hown (hw _ (List.mem_of_getElem? (i := 46) rfl)) (hw _ (List.mem_of_getElem? (i := 47) rfl)) (hw _ (List.mem_of_getElem? (i := 39) rfl)) (hw _ (List.mem_of_getElem? (i := 48) rfl)) e3 (own_DE.one 80 (by decide)).noNaN (Em).noNaN (g := (mkF m 15 #[.val (.ref a), .val (.int n)] [(.double (Native.java_lang_Math.nans.pick64 true d0 (FP.dsub (FP.i2d n) d1))), (.double FP.dconst1)])) rfl (by rw [hml]; rfl) rfl 0 (by show 2 * 0 + _ ≤ _; exact Nat.le_of_eq rfl) (hb hby d8_15) (by decide) (by decide) (by decide) (by decide)
  refine own_go st4 ?_
  show own_Go p e below _ (T4.setTop (mkF m 18 #[.val (.ref a), .val (.int n)] [(.double (Native.java_lang_Math.nans.pick64 true FP.dconst1 (Native.java_lang_Math.nans.pick64 true d0 (FP.dsub (FP.i2d n) d1))))]))
  refine own_go (fun _ => own_d2i X4.here hx rfl (hb hby d8_18) rfl) ?_
  show own_Go p e below _ (T4.setTop (mkF m 19 #[.val (.ref a), .val (.int n)] [(.int (FP.d2i (Native.java_lang_Math.nans.pick64 true FP.dconst1 (Native.java_lang_Math.nans.pick64 true d0 (FP.dsub (FP.i2d n) d1)))))]))
  exact own_iret X4 hx hlk hret (Or.inl rfl) rfl (hb hby d8_19) (Nat.zero_le _) (Nat.zero_le _) ⟨_, rfl, Ef.d2i (by decide), e4, rfl⟩
theorem d10_0 : decode prog_54_method_8_code 0 = .ok (.iload_n 1, 1) := by decide +kernel
theorem d10_1 : decode prog_54_method_8_code 1 = .ok (.i2d, 1) := by decide +kernel
theorem d10_2 : decode prog_54_method_8_code 2 = .ok (.aload_n 0, 1) := by decide +kernel
theorem d10_3 : decode prog_54_method_8_code 3 = .ok (.getfield 16, 3) := by decide +kernel
theorem d10_6 : decode prog_54_method_8_code 6 = .ok (.iload_n 1, 1) := by decide +kernel
theorem d10_7 : decode prog_54_method_8_code 7 = .ok (.i2d, 1) := by decide +kernel
theorem d10_8 : decode prog_54_method_8_code 8 = .ok (.aload_n 0, 1) := by decide +kernel
theorem d10_9 : decode prog_54_method_8_code 9 = .ok (.getfield 19, 3) := by decide +kernel
theorem d10_12 : decode prog_54_method_8_code 12 = .ok (.dsub, 1) := by decide +kernel
theorem d10_13 : decode prog_54_method_8_code 13 = .ok (.invokestatic 37, 3) := by decide +kernel
theorem d10_16 : decode prog_54_method_8_code 16 = .ok (.invokestatic 37, 3) := by decide +kernel
theorem d10_19 : decode prog_54_method_8_code 19 = .ok (.d2i, 1) := by decide +kernel
theorem d10_20 : decode prog_54_method_8_code 20 = .ok (.ireturn, 1) := by decide +kernel
set_option maxRecDepth 65536 in
set_option maxHeartbeats 40000000 in
theorem own_high_con (l : Launch) (Z : State) (a0 : Array Value) (hw : ∀ d ∈ tables_1, d.before a0 Z = true) (a : Addr) (d0 d1 d2 d3 : UInt64) (i0 i1 i2 i3 : Int) (n : Int32) (h0 : Heap) (I0 : own_Iv Z h0 a d0 d1 d2 d3) (E0 : own_DE 16 i0 d0) (E1 : own_DE 16 i1 d1) (E2 : own_DE 16 i2 d2) (E3 : own_DE 16 i3 d3) (hn : n.toInt.natAbs ≤ 64) (ws : List Jvm.Cond) :
    own_Con l Z (⟨"com/example/rowtree/rowtree/query/xpath/Span$Interval", "high", "(I)I"⟩ : MethodName) prog_54_method_8_code 2 (some .int) ({ frames := 1, cells := 0, slots := 0, locals := 40 } : Room) #[(.ref a), (.int n)] h0 (fun v h L => ∃ z : Int32, v = some (.int z) ∧ z.toInt = own_clip (min n.toInt (min i2 (own_sub n.toInt i3))) ∧ h = h0 ∧ L = []) ws := by
  refine own_con (F := fun m => (mkF m 0 #[.val (.ref a), .val (.int n)] [])) (own_pn (by first | (simp [plainName, overriddenIn]; done) | decide +kernel)) (fun m => by first | (simp [entryFrame, mkF, argsToLocals, Value.category]; done) | rfl) ?_
  intro p e s m below meth c T X hx hby hml hZ hown hnm hret hlk eT
  show own_Go p e below (own_Out s (fun v h L => ∃ z : Int32, v = some (.int z) ∧ z.toInt = own_clip (min n.toInt (min i2 (own_sub n.toInt i3))) ∧ h = h0 ∧ L = []) ({ frames := 1, cells := 0, slots := 0, locals := 40 } : Room).cells ({ frames := 1, cells := 0, slots := 0, locals := 40 } : Room).slots) (T.setTop (mkF m 0 #[.val (.ref a), .val (.int n)] []))
  obtain ⟨o_E0, o_0, o_1, o_2, o_3⟩ := I0
  have En := own_DE.i2d n hn
  have Es := own_DE.sub (K := 64) ⟨hn, FP.Core.i2d_int n⟩ E3 (by decide) (by decide)
  have Em := own_DE.min (E2.mono (K' := 80) (by decide)) Es (by decide)
  have Ef := own_DE.min (En.mono (K' := 80) (by decide)) Em (by decide)
  refine own_go (fun _ => XS.iloadN X.here hx rfl (hb hby d10_0) rfl) ?_
  show own_Go p e below _ (T.setTop (mkF m 1 #[.val (.ref a), .val (.int n)] [(.int n)]))
  refine own_go (fun _ => own_i2d X.here hx rfl (hb hby d10_1) rfl) ?_
  show own_Go p e below _ (T.setTop (mkF m 2 #[.val (.ref a), .val (.int n)] [(.double (FP.i2d n))]))
  refine own_go (fun _ => XS.aloadN X.here hx rfl (hb hby d10_2) rfl rfl) ?_
  show own_Go p e below _ (T.setTop (mkF m 3 #[.val (.ref a), .val (.int n)] [(.ref a), (.double (FP.i2d n))]))
  obtain ⟨T1, X1, e1, st1⟩ := getF X hx hZ hown (host := "") (Or.inl (hw _ (List.mem_of_getElem? (i := 24) rfl))) Via.refl eT o_2 (g := (mkF m 3 #[.val (.ref a), .val (.int n)] [(.ref a), (.double (FP.i2d n))])) rfl rfl (hb hby d10_3)
  refine own_go st1 ?_
  show own_Go p e below _ (T1.setTop (mkF m 6 #[.val (.ref a), .val (.int n)] [(.double d2), (.double (FP.i2d n))]))
  refine own_go (fun _ => XS.iloadN X1.here hx rfl (hb hby d10_6) rfl) ?_
  show own_Go p e below _ (T1.setTop (mkF m 7 #[.val (.ref a), .val (.int n)] [(.int n), (.double d2), (.double (FP.i2d n))]))
  refine own_go (fun _ => own_i2d X1.here hx rfl (hb hby d10_7) rfl) ?_
  show own_Go p e below _ (T1.setTop (mkF m 8 #[.val (.ref a), .val (.int n)] [(.double (FP.i2d n)), (.double d2), (.double (FP.i2d n))]))
  refine own_go (fun _ => XS.aloadN X1.here hx rfl (hb hby d10_8) rfl rfl) ?_
  show own_Go p e below _ (T1.setTop (mkF m 9 #[.val (.ref a), .val (.int n)] [(.ref a), (.double (FP.i2d n)), (.double d2), (.double (FP.i2d n))]))
  obtain ⟨T2, X2, e2, st2⟩ := getF X1 hx hZ hown (host := "") (Or.inl (hw _ (List.mem_of_getElem? (i := 26) rfl))) Via.refl e1 o_3 (g := (mkF m 9 #[.val (.ref a), .val (.int n)] [(.ref a), (.double (FP.i2d n)), (.double d2), (.double (FP.i2d n))])) rfl rfl (hb hby d10_9)
  refine own_go st2 ?_
  show own_Go p e below _ (T2.setTop (mkF m 12 #[.val (.ref a), .val (.int n)] [(.double d3), (.double (FP.i2d n)), (.double d2), (.double (FP.i2d n))]))
  refine own_go (fun _ => own_dsub X2.here hx rfl (hb hby d10_12) rfl Es.noNaN) ?_
  show own_Go p e below _ (T2.setTop (mkF m 13 #[.val (.ref a), .val (.int n)] [(.double (FP.dsub (FP.i2d n) d3)), (.double d2), (.double (FP.i2d n))]))
  obtain ⟨T3, X3, e3, st3⟩ := own_minD X2 hx hZ hown (hw _ (List.mem_of_getElem? (i := 54) rfl)) (hw _ (List.mem_of_getElem? (i := 55) rfl)) (hw _ (List.mem_of_getElem? (i := 39) rfl)) (hw _ (List.mem_of_getElem? (i := 56) rfl)) e2 (E2).noNaN (Es).noNaN (g := (mkF m 13 #[.val (.ref a), .val (.int n)] [(.double (FP.dsub (FP.i2d n) d3)), (.double d2), (.double (FP.i2d n))])) rfl (by rw [hml]; rfl) rfl 2 (by show 2 * 0 + _ ≤ _; exact Nat.le_of_eq rfl) (hb hby d10_13) (by decide) (by decide) (by decide) (by decide)
  refine own_go st3 ?_
  show own_Go p e below _ (T3.setTop (mkF m 16 #[.val (.ref a), .val (.int n)] [(.double (Native.java_lang_Math.nans.pick64 false d2 (FP.dsub (FP.i2d n) d3))), (.double (FP.i2d n))]))
  obtain ⟨T4, X4, e4, st4⟩ := own_minD X3 hx hZ hown (hw _ (List.mem_of_getElem? (i := 54) rfl)) (hw _ (List.mem_of_getElem? (i := 55) rfl)) (hw _ (List.mem_of_getElem? (i := 39) rfl)) (hw _ (List.mem_of_getElem? (i := 56) rfl)) e3 (En).noNaN (Em).noNaN (g := (mkF m 16 #[.val (.ref a), .val (.int n)] [(.double (Native.java_lang_Math.nans.pick64 false d2 (FP.dsub (FP.i2d n) d3))), (.double (FP.i2d n))])) rfl (by rw [hml]; rfl) rfl 0 (by show 2 * 0 + _ ≤ _; exact Nat.le_of_eq rfl) (hb hby d10_16) (by decide) (by decide) (by decide) (by decide)
  refine own_go st4 ?_
  show own_Go p e below _ (T4.setTop (mkF m 19 #[.val (.ref a), .val (.int n)] [(.double (Native.java_lang_Math.nans.pick64 false (FP.i2d n) (Native.java_lang_Math.nans.pick64 false d2 (FP.dsub (FP.i2d n) d3))))]))
  refine own_go (fun _ => own_d2i X4.here hx rfl (hb hby d10_19) rfl) ?_
  show own_Go p e below _ (T4.setTop (mkF m 20 #[.val (.ref a), .val (.int n)] [(.int (FP.d2i (Native.java_lang_Math.nans.pick64 false (FP.i2d n) (Native.java_lang_Math.nans.pick64 false d2 (FP.dsub (FP.i2d n) d3)))))]))
  exact own_iret X4 hx hlk hret (Or.inl rfl) rfl (hb hby d10_20) (Nat.zero_le _) (Nat.zero_le _) ⟨_, rfl, Ef.d2i (by decide), e4, rfl⟩
/-- what bound's double stands for -/
def own_bi (c : Int) : Int := if c = 0 then -1000000 else if c = 1 then 1000000 else c - 16
theorem own_31 (x : Int32) : (x &&& (31 : Int32)).toInt = x.toInt % 32 := c_mask x 31 5 (by decide) (by decide)
theorem own_m16 (x : Int32) : ((x &&& (31 : Int32)) - (16 : Int32)).toInt = x.toInt % 32 - 16 := by
  have d := c_isub (x &&& (31 : Int32)) 16
  have e := own_31 x
  have l : (16 : Int32).toInt = 16 := by decide
  have b1 := ((x &&& (31 : Int32)) - (16 : Int32)).toInt_lt
  have b2 := ((x &&& (31 : Int32)) - (16 : Int32)).le_toInt
  rw [l, e] at d; omega
theorem own_bound_DE (x : Int32) : own_DE 16 (own_bi (x.toInt % 32)) (own_bound x) := by
  have e := own_31 x
  unfold own_bound own_bi
  by_cases c0 : (x &&& (31 : Int32)) = (0 : Int32)
  · have q : x.toInt % 32 = 0 := by rw [← e, c0]; decide
    rw [if_pos c0, if_pos q]; exact own_DE.ninf 16
  · have q : ¬ x.toInt % 32 = 0 := fun z => c0 (Int32.toInt_inj.mp (by rw [e, z]; decide))
    rw [if_neg c0, if_neg q]
    by_cases c1 : (x &&& (31 : Int32)) = (1 : Int32)
    · have q1 : x.toInt % 32 = 1 := by rw [← e, c1]; decide
      rw [if_pos c1, if_pos q1]; exact own_DE.pinf 16
    · have q1 : ¬ x.toInt % 32 = 1 := fun z => c1 (Int32.toInt_inj.mp (by rw [e, z]; decide))
      rw [if_neg c1, if_neg q1]
      have m := own_m16 x
      rw [← m]
      exact own_DE.i2d _ (by omega)
theorem own_fz_toInt (x : Int32) : (own_fz x).toInt = if x.toInt % 32 < 2 then 0 else x.toInt % 32 - 16 := by
  have e := own_31 x
  unfold own_fz
  by_cases c : (x &&& (31 : Int32)) < (2 : Int32)
  · have q : x.toInt % 32 < 2 := by rw [Int32.lt_iff_toInt_lt, e] at c; exact c
    rw [if_pos c, if_pos q]; decide
  · have q : ¬ x.toInt % 32 < 2 := by rw [Int32.lt_iff_toInt_lt, e] at c; exact c
    rw [if_neg c, if_neg q]; exact own_m16 x
theorem own_maxI_toInt (x y : Int32) : (own_maxI x y).toInt = max x.toInt y.toInt := by
  unfold own_maxI
  by_cases q : x < y
  · rw [if_pos q]; rw [Int32.lt_iff_toInt_lt] at q; omega
  · rw [if_neg q]; rw [Int32.lt_iff_toInt_lt] at q; omega
theorem own_small (x y : Int32) (hx : x.toInt.natAbs ≤ 100) (hy : y.toInt.natAbs ≤ 100) : (x + y).toInt = x.toInt + y.toInt := by
  have d := c_iadd x y
  have b1 := (x + y).toInt_lt
  have b2 := (x + y).le_toInt
  omega
def own_lo (i0 i1 n : Int) : Int := own_clip (max 1 (max i0 (own_sub n i1)))
def own_hi (i2 i3 n : Int) : Int := own_clip (min n (min i2 (own_sub n i3)))
/-- a bound: a small whole number or an infinity -/
def own_B (i : Int) : Prop := (-16 ≤ i ∧ i ≤ 16) ∨ i = 1000000 ∨ i = -1000000
theorem own_B_bi (c : Int) (h : 0 ≤ c ∧ c < 32) : own_B (own_bi c) := by
  unfold own_B own_bi
  repeat' split
  all_goals omega
theorem own_yes (i0 i1 i2 i3 n : Int) (b0 : own_B i0) (b1 : own_B i1) (b2 : own_B i2) (b3 : own_B i3) (hn : 0 ≤ n ∧ n ≤ 64) (he : own_empty i0 i1 i2 i3 = 1) : own_hi i2 i3 n < own_lo i0 i1 n := by
  have he' : (1000000 : Int) = i0 ∨ i1 < 0 ∨ i2 < 1 ∨ (1000000 : Int) = i3 ∨ i2 < i0 ∨ i1 < i3 := by
    unfold own_empty at he
    by_cases c0 : (1000000 : Int) = i0
    · exact Or.inl c0
    by_cases c1 : i1 < 0
    · exact Or.inr (Or.inl c1)
    by_cases c2 : i2 < 1
    · exact Or.inr (Or.inr (Or.inl c2))
    by_cases c3 : (1000000 : Int) = i3
    · exact Or.inr (Or.inr (Or.inr (Or.inl c3)))
    by_cases c4 : i2 < i0
    · exact Or.inr (Or.inr (Or.inr (Or.inr (Or.inl c4))))
    by_cases c5 : i1 < i3
    · exact Or.inr (Or.inr (Or.inr (Or.inr (Or.inr c5))))
    rw [if_neg c0, if_neg c1, if_neg c2, if_neg c3, if_neg c4, if_neg c5] at he
    exact absurd he (by decide)
  unfold own_B at b0 b1 b2 b3
  unfold own_hi own_lo own_clip own_sub
  repeat' split
  all_goals omega
theorem own_no (i0 i1 i2 i3 l h n : Int) (b0 : own_B i0) (b1 : own_B i1) (b2 : own_B i2) (b3 : own_B i3) (hl : l = if i0 = 1000000 ∨ i0 = -1000000 then 0 else i0) (hh : h = if i3 = 1000000 ∨ i3 = -1000000 then 0 else i3) (hn : n = max (max 1 l) (max (1 + h) (l + h))) (he : own_empty i0 i1 i2 i3 = 0) : own_lo i0 i1 n ≤ own_hi i2 i3 n := by
  have he' : ¬ (1000000 : Int) = i0 ∧ ¬ i1 < 0 ∧ ¬ i2 < 1 ∧ ¬ (1000000 : Int) = i3 ∧ ¬ i2 < i0 ∧ ¬ i1 < i3 := by
    unfold own_empty at he
    by_cases c0 : (1000000 : Int) = i0
    · rw [if_pos c0] at he; exact absurd he (by decide)
    by_cases c1 : i1 < 0
    · rw [if_neg c0, if_pos c1] at he; exact absurd he (by decide)
    by_cases c2 : i2 < 1
    · rw [if_neg c0, if_neg c1, if_pos c2] at he; exact absurd he (by decide)
    by_cases c3 : (1000000 : Int) = i3
    · rw [if_neg c0, if_neg c1, if_neg c2, if_pos c3] at he; exact absurd he (by decide)
    by_cases c4 : i2 < i0
    · rw [if_neg c0, if_neg c1, if_neg c2, if_neg c3, if_pos c4] at he; exact absurd he (by decide)
    by_cases c5 : i1 < i3
    · rw [if_neg c0, if_neg c1, if_neg c2, if_neg c3, if_neg c4, if_pos c5] at he; exact absurd he (by decide)
    exact ⟨c0, c1, c2, c3, c4, c5⟩
  obtain ⟨c0, c1, c2, c3, c4, c5⟩ := he'
  unfold own_B at b0 b1 b2 b3
  have hl' : (i0 = -1000000 ∧ l = 0) ∨ (-16 ≤ i0 ∧ i0 ≤ 16 ∧ l = i0) := by
    rcases b0 with b | b | b
    · rw [if_neg (by omega)] at hl; omega
    · omega
    · rw [if_pos (Or.inr b)] at hl; omega
  have hh' : (i3 = -1000000 ∧ h = 0) ∨ (-16 ≤ i3 ∧ i3 ≤ 16 ∧ h = i3) := by
    rcases b3 with b | b | b
    · rw [if_neg (by omega)] at hh; omega
    · omega
    · rw [if_pos (Or.inr b)] at hh; omega
  unfold own_hi own_lo own_clip own_sub
  repeat' split
  all_goals omega
theorem own_e01 (i0 i1 i2 i3 : Int) : own_empty i0 i1 i2 i3 = 0 ∨ own_empty i0 i1 i2 i3 = 1 := by
  unfold own_empty
  repeat' split
  all_goals simp
def own_Q1 (n0 : Nat) (v : Option Value) (h : Heap) (L : List Loc) : Prop := v = some (.int 1) ∧ Fr n0 L
set_option maxRecDepth 65536 in
set_option maxHeartbeats 40000000 in
theorem own_main_con (l : Launch) (Z : State) (a0 : Array Value) (hw : ∀ d ∈ tables_1, d.before a0 Z = true) (x0 : Int32) (x1 : Int32) (x2 : Int32) (x3 : Int32) (x4 : Int32)  (h0 : Heap) (ws : List Jvm.Cond) :
    own_Con l Z x code maxLocals ret room_1 #[(.int x0), (.int x1), (.int x2), (.int x3), (.int x4)] h0 (own_Q1 h0.size) ws := by
  refine own_con (F := fun m => (mkF m 0 #[.val (.int x0), .val (.int x1), .val (.int x2), .val (.int x3), .val (.int x4), .unset, .unset, .unset, .unset, .unset, .unset, .unset, .unset] [])) (own_pn (by first | (simp [plainName, overriddenIn]; done) | decide +kernel)) (fun m => by first | (simp [entryFrame, mkF, argsToLocals, Value.category, maxLocals]; done) | rfl) ?_
  intro p e s m below meth c T X hx hby hml hZ hown hnm hret hlk eT
  show own_Go p e below (own_Out s (own_Q1 h0.size) room_1.cells room_1.slots) (T.setTop (mkF m 0 #[.val (.int x0), .val (.int x1), .val (.int x2), .val (.int x3), .val (.int x4), .unset, .unset, .unset, .unset, .unset, .unset, .unset, .unset] []))
  have N0 := Fr.nil h0.size
  obtain ⟨T1, h1, X1, e1, E1, C1, D1, -, st1⟩ := newO X hx hZ hown (hw _ (List.mem_of_getElem? (i := 0) rfl)) (hw _ (List.mem_of_getElem? (i := 1) rfl)) (hw _ (List.mem_of_getElem? (i := 2) rfl)) eT (g := (mkF m 0 #[.val (.int x0), .val (.int x1), .val (.int x2), .val (.int x3), .val (.int x4), .unset, .unset, .unset, .unset, .unset, .unset, .unset, .unset] [])) rfl (hb hby at_0) (by decide) (by decide)
  obtain ⟨a1, q1⟩ : ∃ z, z = h0.size := ⟨_, rfl⟩
  rw [← q1] at C1 D1 st1
  have o_lowAt_1 := D1 (Or.inr (hw _ (List.mem_of_getElem? (i := 21) rfl))) (ty := .double) (by decide)
  have o_lowBack_1 := D1 (Or.inr (hw _ (List.mem_of_getElem? (i := 23) rfl))) (ty := .double) (by decide)
  have o_highAt_1 := D1 (Or.inr (hw _ (List.mem_of_getElem? (i := 25) rfl))) (ty := .double) (by decide)
  have o_highBack_1 := D1 (Or.inr (hw _ (List.mem_of_getElem? (i := 27) rfl))) (ty := .double) (by decide)
  refine own_go st1 ?_
  show own_Go p e below _ (T1.setTop (mkF m 3 #[.val (.int x0), .val (.int x1), .val (.int x2), .val (.int x3), .val (.int x4), .unset, .unset, .unset, .unset, .unset, .unset, .unset, .unset] [(.ref a1)]))
  refine own_go (fun _ => XS.dup X1.here hx rfl (hb hby at_3) rfl rfl) ?_
  show own_Go p e below _ (T1.setTop (mkF m 4 #[.val (.int x0), .val (.int x1), .val (.int x2), .val (.int x3), .val (.int x4), .unset, .unset, .unset, .unset, .unset, .unset, .unset, .unset] [(.ref a1), (.ref a1)]))
  refine own_go (fun _ => XS.iloadN X1.here hx rfl (hb hby at_4) rfl) ?_
  show own_Go p e below _ (T1.setTop (mkF m 5 #[.val (.int x0), .val (.int x1), .val (.int x2), .val (.int x3), .val (.int x4), .unset, .unset, .unset, .unset, .unset, .unset, .unset, .unset] [(.int x0), (.ref a1), (.ref a1)]))
  have ga : h0.size ≤ a1 := Nat.le_of_eq q1.symm
  obtain ⟨T2, X2, e2, st2⟩ := own_callSP X1 hx hZ hown (argsL := [(.int x0)]) (rest := [(.ref a1), (.ref a1)]) (own_bound_con l Z a0 hw x0 h1 []) e1 (hw _ (List.mem_of_getElem? (i := 3) rfl)) (hw _ (List.mem_of_getElem? (i := 4) rfl)) (hw _ (List.mem_of_getElem? (i := 5) rfl)) (hw _ (List.mem_of_getElem? (i := 6) rfl)) (by decide) (by decide +kernel : parseMethodDescriptor "(I)D" = some ⟨[.int], some .double⟩) rfl (g := (mkF m 5 #[.val (.int x0), .val (.int x1), .val (.int x2), .val (.int x3), .val (.int x4), .unset, .unset, .unset, .unset, .unset, .unset, .unset, .unset] [(.int x0), (.ref a1), (.ref a1)])) rfl (by rw [hml]; rfl) rfl 2 (by show 2 * 0 + _ ≤ _; exact Nat.le_of_eq rfl) (hb hby at_5) (by decide) (by decide) rfl rfl (by decide) (by decide)
  refine own_go st2 ?_
  show own_Go p e below _ (T2.setTop (mkF m 8 #[.val (.int x0), .val (.int x1), .val (.int x2), .val (.int x3), .val (.int x4), .unset, .unset, .unset, .unset, .unset, .unset, .unset, .unset] [(.double (own_bound x0)), (.ref a1), (.ref a1)]))
  refine own_go (fun _ => XS.iloadN X2.here hx rfl (hb hby at_8) rfl) ?_
  show own_Go p e below _ (T2.setTop (mkF m 9 #[.val (.int x0), .val (.int x1), .val (.int x2), .val (.int x3), .val (.int x4), .unset, .unset, .unset, .unset, .unset, .unset, .unset, .unset] [(.int x1), (.double (own_bound x0)), (.ref a1), (.ref a1)]))
  obtain ⟨T3, X3, e3, st3⟩ := own_callSP X2 hx hZ hown (argsL := [(.int x1)]) (rest := [(.double (own_bound x0)), (.ref a1), (.ref a1)]) (own_bound_con l Z a0 hw x1 h1 []) e2 (hw _ (List.mem_of_getElem? (i := 3) rfl)) (hw _ (List.mem_of_getElem? (i := 4) rfl)) (hw _ (List.mem_of_getElem? (i := 5) rfl)) (hw _ (List.mem_of_getElem? (i := 6) rfl)) (by decide) (by decide +kernel : parseMethodDescriptor "(I)D" = some ⟨[.int], some .double⟩) rfl (g := (mkF m 9 #[.val (.int x0), .val (.int x1), .val (.int x2), .val (.int x3), .val (.int x4), .unset, .unset, .unset, .unset, .unset, .unset, .unset, .unset] [(.int x1), (.double (own_bound x0)), (.ref a1), (.ref a1)])) rfl (by rw [hml]; rfl) rfl 4 (by show 2 * 0 + _ ≤ _; exact Nat.le_of_eq rfl) (hb hby at_9) (by decide) (by decide) rfl rfl (by decide) (by decide)
  refine own_go st3 ?_
  show own_Go p e below _ (T3.setTop (mkF m 12 #[.val (.int x0), .val (.int x1), .val (.int x2), .val (.int x3), .val (.int x4), .unset, .unset, .unset, .unset, .unset, .unset, .unset, .unset] [(.double (own_bound x1)), (.double (own_bound x0)), (.ref a1), (.ref a1)]))
  refine own_go (fun _ => XS.iloadN X3.here hx rfl (hb hby at_12) rfl) ?_
  show own_Go p e below _ (T3.setTop (mkF m 13 #[.val (.int x0), .val (.int x1), .val (.int x2), .val (.int x3), .val (.int x4), .unset, .unset, .unset, .unset, .unset, .unset, .unset, .unset] [(.int x2), (.double (own_bound x1)), (.double (own_bound x0)), (.ref a1), (.ref a1)]))
  obtain ⟨T4, X4, e4, st4⟩ := own_callSP X3 hx hZ hown (argsL := [(.int x2)]) (rest := [(.double (own_bound x1)), (.double (own_bound x0)), (.ref a1), (.ref a1)]) (own_bound_con l Z a0 hw x2 h1 []) e3 (hw _ (List.mem_of_getElem? (i := 3) rfl)) (hw _ (List.mem_of_getElem? (i := 4) rfl)) (hw _ (List.mem_of_getElem? (i := 5) rfl)) (hw _ (List.mem_of_getElem? (i := 6) rfl)) (by decide) (by decide +kernel : parseMethodDescriptor "(I)D" = some ⟨[.int], some .double⟩) rfl (g := (mkF m 13 #[.val (.int x0), .val (.int x1), .val (.int x2), .val (.int x3), .val (.int x4), .unset, .unset, .unset, .unset, .unset, .unset, .unset, .unset] [(.int x2), (.double (own_bound x1)), (.double (own_bound x0)), (.ref a1), (.ref a1)])) rfl (by rw [hml]; rfl) rfl 6 (by show 2 * 0 + _ ≤ _; exact Nat.le_of_eq rfl) (hb hby at_13) (by decide) (by decide) rfl rfl (by decide) (by decide)
  refine own_go st4 ?_
  show own_Go p e below _ (T4.setTop (mkF m 16 #[.val (.int x0), .val (.int x1), .val (.int x2), .val (.int x3), .val (.int x4), .unset, .unset, .unset, .unset, .unset, .unset, .unset, .unset] [(.double (own_bound x2)), (.double (own_bound x1)), (.double (own_bound x0)), (.ref a1), (.ref a1)]))
  refine own_go (fun _ => XS.iloadN X4.here hx rfl (hb hby at_16) rfl) ?_
  show own_Go p e below _ (T4.setTop (mkF m 17 #[.val (.int x0), .val (.int x1), .val (.int x2), .val (.int x3), .val (.int x4), .unset, .unset, .unset, .unset, .unset, .unset, .unset, .unset] [(.int x3), (.double (own_bound x2)), (.double (own_bound x1)), (.double (own_bound x0)), (.ref a1), (.ref a1)]))
  obtain ⟨T5, X5, e5, st5⟩ := own_callSP X4 hx hZ hown (argsL := [(.int x3)]) (rest := [(.double (own_bound x2)), (.double (own_bound x1)), (.double (own_bound x0)), (.ref a1), (.ref a1)]) (own_bound_con l Z a0 hw x3 h1 []) e4 (hw _ (List.mem_of_getElem? (i := 3) rfl)) (hw _ (List.mem_of_getElem? (i := 4) rfl)) (hw _ (List.mem_of_getElem? (i := 5) rfl)) (hw _ (List.mem_of_getElem? (i := 6) rfl)) (by decide) (by decide +kernel : parseMethodDescriptor "(I)D" = some ⟨[.int], some .double⟩) rfl (g := (mkF m 17 #[.val (.int x0), .val (.int x1), .val (.int x2), .val (.int x3), .val (.int x4), .unset, .unset, .unset, .unset, .unset, .unset, .unset, .unset] [(.int x3), (.double (own_bound x2)), (.double (own_bound x1)), (.double (own_bound x0)), (.ref a1), (.ref a1)])) rfl (by rw [hml]; rfl) rfl 8 (by show 2 * 0 + _ ≤ _; exact Nat.le_of_eq rfl) (hb hby at_17) (by decide) (by decide) rfl rfl (by decide) (by decide)
  refine own_go st5 ?_
  show own_Go p e below _ (T5.setTop (mkF m 20 #[.val (.int x0), .val (.int x1), .val (.int x2), .val (.int x3), .val (.int x4), .unset, .unset, .unset, .unset, .unset, .unset, .unset, .unset] [(.double (own_bound x3)), (.double (own_bound x2)), (.double (own_bound x1)), (.double (own_bound x0)), (.ref a1), (.ref a1)]))
  obtain ⟨_, T6, L6, X6, ⟨rfl, Nc6, Kc6, I6⟩, st6⟩ := own_callI X5 hx hZ hown rfl (argsL := [(.double (own_bound x0)), (.double (own_bound x1)), (.double (own_bound x2)), (.double (own_bound x3))]) (rest := [(.ref a1)]) (own_init_con l Z a0 hw a1 (own_bound x0) (own_bound x1) (own_bound x2) (own_bound x3) h0.size h1 C1 o_lowAt_1 o_lowBack_1 o_highAt_1 o_highBack_1 ga []) e5 (hw _ (List.mem_of_getElem? (i := 9) rfl)) (hw _ (List.mem_of_getElem? (i := 10) rfl)) (hw _ (List.mem_of_getElem? (i := 2) rfl)) (hw _ (List.mem_of_getElem? (i := 11) rfl)) (by decide) (by decide +kernel : parseMethodDescriptor "(DDDD)V" = some ⟨[.double, .double, .double, .double], none⟩) rfl (g := (mkF m 20 #[.val (.int x0), .val (.int x1), .val (.int x2), .val (.int x3), .val (.int x4), .unset, .unset, .unset, .unset, .unset, .unset, .unset, .unset] [(.double (own_bound x3)), (.double (own_bound x2)), (.double (own_bound x1)), (.double (own_bound x0)), (.ref a1), (.ref a1)])) rfl (by rw [hml]; rfl) rfl 1 (by show 2 * 0 + _ ≤ _; exact Nat.le_of_eq rfl) (hb hby at_20) (by decide) (by decide) (by decide) (by decide)
  have N6 := Fr.app N0 Nc6
  have o_E_6 := C1.keep Kc6
  refine own_go st6 ?_
  show own_Go p e below _ (T6.setTop (mkF m 23 #[.val (.int x0), .val (.int x1), .val (.int x2), .val (.int x3), .val (.int x4), .unset, .unset, .unset, .unset, .unset, .unset, .unset, .unset] [(.ref a1)]))
  have ex := I6.1
  refine own_go (fun _ => XS.astore X6.here hx rfl (hb hby at_23) rfl rfl (l' := #[.val (.int x0), .val (.int x1), .val (.int x2), .val (.int x3), .val (.int x4), .val (.ref a1), .unset, .unset, .unset, .unset, .unset, .unset, .unset]) rfl) ?_
  show own_Go p e below _ (T6.setTop (mkF m 25 #[.val (.int x0), .val (.int x1), .val (.int x2), .val (.int x3), .val (.int x4), .val (.ref a1), .unset, .unset, .unset, .unset, .unset, .unset, .unset] []))
  refine own_go (fun _ => XS.aload X6.here hx rfl (hb hby at_25) rfl rfl) ?_
  show own_Go p e below _ (T6.setTop (mkF m 27 #[.val (.int x0), .val (.int x1), .val (.int x2), .val (.int x3), .val (.int x4), .val (.ref a1), .unset, .unset, .unset, .unset, .unset, .unset, .unset] [(.ref a1)]))
  obtain ⟨_, T7, L7, X7, ⟨rfl, eh7, rfl⟩, st7⟩ := own_callV X6 hx hZ hown (argsL := []) (rest := []) (own_empty_con l Z a0 hw a1 (own_bound x0) (own_bound x1) (own_bound x2) (own_bound x3) (own_bi (x0.toInt % 32)) (own_bi (x1.toInt % 32)) (own_bi (x2.toInt % 32)) (own_bi (x3.toInt % 32)) T6.heap I6 (own_bound_DE x0) (own_bound_DE x1) (own_bound_DE x2) (own_bound_DE x3) []) rfl ex (hw _ (List.mem_of_getElem? (i := 28) rfl)) (hw _ (List.mem_of_getElem? (i := 29) rfl)) (hw _ (List.mem_of_getElem? (i := 31) rfl)) (hw _ (List.mem_of_getElem? (i := 30) rfl)) (hw _ (List.mem_of_getElem? (i := 2) rfl)) (hw _ (List.mem_of_getElem? (i := 32) rfl)) (notFace_of_selects (args := #[]) (mvT hZ (hw _ (List.mem_of_getElem? (i := 31) rfl)))) (by decide) (by decide +kernel : parseMethodDescriptor "()Z" = some ⟨[], some .boolean⟩) rfl (g := (mkF m 27 #[.val (.int x0), .val (.int x1), .val (.int x2), .val (.int x3), .val (.int x4), .val (.ref a1), .unset, .unset, .unset, .unset, .unset, .unset, .unset] [(.ref a1)])) rfl (by rw [hml]; rfl) rfl 0 (by show 2 * 0 + _ ≤ _; exact Nat.le_of_eq rfl) (hb hby at_27) (by decide) (by decide) (by decide) (by decide)
  rw [List.append_nil] at X7
  refine own_go st7 ?_
  show own_Go p e below _ (T7.setTop (mkF m 30 #[.val (.int x0), .val (.int x1), .val (.int x2), .val (.int x3), .val (.int x4), .val (.ref a1), .unset, .unset, .unset, .unset, .unset, .unset, .unset] [(.int (own_empty (own_bi (x0.toInt % 32)) (own_bi (x1.toInt % 32)) (own_bi (x2.toInt % 32)) (own_bi (x3.toInt % 32))))]))
  refine own_go (fun _ => XS.istore X7.here hx rfl (hb hby at_30) rfl (l' := #[.val (.int x0), .val (.int x1), .val (.int x2), .val (.int x3), .val (.int x4), .val (.ref a1), .val (.int (own_empty (own_bi (x0.toInt % 32)) (own_bi (x1.toInt % 32)) (own_bi (x2.toInt % 32)) (own_bi (x3.toInt % 32)))), .unset, .unset, .unset, .unset, .unset, .unset]) rfl) ?_
  show own_Go p e below _ (T7.setTop (mkF m 32 #[.val (.int x0), .val (.int x1), .val (.int x2), .val (.int x3), .val (.int x4), .val (.ref a1), .val (.int (own_empty (own_bi (x0.toInt % 32)) (own_bi (x1.toInt % 32)) (own_bi (x2.toInt % 32)) (own_bi (x3.toInt % 32)))), .unset, .unset, .unset, .unset, .unset, .unset] []))
  refine own_go (fun _ => XS.iloadN X7.here hx rfl (hb hby at_32) rfl) ?_
  show own_Go p e below _ (T7.setTop (mkF m 33 #[.val (.int x0), .val (.int x1), .val (.int x2), .val (.int x3), .val (.int x4), .val (.ref a1), .val (.int (own_empty (own_bi (x0.toInt % 32)) (own_bi (x1.toInt % 32)) (own_bi (x2.toInt % 32)) (own_bi (x3.toInt % 32)))), .unset, .unset, .unset, .unset, .unset, .unset] [(.int x0)]))
  obtain ⟨T8, X8, e8, st8⟩ := own_callSP X7 hx hZ hown (argsL := [(.int x0)]) (rest := []) (own_fz_con l Z a0 hw x0 T6.heap []) eh7 (hw _ (List.mem_of_getElem? (i := 34) rfl)) (hw _ (List.mem_of_getElem? (i := 35) rfl)) (hw _ (List.mem_of_getElem? (i := 5) rfl)) (hw _ (List.mem_of_getElem? (i := 36) rfl)) (by decide) (by decide +kernel : parseMethodDescriptor "(I)I" = some ⟨[.int], some .int⟩) rfl (g := (mkF m 33 #[.val (.int x0), .val (.int x1), .val (.int x2), .val (.int x3), .val (.int x4), .val (.ref a1), .val (.int (own_empty (own_bi (x0.toInt % 32)) (own_bi (x1.toInt % 32)) (own_bi (x2.toInt % 32)) (own_bi (x3.toInt % 32)))), .unset, .unset, .unset, .unset, .unset, .unset] [(.int x0)])) rfl (by rw [hml]; rfl) rfl 0 (by show 2 * 0 + _ ≤ _; exact Nat.le_of_eq rfl) (hb hby at_33) (by decide) (by decide) rfl rfl (by decide) (by decide)
  refine own_go st8 ?_
  show own_Go p e below _ (T8.setTop (mkF m 36 #[.val (.int x0), .val (.int x1), .val (.int x2), .val (.int x3), .val (.int x4), .val (.ref a1), .val (.int (own_empty (own_bi (x0.toInt % 32)) (own_bi (x1.toInt % 32)) (own_bi (x2.toInt % 32)) (own_bi (x3.toInt % 32)))), .unset, .unset, .unset, .unset, .unset, .unset] [(.int (own_fz x0))]))
  refine own_go (fun _ => XS.istore X8.here hx rfl (hb hby at_36) rfl (l' := #[.val (.int x0), .val (.int x1), .val (.int x2), .val (.int x3), .val (.int x4), .val (.ref a1), .val (.int (own_empty (own_bi (x0.toInt % 32)) (own_bi (x1.toInt % 32)) (own_bi (x2.toInt % 32)) (own_bi (x3.toInt % 32)))), .val (.int (own_fz x0)), .unset, .unset, .unset, .unset, .unset]) rfl) ?_
  show own_Go p e below _ (T8.setTop (mkF m 38 #[.val (.int x0), .val (.int x1), .val (.int x2), .val (.int x3), .val (.int x4), .val (.ref a1), .val (.int (own_empty (own_bi (x0.toInt % 32)) (own_bi (x1.toInt % 32)) (own_bi (x2.toInt % 32)) (own_bi (x3.toInt % 32)))), .val (.int (own_fz x0)), .unset, .unset, .unset, .unset, .unset] []))
  refine own_go (fun _ => XS.iloadN X8.here hx rfl (hb hby at_38) rfl) ?_
  show own_Go p e below _ (T8.setTop (mkF m 39 #[.val (.int x0), .val (.int x1), .val (.int x2), .val (.int x3), .val (.int x4), .val (.ref a1), .val (.int (own_empty (own_bi (x0.toInt % 32)) (own_bi (x1.toInt % 32)) (own_bi (x2.toInt % 32)) (own_bi (x3.toInt % 32)))), .val (.int (own_fz x0)), .unset, .unset, .unset, .unset, .unset] [(.int x3)]))
  obtain ⟨T9, X9, e9, st9⟩ := own_callSP X8 hx hZ hown (argsL := [(.int x3)]) (rest := []) (own_fz_con l Z a0 hw x3 T6.heap []) e8 (hw _ (List.mem_of_getElem? (i := 34) rfl)) (hw _ (List.mem_of_getElem? (i := 35) rfl)) (hw _ (List.mem_of_getElem? (i := 5) rfl)) (hw _ (List.mem_of_getElem? (i := 36) rfl)) (by decide) (by decide +kernel : parseMethodDescriptor "(I)I" = some ⟨[.int], some .int⟩) rfl (g := (mkF m 39 #[.val (.int x0), .val (.int x1), .val (.int x2), .val (.int x3), .val (.int x4), .val (.ref a1), .val (.int (own_empty (own_bi (x0.toInt % 32)) (own_bi (x1.toInt % 32)) (own_bi (x2.toInt % 32)) (own_bi (x3.toInt % 32)))), .val (.int (own_fz x0)), .unset, .unset, .unset, .unset, .unset] [(.int x3)])) rfl (by rw [hml]; rfl) rfl 0 (by show 2 * 0 + _ ≤ _; exact Nat.le_of_eq rfl) (hb hby at_39) (by decide) (by decide) rfl rfl (by decide) (by decide)
  refine own_go st9 ?_
  show own_Go p e below _ (T9.setTop (mkF m 42 #[.val (.int x0), .val (.int x1), .val (.int x2), .val (.int x3), .val (.int x4), .val (.ref a1), .val (.int (own_empty (own_bi (x0.toInt % 32)) (own_bi (x1.toInt % 32)) (own_bi (x2.toInt % 32)) (own_bi (x3.toInt % 32)))), .val (.int (own_fz x0)), .unset, .unset, .unset, .unset, .unset] [(.int (own_fz x3))]))
  refine own_go (fun _ => XS.istore X9.here hx rfl (hb hby at_42) rfl (l' := #[.val (.int x0), .val (.int x1), .val (.int x2), .val (.int x3), .val (.int x4), .val (.ref a1), .val (.int (own_empty (own_bi (x0.toInt % 32)) (own_bi (x1.toInt % 32)) (own_bi (x2.toInt % 32)) (own_bi (x3.toInt % 32)))), .val (.int (own_fz x0)), .val (.int (own_fz x3)), .unset, .unset, .unset, .unset]) rfl) ?_
  show own_Go p e below _ (T9.setTop (mkF m 44 #[.val (.int x0), .val (.int x1), .val (.int x2), .val (.int x3), .val (.int x4), .val (.ref a1), .val (.int (own_empty (own_bi (x0.toInt % 32)) (own_bi (x1.toInt % 32)) (own_bi (x2.toInt % 32)) (own_bi (x3.toInt % 32)))), .val (.int (own_fz x0)), .val (.int (own_fz x3)), .unset, .unset, .unset, .unset] []))
  refine own_go (fun _ => XS.iconst X9.here hx rfl (hb hby at_44)) ?_
  show own_Go p e below _ (T9.setTop (mkF m 45 #[.val (.int x0), .val (.int x1), .val (.int x2), .val (.int x3), .val (.int x4), .val (.ref a1), .val (.int (own_empty (own_bi (x0.toInt % 32)) (own_bi (x1.toInt % 32)) (own_bi (x2.toInt % 32)) (own_bi (x3.toInt % 32)))), .val (.int (own_fz x0)), .val (.int (own_fz x3)), .unset, .unset, .unset, .unset] [(.int (1 : Int32))]))
  refine own_go (fun _ => XS.iload X9.here hx rfl (hb hby at_45) rfl) ?_
  show own_Go p e below _ (T9.setTop (mkF m 47 #[.val (.int x0), .val (.int x1), .val (.int x2), .val (.int x3), .val (.int x4), .val (.ref a1), .val (.int (own_empty (own_bi (x0.toInt % 32)) (own_bi (x1.toInt % 32)) (own_bi (x2.toInt % 32)) (own_bi (x3.toInt % 32)))), .val (.int (own_fz x0)), .val (.int (own_fz x3)), .unset, .unset, .unset, .unset] [(.int (own_fz x0)), (.int (1 : Int32))]))
  obtain ⟨T10, X10, e10, st10⟩ := own_callSP X9 hx hZ hown (argsL := [(.int (1 : Int32)), (.int (own_fz x0))]) (rest := []) (own_maxI_con l Z a0 hw (1 : Int32) (own_fz x0) T6.heap []) e9 (hw _ (List.mem_of_getElem? (i := 37) rfl)) (hw _ (List.mem_of_getElem? (i := 38) rfl)) (hw _ (List.mem_of_getElem? (i := 39) rfl)) (hw _ (List.mem_of_getElem? (i := 40) rfl)) (by decide) (by decide +kernel : parseMethodDescriptor "(II)I" = some ⟨[.int, .int], some .int⟩) rfl (g := (mkF m 47 #[.val (.int x0), .val (.int x1), .val (.int x2), .val (.int x3), .val (.int x4), .val (.ref a1), .val (.int (own_empty (own_bi (x0.toInt % 32)) (own_bi (x1.toInt % 32)) (own_bi (x2.toInt % 32)) (own_bi (x3.toInt % 32)))), .val (.int (own_fz x0)), .val (.int (own_fz x3)), .unset, .unset, .unset, .unset] [(.int (own_fz x0)), (.int (1 : Int32))])) rfl (by rw [hml]; rfl) rfl 0 (by show 2 * 0 + _ ≤ _; exact Nat.le_of_eq rfl) (hb hby at_47) (by decide) (by decide) rfl rfl (by decide) (by decide)
  refine own_go st10 ?_
  show own_Go p e below _ (T10.setTop (mkF m 50 #[.val (.int x0), .val (.int x1), .val (.int x2), .val (.int x3), .val (.int x4), .val (.ref a1), .val (.int (own_empty (own_bi (x0.toInt % 32)) (own_bi (x1.toInt % 32)) (own_bi (x2.toInt % 32)) (own_bi (x3.toInt % 32)))), .val (.int (own_fz x0)), .val (.int (own_fz x3)), .unset, .unset, .unset, .unset] [(.int (own_maxI (1 : Int32) (own_fz x0)))]))
  refine own_go (fun _ => XS.iconst X10.here hx rfl (hb hby at_50)) ?_
  show own_Go p e below _ (T10.setTop (mkF m 51 #[.val (.int x0), .val (.int x1), .val (.int x2), .val (.int x3), .val (.int x4), .val (.ref a1), .val (.int (own_empty (own_bi (x0.toInt % 32)) (own_bi (x1.toInt % 32)) (own_bi (x2.toInt % 32)) (own_bi (x3.toInt % 32)))), .val (.int (own_fz x0)), .val (.int (own_fz x3)), .unset, .unset, .unset, .unset] [(.int (1 : Int32)), (.int (own_maxI (1 : Int32) (own_fz x0)))]))
  refine own_go (fun _ => XS.iload X10.here hx rfl (hb hby at_51) rfl) ?_
  show own_Go p e below _ (T10.setTop (mkF m 53 #[.val (.int x0), .val (.int x1), .val (.int x2), .val (.int x3), .val (.int x4), .val (.ref a1), .val (.int (own_empty (own_bi (x0.toInt % 32)) (own_bi (x1.toInt % 32)) (own_bi (x2.toInt % 32)) (own_bi (x3.toInt % 32)))), .val (.int (own_fz x0)), .val (.int (own_fz x3)), .unset, .unset, .unset, .unset] [(.int (own_fz x3)), (.int (1 : Int32)), (.int (own_maxI (1 : Int32) (own_fz x0)))]))
  refine own_go (fun _ => XS.iadd X10.here hx rfl (hb hby at_53) rfl) ?_
  show own_Go p e below _ (T10.setTop (mkF m 54 #[.val (.int x0), .val (.int x1), .val (.int x2), .val (.int x3), .val (.int x4), .val (.ref a1), .val (.int (own_empty (own_bi (x0.toInt % 32)) (own_bi (x1.toInt % 32)) (own_bi (x2.toInt % 32)) (own_bi (x3.toInt % 32)))), .val (.int (own_fz x0)), .val (.int (own_fz x3)), .unset, .unset, .unset, .unset] [(.int ((1 : Int32) + (own_fz x3))), (.int (own_maxI (1 : Int32) (own_fz x0)))]))
  refine own_go (fun _ => XS.iload X10.here hx rfl (hb hby at_54) rfl) ?_
  show own_Go p e below _ (T10.setTop (mkF m 56 #[.val (.int x0), .val (.int x1), .val (.int x2), .val (.int x3), .val (.int x4), .val (.ref a1), .val (.int (own_empty (own_bi (x0.toInt % 32)) (own_bi (x1.toInt % 32)) (own_bi (x2.toInt % 32)) (own_bi (x3.toInt % 32)))), .val (.int (own_fz x0)), .val (.int (own_fz x3)), .unset, .unset, .unset, .unset] [(.int (own_fz x0)), (.int ((1 : Int32) + (own_fz x3))), (.int (own_maxI (1 : Int32) (own_fz x0)))]))
  refine own_go (fun _ => XS.iload X10.here hx rfl (hb hby at_56) rfl) ?_
  show own_Go p e below _ (T10.setTop (mkF m 58 #[.val (.int x0), .val (.int x1), .val (.int x2), .val (.int x3), .val (.int x4), .val (.ref a1), .val (.int (own_empty (own_bi (x0.toInt % 32)) (own_bi (x1.toInt % 32)) (own_bi (x2.toInt % 32)) (own_bi (x3.toInt % 32)))), .val (.int (own_fz x0)), .val (.int (own_fz x3)), .unset, .unset, .unset, .unset] [(.int (own_fz x3)), (.int (own_fz x0)), (.int ((1 : Int32) + (own_fz x3))), (.int (own_maxI (1 : Int32) (own_fz x0)))]))
  refine own_go (fun _ => XS.iadd X10.here hx rfl (hb hby at_58) rfl) ?_
  show own_Go p e below _ (T10.setTop (mkF m 59 #[.val (.int x0), .val (.int x1), .val (.int x2), .val (.int x3), .val (.int x4), .val (.ref a1), .val (.int (own_empty (own_bi (x0.toInt % 32)) (own_bi (x1.toInt % 32)) (own_bi (x2.toInt % 32)) (own_bi (x3.toInt % 32)))), .val (.int (own_fz x0)), .val (.int (own_fz x3)), .unset, .unset, .unset, .unset] [(.int ((own_fz x0) + (own_fz x3))), (.int ((1 : Int32) + (own_fz x3))), (.int (own_maxI (1 : Int32) (own_fz x0)))]))
  obtain ⟨T11, X11, e11, st11⟩ := own_callSP X10 hx hZ hown (argsL := [(.int ((1 : Int32) + (own_fz x3))), (.int ((own_fz x0) + (own_fz x3)))]) (rest := [(.int (own_maxI (1 : Int32) (own_fz x0)))]) (own_maxI_con l Z a0 hw ((1 : Int32) + (own_fz x3)) ((own_fz x0) + (own_fz x3)) T6.heap []) e10 (hw _ (List.mem_of_getElem? (i := 37) rfl)) (hw _ (List.mem_of_getElem? (i := 38) rfl)) (hw _ (List.mem_of_getElem? (i := 39) rfl)) (hw _ (List.mem_of_getElem? (i := 40) rfl)) (by decide) (by decide +kernel : parseMethodDescriptor "(II)I" = some ⟨[.int, .int], some .int⟩) rfl (g := (mkF m 59 #[.val (.int x0), .val (.int x1), .val (.int x2), .val (.int x3), .val (.int x4), .val (.ref a1), .val (.int (own_empty (own_bi (x0.toInt % 32)) (own_bi (x1.toInt % 32)) (own_bi (x2.toInt % 32)) (own_bi (x3.toInt % 32)))), .val (.int (own_fz x0)), .val (.int (own_fz x3)), .unset, .unset, .unset, .unset] [(.int ((own_fz x0) + (own_fz x3))), (.int ((1 : Int32) + (own_fz x3))), (.int (own_maxI (1 : Int32) (own_fz x0)))])) rfl (by rw [hml]; rfl) rfl 1 (by show 2 * 0 + _ ≤ _; exact Nat.le_of_eq rfl) (hb hby at_59) (by decide) (by decide) rfl rfl (by decide) (by decide)
  refine own_go st11 ?_
  show own_Go p e below _ (T11.setTop (mkF m 62 #[.val (.int x0), .val (.int x1), .val (.int x2), .val (.int x3), .val (.int x4), .val (.ref a1), .val (.int (own_empty (own_bi (x0.toInt % 32)) (own_bi (x1.toInt % 32)) (own_bi (x2.toInt % 32)) (own_bi (x3.toInt % 32)))), .val (.int (own_fz x0)), .val (.int (own_fz x3)), .unset, .unset, .unset, .unset] [(.int (own_maxI ((1 : Int32) + (own_fz x3)) ((own_fz x0) + (own_fz x3)))), (.int (own_maxI (1 : Int32) (own_fz x0)))]))
  obtain ⟨T12, X12, e12, st12⟩ := own_callSP X11 hx hZ hown (argsL := [(.int (own_maxI (1 : Int32) (own_fz x0))), (.int (own_maxI ((1 : Int32) + (own_fz x3)) ((own_fz x0) + (own_fz x3))))]) (rest := []) (own_maxI_con l Z a0 hw (own_maxI (1 : Int32) (own_fz x0)) (own_maxI ((1 : Int32) + (own_fz x3)) ((own_fz x0) + (own_fz x3))) T6.heap []) e11 (hw _ (List.mem_of_getElem? (i := 37) rfl)) (hw _ (List.mem_of_getElem? (i := 38) rfl)) (hw _ (List.mem_of_getElem? (i := 39) rfl)) (hw _ (List.mem_of_getElem? (i := 40) rfl)) (by decide) (by decide +kernel : parseMethodDescriptor "(II)I" = some ⟨[.int, .int], some .int⟩) rfl (g := (mkF m 62 #[.val (.int x0), .val (.int x1), .val (.int x2), .val (.int x3), .val (.int x4), .val (.ref a1), .val (.int (own_empty (own_bi (x0.toInt % 32)) (own_bi (x1.toInt % 32)) (own_bi (x2.toInt % 32)) (own_bi (x3.toInt % 32)))), .val (.int (own_fz x0)), .val (.int (own_fz x3)), .unset, .unset, .unset, .unset] [(.int (own_maxI ((1 : Int32) + (own_fz x3)) ((own_fz x0) + (own_fz x3)))), (.int (own_maxI (1 : Int32) (own_fz x0)))])) rfl (by rw [hml]; rfl) rfl 0 (by show 2 * 0 + _ ≤ _; exact Nat.le_of_eq rfl) (hb hby at_62) (by decide) (by decide) rfl rfl (by decide) (by decide)
  refine own_go st12 ?_
  show own_Go p e below _ (T12.setTop (mkF m 65 #[.val (.int x0), .val (.int x1), .val (.int x2), .val (.int x3), .val (.int x4), .val (.ref a1), .val (.int (own_empty (own_bi (x0.toInt % 32)) (own_bi (x1.toInt % 32)) (own_bi (x2.toInt % 32)) (own_bi (x3.toInt % 32)))), .val (.int (own_fz x0)), .val (.int (own_fz x3)), .unset, .unset, .unset, .unset] [(.int (own_maxI (own_maxI (1 : Int32) (own_fz x0)) (own_maxI ((1 : Int32) + (own_fz x3)) ((own_fz x0) + (own_fz x3)))))]))
  have hl := own_fz_toInt x0
  have hh := own_fz_toInt x3
  have r0 : 0 ≤ x0.toInt % 32 ∧ x0.toInt % 32 < 32 := by omega
  have r1 : 0 ≤ x1.toInt % 32 ∧ x1.toInt % 32 < 32 := by omega
  have r2 : 0 ≤ x2.toInt % 32 ∧ x2.toInt % 32 < 32 := by omega
  have r3 : 0 ≤ x3.toInt % 32 ∧ x3.toInt % 32 < 32 := by omega
  have sl : (own_fz x0).toInt.natAbs ≤ 16 := by rw [hl]; split <;> omega
  have sh : (own_fz x3).toInt.natAbs ≤ 16 := by rw [hh]; split <;> omega
  have ew : (own_maxI (own_maxI (1 : Int32) (own_fz x0)) (own_maxI ((1 : Int32) + (own_fz x3)) ((own_fz x0) + (own_fz x3)))).toInt = max (max 1 (own_fz x0).toInt) (max (1 + (own_fz x3).toInt) ((own_fz x0).toInt + (own_fz x3).toInt)) := by
    rw [own_maxI_toInt, own_maxI_toInt, own_maxI_toInt, own_small _ _ (by decide) (by omega), own_small _ _ (by omega) (by omega)]; rfl
  obtain ⟨n, hn⟩ : ∃ z, z = (own_maxI (own_maxI (1 : Int32) (own_fz x0)) (own_maxI ((1 : Int32) + (own_fz x3)) ((own_fz x0) + (own_fz x3)))) := ⟨_, rfl⟩
  rw [← hn] at ew
  rw [← hn]
  show own_Go p e below _ (T12.setTop (mkF m 65 #[.val (.int x0), .val (.int x1), .val (.int x2), .val (.int x3), .val (.int x4), .val (.ref a1), .val (.int (own_empty (own_bi (x0.toInt % 32)) (own_bi (x1.toInt % 32)) (own_bi (x2.toInt % 32)) (own_bi (x3.toInt % 32)))), .val (.int (own_fz x0)), .val (.int (own_fz x3)), .unset, .unset, .unset, .unset] [(.int n)]))
  have nb : 1 ≤ n.toInt ∧ n.toInt ≤ 64 := by omega
  refine own_go (fun _ => XS.istore X12.here hx rfl (hb hby at_65) rfl (l' := #[.val (.int x0), .val (.int x1), .val (.int x2), .val (.int x3), .val (.int x4), .val (.ref a1), .val (.int (own_empty (own_bi (x0.toInt % 32)) (own_bi (x1.toInt % 32)) (own_bi (x2.toInt % 32)) (own_bi (x3.toInt % 32)))), .val (.int (own_fz x0)), .val (.int (own_fz x3)), .val (.int n), .unset, .unset, .unset]) rfl) ?_
  show own_Go p e below _ (T12.setTop (mkF m 67 #[.val (.int x0), .val (.int x1), .val (.int x2), .val (.int x3), .val (.int x4), .val (.ref a1), .val (.int (own_empty (own_bi (x0.toInt % 32)) (own_bi (x1.toInt % 32)) (own_bi (x2.toInt % 32)) (own_bi (x3.toInt % 32)))), .val (.int (own_fz x0)), .val (.int (own_fz x3)), .val (.int n), .unset, .unset, .unset] []))
  refine own_go (fun _ => XS.iload X12.here hx rfl (hb hby at_67) rfl) ?_
  show own_Go p e below _ (T12.setTop (mkF m 69 #[.val (.int x0), .val (.int x1), .val (.int x2), .val (.int x3), .val (.int x4), .val (.ref a1), .val (.int (own_empty (own_bi (x0.toInt % 32)) (own_bi (x1.toInt % 32)) (own_bi (x2.toInt % 32)) (own_bi (x3.toInt % 32)))), .val (.int (own_fz x0)), .val (.int (own_fz x3)), .val (.int n), .unset, .unset, .unset] [(.int x4)]))
  refine own_go (fun _ => XS.bipush X12.here hx rfl (hb hby at_69)) ?_
  show own_Go p e below _ (T12.setTop (mkF m 71 #[.val (.int x0), .val (.int x1), .val (.int x2), .val (.int x3), .val (.int x4), .val (.ref a1), .val (.int (own_empty (own_bi (x0.toInt % 32)) (own_bi (x1.toInt % 32)) (own_bi (x2.toInt % 32)) (own_bi (x3.toInt % 32)))), .val (.int (own_fz x0)), .val (.int (own_fz x3)), .val (.int n), .unset, .unset, .unset] [(.int (63 : Int32)), (.int x4)]))
  refine own_go (fun _ => XS.iand X12.here hx rfl (hb hby at_71) rfl) ?_
  show own_Go p e below _ (T12.setTop (mkF m 72 #[.val (.int x0), .val (.int x1), .val (.int x2), .val (.int x3), .val (.int x4), .val (.ref a1), .val (.int (own_empty (own_bi (x0.toInt % 32)) (own_bi (x1.toInt % 32)) (own_bi (x2.toInt % 32)) (own_bi (x3.toInt % 32)))), .val (.int (own_fz x0)), .val (.int (own_fz x3)), .val (.int n), .unset, .unset, .unset] [(.int (x4 &&& (63 : Int32)))]))
  refine own_go (fun _ => XS.istore X12.here hx rfl (hb hby at_72) rfl (l' := #[.val (.int x0), .val (.int x1), .val (.int x2), .val (.int x3), .val (.int x4), .val (.ref a1), .val (.int (own_empty (own_bi (x0.toInt % 32)) (own_bi (x1.toInt % 32)) (own_bi (x2.toInt % 32)) (own_bi (x3.toInt % 32)))), .val (.int (own_fz x0)), .val (.int (own_fz x3)), .val (.int n), .val (.int (x4 &&& (63 : Int32))), .unset, .unset]) rfl) ?_
  show own_Go p e below _ (T12.setTop (mkF m 74 #[.val (.int x0), .val (.int x1), .val (.int x2), .val (.int x3), .val (.int x4), .val (.ref a1), .val (.int (own_empty (own_bi (x0.toInt % 32)) (own_bi (x1.toInt % 32)) (own_bi (x2.toInt % 32)) (own_bi (x3.toInt % 32)))), .val (.int (own_fz x0)), .val (.int (own_fz x3)), .val (.int n), .val (.int (x4 &&& (63 : Int32))), .unset, .unset] []))
  refine own_go (fun _ => XS.aload X12.here hx rfl (hb hby at_74) rfl rfl) ?_
  show own_Go p e below _ (T12.setTop (mkF m 76 #[.val (.int x0), .val (.int x1), .val (.int x2), .val (.int x3), .val (.int x4), .val (.ref a1), .val (.int (own_empty (own_bi (x0.toInt % 32)) (own_bi (x1.toInt % 32)) (own_bi (x2.toInt % 32)) (own_bi (x3.toInt % 32)))), .val (.int (own_fz x0)), .val (.int (own_fz x3)), .val (.int n), .val (.int (x4 &&& (63 : Int32))), .unset, .unset] [(.ref a1)]))
  refine own_go (fun _ => XS.iload X12.here hx rfl (hb hby at_76) rfl) ?_
  show own_Go p e below _ (T12.setTop (mkF m 78 #[.val (.int x0), .val (.int x1), .val (.int x2), .val (.int x3), .val (.int x4), .val (.ref a1), .val (.int (own_empty (own_bi (x0.toInt % 32)) (own_bi (x1.toInt % 32)) (own_bi (x2.toInt % 32)) (own_bi (x3.toInt % 32)))), .val (.int (own_fz x0)), .val (.int (own_fz x3)), .val (.int n), .val (.int (x4 &&& (63 : Int32))), .unset, .unset] [(.int n), (.ref a1)]))
  have es : (x4 &&& (63 : Int32)).toInt = x4.toInt % 64 := c_mask x4 63 6 (by decide) (by decide)
  obtain ⟨_, T13, L13, X13, ⟨z13, rfl, hz13, eh13, rfl⟩, st13⟩ := own_callV X12 hx hZ hown (argsL := [(.int n)]) (rest := []) (own_low_con l Z a0 hw a1 (own_bound x0) (own_bound x1) (own_bound x2) (own_bound x3) (own_bi (x0.toInt % 32)) (own_bi (x1.toInt % 32)) (own_bi (x2.toInt % 32)) (own_bi (x3.toInt % 32)) n T6.heap I6 (own_bound_DE x0) (own_bound_DE x1) (own_bound_DE x2) (own_bound_DE x3) (by omega) []) e12 ex (hw _ (List.mem_of_getElem? (i := 41) rfl)) (hw _ (List.mem_of_getElem? (i := 42) rfl)) (hw _ (List.mem_of_getElem? (i := 44) rfl)) (hw _ (List.mem_of_getElem? (i := 43) rfl)) (hw _ (List.mem_of_getElem? (i := 2) rfl)) (hw _ (List.mem_of_getElem? (i := 45) rfl)) (notFace_of_selects (args := #[]) (mvT hZ (hw _ (List.mem_of_getElem? (i := 44) rfl)))) (by decide) (by decide +kernel : parseMethodDescriptor "(I)I" = some ⟨[.int], some .int⟩) rfl (g := (mkF m 78 #[.val (.int x0), .val (.int x1), .val (.int x2), .val (.int x3), .val (.int x4), .val (.ref a1), .val (.int (own_empty (own_bi (x0.toInt % 32)) (own_bi (x1.toInt % 32)) (own_bi (x2.toInt % 32)) (own_bi (x3.toInt % 32)))), .val (.int (own_fz x0)), .val (.int (own_fz x3)), .val (.int n), .val (.int (x4 &&& (63 : Int32))), .unset, .unset] [(.int n), (.ref a1)])) rfl (by rw [hml]; rfl) rfl 0 (by show 2 * 0 + _ ≤ _; exact Nat.le_of_eq rfl) (hb hby at_78) (by decide) (by decide) (by decide) (by decide)
  rw [List.append_nil] at X13
  refine own_go st13 ?_
  show own_Go p e below _ (T13.setTop (mkF m 81 #[.val (.int x0), .val (.int x1), .val (.int x2), .val (.int x3), .val (.int x4), .val (.ref a1), .val (.int (own_empty (own_bi (x0.toInt % 32)) (own_bi (x1.toInt % 32)) (own_bi (x2.toInt % 32)) (own_bi (x3.toInt % 32)))), .val (.int (own_fz x0)), .val (.int (own_fz x3)), .val (.int n), .val (.int (x4 &&& (63 : Int32))), .unset, .unset] [(.int z13)]))
  refine own_go (fun _ => XS.aload X13.here hx rfl (hb hby at_81) rfl rfl) ?_
  show own_Go p e below _ (T13.setTop (mkF m 83 #[.val (.int x0), .val (.int x1), .val (.int x2), .val (.int x3), .val (.int x4), .val (.ref a1), .val (.int (own_empty (own_bi (x0.toInt % 32)) (own_bi (x1.toInt % 32)) (own_bi (x2.toInt % 32)) (own_bi (x3.toInt % 32)))), .val (.int (own_fz x0)), .val (.int (own_fz x3)), .val (.int n), .val (.int (x4 &&& (63 : Int32))), .unset, .unset] [(.ref a1), (.int z13)]))
  refine own_go (fun _ => XS.iload X13.here hx rfl (hb hby at_83) rfl) ?_
  show own_Go p e below _ (T13.setTop (mkF m 85 #[.val (.int x0), .val (.int x1), .val (.int x2), .val (.int x3), .val (.int x4), .val (.ref a1), .val (.int (own_empty (own_bi (x0.toInt % 32)) (own_bi (x1.toInt % 32)) (own_bi (x2.toInt % 32)) (own_bi (x3.toInt % 32)))), .val (.int (own_fz x0)), .val (.int (own_fz x3)), .val (.int n), .val (.int (x4 &&& (63 : Int32))), .unset, .unset] [(.int n), (.ref a1), (.int z13)]))
  obtain ⟨_, T14, L14, X14, ⟨z14, rfl, hz14, eh14, rfl⟩, st14⟩ := own_callV X13 hx hZ hown (argsL := [(.int n)]) (rest := [(.int z13)]) (own_high_con l Z a0 hw a1 (own_bound x0) (own_bound x1) (own_bound x2) (own_bound x3) (own_bi (x0.toInt % 32)) (own_bi (x1.toInt % 32)) (own_bi (x2.toInt % 32)) (own_bi (x3.toInt % 32)) n T6.heap I6 (own_bound_DE x0) (own_bound_DE x1) (own_bound_DE x2) (own_bound_DE x3) (by omega) []) eh13 ex (hw _ (List.mem_of_getElem? (i := 49) rfl)) (hw _ (List.mem_of_getElem? (i := 50) rfl)) (hw _ (List.mem_of_getElem? (i := 52) rfl)) (hw _ (List.mem_of_getElem? (i := 51) rfl)) (hw _ (List.mem_of_getElem? (i := 2) rfl)) (hw _ (List.mem_of_getElem? (i := 53) rfl)) (notFace_of_selects (args := #[]) (mvT hZ (hw _ (List.mem_of_getElem? (i := 52) rfl)))) (by decide) (by decide +kernel : parseMethodDescriptor "(I)I" = some ⟨[.int], some .int⟩) rfl (g := (mkF m 85 #[.val (.int x0), .val (.int x1), .val (.int x2), .val (.int x3), .val (.int x4), .val (.ref a1), .val (.int (own_empty (own_bi (x0.toInt % 32)) (own_bi (x1.toInt % 32)) (own_bi (x2.toInt % 32)) (own_bi (x3.toInt % 32)))), .val (.int (own_fz x0)), .val (.int (own_fz x3)), .val (.int n), .val (.int (x4 &&& (63 : Int32))), .unset, .unset] [(.int n), (.ref a1), (.int z13)])) rfl (by rw [hml]; rfl) rfl 1 (by show 2 * 0 + _ ≤ _; exact Nat.le_of_eq rfl) (hb hby at_85) (by decide) (by decide) (by decide) (by decide)
  rw [List.append_nil] at X14
  refine own_go st14 ?_
  show own_Go p e below _ (T14.setTop (mkF m 88 #[.val (.int x0), .val (.int x1), .val (.int x2), .val (.int x3), .val (.int x4), .val (.ref a1), .val (.int (own_empty (own_bi (x0.toInt % 32)) (own_bi (x1.toInt % 32)) (own_bi (x2.toInt % 32)) (own_bi (x3.toInt % 32)))), .val (.int (own_fz x0)), .val (.int (own_fz x3)), .val (.int n), .val (.int (x4 &&& (63 : Int32))), .unset, .unset] [(.int z14), (.int z13)]))
  have G98 : ∀ aw : Int32, (aw = 1 ∧ ¬ z14 < z13) ∨ (aw = 0 ∧ z14 < z13) → own_Go p e below (own_Out s (own_Q1 h0.size) room_1.cells room_1.slots) (T14.setTop (mkF m 98 #[.val (.int x0), .val (.int x1), .val (.int x2), .val (.int x3), .val (.int x4), .val (.ref a1), .val (.int (own_empty (own_bi (x0.toInt % 32)) (own_bi (x1.toInt % 32)) (own_bi (x2.toInt % 32)) (own_bi (x3.toInt % 32)))), .val (.int (own_fz x0)), .val (.int (own_fz x3)), .val (.int n), .val (.int (x4 &&& (63 : Int32))), .val (.int aw), .unset] [])) := by
    intro aw haw
    show own_Go p e below _ (T14.setTop (mkF m 98 #[.val (.int x0), .val (.int x1), .val (.int x2), .val (.int x3), .val (.int x4), .val (.ref a1), .val (.int (own_empty (own_bi (x0.toInt % 32)) (own_bi (x1.toInt % 32)) (own_bi (x2.toInt % 32)) (own_bi (x3.toInt % 32)))), .val (.int (own_fz x0)), .val (.int (own_fz x3)), .val (.int n), .val (.int (x4 &&& (63 : Int32))), .val (.int aw), .unset] []))
    refine own_go (fun _ => XS.aload X14.here hx rfl (hb hby at_98) rfl rfl) ?_
    show own_Go p e below _ (T14.setTop (mkF m 100 #[.val (.int x0), .val (.int x1), .val (.int x2), .val (.int x3), .val (.int x4), .val (.ref a1), .val (.int (own_empty (own_bi (x0.toInt % 32)) (own_bi (x1.toInt % 32)) (own_bi (x2.toInt % 32)) (own_bi (x3.toInt % 32)))), .val (.int (own_fz x0)), .val (.int (own_fz x3)), .val (.int n), .val (.int (x4 &&& (63 : Int32))), .val (.int aw), .unset] [(.ref a1)]))
    refine own_go (fun _ => XS.iload X14.here hx rfl (hb hby at_100) rfl) ?_
    show own_Go p e below _ (T14.setTop (mkF m 102 #[.val (.int x0), .val (.int x1), .val (.int x2), .val (.int x3), .val (.int x4), .val (.ref a1), .val (.int (own_empty (own_bi (x0.toInt % 32)) (own_bi (x1.toInt % 32)) (own_bi (x2.toInt % 32)) (own_bi (x3.toInt % 32)))), .val (.int (own_fz x0)), .val (.int (own_fz x3)), .val (.int n), .val (.int (x4 &&& (63 : Int32))), .val (.int aw), .unset] [(.int (x4 &&& (63 : Int32))), (.ref a1)]))
    obtain ⟨_, T15, L15, X15, ⟨z15, rfl, hz15, eh15, rfl⟩, st15⟩ := own_callV X14 hx hZ hown (argsL := [(.int (x4 &&& (63 : Int32)))]) (rest := []) (own_low_con l Z a0 hw a1 (own_bound x0) (own_bound x1) (own_bound x2) (own_bound x3) (own_bi (x0.toInt % 32)) (own_bi (x1.toInt % 32)) (own_bi (x2.toInt % 32)) (own_bi (x3.toInt % 32)) (x4 &&& (63 : Int32)) T6.heap I6 (own_bound_DE x0) (own_bound_DE x1) (own_bound_DE x2) (own_bound_DE x3) (by omega) []) eh14 ex (hw _ (List.mem_of_getElem? (i := 41) rfl)) (hw _ (List.mem_of_getElem? (i := 42) rfl)) (hw _ (List.mem_of_getElem? (i := 44) rfl)) (hw _ (List.mem_of_getElem? (i := 43) rfl)) (hw _ (List.mem_of_getElem? (i := 2) rfl)) (hw _ (List.mem_of_getElem? (i := 45) rfl)) (notFace_of_selects (args := #[]) (mvT hZ (hw _ (List.mem_of_getElem? (i := 44) rfl)))) (by decide) (by decide +kernel : parseMethodDescriptor "(I)I" = some ⟨[.int], some .int⟩) rfl (g := (mkF m 102 #[.val (.int x0), .val (.int x1), .val (.int x2), .val (.int x3), .val (.int x4), .val (.ref a1), .val (.int (own_empty (own_bi (x0.toInt % 32)) (own_bi (x1.toInt % 32)) (own_bi (x2.toInt % 32)) (own_bi (x3.toInt % 32)))), .val (.int (own_fz x0)), .val (.int (own_fz x3)), .val (.int n), .val (.int (x4 &&& (63 : Int32))), .val (.int aw), .unset] [(.int (x4 &&& (63 : Int32))), (.ref a1)])) rfl (by rw [hml]; rfl) rfl 0 (by show 2 * 0 + _ ≤ _; exact Nat.le_of_eq rfl) (hb hby at_102) (by decide) (by decide) (by decide) (by decide)
    rw [List.append_nil] at X15
    refine own_go st15 ?_
    show own_Go p e below _ (T15.setTop (mkF m 105 #[.val (.int x0), .val (.int x1), .val (.int x2), .val (.int x3), .val (.int x4), .val (.ref a1), .val (.int (own_empty (own_bi (x0.toInt % 32)) (own_bi (x1.toInt % 32)) (own_bi (x2.toInt % 32)) (own_bi (x3.toInt % 32)))), .val (.int (own_fz x0)), .val (.int (own_fz x3)), .val (.int n), .val (.int (x4 &&& (63 : Int32))), .val (.int aw), .unset] [(.int z15)]))
    refine own_go (fun _ => XS.aload X15.here hx rfl (hb hby at_105) rfl rfl) ?_
    show own_Go p e below _ (T15.setTop (mkF m 107 #[.val (.int x0), .val (.int x1), .val (.int x2), .val (.int x3), .val (.int x4), .val (.ref a1), .val (.int (own_empty (own_bi (x0.toInt % 32)) (own_bi (x1.toInt % 32)) (own_bi (x2.toInt % 32)) (own_bi (x3.toInt % 32)))), .val (.int (own_fz x0)), .val (.int (own_fz x3)), .val (.int n), .val (.int (x4 &&& (63 : Int32))), .val (.int aw), .unset] [(.ref a1), (.int z15)]))
    refine own_go (fun _ => XS.iload X15.here hx rfl (hb hby at_107) rfl) ?_
    show own_Go p e below _ (T15.setTop (mkF m 109 #[.val (.int x0), .val (.int x1), .val (.int x2), .val (.int x3), .val (.int x4), .val (.ref a1), .val (.int (own_empty (own_bi (x0.toInt % 32)) (own_bi (x1.toInt % 32)) (own_bi (x2.toInt % 32)) (own_bi (x3.toInt % 32)))), .val (.int (own_fz x0)), .val (.int (own_fz x3)), .val (.int n), .val (.int (x4 &&& (63 : Int32))), .val (.int aw), .unset] [(.int (x4 &&& (63 : Int32))), (.ref a1), (.int z15)]))
    obtain ⟨_, T16, L16, X16, ⟨z16, rfl, hz16, eh16, rfl⟩, st16⟩ := own_callV X15 hx hZ hown (argsL := [(.int (x4 &&& (63 : Int32)))]) (rest := [(.int z15)]) (own_high_con l Z a0 hw a1 (own_bound x0) (own_bound x1) (own_bound x2) (own_bound x3) (own_bi (x0.toInt % 32)) (own_bi (x1.toInt % 32)) (own_bi (x2.toInt % 32)) (own_bi (x3.toInt % 32)) (x4 &&& (63 : Int32)) T6.heap I6 (own_bound_DE x0) (own_bound_DE x1) (own_bound_DE x2) (own_bound_DE x3) (by omega) []) eh15 ex (hw _ (List.mem_of_getElem? (i := 49) rfl)) (hw _ (List.mem_of_getElem? (i := 50) rfl)) (hw _ (List.mem_of_getElem? (i := 52) rfl)) (hw _ (List.mem_of_getElem? (i := 51) rfl)) (hw _ (List.mem_of_getElem? (i := 2) rfl)) (hw _ (List.mem_of_getElem? (i := 53) rfl)) (notFace_of_selects (args := #[]) (mvT hZ (hw _ (List.mem_of_getElem? (i := 52) rfl)))) (by decide) (by decide +kernel : parseMethodDescriptor "(I)I" = some ⟨[.int], some .int⟩) rfl (g := (mkF m 109 #[.val (.int x0), .val (.int x1), .val (.int x2), .val (.int x3), .val (.int x4), .val (.ref a1), .val (.int (own_empty (own_bi (x0.toInt % 32)) (own_bi (x1.toInt % 32)) (own_bi (x2.toInt % 32)) (own_bi (x3.toInt % 32)))), .val (.int (own_fz x0)), .val (.int (own_fz x3)), .val (.int n), .val (.int (x4 &&& (63 : Int32))), .val (.int aw), .unset] [(.int (x4 &&& (63 : Int32))), (.ref a1), (.int z15)])) rfl (by rw [hml]; rfl) rfl 1 (by show 2 * 0 + _ ≤ _; exact Nat.le_of_eq rfl) (hb hby at_109) (by decide) (by decide) (by decide) (by decide)
    rw [List.append_nil] at X16
    refine own_go st16 ?_
    show own_Go p e below _ (T16.setTop (mkF m 112 #[.val (.int x0), .val (.int x1), .val (.int x2), .val (.int x3), .val (.int x4), .val (.ref a1), .val (.int (own_empty (own_bi (x0.toInt % 32)) (own_bi (x1.toInt % 32)) (own_bi (x2.toInt % 32)) (own_bi (x3.toInt % 32)))), .val (.int (own_fz x0)), .val (.int (own_fz x3)), .val (.int n), .val (.int (x4 &&& (63 : Int32))), .val (.int aw), .unset] [(.int z16), (.int z15)]))
    by_cases c2 : z16 < z15
    · skip
      refine own_go (fun _ => XS.icmpYes X16.here hx rfl (pc0 := 112) (pc' := 119) rfl (hb hby at_112) rfl (XT.ii_gt_t c2) (by decide) (by decide)) ?_
      show own_Go p e below _ (T16.setTop (mkF m 119 #[.val (.int x0), .val (.int x1), .val (.int x2), .val (.int x3), .val (.int x4), .val (.ref a1), .val (.int (own_empty (own_bi (x0.toInt % 32)) (own_bi (x1.toInt % 32)) (own_bi (x2.toInt % 32)) (own_bi (x3.toInt % 32)))), .val (.int (own_fz x0)), .val (.int (own_fz x3)), .val (.int n), .val (.int (x4 &&& (63 : Int32))), .val (.int aw), .unset] []))
      refine own_go (fun _ => XS.iconst X16.here hx rfl (hb hby at_119)) ?_
      show own_Go p e below _ (T16.setTop (mkF m 120 #[.val (.int x0), .val (.int x1), .val (.int x2), .val (.int x3), .val (.int x4), .val (.ref a1), .val (.int (own_empty (own_bi (x0.toInt % 32)) (own_bi (x1.toInt % 32)) (own_bi (x2.toInt % 32)) (own_bi (x3.toInt % 32)))), .val (.int (own_fz x0)), .val (.int (own_fz x3)), .val (.int n), .val (.int (x4 &&& (63 : Int32))), .val (.int aw), .unset] [(.int (0 : Int32))]))
      refine own_go (fun _ => XS.istore X16.here hx rfl (hb hby at_120) rfl (l' := #[.val (.int x0), .val (.int x1), .val (.int x2), .val (.int x3), .val (.int x4), .val (.ref a1), .val (.int (own_empty (own_bi (x0.toInt % 32)) (own_bi (x1.toInt % 32)) (own_bi (x2.toInt % 32)) (own_bi (x3.toInt % 32)))), .val (.int (own_fz x0)), .val (.int (own_fz x3)), .val (.int n), .val (.int (x4 &&& (63 : Int32))), .val (.int aw), .val (.int (0 : Int32))]) rfl) ?_
      show own_Go p e below _ (T16.setTop (mkF m 122 #[.val (.int x0), .val (.int x1), .val (.int x2), .val (.int x3), .val (.int x4), .val (.ref a1), .val (.int (own_empty (own_bi (x0.toInt % 32)) (own_bi (x1.toInt % 32)) (own_bi (x2.toInt % 32)) (own_bi (x3.toInt % 32)))), .val (.int (own_fz x0)), .val (.int (own_fz x3)), .val (.int n), .val (.int (x4 &&& (63 : Int32))), .val (.int aw), .val (.int (0 : Int32))] []))
      refine own_go (fun _ => XS.iload X16.here hx rfl (hb hby at_122) rfl) ?_
      show own_Go p e below _ (T16.setTop (mkF m 124 #[.val (.int x0), .val (.int x1), .val (.int x2), .val (.int x3), .val (.int x4), .val (.ref a1), .val (.int (own_empty (own_bi (x0.toInt % 32)) (own_bi (x1.toInt % 32)) (own_bi (x2.toInt % 32)) (own_bi (x3.toInt % 32)))), .val (.int (own_fz x0)), .val (.int (own_fz x3)), .val (.int n), .val (.int (x4 &&& (63 : Int32))), .val (.int aw), .val (.int (0 : Int32))] [(.int (own_empty (own_bi (x0.toInt % 32)) (own_bi (x1.toInt % 32)) (own_bi (x2.toInt % 32)) (own_bi (x3.toInt % 32))))]))
      rcases own_e01 (own_bi (x0.toInt % 32)) (own_bi (x1.toInt % 32)) (own_bi (x2.toInt % 32)) (own_bi (x3.toInt % 32)) with he | he
      · skip
        rw [he]
        show own_Go p e below _ (T16.setTop (mkF m 124 #[.val (.int x0), .val (.int x1), .val (.int x2), .val (.int x3), .val (.int x4), .val (.ref a1), .val (.int (0 : Int32)), .val (.int (own_fz x0)), .val (.int (own_fz x3)), .val (.int n), .val (.int (x4 &&& (63 : Int32))), .val (.int aw), .val (.int (0 : Int32))] [(.int (0 : Int32))]))
        refine own_go (fun _ => XS.ifYes X16.here hx rfl (pc0 := 124) (pc' := 145) rfl (hb hby at_124) rfl (XT.i0_eq_t (by decide)) (by decide) (by decide)) ?_
        show own_Go p e below _ (T16.setTop (mkF m 145 #[.val (.int x0), .val (.int x1), .val (.int x2), .val (.int x3), .val (.int x4), .val (.ref a1), .val (.int (0 : Int32)), .val (.int (own_fz x0)), .val (.int (own_fz x3)), .val (.int n), .val (.int (x4 &&& (63 : Int32))), .val (.int aw), .val (.int (0 : Int32))] []))
        refine own_go (fun _ => XS.iload X16.here hx rfl (hb hby at_145) rfl) ?_
        show own_Go p e below _ (T16.setTop (mkF m 147 #[.val (.int x0), .val (.int x1), .val (.int x2), .val (.int x3), .val (.int x4), .val (.ref a1), .val (.int (0 : Int32)), .val (.int (own_fz x0)), .val (.int (own_fz x3)), .val (.int n), .val (.int (x4 &&& (63 : Int32))), .val (.int aw), .val (.int (0 : Int32))] [(.int aw)]))
        have k := own_no _ _ _ _ (own_fz x0).toInt (own_fz x3).toInt _ (own_B_bi _ r0) (own_B_bi _ r1) (own_B_bi _ r2) (own_B_bi _ r3) (by rw [hl]; unfold own_bi; repeat' split; all_goals omega) (by rw [hh]; unfold own_bi; repeat' split; all_goals omega) ew he
        have aw1 : aw = 1 := by
          rcases haw with ⟨r, -⟩ | ⟨-, r⟩
          · exact r
          · exfalso; rw [Int32.lt_iff_toInt_lt, hz14, hz13] at r; unfold own_lo own_hi at k; omega
        subst aw1
        show own_Go p e below _ (T16.setTop (mkF m 147 #[.val (.int x0), .val (.int x1), .val (.int x2), .val (.int x3), .val (.int x4), .val (.ref a1), .val (.int (0 : Int32)), .val (.int (own_fz x0)), .val (.int (own_fz x3)), .val (.int n), .val (.int (x4 &&& (63 : Int32))), .val (.int (1 : Int32)), .val (.int (0 : Int32))] [(.int (1 : Int32))]))
        exact own_iret X16 hx hlk hret (Or.inr (Or.inl rfl)) rfl (hb hby at_147) (by decide) (by decide) ⟨rfl, N6⟩
      · skip
        rw [he]
        show own_Go p e below _ (T16.setTop (mkF m 124 #[.val (.int x0), .val (.int x1), .val (.int x2), .val (.int x3), .val (.int x4), .val (.ref a1), .val (.int (1 : Int32)), .val (.int (own_fz x0)), .val (.int (own_fz x3)), .val (.int n), .val (.int (x4 &&& (63 : Int32))), .val (.int aw), .val (.int (0 : Int32))] [(.int (1 : Int32))]))
        refine own_go (fun _ => XS.ifNo X16.here hx rfl (hb hby at_124) rfl (XT.i0_eq_f (by decide))) ?_
        show own_Go p e below _ (T16.setTop (mkF m 127 #[.val (.int x0), .val (.int x1), .val (.int x2), .val (.int x3), .val (.int x4), .val (.ref a1), .val (.int (1 : Int32)), .val (.int (own_fz x0)), .val (.int (own_fz x3)), .val (.int n), .val (.int (x4 &&& (63 : Int32))), .val (.int aw), .val (.int (0 : Int32))] []))
        have k1 := own_yes _ _ _ _ n.toInt (own_B_bi _ r0) (own_B_bi _ r1) (own_B_bi _ r2) (own_B_bi _ r3) (by omega) he
        have k2 := own_yes _ _ _ _ (x4 &&& (63 : Int32)).toInt (own_B_bi _ r0) (own_B_bi _ r1) (own_B_bi _ r2) (own_B_bi _ r3) (by omega) he
        unfold own_lo own_hi at k1 k2
        have aw0 : aw = 0 := by
          rcases haw with ⟨-, r⟩ | ⟨r, -⟩
          · exfalso; apply r; rw [Int32.lt_iff_toInt_lt, hz14, hz13]; omega
          · exact r
        subst aw0
        show own_Go p e below _ (T16.setTop (mkF m 127 #[.val (.int x0), .val (.int x1), .val (.int x2), .val (.int x3), .val (.int x4), .val (.ref a1), .val (.int (1 : Int32)), .val (.int (own_fz x0)), .val (.int (own_fz x3)), .val (.int n), .val (.int (x4 &&& (63 : Int32))), .val (.int (0 : Int32)), .val (.int (0 : Int32))] []))
        refine own_go (fun _ => XS.iload X16.here hx rfl (hb hby at_127) rfl) ?_
        show own_Go p e below _ (T16.setTop (mkF m 129 #[.val (.int x0), .val (.int x1), .val (.int x2), .val (.int x3), .val (.int x4), .val (.ref a1), .val (.int (1 : Int32)), .val (.int (own_fz x0)), .val (.int (own_fz x3)), .val (.int n), .val (.int (x4 &&& (63 : Int32))), .val (.int (0 : Int32)), .val (.int (0 : Int32))] [(.int (0 : Int32))]))
        refine own_go (fun _ => XS.ifNo X16.here hx rfl (hb hby at_129) rfl (XT.i0_ne_f (by decide))) ?_
        show own_Go p e below _ (T16.setTop (mkF m 132 #[.val (.int x0), .val (.int x1), .val (.int x2), .val (.int x3), .val (.int x4), .val (.ref a1), .val (.int (1 : Int32)), .val (.int (own_fz x0)), .val (.int (own_fz x3)), .val (.int n), .val (.int (x4 &&& (63 : Int32))), .val (.int (0 : Int32)), .val (.int (0 : Int32))] []))
        refine own_go (fun _ => XS.iload X16.here hx rfl (hb hby at_132) rfl) ?_
        show own_Go p e below _ (T16.setTop (mkF m 134 #[.val (.int x0), .val (.int x1), .val (.int x2), .val (.int x3), .val (.int x4), .val (.ref a1), .val (.int (1 : Int32)), .val (.int (own_fz x0)), .val (.int (own_fz x3)), .val (.int n), .val (.int (x4 &&& (63 : Int32))), .val (.int (0 : Int32)), .val (.int (0 : Int32))] [(.int (0 : Int32))]))
        refine own_go (fun _ => XS.ifNo X16.here hx rfl (hb hby at_134) rfl (XT.i0_ne_f (by decide))) ?_
        show own_Go p e below _ (T16.setTop (mkF m 137 #[.val (.int x0), .val (.int x1), .val (.int x2), .val (.int x3), .val (.int x4), .val (.ref a1), .val (.int (1 : Int32)), .val (.int (own_fz x0)), .val (.int (own_fz x3)), .val (.int n), .val (.int (x4 &&& (63 : Int32))), .val (.int (0 : Int32)), .val (.int (0 : Int32))] []))
        refine own_go (fun _ => XS.iconst X16.here hx rfl (hb hby at_137)) ?_
        show own_Go p e below _ (T16.setTop (mkF m 138 #[.val (.int x0), .val (.int x1), .val (.int x2), .val (.int x3), .val (.int x4), .val (.ref a1), .val (.int (1 : Int32)), .val (.int (own_fz x0)), .val (.int (own_fz x3)), .val (.int n), .val (.int (x4 &&& (63 : Int32))), .val (.int (0 : Int32)), .val (.int (0 : Int32))] [(.int (1 : Int32))]))
        refine own_go (fun _ => XS.goto X16.here hx rfl (pc0 := 138) (pc' := 147) rfl (hb hby at_138) (by decide) (by decide)) ?_
        show own_Go p e below _ (T16.setTop (mkF m 147 #[.val (.int x0), .val (.int x1), .val (.int x2), .val (.int x3), .val (.int x4), .val (.ref a1), .val (.int (1 : Int32)), .val (.int (own_fz x0)), .val (.int (own_fz x3)), .val (.int n), .val (.int (x4 &&& (63 : Int32))), .val (.int (0 : Int32)), .val (.int (0 : Int32))] [(.int (1 : Int32))]))
        exact own_iret X16 hx hlk hret (Or.inr (Or.inl rfl)) rfl (hb hby at_147) (by decide) (by decide) ⟨rfl, N6⟩
    · skip
      refine own_go (fun _ => XS.icmpNo X16.here hx rfl (hb hby at_112) rfl (XT.ii_gt_f c2)) ?_
      show own_Go p e below _ (T16.setTop (mkF m 115 #[.val (.int x0), .val (.int x1), .val (.int x2), .val (.int x3), .val (.int x4), .val (.ref a1), .val (.int (own_empty (own_bi (x0.toInt % 32)) (own_bi (x1.toInt % 32)) (own_bi (x2.toInt % 32)) (own_bi (x3.toInt % 32)))), .val (.int (own_fz x0)), .val (.int (own_fz x3)), .val (.int n), .val (.int (x4 &&& (63 : Int32))), .val (.int aw), .unset] []))
      refine own_go (fun _ => XS.iconst X16.here hx rfl (hb hby at_115)) ?_
      show own_Go p e below _ (T16.setTop (mkF m 116 #[.val (.int x0), .val (.int x1), .val (.int x2), .val (.int x3), .val (.int x4), .val (.ref a1), .val (.int (own_empty (own_bi (x0.toInt % 32)) (own_bi (x1.toInt % 32)) (own_bi (x2.toInt % 32)) (own_bi (x3.toInt % 32)))), .val (.int (own_fz x0)), .val (.int (own_fz x3)), .val (.int n), .val (.int (x4 &&& (63 : Int32))), .val (.int aw), .unset] [(.int (1 : Int32))]))
      refine own_go (fun _ => XS.goto X16.here hx rfl (pc0 := 116) (pc' := 120) rfl (hb hby at_116) (by decide) (by decide)) ?_
      show own_Go p e below _ (T16.setTop (mkF m 120 #[.val (.int x0), .val (.int x1), .val (.int x2), .val (.int x3), .val (.int x4), .val (.ref a1), .val (.int (own_empty (own_bi (x0.toInt % 32)) (own_bi (x1.toInt % 32)) (own_bi (x2.toInt % 32)) (own_bi (x3.toInt % 32)))), .val (.int (own_fz x0)), .val (.int (own_fz x3)), .val (.int n), .val (.int (x4 &&& (63 : Int32))), .val (.int aw), .unset] [(.int (1 : Int32))]))
      refine own_go (fun _ => XS.istore X16.here hx rfl (hb hby at_120) rfl (l' := #[.val (.int x0), .val (.int x1), .val (.int x2), .val (.int x3), .val (.int x4), .val (.ref a1), .val (.int (own_empty (own_bi (x0.toInt % 32)) (own_bi (x1.toInt % 32)) (own_bi (x2.toInt % 32)) (own_bi (x3.toInt % 32)))), .val (.int (own_fz x0)), .val (.int (own_fz x3)), .val (.int n), .val (.int (x4 &&& (63 : Int32))), .val (.int aw), .val (.int (1 : Int32))]) rfl) ?_
      show own_Go p e below _ (T16.setTop (mkF m 122 #[.val (.int x0), .val (.int x1), .val (.int x2), .val (.int x3), .val (.int x4), .val (.ref a1), .val (.int (own_empty (own_bi (x0.toInt % 32)) (own_bi (x1.toInt % 32)) (own_bi (x2.toInt % 32)) (own_bi (x3.toInt % 32)))), .val (.int (own_fz x0)), .val (.int (own_fz x3)), .val (.int n), .val (.int (x4 &&& (63 : Int32))), .val (.int aw), .val (.int (1 : Int32))] []))
      refine own_go (fun _ => XS.iload X16.here hx rfl (hb hby at_122) rfl) ?_
      show own_Go p e below _ (T16.setTop (mkF m 124 #[.val (.int x0), .val (.int x1), .val (.int x2), .val (.int x3), .val (.int x4), .val (.ref a1), .val (.int (own_empty (own_bi (x0.toInt % 32)) (own_bi (x1.toInt % 32)) (own_bi (x2.toInt % 32)) (own_bi (x3.toInt % 32)))), .val (.int (own_fz x0)), .val (.int (own_fz x3)), .val (.int n), .val (.int (x4 &&& (63 : Int32))), .val (.int aw), .val (.int (1 : Int32))] [(.int (own_empty (own_bi (x0.toInt % 32)) (own_bi (x1.toInt % 32)) (own_bi (x2.toInt % 32)) (own_bi (x3.toInt % 32))))]))
      rcases own_e01 (own_bi (x0.toInt % 32)) (own_bi (x1.toInt % 32)) (own_bi (x2.toInt % 32)) (own_bi (x3.toInt % 32)) with he | he
      · skip
        rw [he]
        show own_Go p e below _ (T16.setTop (mkF m 124 #[.val (.int x0), .val (.int x1), .val (.int x2), .val (.int x3), .val (.int x4), .val (.ref a1), .val (.int (0 : Int32)), .val (.int (own_fz x0)), .val (.int (own_fz x3)), .val (.int n), .val (.int (x4 &&& (63 : Int32))), .val (.int aw), .val (.int (1 : Int32))] [(.int (0 : Int32))]))
        refine own_go (fun _ => XS.ifYes X16.here hx rfl (pc0 := 124) (pc' := 145) rfl (hb hby at_124) rfl (XT.i0_eq_t (by decide)) (by decide) (by decide)) ?_
        show own_Go p e below _ (T16.setTop (mkF m 145 #[.val (.int x0), .val (.int x1), .val (.int x2), .val (.int x3), .val (.int x4), .val (.ref a1), .val (.int (0 : Int32)), .val (.int (own_fz x0)), .val (.int (own_fz x3)), .val (.int n), .val (.int (x4 &&& (63 : Int32))), .val (.int aw), .val (.int (1 : Int32))] []))
        refine own_go (fun _ => XS.iload X16.here hx rfl (hb hby at_145) rfl) ?_
        show own_Go p e below _ (T16.setTop (mkF m 147 #[.val (.int x0), .val (.int x1), .val (.int x2), .val (.int x3), .val (.int x4), .val (.ref a1), .val (.int (0 : Int32)), .val (.int (own_fz x0)), .val (.int (own_fz x3)), .val (.int n), .val (.int (x4 &&& (63 : Int32))), .val (.int aw), .val (.int (1 : Int32))] [(.int aw)]))
        have k := own_no _ _ _ _ (own_fz x0).toInt (own_fz x3).toInt _ (own_B_bi _ r0) (own_B_bi _ r1) (own_B_bi _ r2) (own_B_bi _ r3) (by rw [hl]; unfold own_bi; repeat' split; all_goals omega) (by rw [hh]; unfold own_bi; repeat' split; all_goals omega) ew he
        have aw1 : aw = 1 := by
          rcases haw with ⟨r, -⟩ | ⟨-, r⟩
          · exact r
          · exfalso; rw [Int32.lt_iff_toInt_lt, hz14, hz13] at r; unfold own_lo own_hi at k; omega
        subst aw1
        show own_Go p e below _ (T16.setTop (mkF m 147 #[.val (.int x0), .val (.int x1), .val (.int x2), .val (.int x3), .val (.int x4), .val (.ref a1), .val (.int (0 : Int32)), .val (.int (own_fz x0)), .val (.int (own_fz x3)), .val (.int n), .val (.int (x4 &&& (63 : Int32))), .val (.int (1 : Int32)), .val (.int (1 : Int32))] [(.int (1 : Int32))]))
        exact own_iret X16 hx hlk hret (Or.inr (Or.inl rfl)) rfl (hb hby at_147) (by decide) (by decide) ⟨rfl, N6⟩
      · skip
        rw [he]
        show own_Go p e below _ (T16.setTop (mkF m 124 #[.val (.int x0), .val (.int x1), .val (.int x2), .val (.int x3), .val (.int x4), .val (.ref a1), .val (.int (1 : Int32)), .val (.int (own_fz x0)), .val (.int (own_fz x3)), .val (.int n), .val (.int (x4 &&& (63 : Int32))), .val (.int aw), .val (.int (1 : Int32))] [(.int (1 : Int32))]))
        refine own_go (fun _ => XS.ifNo X16.here hx rfl (hb hby at_124) rfl (XT.i0_eq_f (by decide))) ?_
        show own_Go p e below _ (T16.setTop (mkF m 127 #[.val (.int x0), .val (.int x1), .val (.int x2), .val (.int x3), .val (.int x4), .val (.ref a1), .val (.int (1 : Int32)), .val (.int (own_fz x0)), .val (.int (own_fz x3)), .val (.int n), .val (.int (x4 &&& (63 : Int32))), .val (.int aw), .val (.int (1 : Int32))] []))
        have k1 := own_yes _ _ _ _ n.toInt (own_B_bi _ r0) (own_B_bi _ r1) (own_B_bi _ r2) (own_B_bi _ r3) (by omega) he
        have k2 := own_yes _ _ _ _ (x4 &&& (63 : Int32)).toInt (own_B_bi _ r0) (own_B_bi _ r1) (own_B_bi _ r2) (own_B_bi _ r3) (by omega) he
        unfold own_lo own_hi at k1 k2
        have aw0 : aw = 0 := by
          rcases haw with ⟨-, r⟩ | ⟨r, -⟩
          · exfalso; apply r; rw [Int32.lt_iff_toInt_lt, hz14, hz13]; omega
          · exact r
        subst aw0
        show own_Go p e below _ (T16.setTop (mkF m 127 #[.val (.int x0), .val (.int x1), .val (.int x2), .val (.int x3), .val (.int x4), .val (.ref a1), .val (.int (1 : Int32)), .val (.int (own_fz x0)), .val (.int (own_fz x3)), .val (.int n), .val (.int (x4 &&& (63 : Int32))), .val (.int (0 : Int32)), .val (.int (1 : Int32))] []))
        refine own_go (fun _ => XS.iload X16.here hx rfl (hb hby at_127) rfl) ?_
        show own_Go p e below _ (T16.setTop (mkF m 129 #[.val (.int x0), .val (.int x1), .val (.int x2), .val (.int x3), .val (.int x4), .val (.ref a1), .val (.int (1 : Int32)), .val (.int (own_fz x0)), .val (.int (own_fz x3)), .val (.int n), .val (.int (x4 &&& (63 : Int32))), .val (.int (0 : Int32)), .val (.int (1 : Int32))] [(.int (0 : Int32))]))
        refine own_go (fun _ => XS.ifNo X16.here hx rfl (hb hby at_129) rfl (XT.i0_ne_f (by decide))) ?_
        show own_Go p e below _ (T16.setTop (mkF m 132 #[.val (.int x0), .val (.int x1), .val (.int x2), .val (.int x3), .val (.int x4), .val (.ref a1), .val (.int (1 : Int32)), .val (.int (own_fz x0)), .val (.int (own_fz x3)), .val (.int n), .val (.int (x4 &&& (63 : Int32))), .val (.int (0 : Int32)), .val (.int (1 : Int32))] []))
        refine own_go (fun _ => XS.iload X16.here hx rfl (hb hby at_132) rfl) ?_
        show own_Go p e below _ (T16.setTop (mkF m 134 #[.val (.int x0), .val (.int x1), .val (.int x2), .val (.int x3), .val (.int x4), .val (.ref a1), .val (.int (1 : Int32)), .val (.int (own_fz x0)), .val (.int (own_fz x3)), .val (.int n), .val (.int (x4 &&& (63 : Int32))), .val (.int (0 : Int32)), .val (.int (1 : Int32))] [(.int (1 : Int32))]))
        exfalso; apply c2; rw [Int32.lt_iff_toInt_lt, hz16, hz15]; omega
  show own_Go p e below _ (T14.setTop (mkF m 88 #[.val (.int x0), .val (.int x1), .val (.int x2), .val (.int x3), .val (.int x4), .val (.ref a1), .val (.int (own_empty (own_bi (x0.toInt % 32)) (own_bi (x1.toInt % 32)) (own_bi (x2.toInt % 32)) (own_bi (x3.toInt % 32)))), .val (.int (own_fz x0)), .val (.int (own_fz x3)), .val (.int n), .val (.int (x4 &&& (63 : Int32))), .unset, .unset] [(.int z14), (.int z13)]))
  by_cases c1 : z14 < z13
  · skip
    refine own_go (fun _ => XS.icmpYes X14.here hx rfl (pc0 := 88) (pc' := 95) rfl (hb hby at_88) rfl (XT.ii_gt_t c1) (by decide) (by decide)) ?_
    show own_Go p e below _ (T14.setTop (mkF m 95 #[.val (.int x0), .val (.int x1), .val (.int x2), .val (.int x3), .val (.int x4), .val (.ref a1), .val (.int (own_empty (own_bi (x0.toInt % 32)) (own_bi (x1.toInt % 32)) (own_bi (x2.toInt % 32)) (own_bi (x3.toInt % 32)))), .val (.int (own_fz x0)), .val (.int (own_fz x3)), .val (.int n), .val (.int (x4 &&& (63 : Int32))), .unset, .unset] []))
    refine own_go (fun _ => XS.iconst X14.here hx rfl (hb hby at_95)) ?_
    show own_Go p e below _ (T14.setTop (mkF m 96 #[.val (.int x0), .val (.int x1), .val (.int x2), .val (.int x3), .val (.int x4), .val (.ref a1), .val (.int (own_empty (own_bi (x0.toInt % 32)) (own_bi (x1.toInt % 32)) (own_bi (x2.toInt % 32)) (own_bi (x3.toInt % 32)))), .val (.int (own_fz x0)), .val (.int (own_fz x3)), .val (.int n), .val (.int (x4 &&& (63 : Int32))), .unset, .unset] [(.int (0 : Int32))]))
    refine own_go (fun _ => XS.istore X14.here hx rfl (hb hby at_96) rfl (l' := #[.val (.int x0), .val (.int x1), .val (.int x2), .val (.int x3), .val (.int x4), .val (.ref a1), .val (.int (own_empty (own_bi (x0.toInt % 32)) (own_bi (x1.toInt % 32)) (own_bi (x2.toInt % 32)) (own_bi (x3.toInt % 32)))), .val (.int (own_fz x0)), .val (.int (own_fz x3)), .val (.int n), .val (.int (x4 &&& (63 : Int32))), .val (.int (0 : Int32)), .unset]) rfl) ?_
    show own_Go p e below _ (T14.setTop (mkF m 98 #[.val (.int x0), .val (.int x1), .val (.int x2), .val (.int x3), .val (.int x4), .val (.ref a1), .val (.int (own_empty (own_bi (x0.toInt % 32)) (own_bi (x1.toInt % 32)) (own_bi (x2.toInt % 32)) (own_bi (x3.toInt % 32)))), .val (.int (own_fz x0)), .val (.int (own_fz x3)), .val (.int n), .val (.int (x4 &&& (63 : Int32))), .val (.int (0 : Int32)), .unset] []))
    exact G98 _ (Or.inr ⟨rfl, c1⟩)
  · skip
    refine own_go (fun _ => XS.icmpNo X14.here hx rfl (hb hby at_88) rfl (XT.ii_gt_f c1)) ?_
    show own_Go p e below _ (T14.setTop (mkF m 91 #[.val (.int x0), .val (.int x1), .val (.int x2), .val (.int x3), .val (.int x4), .val (.ref a1), .val (.int (own_empty (own_bi (x0.toInt % 32)) (own_bi (x1.toInt % 32)) (own_bi (x2.toInt % 32)) (own_bi (x3.toInt % 32)))), .val (.int (own_fz x0)), .val (.int (own_fz x3)), .val (.int n), .val (.int (x4 &&& (63 : Int32))), .unset, .unset] []))
    refine own_go (fun _ => XS.iconst X14.here hx rfl (hb hby at_91)) ?_
    show own_Go p e below _ (T14.setTop (mkF m 92 #[.val (.int x0), .val (.int x1), .val (.int x2), .val (.int x3), .val (.int x4), .val (.ref a1), .val (.int (own_empty (own_bi (x0.toInt % 32)) (own_bi (x1.toInt % 32)) (own_bi (x2.toInt % 32)) (own_bi (x3.toInt % 32)))), .val (.int (own_fz x0)), .val (.int (own_fz x3)), .val (.int n), .val (.int (x4 &&& (63 : Int32))), .unset, .unset] [(.int (1 : Int32))]))
    refine own_go (fun _ => XS.goto X14.here hx rfl (pc0 := 92) (pc' := 96) rfl (hb hby at_92) (by decide) (by decide)) ?_
    show own_Go p e below _ (T14.setTop (mkF m 96 #[.val (.int x0), .val (.int x1), .val (.int x2), .val (.int x3), .val (.int x4), .val (.ref a1), .val (.int (own_empty (own_bi (x0.toInt % 32)) (own_bi (x1.toInt % 32)) (own_bi (x2.toInt % 32)) (own_bi (x3.toInt % 32)))), .val (.int (own_fz x0)), .val (.int (own_fz x3)), .val (.int n), .val (.int (x4 &&& (63 : Int32))), .unset, .unset] [(.int (1 : Int32))]))
    refine own_go (fun _ => XS.istore X14.here hx rfl (hb hby at_96) rfl (l' := #[.val (.int x0), .val (.int x1), .val (.int x2), .val (.int x3), .val (.int x4), .val (.ref a1), .val (.int (own_empty (own_bi (x0.toInt % 32)) (own_bi (x1.toInt % 32)) (own_bi (x2.toInt % 32)) (own_bi (x3.toInt % 32)))), .val (.int (own_fz x0)), .val (.int (own_fz x3)), .val (.int n), .val (.int (x4 &&& (63 : Int32))), .val (.int (1 : Int32)), .unset]) rfl) ?_
    show own_Go p e below _ (T14.setTop (mkF m 98 #[.val (.int x0), .val (.int x1), .val (.int x2), .val (.int x3), .val (.int x4), .val (.ref a1), .val (.int (own_empty (own_bi (x0.toInt % 32)) (own_bi (x1.toInt % 32)) (own_bi (x2.toInt % 32)) (own_bi (x3.toInt % 32)))), .val (.int (own_fz x0)), .val (.int (own_fz x3)), .val (.int n), .val (.int (x4 &&& (63 : Int32))), .val (.int (1 : Int32)), .unset] []))
    exact G98 _ (Or.inl ⟨rfl, c1⟩)
set_option maxRecDepth 65536 in
set_option maxHeartbeats 40000000 in
theorem comes_1 {Post : Tables → Env → Array Value → State → Outcome → State → Prop} (hpost : ∀ tb e args s v u, (limb_1_1.after args s (.returned v) u = true ∧ limb_1_2.after args s (.returned v) u = true ∧ True) → FrameEnd s (.returned v) u (Jvm.fieldLocs frame_1_writes args s ++ Jvm.arrayLocs frame_1_arrays args s ++ Jvm.staticLocs frame_1_statics s) 16 128 → Post tb e args s (.returned v) u) :
    ArmFor flags0 classFile x code maxLocals ret World_1 tables_1 room_1 Calls_1 rest_1 Pre_1 Post := by
  intro l hfl _ _ p e ha hc hk s m args below hf hA hF happ hP
  obtain ⟨hcalls, hrest, hpre⟩ := hP
  obtain ⟨-, -, -, hnamed, -, -, -, hat⟩ := (Spec.applies_iff hf).mp happ
  obtain ⟨hg, hn⟩ := and_e (Cond.before_iff.mp (show (Jvm.Cond.and given_1 narrow_1).before args s = true from hpre))
  obtain ⟨gc, gr0⟩ := and_e hg
  obtain ⟨g0, gr1⟩ := and_e gr0
  obtain ⟨g1, gr2⟩ := and_e gr1
  obtain ⟨g2, gr3⟩ := and_e gr2
  obtain ⟨g3, gr4⟩ := and_e gr3
  obtain ⟨w0, w1, w2, w3, w4, rfl⟩ : ∃ w0 w1 w2 w3 w4 : Value, args = #[w0, w1, w2, w3, w4] := by
    have hs : args.size = 5 := by simpa [Cond.value, given_1] using gc
    obtain ⟨L⟩ := args
    match L, hs with
    | [w0, w1, w2, w3, w4], _ => exact ⟨w0, w1, w2, w3, w4, rfl⟩
  have hw := fun d (hd : d ∈ tables_1) => atoms_spec (ws := Jvm.Cond.code x code maxLocals ret :: tables_1) hat d (List.mem_cons_of_mem _ hd)
  have hfit : Fit s := fun {y c} hc i hi => by
    obtain ⟨ha, rfl⟩ := Array.getElem?_eq_some_iff.mp hc
    have q := List.all_eq_true.mp ((Array.all_eq_true_iff_forall_mem.mp hF) _ (Array.getElem_mem ha)) i (List.mem_range.mpr hi)
    simpa [Array.getElem?_eq_getElem hi] using q
  obtain ⟨i0, ei0⟩ := is_v g0
  obtain rfl : w0 = (.int i0) := Option.some.inj ei0
  obtain ⟨i1, ei1⟩ := is_v g1
  obtain rfl : w1 = (.int i1) := Option.some.inj ei1
  obtain ⟨i2, ei2⟩ := is_v g2
  obtain rfl : w2 = (.int i2) := Option.some.inj ei2
  obtain ⟨i3, ei3⟩ := is_v g3
  obtain rfl : w3 = (.int i3) := Option.some.inj ei3
  obtain ⟨i4, ei4⟩ := is_v gr4
  obtain rfl : w4 = (.int i4) := Option.some.inj ei4
  obtain ⟨n, o, h1, h2, h3, _, L, rfl, ⟨rfl, N⟩, hq⟩ := own_main_con l s _ hw i0 i1 i2 i3 i4  s.heap tables_1 p e ha hc hk s m _ below hf ((Spec.applies_iff_loose hf).mp happ).1 ⟨rfl, State.Warmed39.refl s, rfl⟩ trivial
  refine ⟨n, _, h1, h2, h3, hpost _ _ _ _ _ _ ⟨Cond.after_iff.mpr rfl, Cond.after_iff.mpr (eq_i res_at (Term.int_eval (1)) rfl), trivial⟩ ⟨hq.1, hq.2.1, (hq.2.2.sift fun y hy => Or.inr (N y hy)).mono (by decide) (by decide)⟩⟩
theorem main_1_1 : Claimed_1_1 := comes_1 fun _ _ _ _ _ _ h hF => ⟨h.1, hF⟩
theorem main_1_2 : Claimed_1_2 := comes_1 fun _ _ _ _ _ _ h hF => ⟨h.2.1, hF⟩
end Jvm.Pilot.@@N@@
namespace Jvm.Pilot.@@N@@
open Jvm Jvm.ClassFile Sem Op Lib Jvm.Free Jvm.Stand Jvm.Pilot.@@N@@.Jvm.D
/-! MADE BY PROGRAM (witnessworld.py) out of the Statement's table words and the real class files: 11 classes; the members and pool entries that the words name. The judged class is class 1, her method 3. -/
namespace start1
open Jvm.ClassFile
def u (s : String) : CpInfo := .utf8 (stringToUtf16 s)
/-- a pool by its gaps: so many unusable entries, then the entry; so many at the end -/
def gap : Nat → List CpInfo → List CpInfo
  | 0, r => r
  | n + 1, r => .unusable :: gap n r
def poolList (es : List (Nat × CpInfo)) (last : Nat) : List CpInfo := es.foldr (fun e r => gap e.1 (e.2 :: r)) (gap last [])
def pool (es : List (Nat × CpInfo)) (last : Nat) : Array CpInfo := ⟨poolList es last⟩
def fileOf (pool : Array CpInfo) (this : Nat) (attrs : Array Attribute := #[]) (ms : Array MethodInfo := #[]) (fl : Nat := 33) (sup : Nat := 0) (ifs : Array Nat := #[]) (fds : Array FieldInfo := #[]) : ClassFile where
  minorVersion := 0
  majorVersion := 65
  constantPool := pool
  accessFlags := fl
  thisClass := this
  superClass := sup
  interfaces := ifs
  fields := fds
  methods := ms
  attributes := attrs
def plain (name : String) (sup : Option ClassId) : Class where
  name := name
  kind := .ordinary
  loader := none
  accessFlags := 33
  super := sup
  interfaces := #[]
  cf := none
  fields := #[]
  methods := #[]
  instanceTypes := #[]
  staticTypes := #[]
  resolved := #[]
  callSites := []
  init := .initialized
  statics := none
  mirror := none

def pool0 : Array CpInfo := pool [(5, u "<init>"), (0, u "()V"), (1, .class_ 10), (1, u "java/lang/Object")] 113

def k0c0 : Code := { maxStack := 0, maxLocals := 1, code := object_method_1_code, exceptionTable := #[], attributes := #[] }
def k0m0 : Method := { name := "<init>", desc := "()V", sig := { parameters := [], returnType := none }, accessFlags := 1, code := some k0c0 }
/-- java/lang/Object -/
def k0 : Class := { plain "java/lang/Object" none with
  accessFlags := 33
  interfaces := #[]
  cf := some (fileOf pool0 8 #[] #[{ accessFlags := 1, nameIndex := 5, descriptorIndex := 6, attributes := #[] }] 33 0 #[] #[])
  fields := #[]
  methods := #[k0m0]
  instanceTypes := #[]
  staticTypes := #[]
  resolved := Array.replicate 124 none
  statics := none }

def pool1 : Array CpInfo := pool [(2, .class_ 4), (1, u "java/lang/Object"), (0, u "<init>"), (0, u "()V"), (2, .double 18442240474082181120), (1, .double 9218868437227405312), (1, .class_ 14), (0, u "com/example/rowtree/rowtree/query/xpath/Span$Interval"), (0, .methodref 16 17), (0, .class_ 18), (0, .nameAndType 19 20), (0, u "com/example/rowtree/rowtree/query/xpath/IntervalEmptyPinLaw"), (0, u "bound"), (0, u "(I)D"), (0, .methodref 13 22), (0, .nameAndType 5 23), (0, u "(DDDD)V"), (0, .methodref 13 25), (0, .nameAndType 26 27), (0, u "empty"), (0, u "()Z"), (0, .methodref 16 29), (0, .nameAndType 30 31), (0, u "finiteOrZero"), (0, u "(I)I"), (0, .methodref 33 34), (0, .class_ 35), (0, .nameAndType 36 37), (0, u "java/lang/Math"), (0, u "max"), (0, u "(II)I"), (0, .methodref 13 39), (0, .nameAndType 40 31), (0, u "low"), (0, .methodref 13 42), (0, .nameAndType 43 31), (0, u "high"), (3, u "law"), (0, u "(IIIII)Z")] 6

def k1m0 : Method := { name := "<init>", desc := "()V", sig := { parameters := [], returnType := none }, accessFlags := 1, code := none }
def k1c1 : Code := { maxStack := 2, maxLocals := 2, code := method_2_code, exceptionTable := #[], attributes := #[] }
def k1m1 : Method := { name := "bound", desc := "(I)D", sig := { parameters := [.int], returnType := some .double }, accessFlags := 10, code := some k1c1 }
def k1c2 : Code := { maxStack := 2, maxLocals := 2, code := method_3_code, exceptionTable := #[], attributes := #[] }
def k1m2 : Method := { name := "finiteOrZero", desc := "(I)I", sig := { parameters := [.int], returnType := some .int }, accessFlags := 10, code := some k1c2 }
def k1c3 : Code := { maxStack := 10, maxLocals := 13, code := code, exceptionTable := #[], attributes := #[] }
def k1m3 : Method := { name := "law", desc := "(IIIII)Z", sig := { parameters := [.int, .int, .int, .int, .int], returnType := some .boolean }, accessFlags := 9, code := some k1c3 }
/-- com/example/rowtree/rowtree/query/xpath/IntervalEmptyPinLaw -/
def k1 : Class := { plain "com/example/rowtree/rowtree/query/xpath/IntervalEmptyPinLaw" (some 0) with
  accessFlags := 49
  interfaces := #[]
  cf := some (fileOf pool1 16 #[] #[{ accessFlags := 1, nameIndex := 5, descriptorIndex := 6, attributes := #[] }, { accessFlags := 10, nameIndex := 19, descriptorIndex := 20, attributes := #[] }, { accessFlags := 10, nameIndex := 30, descriptorIndex := 31, attributes := #[] }, { accessFlags := 9, nameIndex := 47, descriptorIndex := 48, attributes := #[] }] 49 2 #[] #[])
  fields := #[]
  methods := #[k1m0, k1m1, k1m2, k1m3]
  instanceTypes := #[]
  staticTypes := #[]
  resolved := Array.replicate 55 none
  statics := none }

def pool2 : Array CpInfo := pool [(1, .methodref 2 3), (0, .class_ 4), (0, .nameAndType 5 6), (0, u "java/lang/Object"), (0, u "<init>"), (0, u "()V"), (0, .class_ 8), (0, u "java/lang/Record")] 13

def k2c0 : Code := { maxStack := 1, maxLocals := 1, code := jdk_30_method_1_code, exceptionTable := #[], attributes := #[] }
def k2m0 : Method := { name := "<init>", desc := "()V", sig := { parameters := [], returnType := none }, accessFlags := 4, code := some k2c0 }
/-- java/lang/Record -/
def k2 : Class := { plain "java/lang/Record" (some 0) with
  accessFlags := 1057
  interfaces := #[]
  cf := some (fileOf pool2 7 #[] #[{ accessFlags := 4, nameIndex := 5, descriptorIndex := 6, attributes := #[] }] 1057 2 #[] #[])
  fields := #[]
  methods := #[k2m0]
  instanceTypes := #[]
  staticTypes := #[]
  resolved := Array.replicate 22 none
  statics := none }

def pool3 : Array CpInfo := pool [(1, .methodref 2 3), (0, .class_ 4), (0, .nameAndType 5 6), (0, u "java/lang/Record"), (0, u "<init>"), (0, u "()V"), (0, .fieldref 8 9), (0, .class_ 10), (0, .nameAndType 11 12), (0, u "com/example/rowtree/rowtree/query/xpath/Span$Interval"), (0, u "lowAt"), (0, u "D"), (0, .fieldref 8 14), (0, .nameAndType 15 12), (0, u "lowBack"), (0, .fieldref 8 17), (0, .nameAndType 18 12), (0, u "highAt"), (0, .fieldref 8 20), (0, .nameAndType 21 12), (0, u "highBack"), (4, .double 9218868437227405312), (3, u "(DDDD)V"), (0, .methodref 32 33), (0, .class_ 34), (0, .nameAndType 35 36), (0, u "java/lang/Math"), (0, u "max"), (0, u "(DD)D"), (0, .methodref 32 38), (0, .nameAndType 39 36), (0, u "min"), (33, u "EVERY"), (0, u "Lcom/example/rowtree/rowtree/query/xpath/Span$Interval;"), (4, u "()Z"), (1, u "low"), (0, u "(I)I"), (0, u "high"), (0, u "empty"), (14, .class_ 100), (0, u "com/example/rowtree/rowtree/query/xpath/Span")] 22

def k3c0 : Code := { maxStack := 3, maxLocals := 9, code := prog_54_method_1_code, exceptionTable := #[], attributes := #[] }
def k3m0 : Method := { name := "<init>", desc := "(DDDD)V", sig := { parameters := [.double, .double, .double, .double], returnType := none }, accessFlags := 0, code := some k3c0 }
def k3c1 : Code := { maxStack := 8, maxLocals := 2, code := prog_54_method_7_code, exceptionTable := #[], attributes := #[] }
def k3m1 : Method := { name := "low", desc := "(I)I", sig := { parameters := [.int], returnType := some .int }, accessFlags := 0, code := some k3c1 }
def k3c2 : Code := { maxStack := 8, maxLocals := 2, code := prog_54_method_8_code, exceptionTable := #[], attributes := #[] }
def k3m2 : Method := { name := "high", desc := "(I)I", sig := { parameters := [.int], returnType := some .int }, accessFlags := 0, code := some k3c2 }
def k3c3 : Code := { maxStack := 4, maxLocals := 1, code := prog_54_method_9_code, exceptionTable := #[], attributes := #[] }
def k3m3 : Method := { name := "empty", desc := "()Z", sig := { parameters := [], returnType := some .boolean }, accessFlags := 0, code := some k3c3 }
/-- com/example/rowtree/rowtree/query/xpath/Span$Interval -/
def k3 : Class := { plain "com/example/rowtree/rowtree/query/xpath/Span$Interval" (some 2) with
  accessFlags := 48
  interfaces := #[]
  cf := some (fileOf pool3 8 #[.nestHost 99] #[{ accessFlags := 0, nameIndex := 5, descriptorIndex := 30, attributes := #[] }, { accessFlags := 0, nameIndex := 81, descriptorIndex := 82, attributes := #[] }, { accessFlags := 0, nameIndex := 83, descriptorIndex := 82, attributes := #[] }, { accessFlags := 0, nameIndex := 84, descriptorIndex := 79, attributes := #[] }] 48 2 #[] #[{ accessFlags := 18, nameIndex := 11, descriptorIndex := 12, attributes := #[] }, { accessFlags := 18, nameIndex := 15, descriptorIndex := 12, attributes := #[] }, { accessFlags := 18, nameIndex := 18, descriptorIndex := 12, attributes := #[] }, { accessFlags := 18, nameIndex := 21, descriptorIndex := 12, attributes := #[] }, { accessFlags := 24, nameIndex := 73, descriptorIndex := 74, attributes := #[] }])
  fields := #[{ name := "lowAt", type := .double, accessFlags := 18, slot := 0, constantValue := 0 }, { name := "lowBack", type := .double, accessFlags := 18, slot := 1, constantValue := 0 }, { name := "highAt", type := .double, accessFlags := 18, slot := 2, constantValue := 0 }, { name := "highBack", type := .double, accessFlags := 18, slot := 3, constantValue := 0 }, { name := "EVERY", type := (.object "com/example/rowtree/rowtree/query/xpath/Span$Interval"), accessFlags := 24, slot := 0, constantValue := 0 }]
  methods := #[k3m0, k3m1, k3m2, k3m3]
  instanceTypes := #[.double, .double, .double, .double]
  staticTypes := #[(.object "com/example/rowtree/rowtree/query/xpath/Span$Interval")]
  resolved := Array.replicate 123 none
  statics := none }

def pool4 : Array CpInfo := pool [(1, .class_ 2), (0, u "java/lang/Math"), (1, .class_ 6), (1, u "java/lang/Object"), (0, u "<init>"), (0, u "()V"), (43, u "(DD)D"), (45, .class_ 100), (1, u "java/lang/Math$RandomNumberGeneratorHolder"), (71, u "negativeZeroFloatBits"), (0, u "J"), (2, u "negativeZeroDoubleBits"), (21, u "max"), (2, u "min"), (43, u "$assertionsDisabled"), (0, u "Z"), (88, u "(II)I"), (2, u "twoToTheDoubleScaleDown"), (0, u "D"), (4, u "twoToTheDoubleScaleUp"), (9, u "E"), (3, u "PI"), (2, u "TAU"), (2, u "DEGREES_TO_RADIANS"), (0, u "RADIANS_TO_DEGREES")] 94

def k4m0 : Method := { name := "<init>", desc := "()V", sig := { parameters := [], returnType := none }, accessFlags := 2, code := none }
def k4c1 : Code := { maxStack := 2, maxLocals := 2, code := jdk_29_method_65_code, exceptionTable := #[], attributes := #[] }
def k4m1 : Method := { name := "max", desc := "(II)I", sig := { parameters := [.int, .int], returnType := some .int }, accessFlags := 9, code := some k4c1 }
def k4c2 : Code := { maxStack := 4, maxLocals := 4, code := jdk_29_method_68_code, exceptionTable := #[], attributes := #[] }
def k4m2 : Method := { name := "max", desc := "(DD)D", sig := { parameters := [.double, .double], returnType := some .double }, accessFlags := 9, code := some k4c2 }
def k4c3 : Code := { maxStack := 4, maxLocals := 4, code := jdk_29_method_72_code, exceptionTable := #[], attributes := #[] }
def k4m3 : Method := { name := "min", desc := "(DD)D", sig := { parameters := [.double, .double], returnType := some .double }, accessFlags := 9, code := some k4c3 }
/-- java/lang/Math -/
def k4 : Class := { plain "java/lang/Math" (some 0) with
  accessFlags := 49
  interfaces := #[]
  cf := some (fileOf pool4 1 #[.nestMembers #[98]] #[{ accessFlags := 2, nameIndex := 7, descriptorIndex := 8, attributes := #[] }, { accessFlags := 9, nameIndex := 198, descriptorIndex := 335, attributes := #[] }, { accessFlags := 9, nameIndex := 198, descriptorIndex := 52, attributes := #[] }, { accessFlags := 9, nameIndex := 201, descriptorIndex := 52, attributes := #[] }] 49 4 #[] #[{ accessFlags := 25, nameIndex := 354, descriptorIndex := 339, attributes := #[] }, { accessFlags := 25, nameIndex := 358, descriptorIndex := 339, attributes := #[] }, { accessFlags := 25, nameIndex := 361, descriptorIndex := 339, attributes := #[] }, { accessFlags := 26, nameIndex := 364, descriptorIndex := 339, attributes := #[] }, { accessFlags := 26, nameIndex := 365, descriptorIndex := 339, attributes := #[] }, { accessFlags := 26, nameIndex := 172, descriptorIndex := 173, attributes := #[] }, { accessFlags := 26, nameIndex := 176, descriptorIndex := 173, attributes := #[] }, { accessFlags := 8, nameIndex := 344, descriptorIndex := 339, attributes := #[] }, { accessFlags := 8, nameIndex := 338, descriptorIndex := 339, attributes := #[] }, { accessFlags := 4120, nameIndex := 245, descriptorIndex := 246, attributes := #[] }])
  fields := #[{ name := "E", type := .double, accessFlags := 25, slot := 0, constantValue := 0 }, { name := "PI", type := .double, accessFlags := 25, slot := 1, constantValue := 0 }, { name := "TAU", type := .double, accessFlags := 25, slot := 2, constantValue := 0 }, { name := "DEGREES_TO_RADIANS", type := .double, accessFlags := 26, slot := 3, constantValue := 0 }, { name := "RADIANS_TO_DEGREES", type := .double, accessFlags := 26, slot := 4, constantValue := 0 }, { name := "negativeZeroFloatBits", type := .long, accessFlags := 26, slot := 5, constantValue := 0 }, { name := "negativeZeroDoubleBits", type := .long, accessFlags := 26, slot := 6, constantValue := 0 }, { name := "twoToTheDoubleScaleUp", type := .double, accessFlags := 8, slot := 7, constantValue := 0 }, { name := "twoToTheDoubleScaleDown", type := .double, accessFlags := 8, slot := 8, constantValue := 0 }, { name := "$assertionsDisabled", type := .boolean, accessFlags := 4120, slot := 9, constantValue := 0 }]
  methods := #[k4m0, k4m1, k4m2, k4m3]
  instanceTypes := #[]
  staticTypes := #[.double, .double, .double, .double, .double, .long, .long, .double, .double, .boolean]
  resolved := Array.replicate 460 none
  statics := none }

def pool5 : Array CpInfo := pool [(1, u "java/lang/Cloneable"), (0, .class_ 1), (0, u "java/lang/Object"), (0, .class_ 3)] 3

/-- java/lang/Cloneable -/
def k5 : Class := { plain "java/lang/Cloneable" (some 0) with
  accessFlags := 1537
  interfaces := #[]
  cf := some (fileOf pool5 2 #[] #[] 1537 4 #[] #[])
  fields := #[]
  methods := #[]
  instanceTypes := #[]
  staticTypes := #[]
  resolved := Array.replicate 8 none
  statics := none }

def pool6 : Array CpInfo := pool [(1, u "java/io/Serializable"), (0, .class_ 1), (0, u "java/lang/Object"), (0, .class_ 3)] 3

/-- java/io/Serializable -/
def k6 : Class := { plain "java/io/Serializable" (some 0) with
  accessFlags := 1537
  interfaces := #[]
  cf := some (fileOf pool6 2 #[] #[] 1537 4 #[] #[])
  fields := #[]
  methods := #[]
  instanceTypes := #[]
  staticTypes := #[]
  resolved := Array.replicate 8 none
  statics := none }

/-- the primitive byte -/
def k7 : Class := { plain "byte" none with kind := .primitive 'B', accessFlags := 0x411 }
/-- [B -/
def k8 : Class := { plain "[B" (some 0) with kind := .array 7 .byte, interfaces := #[5, 6], accessFlags := 1041 }

/-- the primitive int -/
def k9 : Class := { plain "int" none with kind := .primitive 'I', accessFlags := 0x411 }
/-- [I -/
def k10 : Class := { plain "[I" (some 0) with kind := .array 9 .int, interfaces := #[5, 6], accessFlags := 1041 }

def heap : Heap := #[]
def classes : Array Class := #[k0, k1, k2, k3, k4, k5, k6, k7, k8, k9, k10]
def interned : List (Array UInt16 × Addr) := []
def slotsUsed : Nat := 0
def theMethod : MethodId := ⟨1, 3⟩
def args0 : Array Value := #[.int 5, .int 6, .int 7, .int 8, .int 9]
def aboutOver (below : List Frame) : State where
  vm := { classes := classes, interned := interned.toArray }
  heap := heap
  slotsUsed := slotsUsed
  threads := #[{ frames := .invoking theMethod args0 :: below }]
def below0 : List Frame := [.native { method := ⟨0, 0⟩, args := #[] }]
def about1 : State := aboutOver below0
def p0 : Program := .bare "" "" ""
def e0 : Env := launch0.env 0 0 0
theorem w_frames : about1.frames = Frame.invoking theMethod args0 :: below0 := rfl
set_option maxRecDepth 65536 in
theorem w_args : argsFit about1.vm theMethod args0 = true := by decide +kernel
set_option maxRecDepth 65536 in
theorem w_heap : heapFits about1 = true := by decide +kernel
set_option maxRecDepth 65536 in
theorem w_runnable : about1.curStatus? = some .runnable := by decide +kernel
set_option maxRecDepth 65536 in
theorem w_alone : about1.alone = true := by decide +kernel
set_option maxRecDepth 65536 in
theorem w_named : about1.methodNamed? x = some theMethod := by decide +kernel
set_option maxRecDepth 65536 in
theorem w_hears : about1.hears theMethod below0 = true := by decide +kernel
set_option maxRecDepth 65536 in
theorem w_ripe : about1.ripe theMethod args0 below0 = true := by decide +kernel
theorem w_running : about1.status = .running := rfl
set_option maxRecDepth 65536 in
theorem w_room : about1.hasRoom e0.platform room_1 = true :=
  launch0.hasRoom_least _ room_1 (by decide +kernel) (by decide +kernel) (by decide +kernel) (by decide +kernel) (by decide +kernel) (by decide +kernel)
theorem allAtoms_all (ts : List Jvm.Cond) (a : Array Jvm.Value) (st : Jvm.State) : (allAtoms ts).before a st = ts.all (fun c => c.before a st) := by
  induction ts with
  | nil => rfl
  | cons c t ih =>
    show (Jvm.Cond.and c (allAtoms t)).before a st = _
    rw [Jvm.Cond.before_and, ih, List.all_cons]
def words1 : List Jvm.Cond := Jvm.Cond.code x code maxLocals ret :: tables_1
/-- a 'code' word, met by the world's own term for the bytes: nothing is compared byte by byte -/
theorem code_word {y : MethodName} {bytes : ByteArray} {mx : Nat} {rt : Option FieldType} {a : Array Value} {s : State} {m : MethodId} {meth : Method} {c : Code} (h1 : s.methodNamed? y = some m) (h2 : s.vm.method? m = some meth) (h3 : meth.code = some c) (h4 : c.code = bytes)
    (h5 : (c.maxLocals == mx && c.exceptionTable.isEmpty && decide (c.maxStack ≤ mostOperands) && decide (meth.sig.returnType = rt) && !meth.locks && decide (parseMethodDescriptor y.desc = some meth.sig)) = true) : (Jvm.Cond.code y bytes mx rt).before a s = true := by
  simp only [Bool.and_eq_true, beq_iff_eq, Bool.not_eq_true', decide_eq_true_eq] at h5
  obtain ⟨⟨⟨⟨⟨g1, g2⟩, g3⟩, g4⟩, g5⟩, g6⟩ := h5
  simp [Cond.before, Cond.holds, Cond.value, h1, h2, h3, h4, g1, g2, g3, g4, g5, g6]
def isCode : Jvm.Cond → Bool
  | .code _ _ _ _ => true
  | _ => false
theorem all_split {L : List Jvm.Cond} {P : Jvm.Cond → Bool} (h1 : L.all (fun c => isCode c || P c) = true) (h2 : ∀ c ∈ L.filter isCode, P c = true) : L.all P = true := by
  refine List.all_eq_true.mpr fun c hc => ?_
  have h := List.all_eq_true.mp h1 c hc
  rcases Bool.eq_false_or_eq_true (isCode c) with hi | hi
  · exact h2 c (List.mem_filter.mpr ⟨hc, hi⟩)
  · simpa [hi] using h
set_option maxRecDepth 65536 in
theorem w_c0 : (Jvm.Cond.code x code maxLocals ret).before args0 about1 = true := code_word (m := ⟨1, 3⟩) (meth := k1m3) (c := k1c3) (by decide +kernel) rfl rfl rfl (by decide +kernel)
set_option maxRecDepth 65536 in
theorem w_c1 : (Jvm.Cond.code ({ cls := "com/example/rowtree/rowtree/query/xpath/IntervalEmptyPinLaw", name := "bound", desc := "(I)D" } : Jvm.MethodName) method_2_code (2 : Nat) (Option.some Jvm.ClassFile.FieldType.double)).before args0 about1 = true := code_word (m := ⟨1, 1⟩) (meth := k1m1) (c := k1c1) (by decide +kernel) rfl rfl rfl (by decide +kernel)
set_option maxRecDepth 65536 in
theorem w_c2 : (Jvm.Cond.code ({ cls := "com/example/rowtree/rowtree/query/xpath/Span$Interval", name := "<init>", desc := "(DDDD)V" } : Jvm.MethodName) prog_54_method_1_code (9 : Nat) (Option.none : Option Jvm.ClassFile.FieldType)).before args0 about1 = true := code_word (m := ⟨3, 0⟩) (meth := k3m0) (c := k3c0) (by decide +kernel) rfl rfl rfl (by decide +kernel)
set_option maxRecDepth 65536 in
theorem w_c3 : (Jvm.Cond.code ({ cls := "java/lang/Record", name := "<init>", desc := "()V" } : Jvm.MethodName) jdk_30_method_1_code (1 : Nat) (Option.none : Option Jvm.ClassFile.FieldType)).before args0 about1 = true := code_word (m := ⟨2, 0⟩) (meth := k2m0) (c := k2c0) (by decide +kernel) rfl rfl rfl (by decide +kernel)
set_option maxRecDepth 65536 in
theorem w_c4 : (Jvm.Cond.code ({ cls := "java/lang/Object", name := "<init>", desc := "()V" } : Jvm.MethodName) object_method_1_code (1 : Nat) (Option.none : Option Jvm.ClassFile.FieldType)).before args0 about1 = true := code_word (m := ⟨0, 0⟩) (meth := k0m0) (c := k0c0) (by decide +kernel) rfl rfl rfl (by decide +kernel)
set_option maxRecDepth 65536 in
theorem w_c5 : (Jvm.Cond.code ({ cls := "com/example/rowtree/rowtree/query/xpath/Span$Interval", name := "empty", desc := "()Z" } : Jvm.MethodName) prog_54_method_9_code (1 : Nat) (Option.some Jvm.ClassFile.FieldType.boolean)).before args0 about1 = true := code_word (m := ⟨3, 3⟩) (meth := k3m3) (c := k3c3) (by decide +kernel) rfl rfl rfl (by decide +kernel)
set_option maxRecDepth 65536 in
theorem w_c6 : (Jvm.Cond.code ({ cls := "com/example/rowtree/rowtree/query/xpath/IntervalEmptyPinLaw", name := "finiteOrZero", desc := "(I)I" } : Jvm.MethodName) method_3_code (2 : Nat) (Option.some Jvm.ClassFile.FieldType.int)).before args0 about1 = true := code_word (m := ⟨1, 2⟩) (meth := k1m2) (c := k1c2) (by decide +kernel) rfl rfl rfl (by decide +kernel)
set_option maxRecDepth 65536 in
theorem w_c7 : (Jvm.Cond.code ({ cls := "java/lang/Math", name := "max", desc := "(II)I" } : Jvm.MethodName) jdk_29_method_65_code (2 : Nat) (Option.some Jvm.ClassFile.FieldType.int)).before args0 about1 = true := code_word (m := ⟨4, 1⟩) (meth := k4m1) (c := k4c1) (by decide +kernel) rfl rfl rfl (by decide +kernel)
set_option maxRecDepth 65536 in
theorem w_c8 : (Jvm.Cond.code ({ cls := "com/example/rowtree/rowtree/query/xpath/Span$Interval", name := "low", desc := "(I)I" } : Jvm.MethodName) prog_54_method_7_code (2 : Nat) (Option.some Jvm.ClassFile.FieldType.int)).before args0 about1 = true := code_word (m := ⟨3, 1⟩) (meth := k3m1) (c := k3c1) (by decide +kernel) rfl rfl rfl (by decide +kernel)
set_option maxRecDepth 65536 in
theorem w_c9 : (Jvm.Cond.code ({ cls := "java/lang/Math", name := "max", desc := "(DD)D" } : Jvm.MethodName) jdk_29_method_68_code (4 : Nat) (Option.some Jvm.ClassFile.FieldType.double)).before args0 about1 = true := code_word (m := ⟨4, 2⟩) (meth := k4m2) (c := k4c2) (by decide +kernel) rfl rfl rfl (by decide +kernel)
set_option maxRecDepth 65536 in
theorem w_c10 : (Jvm.Cond.code ({ cls := "com/example/rowtree/rowtree/query/xpath/Span$Interval", name := "high", desc := "(I)I" } : Jvm.MethodName) prog_54_method_8_code (2 : Nat) (Option.some Jvm.ClassFile.FieldType.int)).before args0 about1 = true := code_word (m := ⟨3, 2⟩) (meth := k3m2) (c := k3c2) (by decide +kernel) rfl rfl rfl (by decide +kernel)
set_option maxRecDepth 65536 in
theorem w_c11 : (Jvm.Cond.code ({ cls := "java/lang/Math", name := "min", desc := "(DD)D" } : Jvm.MethodName) jdk_29_method_72_code (4 : Nat) (Option.some Jvm.ClassFile.FieldType.double)).before args0 about1 = true := code_word (m := ⟨4, 3⟩) (meth := k4m3) (c := k4c3) (by decide +kernel) rfl rfl rfl (by decide +kernel)
def codes1 : List Jvm.Cond := [Jvm.Cond.code x code maxLocals ret, Jvm.Cond.code ({ cls := "com/example/rowtree/rowtree/query/xpath/IntervalEmptyPinLaw", name := "bound", desc := "(I)D" } : Jvm.MethodName) method_2_code (2 : Nat) (Option.some Jvm.ClassFile.FieldType.double), Jvm.Cond.code ({ cls := "com/example/rowtree/rowtree/query/xpath/Span$Interval", name := "<init>", desc := "(DDDD)V" } : Jvm.MethodName) prog_54_method_1_code (9 : Nat) (Option.none : Option Jvm.ClassFile.FieldType), Jvm.Cond.code ({ cls := "java/lang/Record", name := "<init>", desc := "()V" } : Jvm.MethodName) jdk_30_method_1_code (1 : Nat) (Option.none : Option Jvm.ClassFile.FieldType), Jvm.Cond.code ({ cls := "java/lang/Object", name := "<init>", desc := "()V" } : Jvm.MethodName) object_method_1_code (1 : Nat) (Option.none : Option Jvm.ClassFile.FieldType), Jvm.Cond.code ({ cls := "com/example/rowtree/rowtree/query/xpath/Span$Interval", name := "empty", desc := "()Z" } : Jvm.MethodName) prog_54_method_9_code (1 : Nat) (Option.some Jvm.ClassFile.FieldType.boolean), Jvm.Cond.code ({ cls := "com/example/rowtree/rowtree/query/xpath/IntervalEmptyPinLaw", name := "finiteOrZero", desc := "(I)I" } : Jvm.MethodName) method_3_code (2 : Nat) (Option.some Jvm.ClassFile.FieldType.int), Jvm.Cond.code ({ cls := "java/lang/Math", name := "max", desc := "(II)I" } : Jvm.MethodName) jdk_29_method_65_code (2 : Nat) (Option.some Jvm.ClassFile.FieldType.int), Jvm.Cond.code ({ cls := "com/example/rowtree/rowtree/query/xpath/Span$Interval", name := "low", desc := "(I)I" } : Jvm.MethodName) prog_54_method_7_code (2 : Nat) (Option.some Jvm.ClassFile.FieldType.int), Jvm.Cond.code ({ cls := "java/lang/Math", name := "max", desc := "(DD)D" } : Jvm.MethodName) jdk_29_method_68_code (4 : Nat) (Option.some Jvm.ClassFile.FieldType.double), Jvm.Cond.code ({ cls := "com/example/rowtree/rowtree/query/xpath/Span$Interval", name := "high", desc := "(I)I" } : Jvm.MethodName) prog_54_method_8_code (2 : Nat) (Option.some Jvm.ClassFile.FieldType.int), Jvm.Cond.code ({ cls := "java/lang/Math", name := "min", desc := "(DD)D" } : Jvm.MethodName) jdk_29_method_72_code (4 : Nat) (Option.some Jvm.ClassFile.FieldType.double)]
set_option maxRecDepth 65536 in
theorem codes_eq : words1.filter isCode = codes1 := rfl
theorem w_codes : ∀ c ∈ words1.filter isCode, c.before args0 about1 = true := by
  rw [codes_eq]
  intro c hc
  simp only [codes1, List.mem_cons, List.not_mem_nil, or_false] at hc
  rcases hc with rfl | rfl | rfl | rfl | rfl | rfl | rfl | rfl | rfl | rfl | rfl | rfl
  · exact w_c0
  · exact w_c1
  · exact w_c2
  · exact w_c3
  · exact w_c4
  · exact w_c5
  · exact w_c6
  · exact w_c7
  · exact w_c8
  · exact w_c9
  · exact w_c10
  · exact w_c11
set_option maxRecDepth 65536 in
theorem w_t1 : (words1.take 24).all (fun c => isCode c || c.before args0 about1) = true := by decide +kernel
set_option maxRecDepth 65536 in
theorem w_t2 : ((words1.drop 24).take 24).all (fun c => isCode c || c.before args0 about1) = true := by decide +kernel
set_option maxRecDepth 65536 in
theorem w_t3 : ((words1.drop 24).drop 24).all (fun c => isCode c || c.before args0 about1) = true := by decide +kernel
theorem w_tables : (allAtoms (Jvm.Cond.code x code maxLocals ret :: tables_1)).before args0 about1 = true := by
  rw [allAtoms_all]
  show words1.all (fun c => c.before args0 about1) = true
  refine all_split ?_ w_codes
  rw [← List.take_append_drop 24 words1, List.all_append, w_t1, ← List.take_append_drop 24 (words1.drop 24), List.all_append, w_t2, w_t3]
  rfl
set_option maxRecDepth 65536 in
theorem w_case : (Jvm.Cond.and given_1 narrow_1).before args0 about1 = true := by decide +kernel
theorem w_applies : (headSpec (Jvm.Cond.code x code maxLocals ret :: tables_1) room_1).applies x e0.platform about1 = true :=
  (Spec.applies_iff w_frames).mpr ⟨w_running, w_runnable, w_alone, w_named, w_hears, w_ripe, w_room, w_tables⟩
theorem atStart : AtStart classFile x code maxLocals ret World_1 tables_1 room_1 Calls_1 rest_1 Pre_1 launch0 p0 e0 about1 theMethod args0 below0 :=
  ⟨lists_1, trivial, launch0.admits_env _ _ _, launch0.least_env, fairChoices_fair.cas, fairChoices_fair.clock, w_frames, w_args, w_heap, w_applies, trivial, trivial, w_case⟩
end start1
theorem witness_1 : WitnessClaimed_1 := ⟨start1.p0, start1.e0, start1.about1, start1.theMethod, start1.args0, start1.below0, start1.atStart⟩
end Jvm.Pilot.@@N@@
