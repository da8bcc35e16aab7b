import JvmDerived
import JvmDerived.Pilot.@@N@@Statement
import JvmDerived.Pilot.@@N@@Code
set_option linter.unusedVariables false
set_option linter.unusedSimpArgs false
namespace Jvm.Pilot.@@N@@
open Jvm Jvm.ClassFile Sem Op Lib Jvm.Free Jvm.Stand Jvm.LawKit Jvm.RoadKit Bundle Jvm.Pilot.@@N@@.Jvm.D
section OwnKit
variable {p : Program} {l : Launch} {e : Env} {R : Room} {s : State} {m : MethodId} {args : Array Value} {below : List Frame} {meth : Method} {c : Code} {T : State} {locs : List Loc} {cells slots : Nat} {Z : State} {a0 : Array Value} {h h' h0 : Heap}
/-- the rest of the body's run, from A on: it ends, and E holds there -/
def own_Go (p : Program) (e : Env) (below : List Frame) (E : Outcome → State → Prop) (A : State) : Prop :=
  ∃ s₂ o, Steps p.tables e below A s₂ ∧ s₂.status = .running ∧ Ended s₂ below o ∧ E o s₂
theorem own_go {E : Outcome → State → Prop} {A B : State} (k : ∀ t, Steps p.tables e below A t → Steps p.tables e below B t) (g : own_Go p e below E A) : own_Go p e below E B := by
  obtain ⟨s₂, o, h1, h2⟩ := g
  exact ⟨s₂, o, k _ h1, h2⟩
theorem own_goT {E : Outcome → State → Prop} {A B : State} (k : Steps p.tables e below B A) (g : own_Go p e below E A) : own_Go p e below E B := own_go (fun _ q => k.trans q) g
/-- what a body leaves -/
def own_Out (s : State) (Q : Option Value → Heap → List Loc → Prop) (C S : Nat) (o : Outcome) (U : State) : Prop :=
  ∃ v L, o = .returned v ∧ Q v U.heap L ∧ FrameEnd s o U L C S
/-- a body's contract: called with as' over the heap h0 it returns, and Q holds of what it returns, of the heap that it leaves and of the places that it wrote -/
def own_Con (l : Launch) (Z : State) (y : MethodName) (bytes : ByteArray) (maxL : Nat) (ret : Option FieldType) (rm : Room) (as' : Array Value) (h0 : Heap) (Q : Option Value → Heap → List Loc → Prop) (ws : List Jvm.Cond) : Prop :=
  MetFree l y (head1 (Jvm.Cond.code y bytes maxL ret :: ws) rm) (fun a U => a = as' ∧ Z.Warmed39 U.vm ∧ U.heap = h0) (fun _ _ _ _ _ => True) (fun _ U o U' => ∃ v L, o = .returned v ∧ Q v U'.heap L ∧ FrameEnd U o U' L rm.cells rm.slots)
theorem own_con {y : MethodName} {bytes : ByteArray} {maxL : Nat} {ret : Option FieldType} {rm : Room} {as' : Array Value} {Q : Option Value → Heap → List Loc → Prop} {ws : List Jvm.Cond} {F : MethodId → JFrame} (hpn : plainFor y = true) (hef : ∀ m, entryFrame m as' maxL = F m)
    (H : ∀ (p : Program) (e : Env) (s : State) (m : MethodId) (below : List Frame) (meth : Method) (c : Code) (T : State), Stand p l e rm s m as' below meth c T [] 0 0 → p.tables.exec = Jvm.exec → c.code = bytes → c.maxLocals = maxL → Z.Warmed39 s.vm → s.vm.findClass y.cls = some m.cls → meth.name = y.name →
      meth.sig.returnType = ret → meth.locks = false → T.heap = h0 → own_Go p e below (own_Out s Q rm.cells rm.slots) (T.setTop (F m))) :
    own_Con l Z y bytes maxL ret rm as' h0 Q ws := by
  refine MetFree.of_bodySF hpn hisR ?_
  intro p e s m args below meth c s₁ Bd hml0 hP hK
  obtain ⟨rfl, hZ, hh⟩ := hP
  have k := H p e s m below meth c s₁ (Stand.of_body Bd) Bd.exec Bd.bytes hml0 hZ (findClass_of_methodNamed Bd.named) (name_of_methodNamed Bd.named Bd.method).1 Bd.returns Bd.notSynchronized (by rw [← hh, Bd.state]; rfl)
  rw [← hef m] at k
  exact k
theorem own_Con.mono {y : MethodName} {bytes : ByteArray} {maxL : Nat} {ret : Option FieldType} {rm : Room} {as' : Array Value} {Q Q' : Option Value → Heap → List Loc → Prop} {ws : List Jvm.Cond} (H : own_Con l Z y bytes maxL ret rm as' h0 Q ws) (k : ∀ v h L, Q v h L → Q' v h L) : own_Con l Z y bytes maxL ret rm as' h0 Q' ws := by
  intro p e ha hc hk s m args below hf happ hP hK
  obtain ⟨n, o, g1, g2, g3, v, L, g4, g5, g6⟩ := H p e ha hc hk s m args below hf happ hP hK
  exact ⟨n, o, g1, g2, g3, v, L, g4, k _ _ _ g5, g6⟩
/-! leaving -/
theorem own_iret (X : Stand p l e R s m args below meth c T locs cells slots) (hx : p.tables.exec = Jvm.exec) (hlk : meth.locks = false) {t : FieldType} (hret : meth.sig.returnType = some t) (hti : t = .int ∨ t = .boolean ∨ t = .byte ∨ t = .char ∨ t = .short) {pc : Nat} {Ls : Array Slot} {z : Int32} (hn : narrow t (.int z) = .int z)
    (hd : decode c.code pc = .ok (.ireturn, 1)) {Q : Option Value → Heap → List Loc → Prop} {C S : Nat} (hC : cells ≤ C) (hS : slots ≤ S) (hq : Q (some (.int z)) T.heap locs) : own_Go p e below (own_Out s Q C S) (T.setTop (mkF m pc Ls [.int z])) := by
  obtain ⟨fs, hr, hrun, hended, hW, hsame⟩ := X.leave (v := some (.int z)) (fun h => by rw [hret] at h; cases h)
  exact ⟨_, _, X.ireturnOut hx hret hn hti hd hr, hrun, hended, _, _, rfl, hq, ⟨_, rfl⟩, hW, hsame.mono hC hS⟩
theorem own_lret (X : Stand p l e R s m args below meth c T locs cells slots) (hx : p.tables.exec = Jvm.exec) (hlk : meth.locks = false) (hret : meth.sig.returnType = some .long) {pc : Nat} {Ls : Array Slot} {z : Int64}
    (hd : decode c.code pc = .ok (.lreturn, 1)) {Q : Option Value → Heap → List Loc → Prop} {C S : Nat} (hC : cells ≤ C) (hS : slots ≤ S) (hq : Q (some (.long z)) T.heap locs) : own_Go p e below (own_Out s Q C S) (T.setTop (mkF m pc Ls [.long z])) := by
  obtain ⟨fs, hr, hrun, hended, hW, hsame⟩ := X.leave (v := some (.long z)) (fun h => by rw [hret] at h; cases h)
  exact ⟨_, _, X.lreturnOut hx hret hd hr, hrun, hended, _, _, rfl, hq, ⟨_, rfl⟩, hW, hsame.mono hC hS⟩
theorem own_aret (X : Stand p l e R s m args below meth c T locs cells slots) (hx : p.tables.exec = Jvm.exec) (hlk : meth.locks = false) {t : FieldType} (hret : meth.sig.returnType = some t) (ht : t.isReference = true) {pc : Nat} {Ls : Array Slot} {w : Value} (hw : w.isRef = true)
    (hd : decode c.code pc = .ok (.areturn, 1)) {Q : Option Value → Heap → List Loc → Prop} {C S : Nat} (hC : cells ≤ C) (hS : slots ≤ S) (hq : Q (some w) T.heap locs) : own_Go p e below (own_Out s Q C S) (T.setTop (mkF m pc Ls [w])) := by
  obtain ⟨fs, hr, hrun, hended, hW, hsame⟩ := X.leave (v := some w) (fun h => by rw [hret] at h; cases h)
  exact ⟨_, _, X.areturnOut hx hw hret ht hd hr, hrun, hended, _, _, rfl, hq, ⟨_, rfl⟩, hW, hsame.mono hC hS⟩
theorem own_vret (X : Stand p l e R s m args below meth c T locs cells slots) (hx : p.tables.exec = Jvm.exec) (hlk : meth.locks = false) (hret : meth.sig.returnType = none) {pc : Nat} {Ls : Array Slot}
    (hd : decode c.code pc = .ok (.return_, 1)) {Q : Option Value → Heap → List Loc → Prop} {C S : Nat} (hC : cells ≤ C) (hS : slots ≤ S) (hq : Q none T.heap locs) : own_Go p e below (own_Out s Q C S) (T.setTop (mkF m pc Ls [])) := by
  obtain ⟨fs, hr, hrun, hended, hW, hsame⟩ := X.leave (v := none) (fun _ => rfl)
  exact ⟨_, _, X.returnOut hx hret hd hr, hrun, hended, _, _, rfl, hq, ⟨_, rfl⟩, hW, hsame.mono hC hS⟩
/-! a body that leaves the heap alone -/
def own_PQ (h0 : Heap) (w : Value) (v : Option Value) (h : Heap) (L : List Loc) : Prop := v = some w ∧ h = h0 ∧ L = []
theorem own_iteI {C : Prop} [Decidable C] {a b : Int32} {k n : Nat} {A : State} (h1 : C → own_Go p e below (own_Out s (own_PQ h0 (.int a)) k n) A) (h2 : ¬ C → own_Go p e below (own_Out s (own_PQ h0 (.int b)) k n) A) : own_Go p e below (own_Out s (own_PQ h0 (.int (if C then a else b))) k n) A := by
  by_cases q : C
  · rw [if_pos q]; exact h1 q
  · rw [if_neg q]; exact h2 q
theorem own_iteL {C : Prop} [Decidable C] {a b : Int64} {k n : Nat} {A : State} (h1 : C → own_Go p e below (own_Out s (own_PQ h0 (.long a)) k n) A) (h2 : ¬ C → own_Go p e below (own_Out s (own_PQ h0 (.long b)) k n) A) : own_Go p e below (own_Out s (own_PQ h0 (.long (if C then a else b))) k n) A := by
  by_cases q : C
  · rw [if_pos q]; exact h1 q
  · rw [if_neg q]; exact h2 q
/-! calls -/
theorem own_callS (X : Stand p l e R s m args below meth c T locs cells slots) (hx : p.tables.exec = Jvm.exec) (hZ : Z.Warmed39 s.vm) {own : String} (hown : s.vm.findClass own = some m.cls) {index : Nat} {y : MethodName} {bytes : ByteArray} {maxL : Nat} {ret : Option FieldType} {rm : Room} {argsL rest : List Value} {Q : Option Value → Heap → List Loc → Prop}
    (hM : own_Con l Z y bytes maxL ret rm argsL.toArray h Q []) (eT : T.heap = h) (wl : (Jvm.Cond.methodLink own index y).before a0 Z = true) (wst : (Jvm.Cond.static y).before a0 Z = true) (wz : (Jvm.Cond.initialized y.cls).before a0 Z = true) (wc : (Jvm.Cond.code y bytes maxL ret).before a0 Z = true) (hy : y.cls ≠ "java/lang/invoke/MethodHandle" ∧ y.cls ≠ "java/lang/invoke/VarHandle")
    {sig : MethodDescriptor} (hpd : parseMethodDescriptor y.desc = some sig) (hlen : argsL.length = sig.parameters.length) {g : JFrame} (hg : g.method = m) (hsize : g.locals.size = c.maxLocals) (hstack : g.stack = argsL.reverse ++ rest) (W : Nat) (hW : 2 * g.monitorRoom + (rest.map fun v => v.category).sum ≤ W) (hdg : decode c.code g.pc = .ok (.invokestatic index, 3))
    (hf : rm.frames + 1 ≤ R.frames) (hl : W + (maxL + 11) + rm.locals ≤ R.locals) (hcs : cells + rm.cells ≤ R.cells) (hss : slots + rm.slots ≤ R.slots) :
    ∃ (v : Option Value) (T' : State) (L : List Loc), Stand p l e R s m args below meth c T' (locs ++ L) (cells + rm.cells) (slots + rm.slots) ∧ Q v T'.heap L ∧ ∀ t, Steps p.tables e below (T'.setTop { g with pc := g.pc + 3, stack := v.toList ++ rest }) t → Steps p.tables e below (T.setTop g) t := by
  obtain ⟨v, _, ⟨T', L', k', n'⟩, -, X', ⟨L, hQ, q1, q2, q3⟩, st⟩ := Jvm.LawKit.callS X hx hown (mvT hZ wl) (mvT hZ wst) (mvT hZ wz) (mvT hZ wc) hy (backOf (W := W) hM hZ wc wz hf hl) hg hsize (argsL := argsL) (rest := rest) (fun sg hsg => by rw [hpd] at hsg; cases hsg; exact hlen) hstack hW hdg (fun _ _ => ⟨rfl, eT, hcs, hss⟩)
  dsimp only [Pt.U, Pt.locs, Pt.cells, Pt.slots] at X' q1 q2 q3 st hQ
  subst q1 q2 q3
  exact ⟨v, T', L, X', hQ, st⟩
theorem own_callSP (X : Stand p l e R s m args below meth c T locs cells slots) (hx : p.tables.exec = Jvm.exec) (hZ : Z.Warmed39 s.vm) {own : String} (hown : s.vm.findClass own = some m.cls) {index : Nat} {y : MethodName} {bytes : ByteArray} {maxL : Nat} {ret : Option FieldType} {rm : Room} {argsL rest : List Value} {w : Value}
    (hM : own_Con l Z y bytes maxL ret rm argsL.toArray h (own_PQ h w) []) (eT : T.heap = h) (wl : (Jvm.Cond.methodLink own index y).before a0 Z = true) (wst : (Jvm.Cond.static y).before a0 Z = true) (wz : (Jvm.Cond.initialized y.cls).before a0 Z = true) (wc : (Jvm.Cond.code y bytes maxL ret).before a0 Z = true) (hy : y.cls ≠ "java/lang/invoke/MethodHandle" ∧ y.cls ≠ "java/lang/invoke/VarHandle")
    {sig : MethodDescriptor} (hpd : parseMethodDescriptor y.desc = some sig) (hlen : argsL.length = sig.parameters.length) {g : JFrame} (hg : g.method = m) (hsize : g.locals.size = c.maxLocals) (hstack : g.stack = argsL.reverse ++ rest) (W : Nat) (hW : 2 * g.monitorRoom + (rest.map fun v => v.category).sum ≤ W) (hdg : decode c.code g.pc = .ok (.invokestatic index, 3))
    (hf : rm.frames + 1 ≤ R.frames) (hl : W + (maxL + 11) + rm.locals ≤ R.locals) (hrc : rm.cells = 0) (hrs : rm.slots = 0) (hcs : cells ≤ R.cells) (hss : slots ≤ R.slots) :
    ∃ (T' : State), Stand p l e R s m args below meth c T' locs cells slots ∧ T'.heap = h ∧ ∀ t, Steps p.tables e below (T'.setTop { g with pc := g.pc + 3, stack := w :: rest }) t → Steps p.tables e below (T.setTop g) t := by
  obtain ⟨v, T', L, X', ⟨rfl, q2, rfl⟩, st⟩ := own_callS X hx hZ hown hM eT wl wst wz wc hy hpd hlen hg hsize hstack W hW hdg hf hl (by omega) (by omega)
  rw [List.append_nil, hrc, hrs] at X'
  exact ⟨T', X', q2, st⟩
theorem own_callI (X : Stand p l e R s m args below meth c T locs cells slots) (hx : p.tables.exec = Jvm.exec) (hZ : Z.Warmed39 s.vm) {own : String} (hown : s.vm.findClass own = some m.cls) {index : Nat} {y : MethodName} (hy1 : y.name = "<init>") {bytes : ByteArray} {maxL : Nat} {rm : Room} {b : Addr} {argsL rest : List Value} {Q : Option Value → Heap → List Loc → Prop}
    (hM : own_Con l Z y bytes maxL none rm (Value.ref b :: argsL).toArray h Q []) (eT : T.heap = h) (wl : (Jvm.Cond.methodLink own index y).before a0 Z = true) (wi : (Jvm.Cond.instanceMethod y).before a0 Z = true) (wz : (Jvm.Cond.initialized y.cls).before a0 Z = true) (wc : (Jvm.Cond.code y bytes maxL none).before a0 Z = true) (hy : y.cls ≠ "java/lang/invoke/MethodHandle" ∧ y.cls ≠ "java/lang/invoke/VarHandle")
    {sig : MethodDescriptor} (hpd : parseMethodDescriptor y.desc = some sig) (hlen : argsL.length = sig.parameters.length) {g : JFrame} (hg : g.method = m) (hsize : g.locals.size = c.maxLocals) (hstack : g.stack = argsL.reverse ++ .ref b :: rest) (W : Nat) (hW : 2 * g.monitorRoom + (rest.map fun v => v.category).sum ≤ W) (hdg : decode c.code g.pc = .ok (.invokespecial index, 3))
    (hf : rm.frames + 1 ≤ R.frames) (hl : W + (maxL + 11) + rm.locals ≤ R.locals) (hcs : cells + rm.cells ≤ R.cells) (hss : slots + rm.slots ≤ R.slots) :
    ∃ (v : Option Value) (T' : State) (L : List Loc), Stand p l e R s m args below meth c T' (locs ++ L) (cells + rm.cells) (slots + rm.slots) ∧ Q v T'.heap L ∧ ∀ t, Steps p.tables e below (T'.setTop { g with pc := g.pc + 3, stack := v.toList ++ rest }) t → Steps p.tables e below (T.setTop g) t := by
  obtain ⟨v, _, ⟨T', L', k', n'⟩, -, X', ⟨L, hQ, q1, q2, q3⟩, st⟩ := X.specialBack hx hy1 hown (mvT hZ wl) (mvT hZ wi) (mvT hZ wc) hy (backOf (W := W) hM hZ wc wz hf hl) hg hsize (Steps.refl _) (a := b) (argsL := argsL) (rest := rest) (fun sg hsg => by rw [hpd] at hsg; cases hsg; exact hlen) hstack hW hdg (fun _ _ => ⟨rfl, eT, hcs, hss⟩)
  dsimp only [Pt.U, Pt.locs, Pt.cells, Pt.slots] at X' q1 q2 q3 st hQ
  subst q1 q2 q3
  exact ⟨v, T', L, X', hQ, fun _ k => st.trans k⟩
theorem own_callV (X : Stand p l e R s m args below meth c T locs cells slots) (hx : p.tables.exec = Jvm.exec) (hZ : Z.Warmed39 s.vm) {own C : String} (hown : s.vm.findClass own = some m.cls) {index : Nat} {y z : MethodName} {bytes : ByteArray} {maxL : Nat} {ret : Option FieldType} {rm : Room} {b : Addr} {argsL rest : List Value} {Q : Option Value → Heap → List Loc → Prop}
    (hM : own_Con l Z z bytes maxL ret rm (Value.ref b :: argsL).toArray h Q []) (eT : T.heap = h) (hE : Exa Z h b C) (wl : (Jvm.Cond.methodLink own index y).before a0 Z = true) (wd : (Jvm.Cond.declares y).before a0 Z = true) (wsel : (Jvm.Cond.selects C y z).before a0 Z = true) (wi : (Jvm.Cond.instanceMethod z).before a0 Z = true) (wz : (Jvm.Cond.initialized z.cls).before a0 Z = true) (wc : (Jvm.Cond.code z bytes maxL ret).before a0 Z = true) (hnf : NotFace s y) (hy : y.cls ≠ "java/lang/invoke/MethodHandle" ∧ y.cls ≠ "java/lang/invoke/VarHandle")
    {sig : MethodDescriptor} (hpd : parseMethodDescriptor y.desc = some sig) (hlen : argsL.length = sig.parameters.length) {g : JFrame} (hg : g.method = m) (hsize : g.locals.size = c.maxLocals) (hstack : g.stack = argsL.reverse ++ .ref b :: rest) (W : Nat) (hW : 2 * g.monitorRoom + (rest.map fun v => v.category).sum ≤ W) (hdg : decode c.code g.pc = .ok (.invokevirtual index, 3))
    (hf : rm.frames + 1 ≤ R.frames) (hl : W + (maxL + 11) + rm.locals ≤ R.locals) (hcs : cells + rm.cells ≤ R.cells) (hss : slots + rm.slots ≤ R.slots) :
    ∃ (v : Option Value) (T' : State) (L : List Loc), Stand p l e R s m args below meth c T' (locs ++ L) (cells + rm.cells) (slots + rm.slots) ∧ Q v T'.heap L ∧ ∀ t, Steps p.tables e below (T'.setTop { g with pc := g.pc + 3, stack := v.toList ++ rest }) t → Steps p.tables e below (T.setTop g) t := by
  obtain ⟨cq, kq, qa, qb, qc⟩ := isOf hZ eT hE
  obtain ⟨v, _, ⟨T', L', k', n'⟩, -, X', ⟨L, hQ, q1, q2, q3⟩, st⟩ := X.virtualBack hx hown (mvT hZ wl) (mvT hZ wd) hnf (mvT hZ wsel) (mvT hZ wi) hy (backOf (W := W) hM hZ wc wz hf hl) qa qc hg hsize (Steps.refl _) (argsL := argsL) (rest := rest) (fun sg hsg => by rw [hpd] at hsg; cases hsg; exact hlen) hstack hW hdg (fun _ _ => ⟨rfl, eT, hcs, hss⟩)
  dsimp only [Pt.U, Pt.locs, Pt.cells, Pt.slots] at X' q1 q2 q3 st hQ
  subst q1 q2 q3
  exact ⟨v, T', L, X', hQ, fun _ k => st.trans k⟩
theorem own_callP (X : Stand p l e R s m args below meth c T locs cells slots) (hx : p.tables.exec = Jvm.exec) (hZ : Z.Warmed39 s.vm) {own C : String} (hown : s.vm.findClass own = some m.cls) {index kk : Nat} {y : MethodName} {bytes : ByteArray} {maxL : Nat} {ret : Option FieldType} {rm : Room} {b : Addr} {argsL rest : List Value} {Q : Option Value → Heap → List Loc → Prop}
    (hM : own_Con l Z y bytes maxL ret rm (Value.ref b :: argsL).toArray h Q []) (eT : T.heap = h) (hE : Exa Z h b C) (wl : (Jvm.Cond.methodLink own index y).before a0 Z = true) (wi : (Jvm.Cond.instanceMethod y).before a0 Z = true) (wp : (Jvm.Cond.privateMethod y).before a0 Z = true) (wn : (Jvm.Cond.instantiable y.cls kk).before a0 Z = true) (wz : (Jvm.Cond.initialized y.cls).before a0 Z = true) (wc : (Jvm.Cond.code y bytes maxL ret).before a0 Z = true) (hy : y.cls ≠ "java/lang/invoke/MethodHandle" ∧ y.cls ≠ "java/lang/invoke/VarHandle")
    {sig : MethodDescriptor} (hpd : parseMethodDescriptor y.desc = some sig) (hlen : argsL.length = sig.parameters.length) {g : JFrame} (hg : g.method = m) (hsize : g.locals.size = c.maxLocals) (hstack : g.stack = argsL.reverse ++ .ref b :: rest) (W : Nat) (hW : 2 * g.monitorRoom + (rest.map fun v => v.category).sum ≤ W) (hdg : decode c.code g.pc = .ok (.invokevirtual index, 3))
    (hf : rm.frames + 1 ≤ R.frames) (hl : W + (maxL + 11) + rm.locals ≤ R.locals) (hcs : cells + rm.cells ≤ R.cells) (hss : slots + rm.slots ≤ R.slots) :
    ∃ (v : Option Value) (T' : State) (L : List Loc), Stand p l e R s m args below meth c T' (locs ++ L) (cells + rm.cells) (slots + rm.slots) ∧ Q v T'.heap L ∧ ∀ t, Steps p.tables e below (T'.setTop { g with pc := g.pc + 3, stack := v.toList ++ rest }) t → Steps p.tables e below (T.setTop g) t := by
  obtain ⟨cq, q, q'⟩ := hE.cell
  have hp := Cond.privateMethod_at (mvP hZ wp (args := #[]))
  have hn : (Jvm.Cond.instantiable y.cls kk).before args s = true := mvT hZ wn
  obtain ⟨c2, k2, i1, i2, i3, i4, -⟩ := Cond.instantiable_spec hn
  have hsel : (Jvm.Cond.selects y.cls y y).before args s = true := selects_self_of_private i1 i2 (Bool.or_eq_false_iff.mp i4).1 hp (mvT hZ wi) hy
  obtain ⟨v, _, ⟨T', L', k', n'⟩, -, X', ⟨L, hQ, q1, q2, q3⟩, st⟩ := X.privateBack hx hown (mvT hZ wl) (mvT hZ wi) hsel hp (mvT hZ wc) hy (backOf (W := W) hM hZ wc wz hf hl) hg hsize (Steps.refl _) (a := b) (by rw [eT]; exact q) q' (argsL := argsL) (rest := rest) (fun sg hsg => by rw [hpd] at hsg; cases hsg; exact hlen) hstack hW hdg (fun _ _ => ⟨rfl, eT, hcs, hss⟩)
  dsimp only [Pt.U, Pt.locs, Pt.cells, Pt.slots] at X' q1 q2 q3 st hQ
  subst q1 q2 q3
  exact ⟨v, T', L, X', hQ, fun _ k => st.trans k⟩
theorem own_pn {y : MethodName} (hq : plainName y.cls = true) : plainFor y = true := plainFor_of_name hq
end OwnKit
theorem d1_0 : decode prog_73_method_3_code 0 = .ok (.lload_n 0, 1) := by decide +kernel
theorem d1_1 : decode prog_73_method_3_code 1 = .ok (.ldc2_w 9, 3) := by decide +kernel
theorem d1_4 : decode prog_73_method_3_code 4 = .ok (.lload_n 2, 1) := by decide +kernel
theorem d1_5 : decode prog_73_method_3_code 5 = .ok (.ldiv, 1) := by decide +kernel
theorem d1_6 : decode prog_73_method_3_code 6 = .ok (.lcmp, 1) := by decide +kernel
theorem d1_7 : decode prog_73_method_3_code 7 = .ok (.ifCond .le 9, 3) := by decide +kernel
theorem d1_10 : decode prog_73_method_3_code 10 = .ok (.ldc2_w 9, 3) := by decide +kernel
theorem d1_13 : decode prog_73_method_3_code 13 = .ok (.goto 6, 3) := by decide +kernel
theorem d1_16 : decode prog_73_method_3_code 16 = .ok (.lload_n 0, 1) := by decide +kernel
theorem d1_17 : decode prog_73_method_3_code 17 = .ok (.lload_n 2, 1) := by decide +kernel
theorem d1_18 : decode prog_73_method_3_code 18 = .ok (.lmul, 1) := by decide +kernel
theorem d1_19 : decode prog_73_method_3_code 19 = .ok (.lreturn, 1) := by decide +kernel
def own_multiply (x0 : Int64) (x1 : Int64) : Int64 := (if ((9223372036854775807 : Int64) / x1) < x0 then (9223372036854775807 : Int64) else (x0 * x1))
set_option maxRecDepth 65536 in
set_option maxHeartbeats 40000000 in
theorem own_multiply_con (l : Launch) (Z : State) (a0 : Array Value) (hw : ∀ d ∈ tables_1, d.before a0 Z = true) (x0 : Int64) (x1 : Int64) (hb0 : x1 ≠ 0) (h0 : Heap) (ws : List Jvm.Cond) :
    own_Con l Z (⟨"com/example/meter_for_logs/meterforlogs/Saturating", "multiply", "(JJ)J"⟩ : MethodName) prog_73_method_3_code 4 (some .long) ({ frames := 0, cells := 0, slots := 0, locals := 0 } : Room) #[(.long x0), (.long x1)] h0 (own_PQ h0 (.long (own_multiply x0 x1))) ws := by
  refine own_con (F := fun m => (mkF m 0 #[.val (.long x0), .second, .val (.long x1), .second] [])) (own_pn (by first | (simp [plainName, overriddenIn]; done) | decide +kernel)) (fun m => by first | (simp [entryFrame, mkF, argsToLocals, Value.category]; done) | rfl) ?_
  intro p e s m below meth c T X hx hby hml hZ hown hnm hret hlk eT
  show own_Go p e below (own_Out s (own_PQ h0 (.long (own_multiply x0 x1))) 0 0) (T.setTop (mkF m 0 #[.val (.long x0), .second, .val (.long x1), .second] []))
  show own_Go p e below (own_Out s (own_PQ h0 (.long (if ((9223372036854775807 : Int64) / x1) < x0 then (9223372036854775807 : Int64) else (x0 * x1)))) 0 0) _
  refine own_go (fun _ => XT.lloadN X.here hx rfl (hb hby d1_0) rfl) ?_
  show own_Go p e below _ (T.setTop (mkF m 1 #[.val (.long x0), .second, .val (.long x1), .second] [(.long x0)]))
  refine own_go (X.ldc2Long hx hown (mvT hZ (hw _ (List.mem_of_getElem? (i := 5) rfl))) (g := (mkF m 1 #[.val (.long x0), .second, .val (.long x1), .second] [(.long x0)])) rfl (hb hby d1_1)) ?_
  show own_Go p e below _ (T.setTop (mkF m 4 #[.val (.long x0), .second, .val (.long x1), .second] [(.long (9223372036854775807 : Int64)), (.long x0)]))
  refine own_go (fun _ => XT.lloadN X.here hx rfl (hb hby d1_4) rfl) ?_
  show own_Go p e below _ (T.setTop (mkF m 5 #[.val (.long x0), .second, .val (.long x1), .second] [(.long x1), (.long (9223372036854775807 : Int64)), (.long x0)]))
  refine own_go (fun _ => XT.ldiv X.here hx rfl (hb hby d1_5) rfl hb0) ?_
  show own_Go p e below _ (T.setTop (mkF m 6 #[.val (.long x0), .second, .val (.long x1), .second] [(.long ((9223372036854775807 : Int64) / x1)), (.long x0)]))
  refine own_go (fun _ => XT.lcmp X.here hx rfl (hb hby d1_6) rfl) ?_
  show own_Go p e below _ (T.setTop (mkF m 7 #[.val (.long x0), .second, .val (.long x1), .second] [(.int (XT.cmpL x0 ((9223372036854775807 : Int64) / x1)))]))
  refine own_iteL (fun hc7 => ?_) (fun hc7 => ?_)
  · skip
    refine own_go (fun _ => XS.ifNo X.here hx rfl (hb hby d1_7) rfl (XT.ll_le_f hc7)) ?_
    show own_Go p e below _ (T.setTop (mkF m 10 #[.val (.long x0), .second, .val (.long x1), .second] []))
    refine own_go (X.ldc2Long hx hown (mvT hZ (hw _ (List.mem_of_getElem? (i := 5) rfl))) (g := (mkF m 10 #[.val (.long x0), .second, .val (.long x1), .second] [])) rfl (hb hby d1_10)) ?_
    show own_Go p e below _ (T.setTop (mkF m 13 #[.val (.long x0), .second, .val (.long x1), .second] [(.long (9223372036854775807 : Int64))]))
    refine own_go (fun _ => XS.goto X.here hx rfl (pc0 := 13) (pc' := 19) rfl (hb hby d1_13) (by decide) (by decide)) ?_
    show own_Go p e below _ (T.setTop (mkF m 19 #[.val (.long x0), .second, .val (.long x1), .second] [(.long (9223372036854775807 : Int64))]))
    exact own_lret X hx hlk hret (hb hby d1_19) (Nat.zero_le _) (Nat.zero_le _) ⟨rfl, eT, rfl⟩
  · skip
    refine own_go (fun _ => XS.ifYes X.here hx rfl (pc0 := 7) (pc' := 16) rfl (hb hby d1_7) rfl (XT.ll_le_t hc7) (by decide) (by decide)) ?_
    show own_Go p e below _ (T.setTop (mkF m 16 #[.val (.long x0), .second, .val (.long x1), .second] []))
    refine own_go (fun _ => XT.lloadN X.here hx rfl (hb hby d1_16) rfl) ?_
    show own_Go p e below _ (T.setTop (mkF m 17 #[.val (.long x0), .second, .val (.long x1), .second] [(.long x0)]))
    refine own_go (fun _ => XT.lloadN X.here hx rfl (hb hby d1_17) rfl) ?_
    show own_Go p e below _ (T.setTop (mkF m 18 #[.val (.long x0), .second, .val (.long x1), .second] [(.long x1), (.long x0)]))
    refine own_go (fun _ => XT.lmul X.here hx rfl (hb hby d1_18) rfl) ?_
    show own_Go p e below _ (T.setTop (mkF m 19 #[.val (.long x0), .second, .val (.long x1), .second] [(.long (x0 * x1))]))
    exact own_lret X hx hlk hret (hb hby d1_19) (Nat.zero_le _) (Nat.zero_le _) ⟨rfl, eT, rfl⟩
def own_law (x0 : Int64) (x1 : Int64) : Int32 := (if (x1 &&& (9223372036854775807 : Int64)) = (0 : Int64) then (if (((x0 &&& (9223372036854775807 : Int64)) * (1 : Int64)) / (1 : Int64)) = (x0 &&& (9223372036854775807 : Int64)) then (if (own_multiply (x0 &&& (9223372036854775807 : Int64)) (1 : Int64)) = ((x0 &&& (9223372036854775807 : Int64)) * (1 : Int64)) then (1 : Int32) else (0 : Int32)) else (if (own_multiply (x0 &&& (9223372036854775807 : Int64)) (1 : Int64)) = (9223372036854775807 : Int64) then (1 : Int32) else (0 : Int32))) else (if (((x0 &&& (9223372036854775807 : Int64)) * (x1 &&& (9223372036854775807 : Int64))) / (x1 &&& (9223372036854775807 : Int64))) = (x0 &&& (9223372036854775807 : Int64)) then (if (own_multiply (x0 &&& (9223372036854775807 : Int64)) (x1 &&& (9223372036854775807 : Int64))) = ((x0 &&& (9223372036854775807 : Int64)) * (x1 &&& (9223372036854775807 : Int64))) then (1 : Int32) else (0 : Int32)) else (if (own_multiply (x0 &&& (9223372036854775807 : Int64)) (x1 &&& (9223372036854775807 : Int64))) = (9223372036854775807 : Int64) then (1 : Int32) else (0 : Int32))))
set_option maxRecDepth 65536 in
set_option maxHeartbeats 40000000 in
theorem own_law_con (l : Launch) (Z : State) (a0 : Array Value) (hw : ∀ d ∈ tables_1, d.before a0 Z = true) (x0 : Int64) (x1 : Int64)  (h0 : Heap) (ws : List Jvm.Cond) :
    own_Con l Z x code maxLocals ret room_1 #[(.long x0), (.long x1)] h0 (own_PQ h0 (.int (own_law x0 x1))) ws := by
  refine own_con (F := fun m => (mkF m 0 #[.val (.long x0), .second, .val (.long x1), .second, .unset, .unset, .unset, .unset, .unset, .unset, .unset, .unset, .unset, .unset] [])) (own_pn (by first | (simp [plainName, overriddenIn]; done) | decide +kernel)) (fun m => by first | (simp [entryFrame, mkF, argsToLocals, Value.category, maxLocals]; done) | rfl) ?_
  intro p e s m below meth c T X hx hby hml hZ hown hnm hret hlk eT
  show own_Go p e below (own_Out s (own_PQ h0 (.int (own_law x0 x1))) 0 0) (T.setTop (mkF m 0 #[.val (.long x0), .second, .val (.long x1), .second, .unset, .unset, .unset, .unset, .unset, .unset, .unset, .unset, .unset, .unset] []))
  show own_Go p e below (own_Out s (own_PQ h0 (.int (if (x1 &&& (9223372036854775807 : Int64)) = (0 : Int64) then (if (((x0 &&& (9223372036854775807 : Int64)) * (1 : Int64)) / (1 : Int64)) = (x0 &&& (9223372036854775807 : Int64)) then (if (own_multiply (x0 &&& (9223372036854775807 : Int64)) (1 : Int64)) = ((x0 &&& (9223372036854775807 : Int64)) * (1 : Int64)) then (1 : Int32) else (0 : Int32)) else (if (own_multiply (x0 &&& (9223372036854775807 : Int64)) (1 : Int64)) = (9223372036854775807 : Int64) then (1 : Int32) else (0 : Int32))) else (if (((x0 &&& (9223372036854775807 : Int64)) * (x1 &&& (9223372036854775807 : Int64))) / (x1 &&& (9223372036854775807 : Int64))) = (x0 &&& (9223372036854775807 : Int64)) then (if (own_multiply (x0 &&& (9223372036854775807 : Int64)) (x1 &&& (9223372036854775807 : Int64))) = ((x0 &&& (9223372036854775807 : Int64)) * (x1 &&& (9223372036854775807 : Int64))) then (1 : Int32) else (0 : Int32)) else (if (own_multiply (x0 &&& (9223372036854775807 : Int64)) (x1 &&& (9223372036854775807 : Int64))) = (9223372036854775807 : Int64) then (1 : Int32) else (0 : Int32)))))) 0 0) _
  refine own_go (fun _ => XT.lloadN X.here hx rfl (hb hby at_0) rfl) ?_
  show own_Go p e below _ (T.setTop (mkF m 1 #[.val (.long x0), .second, .val (.long x1), .second, .unset, .unset, .unset, .unset, .unset, .unset, .unset, .unset, .unset, .unset] [(.long x0)]))
  refine own_go (X.ldc2Long hx hown (mvT hZ (hw _ (List.mem_of_getElem? (i := 0) rfl))) (g := (mkF m 1 #[.val (.long x0), .second, .val (.long x1), .second, .unset, .unset, .unset, .unset, .unset, .unset, .unset, .unset, .unset, .unset] [(.long x0)])) rfl (hb hby at_1)) ?_
  show own_Go p e below _ (T.setTop (mkF m 4 #[.val (.long x0), .second, .val (.long x1), .second, .unset, .unset, .unset, .unset, .unset, .unset, .unset, .unset, .unset, .unset] [(.long (9223372036854775807 : Int64)), (.long x0)]))
  refine own_go (fun _ => XT.land X.here hx rfl (hb hby at_4) rfl) ?_
  show own_Go p e below _ (T.setTop (mkF m 5 #[.val (.long x0), .second, .val (.long x1), .second, .unset, .unset, .unset, .unset, .unset, .unset, .unset, .unset, .unset, .unset] [(.long (x0 &&& (9223372036854775807 : Int64)))]))
  refine own_go (fun _ => XT.lstore X.here hx rfl (hb hby at_5) rfl (l' := #[.val (.long x0), .second, .val (.long x1), .second, .val (.long (x0 &&& (9223372036854775807 : Int64))), .second, .unset, .unset, .unset, .unset, .unset, .unset, .unset, .unset]) rfl) ?_
  show own_Go p e below _ (T.setTop (mkF m 7 #[.val (.long x0), .second, .val (.long x1), .second, .val (.long (x0 &&& (9223372036854775807 : Int64))), .second, .unset, .unset, .unset, .unset, .unset, .unset, .unset, .unset] []))
  refine own_go (fun _ => XT.lloadN X.here hx rfl (hb hby at_7) rfl) ?_
  show own_Go p e below _ (T.setTop (mkF m 8 #[.val (.long x0), .second, .val (.long x1), .second, .val (.long (x0 &&& (9223372036854775807 : Int64))), .second, .unset, .unset, .unset, .unset, .unset, .unset, .unset, .unset] [(.long x1)]))
  refine own_go (X.ldc2Long hx hown (mvT hZ (hw _ (List.mem_of_getElem? (i := 0) rfl))) (g := (mkF m 8 #[.val (.long x0), .second, .val (.long x1), .second, .val (.long (x0 &&& (9223372036854775807 : Int64))), .second, .unset, .unset, .unset, .unset, .unset, .unset, .unset, .unset] [(.long x1)])) rfl (hb hby at_8)) ?_
  show own_Go p e below _ (T.setTop (mkF m 11 #[.val (.long x0), .second, .val (.long x1), .second, .val (.long (x0 &&& (9223372036854775807 : Int64))), .second, .unset, .unset, .unset, .unset, .unset, .unset, .unset, .unset] [(.long (9223372036854775807 : Int64)), (.long x1)]))
  refine own_go (fun _ => XT.land X.here hx rfl (hb hby at_11) rfl) ?_
  show own_Go p e below _ (T.setTop (mkF m 12 #[.val (.long x0), .second, .val (.long x1), .second, .val (.long (x0 &&& (9223372036854775807 : Int64))), .second, .unset, .unset, .unset, .unset, .unset, .unset, .unset, .unset] [(.long (x1 &&& (9223372036854775807 : Int64)))]))
  refine own_go (fun _ => XT.lstore X.here hx rfl (hb hby at_12) rfl (l' := #[.val (.long x0), .second, .val (.long x1), .second, .val (.long (x0 &&& (9223372036854775807 : Int64))), .second, .val (.long (x1 &&& (9223372036854775807 : Int64))), .second, .unset, .unset, .unset, .unset, .unset, .unset]) rfl) ?_
  show own_Go p e below _ (T.setTop (mkF m 14 #[.val (.long x0), .second, .val (.long x1), .second, .val (.long (x0 &&& (9223372036854775807 : Int64))), .second, .val (.long (x1 &&& (9223372036854775807 : Int64))), .second, .unset, .unset, .unset, .unset, .unset, .unset] []))
  refine own_go (fun _ => XT.lload X.here hx rfl (hb hby at_14) rfl) ?_
  show own_Go p e below _ (T.setTop (mkF m 16 #[.val (.long x0), .second, .val (.long x1), .second, .val (.long (x0 &&& (9223372036854775807 : Int64))), .second, .val (.long (x1 &&& (9223372036854775807 : Int64))), .second, .unset, .unset, .unset, .unset, .unset, .unset] [(.long (x1 &&& (9223372036854775807 : Int64)))]))
  refine own_go (fun _ => XT.lconst X.here hx rfl (hb hby at_16)) ?_
  show own_Go p e below _ (T.setTop (mkF m 17 #[.val (.long x0), .second, .val (.long x1), .second, .val (.long (x0 &&& (9223372036854775807 : Int64))), .second, .val (.long (x1 &&& (9223372036854775807 : Int64))), .second, .unset, .unset, .unset, .unset, .unset, .unset] [(.long (0 : Int64)), (.long (x1 &&& (9223372036854775807 : Int64)))]))
  refine own_go (fun _ => XT.lcmp X.here hx rfl (hb hby at_17) rfl) ?_
  show own_Go p e below _ (T.setTop (mkF m 18 #[.val (.long x0), .second, .val (.long x1), .second, .val (.long (x0 &&& (9223372036854775807 : Int64))), .second, .val (.long (x1 &&& (9223372036854775807 : Int64))), .second, .unset, .unset, .unset, .unset, .unset, .unset] [(.int (XT.cmpL (x1 &&& (9223372036854775807 : Int64)) (0 : Int64)))]))
  refine own_iteI (fun hc18 => ?_) (fun hc18 => ?_)
  · skip
    refine own_go (fun _ => XS.ifNo X.here hx rfl (hb hby at_18) rfl (XT.ll_ne_f hc18)) ?_
    show own_Go p e below _ (T.setTop (mkF m 21 #[.val (.long x0), .second, .val (.long x1), .second, .val (.long (x0 &&& (9223372036854775807 : Int64))), .second, .val (.long (x1 &&& (9223372036854775807 : Int64))), .second, .unset, .unset, .unset, .unset, .unset, .unset] []))
    refine own_go (fun _ => XT.lconst X.here hx rfl (hb hby at_21)) ?_
    show own_Go p e below _ (T.setTop (mkF m 22 #[.val (.long x0), .second, .val (.long x1), .second, .val (.long (x0 &&& (9223372036854775807 : Int64))), .second, .val (.long (x1 &&& (9223372036854775807 : Int64))), .second, .unset, .unset, .unset, .unset, .unset, .unset] [(.long (1 : Int64))]))
    refine own_go (fun _ => XT.lstore X.here hx rfl (hb hby at_22) rfl (l' := #[.val (.long x0), .second, .val (.long x1), .second, .val (.long (x0 &&& (9223372036854775807 : Int64))), .second, .val (.long (1 : Int64)), .second, .unset, .unset, .unset, .unset, .unset, .unset]) rfl) ?_
    show own_Go p e below _ (T.setTop (mkF m 24 #[.val (.long x0), .second, .val (.long x1), .second, .val (.long (x0 &&& (9223372036854775807 : Int64))), .second, .val (.long (1 : Int64)), .second, .unset, .unset, .unset, .unset, .unset, .unset] []))
    refine own_go (fun _ => XT.lload X.here hx rfl (hb hby at_24) rfl) ?_
    show own_Go p e below _ (T.setTop (mkF m 26 #[.val (.long x0), .second, .val (.long x1), .second, .val (.long (x0 &&& (9223372036854775807 : Int64))), .second, .val (.long (1 : Int64)), .second, .unset, .unset, .unset, .unset, .unset, .unset] [(.long (x0 &&& (9223372036854775807 : Int64)))]))
    refine own_go (fun _ => XT.lload X.here hx rfl (hb hby at_26) rfl) ?_
    show own_Go p e below _ (T.setTop (mkF m 28 #[.val (.long x0), .second, .val (.long x1), .second, .val (.long (x0 &&& (9223372036854775807 : Int64))), .second, .val (.long (1 : Int64)), .second, .unset, .unset, .unset, .unset, .unset, .unset] [(.long (1 : Int64)), (.long (x0 &&& (9223372036854775807 : Int64)))]))
    refine own_go (fun _ => XT.lmul X.here hx rfl (hb hby at_28) rfl) ?_
    show own_Go p e below _ (T.setTop (mkF m 29 #[.val (.long x0), .second, .val (.long x1), .second, .val (.long (x0 &&& (9223372036854775807 : Int64))), .second, .val (.long (1 : Int64)), .second, .unset, .unset, .unset, .unset, .unset, .unset] [(.long ((x0 &&& (9223372036854775807 : Int64)) * (1 : Int64)))]))
    refine own_go (fun _ => XT.lstore X.here hx rfl (hb hby at_29) rfl (l' := #[.val (.long x0), .second, .val (.long x1), .second, .val (.long (x0 &&& (9223372036854775807 : Int64))), .second, .val (.long (1 : Int64)), .second, .val (.long ((x0 &&& (9223372036854775807 : Int64)) * (1 : Int64))), .second, .unset, .unset, .unset, .unset]) rfl) ?_
    show own_Go p e below _ (T.setTop (mkF m 31 #[.val (.long x0), .second, .val (.long x1), .second, .val (.long (x0 &&& (9223372036854775807 : Int64))), .second, .val (.long (1 : Int64)), .second, .val (.long ((x0 &&& (9223372036854775807 : Int64)) * (1 : Int64))), .second, .unset, .unset, .unset, .unset] []))
    refine own_go (fun _ => XT.lload X.here hx rfl (hb hby at_31) rfl) ?_
    show own_Go p e below _ (T.setTop (mkF m 33 #[.val (.long x0), .second, .val (.long x1), .second, .val (.long (x0 &&& (9223372036854775807 : Int64))), .second, .val (.long (1 : Int64)), .second, .val (.long ((x0 &&& (9223372036854775807 : Int64)) * (1 : Int64))), .second, .unset, .unset, .unset, .unset] [(.long ((x0 &&& (9223372036854775807 : Int64)) * (1 : Int64)))]))
    refine own_go (fun _ => XT.lload X.here hx rfl (hb hby at_33) rfl) ?_
    show own_Go p e below _ (T.setTop (mkF m 35 #[.val (.long x0), .second, .val (.long x1), .second, .val (.long (x0 &&& (9223372036854775807 : Int64))), .second, .val (.long (1 : Int64)), .second, .val (.long ((x0 &&& (9223372036854775807 : Int64)) * (1 : Int64))), .second, .unset, .unset, .unset, .unset] [(.long (1 : Int64)), (.long ((x0 &&& (9223372036854775807 : Int64)) * (1 : Int64)))]))
    refine own_go (fun _ => XT.ldiv X.here hx rfl (hb hby at_35) rfl (by first | decide | exact hc18)) ?_
    show own_Go p e below _ (T.setTop (mkF m 36 #[.val (.long x0), .second, .val (.long x1), .second, .val (.long (x0 &&& (9223372036854775807 : Int64))), .second, .val (.long (1 : Int64)), .second, .val (.long ((x0 &&& (9223372036854775807 : Int64)) * (1 : Int64))), .second, .unset, .unset, .unset, .unset] [(.long (((x0 &&& (9223372036854775807 : Int64)) * (1 : Int64)) / (1 : Int64)))]))
    refine own_go (fun _ => XT.lload X.here hx rfl (hb hby at_36) rfl) ?_
    show own_Go p e below _ (T.setTop (mkF m 38 #[.val (.long x0), .second, .val (.long x1), .second, .val (.long (x0 &&& (9223372036854775807 : Int64))), .second, .val (.long (1 : Int64)), .second, .val (.long ((x0 &&& (9223372036854775807 : Int64)) * (1 : Int64))), .second, .unset, .unset, .unset, .unset] [(.long (x0 &&& (9223372036854775807 : Int64))), (.long (((x0 &&& (9223372036854775807 : Int64)) * (1 : Int64)) / (1 : Int64)))]))
    refine own_go (fun _ => XT.lcmp X.here hx rfl (hb hby at_38) rfl) ?_
    show own_Go p e below _ (T.setTop (mkF m 39 #[.val (.long x0), .second, .val (.long x1), .second, .val (.long (x0 &&& (9223372036854775807 : Int64))), .second, .val (.long (1 : Int64)), .second, .val (.long ((x0 &&& (9223372036854775807 : Int64)) * (1 : Int64))), .second, .unset, .unset, .unset, .unset] [(.int (XT.cmpL (((x0 &&& (9223372036854775807 : Int64)) * (1 : Int64)) / (1 : Int64)) (x0 &&& (9223372036854775807 : Int64))))]))
    refine own_iteI (fun hc39 => ?_) (fun hc39 => ?_)
    · skip
      refine own_go (fun _ => XS.ifNo X.here hx rfl (hb hby at_39) rfl (XT.ll_ne_f hc39)) ?_
      show own_Go p e below _ (T.setTop (mkF m 42 #[.val (.long x0), .second, .val (.long x1), .second, .val (.long (x0 &&& (9223372036854775807 : Int64))), .second, .val (.long (1 : Int64)), .second, .val (.long ((x0 &&& (9223372036854775807 : Int64)) * (1 : Int64))), .second, .unset, .unset, .unset, .unset] []))
      refine own_go (fun _ => XT.lload X.here hx rfl (hb hby at_42) rfl) ?_
      show own_Go p e below _ (T.setTop (mkF m 44 #[.val (.long x0), .second, .val (.long x1), .second, .val (.long (x0 &&& (9223372036854775807 : Int64))), .second, .val (.long (1 : Int64)), .second, .val (.long ((x0 &&& (9223372036854775807 : Int64)) * (1 : Int64))), .second, .unset, .unset, .unset, .unset] [(.long ((x0 &&& (9223372036854775807 : Int64)) * (1 : Int64)))]))
      refine own_go (fun _ => XS.goto X.here hx rfl (pc0 := 44) (pc' := 50) rfl (hb hby at_44) (by decide) (by decide)) ?_
      show own_Go p e below _ (T.setTop (mkF m 50 #[.val (.long x0), .second, .val (.long x1), .second, .val (.long (x0 &&& (9223372036854775807 : Int64))), .second, .val (.long (1 : Int64)), .second, .val (.long ((x0 &&& (9223372036854775807 : Int64)) * (1 : Int64))), .second, .unset, .unset, .unset, .unset] [(.long ((x0 &&& (9223372036854775807 : Int64)) * (1 : Int64)))]))
      refine own_go (fun _ => XT.lstore X.here hx rfl (hb hby at_50) rfl (l' := #[.val (.long x0), .second, .val (.long x1), .second, .val (.long (x0 &&& (9223372036854775807 : Int64))), .second, .val (.long (1 : Int64)), .second, .val (.long ((x0 &&& (9223372036854775807 : Int64)) * (1 : Int64))), .second, .val (.long ((x0 &&& (9223372036854775807 : Int64)) * (1 : Int64))), .second, .unset, .unset]) rfl) ?_
      show own_Go p e below _ (T.setTop (mkF m 52 #[.val (.long x0), .second, .val (.long x1), .second, .val (.long (x0 &&& (9223372036854775807 : Int64))), .second, .val (.long (1 : Int64)), .second, .val (.long ((x0 &&& (9223372036854775807 : Int64)) * (1 : Int64))), .second, .val (.long ((x0 &&& (9223372036854775807 : Int64)) * (1 : Int64))), .second, .unset, .unset] []))
      refine own_go (fun _ => XT.lload X.here hx rfl (hb hby at_52) rfl) ?_
      show own_Go p e below _ (T.setTop (mkF m 54 #[.val (.long x0), .second, .val (.long x1), .second, .val (.long (x0 &&& (9223372036854775807 : Int64))), .second, .val (.long (1 : Int64)), .second, .val (.long ((x0 &&& (9223372036854775807 : Int64)) * (1 : Int64))), .second, .val (.long ((x0 &&& (9223372036854775807 : Int64)) * (1 : Int64))), .second, .unset, .unset] [(.long (x0 &&& (9223372036854775807 : Int64)))]))
      refine own_go (fun _ => XT.lload X.here hx rfl (hb hby at_54) rfl) ?_
      show own_Go p e below _ (T.setTop (mkF m 56 #[.val (.long x0), .second, .val (.long x1), .second, .val (.long (x0 &&& (9223372036854775807 : Int64))), .second, .val (.long (1 : Int64)), .second, .val (.long ((x0 &&& (9223372036854775807 : Int64)) * (1 : Int64))), .second, .val (.long ((x0 &&& (9223372036854775807 : Int64)) * (1 : Int64))), .second, .unset, .unset] [(.long (1 : Int64)), (.long (x0 &&& (9223372036854775807 : Int64)))]))
      obtain ⟨T1, X1, e1, st1⟩ := own_callSP X hx hZ hown (argsL := [(.long (x0 &&& (9223372036854775807 : Int64))), (.long (1 : Int64))]) (rest := []) (own_multiply_con l Z a0 hw (x0 &&& (9223372036854775807 : Int64)) (1 : Int64) (by first | decide | exact hc18) h0 []) eT (hw _ (List.mem_of_getElem? (i := 1) rfl)) (hw _ (List.mem_of_getElem? (i := 2) rfl)) (hw _ (List.mem_of_getElem? (i := 3) rfl)) (hw _ (List.mem_of_getElem? (i := 4) rfl)) (by decide) (by decide +kernel : parseMethodDescriptor "(JJ)J" = some ⟨[.long, .long], some .long⟩) rfl (g := (mkF m 56 #[.val (.long x0), .second, .val (.long x1), .second, .val (.long (x0 &&& (9223372036854775807 : Int64))), .second, .val (.long (1 : Int64)), .second, .val (.long ((x0 &&& (9223372036854775807 : Int64)) * (1 : Int64))), .second, .val (.long ((x0 &&& (9223372036854775807 : Int64)) * (1 : Int64))), .second, .unset, .unset] [(.long (1 : Int64)), (.long (x0 &&& (9223372036854775807 : Int64)))])) rfl (by rw [hml]; rfl) rfl 0 (by show 2 * 0 + _ ≤ _; exact Nat.le_of_eq rfl) (hb hby at_56) (by decide) (by decide) rfl rfl (by decide) (by decide)
      refine own_go st1 ?_
      show own_Go p e below _ (T1.setTop (mkF m 59 #[.val (.long x0), .second, .val (.long x1), .second, .val (.long (x0 &&& (9223372036854775807 : Int64))), .second, .val (.long (1 : Int64)), .second, .val (.long ((x0 &&& (9223372036854775807 : Int64)) * (1 : Int64))), .second, .val (.long ((x0 &&& (9223372036854775807 : Int64)) * (1 : Int64))), .second, .unset, .unset] [(.long (own_multiply (x0 &&& (9223372036854775807 : Int64)) (1 : Int64)))]))
      refine own_go (fun _ => XT.lstore X1.here hx rfl (hb hby at_59) rfl (l' := #[.val (.long x0), .second, .val (.long x1), .second, .val (.long (x0 &&& (9223372036854775807 : Int64))), .second, .val (.long (1 : Int64)), .second, .val (.long ((x0 &&& (9223372036854775807 : Int64)) * (1 : Int64))), .second, .val (.long ((x0 &&& (9223372036854775807 : Int64)) * (1 : Int64))), .second, .val (.long (own_multiply (x0 &&& (9223372036854775807 : Int64)) (1 : Int64))), .second]) rfl) ?_
      show own_Go p e below _ (T1.setTop (mkF m 61 #[.val (.long x0), .second, .val (.long x1), .second, .val (.long (x0 &&& (9223372036854775807 : Int64))), .second, .val (.long (1 : Int64)), .second, .val (.long ((x0 &&& (9223372036854775807 : Int64)) * (1 : Int64))), .second, .val (.long ((x0 &&& (9223372036854775807 : Int64)) * (1 : Int64))), .second, .val (.long (own_multiply (x0 &&& (9223372036854775807 : Int64)) (1 : Int64))), .second] []))
      refine own_go (fun _ => XT.lload X1.here hx rfl (hb hby at_61) rfl) ?_
      show own_Go p e below _ (T1.setTop (mkF m 63 #[.val (.long x0), .second, .val (.long x1), .second, .val (.long (x0 &&& (9223372036854775807 : Int64))), .second, .val (.long (1 : Int64)), .second, .val (.long ((x0 &&& (9223372036854775807 : Int64)) * (1 : Int64))), .second, .val (.long ((x0 &&& (9223372036854775807 : Int64)) * (1 : Int64))), .second, .val (.long (own_multiply (x0 &&& (9223372036854775807 : Int64)) (1 : Int64))), .second] [(.long (own_multiply (x0 &&& (9223372036854775807 : Int64)) (1 : Int64)))]))
      refine own_go (fun _ => XT.lload X1.here hx rfl (hb hby at_63) rfl) ?_
      show own_Go p e below _ (T1.setTop (mkF m 65 #[.val (.long x0), .second, .val (.long x1), .second, .val (.long (x0 &&& (9223372036854775807 : Int64))), .second, .val (.long (1 : Int64)), .second, .val (.long ((x0 &&& (9223372036854775807 : Int64)) * (1 : Int64))), .second, .val (.long ((x0 &&& (9223372036854775807 : Int64)) * (1 : Int64))), .second, .val (.long (own_multiply (x0 &&& (9223372036854775807 : Int64)) (1 : Int64))), .second] [(.long ((x0 &&& (9223372036854775807 : Int64)) * (1 : Int64))), (.long (own_multiply (x0 &&& (9223372036854775807 : Int64)) (1 : Int64)))]))
      refine own_go (fun _ => XT.lcmp X1.here hx rfl (hb hby at_65) rfl) ?_
      show own_Go p e below _ (T1.setTop (mkF m 66 #[.val (.long x0), .second, .val (.long x1), .second, .val (.long (x0 &&& (9223372036854775807 : Int64))), .second, .val (.long (1 : Int64)), .second, .val (.long ((x0 &&& (9223372036854775807 : Int64)) * (1 : Int64))), .second, .val (.long ((x0 &&& (9223372036854775807 : Int64)) * (1 : Int64))), .second, .val (.long (own_multiply (x0 &&& (9223372036854775807 : Int64)) (1 : Int64))), .second] [(.int (XT.cmpL (own_multiply (x0 &&& (9223372036854775807 : Int64)) (1 : Int64)) ((x0 &&& (9223372036854775807 : Int64)) * (1 : Int64))))]))
      refine own_iteI (fun hc66 => ?_) (fun hc66 => ?_)
      · skip
        refine own_go (fun _ => XS.ifNo X1.here hx rfl (hb hby at_66) rfl (XT.ll_ne_f hc66)) ?_
        show own_Go p e below _ (T1.setTop (mkF m 69 #[.val (.long x0), .second, .val (.long x1), .second, .val (.long (x0 &&& (9223372036854775807 : Int64))), .second, .val (.long (1 : Int64)), .second, .val (.long ((x0 &&& (9223372036854775807 : Int64)) * (1 : Int64))), .second, .val (.long ((x0 &&& (9223372036854775807 : Int64)) * (1 : Int64))), .second, .val (.long (own_multiply (x0 &&& (9223372036854775807 : Int64)) (1 : Int64))), .second] []))
        refine own_go (fun _ => XS.iconst X1.here hx rfl (hb hby at_69)) ?_
        show own_Go p e below _ (T1.setTop (mkF m 70 #[.val (.long x0), .second, .val (.long x1), .second, .val (.long (x0 &&& (9223372036854775807 : Int64))), .second, .val (.long (1 : Int64)), .second, .val (.long ((x0 &&& (9223372036854775807 : Int64)) * (1 : Int64))), .second, .val (.long ((x0 &&& (9223372036854775807 : Int64)) * (1 : Int64))), .second, .val (.long (own_multiply (x0 &&& (9223372036854775807 : Int64)) (1 : Int64))), .second] [(.int (1 : Int32))]))
        refine own_go (fun _ => XS.goto X1.here hx rfl (pc0 := 70) (pc' := 74) rfl (hb hby at_70) (by decide) (by decide)) ?_
        show own_Go p e below _ (T1.setTop (mkF m 74 #[.val (.long x0), .second, .val (.long x1), .second, .val (.long (x0 &&& (9223372036854775807 : Int64))), .second, .val (.long (1 : Int64)), .second, .val (.long ((x0 &&& (9223372036854775807 : Int64)) * (1 : Int64))), .second, .val (.long ((x0 &&& (9223372036854775807 : Int64)) * (1 : Int64))), .second, .val (.long (own_multiply (x0 &&& (9223372036854775807 : Int64)) (1 : Int64))), .second] [(.int (1 : Int32))]))
        exact own_iret X1 hx hlk hret (Or.inr (Or.inl rfl)) rfl (hb hby at_74) (Nat.zero_le _) (Nat.zero_le _) ⟨rfl, e1, rfl⟩
      · skip
        refine own_go (fun _ => XS.ifYes X1.here hx rfl (pc0 := 66) (pc' := 73) rfl (hb hby at_66) rfl (XT.ll_ne_t hc66) (by decide) (by decide)) ?_
        show own_Go p e below _ (T1.setTop (mkF m 73 #[.val (.long x0), .second, .val (.long x1), .second, .val (.long (x0 &&& (9223372036854775807 : Int64))), .second, .val (.long (1 : Int64)), .second, .val (.long ((x0 &&& (9223372036854775807 : Int64)) * (1 : Int64))), .second, .val (.long ((x0 &&& (9223372036854775807 : Int64)) * (1 : Int64))), .second, .val (.long (own_multiply (x0 &&& (9223372036854775807 : Int64)) (1 : Int64))), .second] []))
        refine own_go (fun _ => XS.iconst X1.here hx rfl (hb hby at_73)) ?_
        show own_Go p e below _ (T1.setTop (mkF m 74 #[.val (.long x0), .second, .val (.long x1), .second, .val (.long (x0 &&& (9223372036854775807 : Int64))), .second, .val (.long (1 : Int64)), .second, .val (.long ((x0 &&& (9223372036854775807 : Int64)) * (1 : Int64))), .second, .val (.long ((x0 &&& (9223372036854775807 : Int64)) * (1 : Int64))), .second, .val (.long (own_multiply (x0 &&& (9223372036854775807 : Int64)) (1 : Int64))), .second] [(.int (0 : Int32))]))
        exact own_iret X1 hx hlk hret (Or.inr (Or.inl rfl)) rfl (hb hby at_74) (Nat.zero_le _) (Nat.zero_le _) ⟨rfl, e1, rfl⟩
    · skip
      refine own_go (fun _ => XS.ifYes X.here hx rfl (pc0 := 39) (pc' := 47) rfl (hb hby at_39) rfl (XT.ll_ne_t hc39) (by decide) (by decide)) ?_
      show own_Go p e below _ (T.setTop (mkF m 47 #[.val (.long x0), .second, .val (.long x1), .second, .val (.long (x0 &&& (9223372036854775807 : Int64))), .second, .val (.long (1 : Int64)), .second, .val (.long ((x0 &&& (9223372036854775807 : Int64)) * (1 : Int64))), .second, .unset, .unset, .unset, .unset] []))
      refine own_go (X.ldc2Long hx hown (mvT hZ (hw _ (List.mem_of_getElem? (i := 0) rfl))) (g := (mkF m 47 #[.val (.long x0), .second, .val (.long x1), .second, .val (.long (x0 &&& (9223372036854775807 : Int64))), .second, .val (.long (1 : Int64)), .second, .val (.long ((x0 &&& (9223372036854775807 : Int64)) * (1 : Int64))), .second, .unset, .unset, .unset, .unset] [])) rfl (hb hby at_47)) ?_
      show own_Go p e below _ (T.setTop (mkF m 50 #[.val (.long x0), .second, .val (.long x1), .second, .val (.long (x0 &&& (9223372036854775807 : Int64))), .second, .val (.long (1 : Int64)), .second, .val (.long ((x0 &&& (9223372036854775807 : Int64)) * (1 : Int64))), .second, .unset, .unset, .unset, .unset] [(.long (9223372036854775807 : Int64))]))
      refine own_go (fun _ => XT.lstore X.here hx rfl (hb hby at_50) rfl (l' := #[.val (.long x0), .second, .val (.long x1), .second, .val (.long (x0 &&& (9223372036854775807 : Int64))), .second, .val (.long (1 : Int64)), .second, .val (.long ((x0 &&& (9223372036854775807 : Int64)) * (1 : Int64))), .second, .val (.long (9223372036854775807 : Int64)), .second, .unset, .unset]) rfl) ?_
      show own_Go p e below _ (T.setTop (mkF m 52 #[.val (.long x0), .second, .val (.long x1), .second, .val (.long (x0 &&& (9223372036854775807 : Int64))), .second, .val (.long (1 : Int64)), .second, .val (.long ((x0 &&& (9223372036854775807 : Int64)) * (1 : Int64))), .second, .val (.long (9223372036854775807 : Int64)), .second, .unset, .unset] []))
      refine own_go (fun _ => XT.lload X.here hx rfl (hb hby at_52) rfl) ?_
      show own_Go p e below _ (T.setTop (mkF m 54 #[.val (.long x0), .second, .val (.long x1), .second, .val (.long (x0 &&& (9223372036854775807 : Int64))), .second, .val (.long (1 : Int64)), .second, .val (.long ((x0 &&& (9223372036854775807 : Int64)) * (1 : Int64))), .second, .val (.long (9223372036854775807 : Int64)), .second, .unset, .unset] [(.long (x0 &&& (9223372036854775807 : Int64)))]))
      refine own_go (fun _ => XT.lload X.here hx rfl (hb hby at_54) rfl) ?_
      show own_Go p e below _ (T.setTop (mkF m 56 #[.val (.long x0), .second, .val (.long x1), .second, .val (.long (x0 &&& (9223372036854775807 : Int64))), .second, .val (.long (1 : Int64)), .second, .val (.long ((x0 &&& (9223372036854775807 : Int64)) * (1 : Int64))), .second, .val (.long (9223372036854775807 : Int64)), .second, .unset, .unset] [(.long (1 : Int64)), (.long (x0 &&& (9223372036854775807 : Int64)))]))
      obtain ⟨T2, X2, e2, st2⟩ := own_callSP X hx hZ hown (argsL := [(.long (x0 &&& (9223372036854775807 : Int64))), (.long (1 : Int64))]) (rest := []) (own_multiply_con l Z a0 hw (x0 &&& (9223372036854775807 : Int64)) (1 : Int64) (by first | decide | exact hc18) h0 []) eT (hw _ (List.mem_of_getElem? (i := 1) rfl)) (hw _ (List.mem_of_getElem? (i := 2) rfl)) (hw _ (List.mem_of_getElem? (i := 3) rfl)) (hw _ (List.mem_of_getElem? (i := 4) rfl)) (by decide) (by decide +kernel : parseMethodDescriptor "(JJ)J" = some ⟨[.long, .long], some .long⟩) rfl (g := (mkF m 56 #[.val (.long x0), .second, .val (.long x1), .second, .val (.long (x0 &&& (9223372036854775807 : Int64))), .second, .val (.long (1 : Int64)), .second, .val (.long ((x0 &&& (9223372036854775807 : Int64)) * (1 : Int64))), .second, .val (.long (9223372036854775807 : Int64)), .second, .unset, .unset] [(.long (1 : Int64)), (.long (x0 &&& (9223372036854775807 : Int64)))])) rfl (by rw [hml]; rfl) rfl 0 (by show 2 * 0 + _ ≤ _; exact Nat.le_of_eq rfl) (hb hby at_56) (by decide) (by decide) rfl rfl (by decide) (by decide)
      refine own_go st2 ?_
      show own_Go p e below _ (T2.setTop (mkF m 59 #[.val (.long x0), .second, .val (.long x1), .second, .val (.long (x0 &&& (9223372036854775807 : Int64))), .second, .val (.long (1 : Int64)), .second, .val (.long ((x0 &&& (9223372036854775807 : Int64)) * (1 : Int64))), .second, .val (.long (9223372036854775807 : Int64)), .second, .unset, .unset] [(.long (own_multiply (x0 &&& (9223372036854775807 : Int64)) (1 : Int64)))]))
      refine own_go (fun _ => XT.lstore X2.here hx rfl (hb hby at_59) rfl (l' := #[.val (.long x0), .second, .val (.long x1), .second, .val (.long (x0 &&& (9223372036854775807 : Int64))), .second, .val (.long (1 : Int64)), .second, .val (.long ((x0 &&& (9223372036854775807 : Int64)) * (1 : Int64))), .second, .val (.long (9223372036854775807 : Int64)), .second, .val (.long (own_multiply (x0 &&& (9223372036854775807 : Int64)) (1 : Int64))), .second]) rfl) ?_
      show own_Go p e below _ (T2.setTop (mkF m 61 #[.val (.long x0), .second, .val (.long x1), .second, .val (.long (x0 &&& (9223372036854775807 : Int64))), .second, .val (.long (1 : Int64)), .second, .val (.long ((x0 &&& (9223372036854775807 : Int64)) * (1 : Int64))), .second, .val (.long (9223372036854775807 : Int64)), .second, .val (.long (own_multiply (x0 &&& (9223372036854775807 : Int64)) (1 : Int64))), .second] []))
      refine own_go (fun _ => XT.lload X2.here hx rfl (hb hby at_61) rfl) ?_
      show own_Go p e below _ (T2.setTop (mkF m 63 #[.val (.long x0), .second, .val (.long x1), .second, .val (.long (x0 &&& (9223372036854775807 : Int64))), .second, .val (.long (1 : Int64)), .second, .val (.long ((x0 &&& (9223372036854775807 : Int64)) * (1 : Int64))), .second, .val (.long (9223372036854775807 : Int64)), .second, .val (.long (own_multiply (x0 &&& (9223372036854775807 : Int64)) (1 : Int64))), .second] [(.long (own_multiply (x0 &&& (9223372036854775807 : Int64)) (1 : Int64)))]))
      refine own_go (fun _ => XT.lload X2.here hx rfl (hb hby at_63) rfl) ?_
      show own_Go p e below _ (T2.setTop (mkF m 65 #[.val (.long x0), .second, .val (.long x1), .second, .val (.long (x0 &&& (9223372036854775807 : Int64))), .second, .val (.long (1 : Int64)), .second, .val (.long ((x0 &&& (9223372036854775807 : Int64)) * (1 : Int64))), .second, .val (.long (9223372036854775807 : Int64)), .second, .val (.long (own_multiply (x0 &&& (9223372036854775807 : Int64)) (1 : Int64))), .second] [(.long (9223372036854775807 : Int64)), (.long (own_multiply (x0 &&& (9223372036854775807 : Int64)) (1 : Int64)))]))
      refine own_go (fun _ => XT.lcmp X2.here hx rfl (hb hby at_65) rfl) ?_
      show own_Go p e below _ (T2.setTop (mkF m 66 #[.val (.long x0), .second, .val (.long x1), .second, .val (.long (x0 &&& (9223372036854775807 : Int64))), .second, .val (.long (1 : Int64)), .second, .val (.long ((x0 &&& (9223372036854775807 : Int64)) * (1 : Int64))), .second, .val (.long (9223372036854775807 : Int64)), .second, .val (.long (own_multiply (x0 &&& (9223372036854775807 : Int64)) (1 : Int64))), .second] [(.int (XT.cmpL (own_multiply (x0 &&& (9223372036854775807 : Int64)) (1 : Int64)) (9223372036854775807 : Int64)))]))
      refine own_iteI (fun hc66 => ?_) (fun hc66 => ?_)
      · skip
        refine own_go (fun _ => XS.ifNo X2.here hx rfl (hb hby at_66) rfl (XT.ll_ne_f hc66)) ?_
        show own_Go p e below _ (T2.setTop (mkF m 69 #[.val (.long x0), .second, .val (.long x1), .second, .val (.long (x0 &&& (9223372036854775807 : Int64))), .second, .val (.long (1 : Int64)), .second, .val (.long ((x0 &&& (9223372036854775807 : Int64)) * (1 : Int64))), .second, .val (.long (9223372036854775807 : Int64)), .second, .val (.long (own_multiply (x0 &&& (9223372036854775807 : Int64)) (1 : Int64))), .second] []))
        refine own_go (fun _ => XS.iconst X2.here hx rfl (hb hby at_69)) ?_
        show own_Go p e below _ (T2.setTop (mkF m 70 #[.val (.long x0), .second, .val (.long x1), .second, .val (.long (x0 &&& (9223372036854775807 : Int64))), .second, .val (.long (1 : Int64)), .second, .val (.long ((x0 &&& (9223372036854775807 : Int64)) * (1 : Int64))), .second, .val (.long (9223372036854775807 : Int64)), .second, .val (.long (own_multiply (x0 &&& (9223372036854775807 : Int64)) (1 : Int64))), .second] [(.int (1 : Int32))]))
        refine own_go (fun _ => XS.goto X2.here hx rfl (pc0 := 70) (pc' := 74) rfl (hb hby at_70) (by decide) (by decide)) ?_
        show own_Go p e below _ (T2.setTop (mkF m 74 #[.val (.long x0), .second, .val (.long x1), .second, .val (.long (x0 &&& (9223372036854775807 : Int64))), .second, .val (.long (1 : Int64)), .second, .val (.long ((x0 &&& (9223372036854775807 : Int64)) * (1 : Int64))), .second, .val (.long (9223372036854775807 : Int64)), .second, .val (.long (own_multiply (x0 &&& (9223372036854775807 : Int64)) (1 : Int64))), .second] [(.int (1 : Int32))]))
        exact own_iret X2 hx hlk hret (Or.inr (Or.inl rfl)) rfl (hb hby at_74) (Nat.zero_le _) (Nat.zero_le _) ⟨rfl, e2, rfl⟩
      · skip
        refine own_go (fun _ => XS.ifYes X2.here hx rfl (pc0 := 66) (pc' := 73) rfl (hb hby at_66) rfl (XT.ll_ne_t hc66) (by decide) (by decide)) ?_
        show own_Go p e below _ (T2.setTop (mkF m 73 #[.val (.long x0), .second, .val (.long x1), .second, .val (.long (x0 &&& (9223372036854775807 : Int64))), .second, .val (.long (1 : Int64)), .second, .val (.long ((x0 &&& (9223372036854775807 : Int64)) * (1 : Int64))), .second, .val (.long (9223372036854775807 : Int64)), .second, .val (.long (own_multiply (x0 &&& (9223372036854775807 : Int64)) (1 : Int64))), .second] []))
        refine own_go (fun _ => XS.iconst X2.here hx rfl (hb hby at_73)) ?_
        show own_Go p e below _ (T2.setTop (mkF m 74 #[.val (.long x0), .second, .val (.long x1), .second, .val (.long (x0 &&& (9223372036854775807 : Int64))), .second, .val (.long (1 : Int64)), .second, .val (.long ((x0 &&& (9223372036854775807 : Int64)) * (1 : Int64))), .second, .val (.long (9223372036854775807 : Int64)), .second, .val (.long (own_multiply (x0 &&& (9223372036854775807 : Int64)) (1 : Int64))), .second] [(.int (0 : Int32))]))
        exact own_iret X2 hx hlk hret (Or.inr (Or.inl rfl)) rfl (hb hby at_74) (Nat.zero_le _) (Nat.zero_le _) ⟨rfl, e2, rfl⟩
  · skip
    refine own_go (fun _ => XS.ifYes X.here hx rfl (pc0 := 18) (pc' := 24) rfl (hb hby at_18) rfl (XT.ll_ne_t hc18) (by decide) (by decide)) ?_
    show own_Go p e below _ (T.setTop (mkF m 24 #[.val (.long x0), .second, .val (.long x1), .second, .val (.long (x0 &&& (9223372036854775807 : Int64))), .second, .val (.long (x1 &&& (9223372036854775807 : Int64))), .second, .unset, .unset, .unset, .unset, .unset, .unset] []))
    refine own_go (fun _ => XT.lload X.here hx rfl (hb hby at_24) rfl) ?_
    show own_Go p e below _ (T.setTop (mkF m 26 #[.val (.long x0), .second, .val (.long x1), .second, .val (.long (x0 &&& (9223372036854775807 : Int64))), .second, .val (.long (x1 &&& (9223372036854775807 : Int64))), .second, .unset, .unset, .unset, .unset, .unset, .unset] [(.long (x0 &&& (9223372036854775807 : Int64)))]))
    refine own_go (fun _ => XT.lload X.here hx rfl (hb hby at_26) rfl) ?_
    show own_Go p e below _ (T.setTop (mkF m 28 #[.val (.long x0), .second, .val (.long x1), .second, .val (.long (x0 &&& (9223372036854775807 : Int64))), .second, .val (.long (x1 &&& (9223372036854775807 : Int64))), .second, .unset, .unset, .unset, .unset, .unset, .unset] [(.long (x1 &&& (9223372036854775807 : Int64))), (.long (x0 &&& (9223372036854775807 : Int64)))]))
    refine own_go (fun _ => XT.lmul X.here hx rfl (hb hby at_28) rfl) ?_
    show own_Go p e below _ (T.setTop (mkF m 29 #[.val (.long x0), .second, .val (.long x1), .second, .val (.long (x0 &&& (9223372036854775807 : Int64))), .second, .val (.long (x1 &&& (9223372036854775807 : Int64))), .second, .unset, .unset, .unset, .unset, .unset, .unset] [(.long ((x0 &&& (9223372036854775807 : Int64)) * (x1 &&& (9223372036854775807 : Int64))))]))
    refine own_go (fun _ => XT.lstore X.here hx rfl (hb hby at_29) rfl (l' := #[.val (.long x0), .second, .val (.long x1), .second, .val (.long (x0 &&& (9223372036854775807 : Int64))), .second, .val (.long (x1 &&& (9223372036854775807 : Int64))), .second, .val (.long ((x0 &&& (9223372036854775807 : Int64)) * (x1 &&& (9223372036854775807 : Int64)))), .second, .unset, .unset, .unset, .unset]) rfl) ?_
    show own_Go p e below _ (T.setTop (mkF m 31 #[.val (.long x0), .second, .val (.long x1), .second, .val (.long (x0 &&& (9223372036854775807 : Int64))), .second, .val (.long (x1 &&& (9223372036854775807 : Int64))), .second, .val (.long ((x0 &&& (9223372036854775807 : Int64)) * (x1 &&& (9223372036854775807 : Int64)))), .second, .unset, .unset, .unset, .unset] []))
    refine own_go (fun _ => XT.lload X.here hx rfl (hb hby at_31) rfl) ?_
    show own_Go p e below _ (T.setTop (mkF m 33 #[.val (.long x0), .second, .val (.long x1), .second, .val (.long (x0 &&& (9223372036854775807 : Int64))), .second, .val (.long (x1 &&& (9223372036854775807 : Int64))), .second, .val (.long ((x0 &&& (9223372036854775807 : Int64)) * (x1 &&& (9223372036854775807 : Int64)))), .second, .unset, .unset, .unset, .unset] [(.long ((x0 &&& (9223372036854775807 : Int64)) * (x1 &&& (9223372036854775807 : Int64))))]))
    refine own_go (fun _ => XT.lload X.here hx rfl (hb hby at_33) rfl) ?_
    show own_Go p e below _ (T.setTop (mkF m 35 #[.val (.long x0), .second, .val (.long x1), .second, .val (.long (x0 &&& (9223372036854775807 : Int64))), .second, .val (.long (x1 &&& (9223372036854775807 : Int64))), .second, .val (.long ((x0 &&& (9223372036854775807 : Int64)) * (x1 &&& (9223372036854775807 : Int64)))), .second, .unset, .unset, .unset, .unset] [(.long (x1 &&& (9223372036854775807 : Int64))), (.long ((x0 &&& (9223372036854775807 : Int64)) * (x1 &&& (9223372036854775807 : Int64))))]))
    refine own_go (fun _ => XT.ldiv X.here hx rfl (hb hby at_35) rfl (by first | decide | exact hc18)) ?_
    show own_Go p e below _ (T.setTop (mkF m 36 #[.val (.long x0), .second, .val (.long x1), .second, .val (.long (x0 &&& (9223372036854775807 : Int64))), .second, .val (.long (x1 &&& (9223372036854775807 : Int64))), .second, .val (.long ((x0 &&& (9223372036854775807 : Int64)) * (x1 &&& (9223372036854775807 : Int64)))), .second, .unset, .unset, .unset, .unset] [(.long (((x0 &&& (9223372036854775807 : Int64)) * (x1 &&& (9223372036854775807 : Int64))) / (x1 &&& (9223372036854775807 : Int64))))]))
    refine own_go (fun _ => XT.lload X.here hx rfl (hb hby at_36) rfl) ?_
    show own_Go p e below _ (T.setTop (mkF m 38 #[.val (.long x0), .second, .val (.long x1), .second, .val (.long (x0 &&& (9223372036854775807 : Int64))), .second, .val (.long (x1 &&& (9223372036854775807 : Int64))), .second, .val (.long ((x0 &&& (9223372036854775807 : Int64)) * (x1 &&& (9223372036854775807 : Int64)))), .second, .unset, .unset, .unset, .unset] [(.long (x0 &&& (9223372036854775807 : Int64))), (.long (((x0 &&& (9223372036854775807 : Int64)) * (x1 &&& (9223372036854775807 : Int64))) / (x1 &&& (9223372036854775807 : Int64))))]))
    refine own_go (fun _ => XT.lcmp X.here hx rfl (hb hby at_38) rfl) ?_
    show own_Go p e below _ (T.setTop (mkF m 39 #[.val (.long x0), .second, .val (.long x1), .second, .val (.long (x0 &&& (9223372036854775807 : Int64))), .second, .val (.long (x1 &&& (9223372036854775807 : Int64))), .second, .val (.long ((x0 &&& (9223372036854775807 : Int64)) * (x1 &&& (9223372036854775807 : Int64)))), .second, .unset, .unset, .unset, .unset] [(.int (XT.cmpL (((x0 &&& (9223372036854775807 : Int64)) * (x1 &&& (9223372036854775807 : Int64))) / (x1 &&& (9223372036854775807 : Int64))) (x0 &&& (9223372036854775807 : Int64))))]))
    refine own_iteI (fun hc39 => ?_) (fun hc39 => ?_)
    · skip
      refine own_go (fun _ => XS.ifNo X.here hx rfl (hb hby at_39) rfl (XT.ll_ne_f hc39)) ?_
      show own_Go p e below _ (T.setTop (mkF m 42 #[.val (.long x0), .second, .val (.long x1), .second, .val (.long (x0 &&& (9223372036854775807 : Int64))), .second, .val (.long (x1 &&& (9223372036854775807 : Int64))), .second, .val (.long ((x0 &&& (9223372036854775807 : Int64)) * (x1 &&& (9223372036854775807 : Int64)))), .second, .unset, .unset, .unset, .unset] []))
      refine own_go (fun _ => XT.lload X.here hx rfl (hb hby at_42) rfl) ?_
      show own_Go p e below _ (T.setTop (mkF m 44 #[.val (.long x0), .second, .val (.long x1), .second, .val (.long (x0 &&& (9223372036854775807 : Int64))), .second, .val (.long (x1 &&& (9223372036854775807 : Int64))), .second, .val (.long ((x0 &&& (9223372036854775807 : Int64)) * (x1 &&& (9223372036854775807 : Int64)))), .second, .unset, .unset, .unset, .unset] [(.long ((x0 &&& (9223372036854775807 : Int64)) * (x1 &&& (9223372036854775807 : Int64))))]))
      refine own_go (fun _ => XS.goto X.here hx rfl (pc0 := 44) (pc' := 50) rfl (hb hby at_44) (by decide) (by decide)) ?_
      show own_Go p e below _ (T.setTop (mkF m 50 #[.val (.long x0), .second, .val (.long x1), .second, .val (.long (x0 &&& (9223372036854775807 : Int64))), .second, .val (.long (x1 &&& (9223372036854775807 : Int64))), .second, .val (.long ((x0 &&& (9223372036854775807 : Int64)) * (x1 &&& (9223372036854775807 : Int64)))), .second, .unset, .unset, .unset, .unset] [(.long ((x0 &&& (9223372036854775807 : Int64)) * (x1 &&& (9223372036854775807 : Int64))))]))
      refine own_go (fun _ => XT.lstore X.here hx rfl (hb hby at_50) rfl (l' := #[.val (.long x0), .second, .val (.long x1), .second, .val (.long (x0 &&& (9223372036854775807 : Int64))), .second, .val (.long (x1 &&& (9223372036854775807 : Int64))), .second, .val (.long ((x0 &&& (9223372036854775807 : Int64)) * (x1 &&& (9223372036854775807 : Int64)))), .second, .val (.long ((x0 &&& (9223372036854775807 : Int64)) * (x1 &&& (9223372036854775807 : Int64)))), .second, .unset, .unset]) rfl) ?_
      show own_Go p e below _ (T.setTop (mkF m 52 #[.val (.long x0), .second, .val (.long x1), .second, .val (.long (x0 &&& (9223372036854775807 : Int64))), .second, .val (.long (x1 &&& (9223372036854775807 : Int64))), .second, .val (.long ((x0 &&& (9223372036854775807 : Int64)) * (x1 &&& (9223372036854775807 : Int64)))), .second, .val (.long ((x0 &&& (9223372036854775807 : Int64)) * (x1 &&& (9223372036854775807 : Int64)))), .second, .unset, .unset] []))
      refine own_go (fun _ => XT.lload X.here hx rfl (hb hby at_52) rfl) ?_
      show own_Go p e below _ (T.setTop (mkF m 54 #[.val (.long x0), .second, .val (.long x1), .second, .val (.long (x0 &&& (9223372036854775807 : Int64))), .second, .val (.long (x1 &&& (9223372036854775807 : Int64))), .second, .val (.long ((x0 &&& (9223372036854775807 : Int64)) * (x1 &&& (9223372036854775807 : Int64)))), .second, .val (.long ((x0 &&& (9223372036854775807 : Int64)) * (x1 &&& (9223372036854775807 : Int64)))), .second, .unset, .unset] [(.long (x0 &&& (9223372036854775807 : Int64)))]))
      refine own_go (fun _ => XT.lload X.here hx rfl (hb hby at_54) rfl) ?_
      show own_Go p e below _ (T.setTop (mkF m 56 #[.val (.long x0), .second, .val (.long x1), .second, .val (.long (x0 &&& (9223372036854775807 : Int64))), .second, .val (.long (x1 &&& (9223372036854775807 : Int64))), .second, .val (.long ((x0 &&& (9223372036854775807 : Int64)) * (x1 &&& (9223372036854775807 : Int64)))), .second, .val (.long ((x0 &&& (9223372036854775807 : Int64)) * (x1 &&& (9223372036854775807 : Int64)))), .second, .unset, .unset] [(.long (x1 &&& (9223372036854775807 : Int64))), (.long (x0 &&& (9223372036854775807 : Int64)))]))
      obtain ⟨T3, X3, e3, st3⟩ := own_callSP X hx hZ hown (argsL := [(.long (x0 &&& (9223372036854775807 : Int64))), (.long (x1 &&& (9223372036854775807 : Int64)))]) (rest := []) (own_multiply_con l Z a0 hw (x0 &&& (9223372036854775807 : Int64)) (x1 &&& (9223372036854775807 : Int64)) (by first | decide | exact hc18) h0 []) eT (hw _ (List.mem_of_getElem? (i := 1) rfl)) (hw _ (List.mem_of_getElem? (i := 2) rfl)) (hw _ (List.mem_of_getElem? (i := 3) rfl)) (hw _ (List.mem_of_getElem? (i := 4) rfl)) (by decide) (by decide +kernel : parseMethodDescriptor "(JJ)J" = some ⟨[.long, .long], some .long⟩) rfl (g := (mkF m 56 #[.val (.long x0), .second, .val (.long x1), .second, .val (.long (x0 &&& (9223372036854775807 : Int64))), .second, .val (.long (x1 &&& (9223372036854775807 : Int64))), .second, .val (.long ((x0 &&& (9223372036854775807 : Int64)) * (x1 &&& (9223372036854775807 : Int64)))), .second, .val (.long ((x0 &&& (9223372036854775807 : Int64)) * (x1 &&& (9223372036854775807 : Int64)))), .second, .unset, .unset] [(.long (x1 &&& (9223372036854775807 : Int64))), (.long (x0 &&& (9223372036854775807 : Int64)))])) rfl (by rw [hml]; rfl) rfl 0 (by show 2 * 0 + _ ≤ _; exact Nat.le_of_eq rfl) (hb hby at_56) (by decide) (by decide) rfl rfl (by decide) (by decide)
      refine own_go st3 ?_
      show own_Go p e below _ (T3.setTop (mkF m 59 #[.val (.long x0), .second, .val (.long x1), .second, .val (.long (x0 &&& (9223372036854775807 : Int64))), .second, .val (.long (x1 &&& (9223372036854775807 : Int64))), .second, .val (.long ((x0 &&& (9223372036854775807 : Int64)) * (x1 &&& (9223372036854775807 : Int64)))), .second, .val (.long ((x0 &&& (9223372036854775807 : Int64)) * (x1 &&& (9223372036854775807 : Int64)))), .second, .unset, .unset] [(.long (own_multiply (x0 &&& (9223372036854775807 : Int64)) (x1 &&& (9223372036854775807 : Int64))))]))
      refine own_go (fun _ => XT.lstore X3.here hx rfl (hb hby at_59) rfl (l' := #[.val (.long x0), .second, .val (.long x1), .second, .val (.long (x0 &&& (9223372036854775807 : Int64))), .second, .val (.long (x1 &&& (9223372036854775807 : Int64))), .second, .val (.long ((x0 &&& (9223372036854775807 : Int64)) * (x1 &&& (9223372036854775807 : Int64)))), .second, .val (.long ((x0 &&& (9223372036854775807 : Int64)) * (x1 &&& (9223372036854775807 : Int64)))), .second, .val (.long (own_multiply (x0 &&& (9223372036854775807 : Int64)) (x1 &&& (9223372036854775807 : Int64)))), .second]) rfl) ?_
      show own_Go p e below _ (T3.setTop (mkF m 61 #[.val (.long x0), .second, .val (.long x1), .second, .val (.long (x0 &&& (9223372036854775807 : Int64))), .second, .val (.long (x1 &&& (9223372036854775807 : Int64))), .second, .val (.long ((x0 &&& (9223372036854775807 : Int64)) * (x1 &&& (9223372036854775807 : Int64)))), .second, .val (.long ((x0 &&& (9223372036854775807 : Int64)) * (x1 &&& (9223372036854775807 : Int64)))), .second, .val (.long (own_multiply (x0 &&& (9223372036854775807 : Int64)) (x1 &&& (9223372036854775807 : Int64)))), .second] []))
      refine own_go (fun _ => XT.lload X3.here hx rfl (hb hby at_61) rfl) ?_
      show own_Go p e below _ (T3.setTop (mkF m 63 #[.val (.long x0), .second, .val (.long x1), .second, .val (.long (x0 &&& (9223372036854775807 : Int64))), .second, .val (.long (x1 &&& (9223372036854775807 : Int64))), .second, .val (.long ((x0 &&& (9223372036854775807 : Int64)) * (x1 &&& (9223372036854775807 : Int64)))), .second, .val (.long ((x0 &&& (9223372036854775807 : Int64)) * (x1 &&& (9223372036854775807 : Int64)))), .second, .val (.long (own_multiply (x0 &&& (9223372036854775807 : Int64)) (x1 &&& (9223372036854775807 : Int64)))), .second] [(.long (own_multiply (x0 &&& (9223372036854775807 : Int64)) (x1 &&& (9223372036854775807 : Int64))))]))
      refine own_go (fun _ => XT.lload X3.here hx rfl (hb hby at_63) rfl) ?_
      show own_Go p e below _ (T3.setTop (mkF m 65 #[.val (.long x0), .second, .val (.long x1), .second, .val (.long (x0 &&& (9223372036854775807 : Int64))), .second, .val (.long (x1 &&& (9223372036854775807 : Int64))), .second, .val (.long ((x0 &&& (9223372036854775807 : Int64)) * (x1 &&& (9223372036854775807 : Int64)))), .second, .val (.long ((x0 &&& (9223372036854775807 : Int64)) * (x1 &&& (9223372036854775807 : Int64)))), .second, .val (.long (own_multiply (x0 &&& (9223372036854775807 : Int64)) (x1 &&& (9223372036854775807 : Int64)))), .second] [(.long ((x0 &&& (9223372036854775807 : Int64)) * (x1 &&& (9223372036854775807 : Int64)))), (.long (own_multiply (x0 &&& (9223372036854775807 : Int64)) (x1 &&& (9223372036854775807 : Int64))))]))
      refine own_go (fun _ => XT.lcmp X3.here hx rfl (hb hby at_65) rfl) ?_
      show own_Go p e below _ (T3.setTop (mkF m 66 #[.val (.long x0), .second, .val (.long x1), .second, .val (.long (x0 &&& (9223372036854775807 : Int64))), .second, .val (.long (x1 &&& (9223372036854775807 : Int64))), .second, .val (.long ((x0 &&& (9223372036854775807 : Int64)) * (x1 &&& (9223372036854775807 : Int64)))), .second, .val (.long ((x0 &&& (9223372036854775807 : Int64)) * (x1 &&& (9223372036854775807 : Int64)))), .second, .val (.long (own_multiply (x0 &&& (9223372036854775807 : Int64)) (x1 &&& (9223372036854775807 : Int64)))), .second] [(.int (XT.cmpL (own_multiply (x0 &&& (9223372036854775807 : Int64)) (x1 &&& (9223372036854775807 : Int64))) ((x0 &&& (9223372036854775807 : Int64)) * (x1 &&& (9223372036854775807 : Int64)))))]))
      refine own_iteI (fun hc66 => ?_) (fun hc66 => ?_)
      · skip
        refine own_go (fun _ => XS.ifNo X3.here hx rfl (hb hby at_66) rfl (XT.ll_ne_f hc66)) ?_
        show own_Go p e below _ (T3.setTop (mkF m 69 #[.val (.long x0), .second, .val (.long x1), .second, .val (.long (x0 &&& (9223372036854775807 : Int64))), .second, .val (.long (x1 &&& (9223372036854775807 : Int64))), .second, .val (.long ((x0 &&& (9223372036854775807 : Int64)) * (x1 &&& (9223372036854775807 : Int64)))), .second, .val (.long ((x0 &&& (9223372036854775807 : Int64)) * (x1 &&& (9223372036854775807 : Int64)))), .second, .val (.long (own_multiply (x0 &&& (9223372036854775807 : Int64)) (x1 &&& (9223372036854775807 : Int64)))), .second] []))
        refine own_go (fun _ => XS.iconst X3.here hx rfl (hb hby at_69)) ?_
        show own_Go p e below _ (T3.setTop (mkF m 70 #[.val (.long x0), .second, .val (.long x1), .second, .val (.long (x0 &&& (9223372036854775807 : Int64))), .second, .val (.long (x1 &&& (9223372036854775807 : Int64))), .second, .val (.long ((x0 &&& (9223372036854775807 : Int64)) * (x1 &&& (9223372036854775807 : Int64)))), .second, .val (.long ((x0 &&& (9223372036854775807 : Int64)) * (x1 &&& (9223372036854775807 : Int64)))), .second, .val (.long (own_multiply (x0 &&& (9223372036854775807 : Int64)) (x1 &&& (9223372036854775807 : Int64)))), .second] [(.int (1 : Int32))]))
        refine own_go (fun _ => XS.goto X3.here hx rfl (pc0 := 70) (pc' := 74) rfl (hb hby at_70) (by decide) (by decide)) ?_
        show own_Go p e below _ (T3.setTop (mkF m 74 #[.val (.long x0), .second, .val (.long x1), .second, .val (.long (x0 &&& (9223372036854775807 : Int64))), .second, .val (.long (x1 &&& (9223372036854775807 : Int64))), .second, .val (.long ((x0 &&& (9223372036854775807 : Int64)) * (x1 &&& (9223372036854775807 : Int64)))), .second, .val (.long ((x0 &&& (9223372036854775807 : Int64)) * (x1 &&& (9223372036854775807 : Int64)))), .second, .val (.long (own_multiply (x0 &&& (9223372036854775807 : Int64)) (x1 &&& (9223372036854775807 : Int64)))), .second] [(.int (1 : Int32))]))
        exact own_iret X3 hx hlk hret (Or.inr (Or.inl rfl)) rfl (hb hby at_74) (Nat.zero_le _) (Nat.zero_le _) ⟨rfl, e3, rfl⟩
      · skip
        refine own_go (fun _ => XS.ifYes X3.here hx rfl (pc0 := 66) (pc' := 73) rfl (hb hby at_66) rfl (XT.ll_ne_t hc66) (by decide) (by decide)) ?_
        show own_Go p e below _ (T3.setTop (mkF m 73 #[.val (.long x0), .second, .val (.long x1), .second, .val (.long (x0 &&& (9223372036854775807 : Int64))), .second, .val (.long (x1 &&& (9223372036854775807 : Int64))), .second, .val (.long ((x0 &&& (9223372036854775807 : Int64)) * (x1 &&& (9223372036854775807 : Int64)))), .second, .val (.long ((x0 &&& (9223372036854775807 : Int64)) * (x1 &&& (9223372036854775807 : Int64)))), .second, .val (.long (own_multiply (x0 &&& (9223372036854775807 : Int64)) (x1 &&& (9223372036854775807 : Int64)))), .second] []))
        refine own_go (fun _ => XS.iconst X3.here hx rfl (hb hby at_73)) ?_
        show own_Go p e below _ (T3.setTop (mkF m 74 #[.val (.long x0), .second, .val (.long x1), .second, .val (.long (x0 &&& (9223372036854775807 : Int64))), .second, .val (.long (x1 &&& (9223372036854775807 : Int64))), .second, .val (.long ((x0 &&& (9223372036854775807 : Int64)) * (x1 &&& (9223372036854775807 : Int64)))), .second, .val (.long ((x0 &&& (9223372036854775807 : Int64)) * (x1 &&& (9223372036854775807 : Int64)))), .second, .val (.long (own_multiply (x0 &&& (9223372036854775807 : Int64)) (x1 &&& (9223372036854775807 : Int64)))), .second] [(.int (0 : Int32))]))
        exact own_iret X3 hx hlk hret (Or.inr (Or.inl rfl)) rfl (hb hby at_74) (Nat.zero_le _) (Nat.zero_le _) ⟨rfl, e3, rfl⟩
    · skip
      refine own_go (fun _ => XS.ifYes X.here hx rfl (pc0 := 39) (pc' := 47) rfl (hb hby at_39) rfl (XT.ll_ne_t hc39) (by decide) (by decide)) ?_
      show own_Go p e below _ (T.setTop (mkF m 47 #[.val (.long x0), .second, .val (.long x1), .second, .val (.long (x0 &&& (9223372036854775807 : Int64))), .second, .val (.long (x1 &&& (9223372036854775807 : Int64))), .second, .val (.long ((x0 &&& (9223372036854775807 : Int64)) * (x1 &&& (9223372036854775807 : Int64)))), .second, .unset, .unset, .unset, .unset] []))
      refine own_go (X.ldc2Long hx hown (mvT hZ (hw _ (List.mem_of_getElem? (i := 0) rfl))) (g := (mkF m 47 #[.val (.long x0), .second, .val (.long x1), .second, .val (.long (x0 &&& (9223372036854775807 : Int64))), .second, .val (.long (x1 &&& (9223372036854775807 : Int64))), .second, .val (.long ((x0 &&& (9223372036854775807 : Int64)) * (x1 &&& (9223372036854775807 : Int64)))), .second, .unset, .unset, .unset, .unset] [])) rfl (hb hby at_47)) ?_
      show own_Go p e below _ (T.setTop (mkF m 50 #[.val (.long x0), .second, .val (.long x1), .second, .val (.long (x0 &&& (9223372036854775807 : Int64))), .second, .val (.long (x1 &&& (9223372036854775807 : Int64))), .second, .val (.long ((x0 &&& (9223372036854775807 : Int64)) * (x1 &&& (9223372036854775807 : Int64)))), .second, .unset, .unset, .unset, .unset] [(.long (9223372036854775807 : Int64))]))
      refine own_go (fun _ => XT.lstore X.here hx rfl (hb hby at_50) rfl (l' := #[.val (.long x0), .second, .val (.long x1), .second, .val (.long (x0 &&& (9223372036854775807 : Int64))), .second, .val (.long (x1 &&& (9223372036854775807 : Int64))), .second, .val (.long ((x0 &&& (9223372036854775807 : Int64)) * (x1 &&& (9223372036854775807 : Int64)))), .second, .val (.long (9223372036854775807 : Int64)), .second, .unset, .unset]) rfl) ?_
      show own_Go p e below _ (T.setTop (mkF m 52 #[.val (.long x0), .second, .val (.long x1), .second, .val (.long (x0 &&& (9223372036854775807 : Int64))), .second, .val (.long (x1 &&& (9223372036854775807 : Int64))), .second, .val (.long ((x0 &&& (9223372036854775807 : Int64)) * (x1 &&& (9223372036854775807 : Int64)))), .second, .val (.long (9223372036854775807 : Int64)), .second, .unset, .unset] []))
      refine own_go (fun _ => XT.lload X.here hx rfl (hb hby at_52) rfl) ?_
      show own_Go p e below _ (T.setTop (mkF m 54 #[.val (.long x0), .second, .val (.long x1), .second, .val (.long (x0 &&& (9223372036854775807 : Int64))), .second, .val (.long (x1 &&& (9223372036854775807 : Int64))), .second, .val (.long ((x0 &&& (9223372036854775807 : Int64)) * (x1 &&& (9223372036854775807 : Int64)))), .second, .val (.long (9223372036854775807 : Int64)), .second, .unset, .unset] [(.long (x0 &&& (9223372036854775807 : Int64)))]))
      refine own_go (fun _ => XT.lload X.here hx rfl (hb hby at_54) rfl) ?_
      show own_Go p e below _ (T.setTop (mkF m 56 #[.val (.long x0), .second, .val (.long x1), .second, .val (.long (x0 &&& (9223372036854775807 : Int64))), .second, .val (.long (x1 &&& (9223372036854775807 : Int64))), .second, .val (.long ((x0 &&& (9223372036854775807 : Int64)) * (x1 &&& (9223372036854775807 : Int64)))), .second, .val (.long (9223372036854775807 : Int64)), .second, .unset, .unset] [(.long (x1 &&& (9223372036854775807 : Int64))), (.long (x0 &&& (9223372036854775807 : Int64)))]))
      obtain ⟨T4, X4, e4, st4⟩ := own_callSP X hx hZ hown (argsL := [(.long (x0 &&& (9223372036854775807 : Int64))), (.long (x1 &&& (9223372036854775807 : Int64)))]) (rest := []) (own_multiply_con l Z a0 hw (x0 &&& (9223372036854775807 : Int64)) (x1 &&& (9223372036854775807 : Int64)) (by first | decide | exact hc18) h0 []) eT (hw _ (List.mem_of_getElem? (i := 1) rfl)) (hw _ (List.mem_of_getElem? (i := 2) rfl)) (hw _ (List.mem_of_getElem? (i := 3) rfl)) (hw _ (List.mem_of_getElem? (i := 4) rfl)) (by decide) (by decide +kernel : parseMethodDescriptor "(JJ)J" = some ⟨[.long, .long], some .long⟩) rfl (g := (mkF m 56 #[.val (.long x0), .second, .val (.long x1), .second, .val (.long (x0 &&& (9223372036854775807 : Int64))), .second, .val (.long (x1 &&& (9223372036854775807 : Int64))), .second, .val (.long ((x0 &&& (9223372036854775807 : Int64)) * (x1 &&& (9223372036854775807 : Int64)))), .second, .val (.long (9223372036854775807 : Int64)), .second, .unset, .unset] [(.long (x1 &&& (9223372036854775807 : Int64))), (.long (x0 &&& (9223372036854775807 : Int64)))])) rfl (by rw [hml]; rfl) rfl 0 (by show 2 * 0 + _ ≤ _; exact Nat.le_of_eq rfl) (hb hby at_56) (by decide) (by decide) rfl rfl (by decide) (by decide)
      refine own_go st4 ?_
      show own_Go p e below _ (T4.setTop (mkF m 59 #[.val (.long x0), .second, .val (.long x1), .second, .val (.long (x0 &&& (9223372036854775807 : Int64))), .second, .val (.long (x1 &&& (9223372036854775807 : Int64))), .second, .val (.long ((x0 &&& (9223372036854775807 : Int64)) * (x1 &&& (9223372036854775807 : Int64)))), .second, .val (.long (9223372036854775807 : Int64)), .second, .unset, .unset] [(.long (own_multiply (x0 &&& (9223372036854775807 : Int64)) (x1 &&& (9223372036854775807 : Int64))))]))
      refine own_go (fun _ => XT.lstore X4.here hx rfl (hb hby at_59) rfl (l' := #[.val (.long x0), .second, .val (.long x1), .second, .val (.long (x0 &&& (9223372036854775807 : Int64))), .second, .val (.long (x1 &&& (9223372036854775807 : Int64))), .second, .val (.long ((x0 &&& (9223372036854775807 : Int64)) * (x1 &&& (9223372036854775807 : Int64)))), .second, .val (.long (9223372036854775807 : Int64)), .second, .val (.long (own_multiply (x0 &&& (9223372036854775807 : Int64)) (x1 &&& (9223372036854775807 : Int64)))), .second]) rfl) ?_
      show own_Go p e below _ (T4.setTop (mkF m 61 #[.val (.long x0), .second, .val (.long x1), .second, .val (.long (x0 &&& (9223372036854775807 : Int64))), .second, .val (.long (x1 &&& (9223372036854775807 : Int64))), .second, .val (.long ((x0 &&& (9223372036854775807 : Int64)) * (x1 &&& (9223372036854775807 : Int64)))), .second, .val (.long (9223372036854775807 : Int64)), .second, .val (.long (own_multiply (x0 &&& (9223372036854775807 : Int64)) (x1 &&& (9223372036854775807 : Int64)))), .second] []))
      refine own_go (fun _ => XT.lload X4.here hx rfl (hb hby at_61) rfl) ?_
      show own_Go p e below _ (T4.setTop (mkF m 63 #[.val (.long x0), .second, .val (.long x1), .second, .val (.long (x0 &&& (9223372036854775807 : Int64))), .second, .val (.long (x1 &&& (9223372036854775807 : Int64))), .second, .val (.long ((x0 &&& (9223372036854775807 : Int64)) * (x1 &&& (9223372036854775807 : Int64)))), .second, .val (.long (9223372036854775807 : Int64)), .second, .val (.long (own_multiply (x0 &&& (9223372036854775807 : Int64)) (x1 &&& (9223372036854775807 : Int64)))), .second] [(.long (own_multiply (x0 &&& (9223372036854775807 : Int64)) (x1 &&& (9223372036854775807 : Int64))))]))
      refine own_go (fun _ => XT.lload X4.here hx rfl (hb hby at_63) rfl) ?_
      show own_Go p e below _ (T4.setTop (mkF m 65 #[.val (.long x0), .second, .val (.long x1), .second, .val (.long (x0 &&& (9223372036854775807 : Int64))), .second, .val (.long (x1 &&& (9223372036854775807 : Int64))), .second, .val (.long ((x0 &&& (9223372036854775807 : Int64)) * (x1 &&& (9223372036854775807 : Int64)))), .second, .val (.long (9223372036854775807 : Int64)), .second, .val (.long (own_multiply (x0 &&& (9223372036854775807 : Int64)) (x1 &&& (9223372036854775807 : Int64)))), .second] [(.long (9223372036854775807 : Int64)), (.long (own_multiply (x0 &&& (9223372036854775807 : Int64)) (x1 &&& (9223372036854775807 : Int64))))]))
      refine own_go (fun _ => XT.lcmp X4.here hx rfl (hb hby at_65) rfl) ?_
      show own_Go p e below _ (T4.setTop (mkF m 66 #[.val (.long x0), .second, .val (.long x1), .second, .val (.long (x0 &&& (9223372036854775807 : Int64))), .second, .val (.long (x1 &&& (9223372036854775807 : Int64))), .second, .val (.long ((x0 &&& (9223372036854775807 : Int64)) * (x1 &&& (9223372036854775807 : Int64)))), .second, .val (.long (9223372036854775807 : Int64)), .second, .val (.long (own_multiply (x0 &&& (9223372036854775807 : Int64)) (x1 &&& (9223372036854775807 : Int64)))), .second] [(.int (XT.cmpL (own_multiply (x0 &&& (9223372036854775807 : Int64)) (x1 &&& (9223372036854775807 : Int64))) (9223372036854775807 : Int64)))]))
      refine own_iteI (fun hc66 => ?_) (fun hc66 => ?_)
      · skip
        refine own_go (fun _ => XS.ifNo X4.here hx rfl (hb hby at_66) rfl (XT.ll_ne_f hc66)) ?_
        show own_Go p e below _ (T4.setTop (mkF m 69 #[.val (.long x0), .second, .val (.long x1), .second, .val (.long (x0 &&& (9223372036854775807 : Int64))), .second, .val (.long (x1 &&& (9223372036854775807 : Int64))), .second, .val (.long ((x0 &&& (9223372036854775807 : Int64)) * (x1 &&& (9223372036854775807 : Int64)))), .second, .val (.long (9223372036854775807 : Int64)), .second, .val (.long (own_multiply (x0 &&& (9223372036854775807 : Int64)) (x1 &&& (9223372036854775807 : Int64)))), .second] []))
        refine own_go (fun _ => XS.iconst X4.here hx rfl (hb hby at_69)) ?_
        show own_Go p e below _ (T4.setTop (mkF m 70 #[.val (.long x0), .second, .val (.long x1), .second, .val (.long (x0 &&& (9223372036854775807 : Int64))), .second, .val (.long (x1 &&& (9223372036854775807 : Int64))), .second, .val (.long ((x0 &&& (9223372036854775807 : Int64)) * (x1 &&& (9223372036854775807 : Int64)))), .second, .val (.long (9223372036854775807 : Int64)), .second, .val (.long (own_multiply (x0 &&& (9223372036854775807 : Int64)) (x1 &&& (9223372036854775807 : Int64)))), .second] [(.int (1 : Int32))]))
        refine own_go (fun _ => XS.goto X4.here hx rfl (pc0 := 70) (pc' := 74) rfl (hb hby at_70) (by decide) (by decide)) ?_
        show own_Go p e below _ (T4.setTop (mkF m 74 #[.val (.long x0), .second, .val (.long x1), .second, .val (.long (x0 &&& (9223372036854775807 : Int64))), .second, .val (.long (x1 &&& (9223372036854775807 : Int64))), .second, .val (.long ((x0 &&& (9223372036854775807 : Int64)) * (x1 &&& (9223372036854775807 : Int64)))), .second, .val (.long (9223372036854775807 : Int64)), .second, .val (.long (own_multiply (x0 &&& (9223372036854775807 : Int64)) (x1 &&& (9223372036854775807 : Int64)))), .second] [(.int (1 : Int32))]))
        exact own_iret X4 hx hlk hret (Or.inr (Or.inl rfl)) rfl (hb hby at_74) (Nat.zero_le _) (Nat.zero_le _) ⟨rfl, e4, rfl⟩
      · skip
        refine own_go (fun _ => XS.ifYes X4.here hx rfl (pc0 := 66) (pc' := 73) rfl (hb hby at_66) rfl (XT.ll_ne_t hc66) (by decide) (by decide)) ?_
        show own_Go p e below _ (T4.setTop (mkF m 73 #[.val (.long x0), .second, .val (.long x1), .second, .val (.long (x0 &&& (9223372036854775807 : Int64))), .second, .val (.long (x1 &&& (9223372036854775807 : Int64))), .second, .val (.long ((x0 &&& (9223372036854775807 : Int64)) * (x1 &&& (9223372036854775807 : Int64)))), .second, .val (.long (9223372036854775807 : Int64)), .second, .val (.long (own_multiply (x0 &&& (9223372036854775807 : Int64)) (x1 &&& (9223372036854775807 : Int64)))), .second] []))
        refine own_go (fun _ => XS.iconst X4.here hx rfl (hb hby at_73)) ?_
        show own_Go p e below _ (T4.setTop (mkF m 74 #[.val (.long x0), .second, .val (.long x1), .second, .val (.long (x0 &&& (9223372036854775807 : Int64))), .second, .val (.long (x1 &&& (9223372036854775807 : Int64))), .second, .val (.long ((x0 &&& (9223372036854775807 : Int64)) * (x1 &&& (9223372036854775807 : Int64)))), .second, .val (.long (9223372036854775807 : Int64)), .second, .val (.long (own_multiply (x0 &&& (9223372036854775807 : Int64)) (x1 &&& (9223372036854775807 : Int64)))), .second] [(.int (0 : Int32))]))
        exact own_iret X4 hx hlk hret (Or.inr (Or.inl rfl)) rfl (hb hby at_74) (Nat.zero_le _) (Nat.zero_le _) ⟨rfl, e4, rfl⟩
theorem own_nn (x : Int64) : 0 ≤ (x &&& (9223372036854775807 : Int64)).toInt := by
  have h : (x &&& (9223372036854775807 : Int64)).toBitVec.msb = false := by
    rw [Int64.toBitVec_and, BitVec.msb_and]
    have : (9223372036854775807 : Int64).toBitVec.msb = false := by decide
    rw [this, Bool.and_false]
  rw [BitVec.msb_eq_toInt] at h
  have : ¬ (x &&& (9223372036854775807 : Int64)).toBitVec.toInt < 0 := by simpa using h
  exact Int.not_lt.mp this
theorem own_core (a b : Int64) (ha : 0 ≤ a.toInt) (hb : 1 ≤ b.toInt) : (((9223372036854775807 : Int64) / b) < a) ↔ ¬ (a * b) / b = a := by
  have a1 := a.toInt_lt
  have b1 := b.toInt_lt
  have eM : ((9223372036854775807 : Int64) / b).toInt = 9223372036854775807 / b.toInt := by
    rw [Int64.toInt_div]
    show (Int.tdiv 9223372036854775807 b.toInt).bmod (2^64) = _
    rw [Int.tdiv_eq_ediv_of_nonneg (by decide)]
    have q1 : (9223372036854775807 : Int) / b.toInt ≤ 9223372036854775807 := Int.ediv_le_self _ (by decide)
    have q2 : 0 ≤ (9223372036854775807 : Int) / b.toInt := Int.ediv_nonneg (by decide) (by omega)
    exact Int.bmod_eq_of_le (by omega) (by omega)
  have eP : (a * b).toInt = (a.toInt * b.toInt).bmod (2^64) := Int64.toInt_mul a b
  have p1 := (a * b).toInt_lt
  have p2 := (a * b).le_toInt
  have eQ : ((a * b) / b).toInt = (a * b).toInt.tdiv b.toInt := by
    rw [Int64.toInt_div]
    by_cases z : 0 ≤ (a * b).toInt
    · rw [Int.tdiv_eq_ediv_of_nonneg z]
      have q1 : (a * b).toInt / b.toInt ≤ (a * b).toInt := Int.ediv_le_self _ z
      have q2 : 0 ≤ (a * b).toInt / b.toInt := Int.ediv_nonneg z (by omega)
      exact Int.bmod_eq_of_le (by omega) (by omega)
    · have q0 : (a * b).toInt.tdiv b.toInt = -((-(a * b).toInt) / b.toInt) := by
        rw [← Int.tdiv_eq_ediv_of_nonneg (by omega), Int.neg_tdiv, Int.neg_neg]
      rw [q0]
      have q1 : (-(a * b).toInt) / b.toInt ≤ -(a * b).toInt := Int.ediv_le_self _ (by omega)
      have q2 : 0 ≤ (-(a * b).toInt) / b.toInt := Int.ediv_nonneg (by omega) (by omega)
      exact Int.bmod_eq_of_le (by omega) (by omega)
  rw [Int64.lt_iff_toInt_lt, eM, ← Int64.toInt_inj, eQ]
  by_cases q : a.toInt * b.toInt ≤ 9223372036854775807
  · have n0 : 0 ≤ a.toInt * b.toInt := Int.mul_nonneg ha (by omega)
    rw [Int.bmod_eq_of_le (by omega) (by omega)] at eP
    rw [eP]
    have k1 : a.toInt ≤ 9223372036854775807 / b.toInt := (Int.le_ediv_iff_mul_le (by omega)).mpr q
    have k2 : (a.toInt * b.toInt).tdiv b.toInt = a.toInt := Int.mul_tdiv_cancel _ (by omega)
    rw [k2]
    constructor
    · intro w; omega
    · intro w; exact absurd rfl w
  · have k1 : 9223372036854775807 / b.toInt < a.toInt := by
      refine Int.not_le.mp fun w => q ?_
      exact (Int.le_ediv_iff_mul_le (by omega)).mp w
    refine ⟨fun _ w => ?_, fun _ => k1⟩
    by_cases z : 0 ≤ (a * b).toInt
    · rw [Int.tdiv_eq_ediv_of_nonneg z] at w
      have := (Int.le_ediv_iff_mul_le (c := b.toInt) (a := a.toInt) (b := (a * b).toInt) (by omega)).mp (by omega)
      omega
    · have q0 : (a * b).toInt.tdiv b.toInt = -((-(a * b).toInt) / b.toInt) := by
        rw [← Int.tdiv_eq_ediv_of_nonneg (by omega), Int.neg_tdiv, Int.neg_neg]
      have q2 : 0 ≤ (-(a * b).toInt) / b.toInt := Int.ediv_nonneg (by omega) (by omega)
      have a0 : a.toInt = 0 := by omega
      rw [a0] at q
      omega
theorem own_one (a b : Int64) (ha : 0 ≤ a.toInt) (hb : 1 ≤ b.toInt) : (if ((a * b) / b) = a then (if (own_multiply a b) = (a * b) then (1 : Int32) else (0 : Int32)) else (if (own_multiply a b) = (9223372036854775807 : Int64) then (1 : Int32) else (0 : Int32))) = 1 := by
  have k := own_core a b ha hb
  unfold own_multiply
  by_cases q : ((a * b) / b) = a
  · have c1 : ¬ ((9223372036854775807 : Int64) / b) < a := fun w => k.mp w q
    simp only [q, c1, if_true, if_false]
  · have c1 : ((9223372036854775807 : Int64) / b) < a := k.mpr q
    simp only [q, c1, if_true, if_false]
theorem own_law_one (x0 x1 : Int64) : own_law x0 x1 = 1 := by
  have ha := own_nn x0
  have hb := own_nn x1
  unfold own_law
  generalize x0 &&& (9223372036854775807 : Int64) = a at *
  generalize x1 &&& (9223372036854775807 : Int64) = b at *
  by_cases q : b = 0
  · rw [if_pos q]; exact own_one a 1 ha (by decide)
  · rw [if_neg q]
    refine own_one a b ha ?_
    have : b.toInt ≠ 0 := fun w => q (Int64.toInt_inj.mp w)
    omega
def own_Q1 (n0 : Nat) (v : Option Value) (h : Heap) (L : List Loc) : Prop := v = some (.int 1) ∧ Fr n0 L
theorem own_main_con (l : Launch) (Z : State) (a0 : Array Value) (hw : ∀ d ∈ tables_1, d.before a0 Z = true) (x0 : Int64) (x1 : Int64) (h0 : Heap) (ws : List Jvm.Cond) :
    own_Con l Z x code maxLocals ret room_1 #[(.long x0), (.long x1)] h0 (own_Q1 h0.size) ws :=
  (own_law_con l Z a0 hw x0 x1 h0 ws).mono fun v h L q => ⟨by rw [q.1, own_law_one], by rw [q.2.2]; exact Fr.nil _⟩
set_option maxRecDepth 65536 in
set_option maxHeartbeats 40000000 in
theorem comes_1 {Post : Tables → Env → Array Value → State → Outcome → State → Prop} (hpost : ∀ tb e args s v u, (limb_1_1.after args s (.returned v) u = true ∧ limb_1_2.after args s (.returned v) u = true ∧ True) → FrameEnd s (.returned v) u (Jvm.fieldLocs frame_1_writes args s ++ Jvm.arrayLocs frame_1_arrays args s ++ Jvm.staticLocs frame_1_statics s) 0 0 → Post tb e args s (.returned v) u) :
    ArmFor flags0 classFile x code maxLocals ret World_1 tables_1 room_1 Calls_1 rest_1 Pre_1 Post := by
  intro l hfl _ _ p e ha hc hk s m args below hf hA hF happ hP
  obtain ⟨hcalls, hrest, hpre⟩ := hP
  obtain ⟨-, -, -, hnamed, -, -, -, hat⟩ := (Spec.applies_iff hf).mp happ
  obtain ⟨hg, hn⟩ := and_e (Cond.before_iff.mp (show (Jvm.Cond.and given_1 narrow_1).before args s = true from hpre))
  obtain ⟨gc, gr0⟩ := and_e hg
  obtain ⟨g0, gr1⟩ := and_e gr0
  obtain ⟨w0, w1, rfl⟩ : ∃ w0 w1 : Value, args = #[w0, w1] := by
    have hs : args.size = 2 := by simpa [Cond.value, given_1] using gc
    obtain ⟨L⟩ := args
    match L, hs with
    | [w0, w1], _ => exact ⟨w0, w1, rfl⟩
  have hw := fun d (hd : d ∈ tables_1) => atoms_spec (ws := Jvm.Cond.code x code maxLocals ret :: tables_1) hat d (List.mem_cons_of_mem _ hd)
  have hfit : Fit s := fun {y c} hc i hi => by
    obtain ⟨ha, rfl⟩ := Array.getElem?_eq_some_iff.mp hc
    have q := List.all_eq_true.mp ((Array.all_eq_true_iff_forall_mem.mp hF) _ (Array.getElem_mem ha)) i (List.mem_range.mpr hi)
    simpa [Array.getElem?_eq_getElem hi] using q
  obtain ⟨i0, ei0⟩ := isL_v g0
  obtain rfl : w0 = (.long i0) := Option.some.inj ei0
  obtain ⟨i1, ei1⟩ := isL_v gr1
  obtain rfl : w1 = (.long i1) := Option.some.inj ei1
  obtain ⟨n, o, h1, h2, h3, _, L, rfl, ⟨rfl, N⟩, hq⟩ := own_main_con l s _ hw i0 i1  s.heap tables_1 p e ha hc hk s m _ below hf ((Spec.applies_iff_loose hf).mp happ).1 ⟨rfl, State.Warmed39.refl s, rfl⟩ trivial
  refine ⟨n, _, h1, h2, h3, hpost _ _ _ _ _ _ ⟨Cond.after_iff.mpr rfl, Cond.after_iff.mpr (eq_i res_at (Term.int_eval (1)) rfl), trivial⟩ ⟨hq.1, hq.2.1, (hq.2.2.sift fun y hy => Or.inr (N y hy)).mono (by decide) (by decide)⟩⟩
theorem main_1_1 : Claimed_1_1 := comes_1 fun _ _ _ _ _ _ h hF => ⟨h.1, hF⟩
theorem main_1_2 : Claimed_1_2 := comes_1 fun _ _ _ _ _ _ h hF => ⟨h.2.1, hF⟩
end Jvm.Pilot.@@N@@
namespace Jvm.Pilot.@@N@@
open Jvm Jvm.ClassFile Sem Op Lib Jvm.Free Jvm.Stand Jvm.Pilot.@@N@@.Jvm.D
/-! MADE BY PROGRAM (witnessworld.py) out of the Statement's table words and the real class files: 7 classes; the members and pool entries that the words name. The judged class is class 1, her method 1. -/
namespace start1
open Jvm.ClassFile
def u (s : String) : CpInfo := .utf8 (stringToUtf16 s)
/-- a pool by its gaps: so many unusable entries, then the entry; so many at the end -/
def gap : Nat → List CpInfo → List CpInfo
  | 0, r => r
  | n + 1, r => .unusable :: gap n r
def poolList (es : List (Nat × CpInfo)) (last : Nat) : List CpInfo := es.foldr (fun e r => gap e.1 (e.2 :: r)) (gap last [])
def pool (es : List (Nat × CpInfo)) (last : Nat) : Array CpInfo := ⟨poolList es last⟩
def fileOf (pool : Array CpInfo) (this : Nat) (attrs : Array Attribute := #[]) (ms : Array MethodInfo := #[]) (fl : Nat := 33) (sup : Nat := 0) (ifs : Array Nat := #[]) (fds : Array FieldInfo := #[]) : ClassFile where
  minorVersion := 0
  majorVersion := 65
  constantPool := pool
  accessFlags := fl
  thisClass := this
  superClass := sup
  interfaces := ifs
  fields := fds
  methods := ms
  attributes := attrs
def plain (name : String) (sup : Option ClassId) : Class where
  name := name
  kind := .ordinary
  loader := none
  accessFlags := 33
  super := sup
  interfaces := #[]
  cf := none
  fields := #[]
  methods := #[]
  instanceTypes := #[]
  staticTypes := #[]
  resolved := #[]
  callSites := []
  init := .initialized
  statics := none
  mirror := none

def pool0 : Array CpInfo := pool [(5, u "<init>"), (0, u "()V"), (1, .class_ 10), (1, u "java/lang/Object")] 113

def k0m0 : Method := { name := "<init>", desc := "()V", sig := { parameters := [], returnType := none }, accessFlags := 1, code := none }
/-- java/lang/Object -/
def k0 : Class := { plain "java/lang/Object" none with
  accessFlags := 33
  interfaces := #[]
  cf := some (fileOf pool0 8 #[] #[{ accessFlags := 1, nameIndex := 5, descriptorIndex := 6, attributes := #[] }] 33 0 #[] #[])
  fields := #[]
  methods := #[k0m0]
  instanceTypes := #[]
  staticTypes := #[]
  resolved := Array.replicate 124 none
  statics := none }

def pool1 : Array CpInfo := pool [(2, .class_ 4), (1, u "java/lang/Object"), (0, u "<init>"), (0, u "()V"), (2, .long 9223372036854775807), (1, .methodref 12 13), (0, .class_ 14), (0, .nameAndType 15 16), (0, u "com/example/meter_for_logs/meterforlogs/Saturating"), (0, u "multiply"), (0, u "(JJ)J"), (0, .class_ 18), (0, u "com/example/meter_for_logs/meterforlogs/SaturatingMultiplyPinLaw"), (2, u "law"), (0, u "(JJ)Z")] 3

def k1m0 : Method := { name := "<init>", desc := "()V", sig := { parameters := [], returnType := none }, accessFlags := 2, code := none }
def k1c1 : Code := { maxStack := 4, maxLocals := 14, code := code, exceptionTable := #[], attributes := #[] }
def k1m1 : Method := { name := "law", desc := "(JJ)Z", sig := { parameters := [.long, .long], returnType := some .boolean }, accessFlags := 9, code := some k1c1 }
/-- com/example/meter_for_logs/meterforlogs/SaturatingMultiplyPinLaw -/
def k1 : Class := { plain "com/example/meter_for_logs/meterforlogs/SaturatingMultiplyPinLaw" (some 0) with
  accessFlags := 49
  interfaces := #[]
  cf := some (fileOf pool1 17 #[] #[{ accessFlags := 2, nameIndex := 5, descriptorIndex := 6, attributes := #[] }, { accessFlags := 9, nameIndex := 21, descriptorIndex := 22, attributes := #[] }] 49 2 #[] #[])
  fields := #[]
  methods := #[k1m0, k1m1]
  instanceTypes := #[]
  staticTypes := #[]
  resolved := Array.replicate 26 none
  statics := none }

def pool2 : Array CpInfo := pool [(2, .class_ 4), (1, u "java/lang/Object"), (0, u "<init>"), (0, u "()V"), (2, .long 9223372036854775807), (1, .class_ 12), (0, u "com/example/meter_for_logs/meterforlogs/Saturating"), (3, u "(JJ)J"), (1, u "multiply")] 2

def k2m0 : Method := { name := "<init>", desc := "()V", sig := { parameters := [], returnType := none }, accessFlags := 2, code := none }
def k2c1 : Code := { maxStack := 6, maxLocals := 4, code := prog_73_method_3_code, exceptionTable := #[], attributes := #[] }
def k2m1 : Method := { name := "multiply", desc := "(JJ)J", sig := { parameters := [.long, .long], returnType := some .long }, accessFlags := 8, code := some k2c1 }
/-- com/example/meter_for_logs/meterforlogs/Saturating -/
def k2 : Class := { plain "com/example/meter_for_logs/meterforlogs/Saturating" (some 0) with
  accessFlags := 32
  interfaces := #[]
  cf := some (fileOf pool2 11 #[] #[{ accessFlags := 2, nameIndex := 5, descriptorIndex := 6, attributes := #[] }, { accessFlags := 8, nameIndex := 18, descriptorIndex := 16, attributes := #[] }] 32 2 #[] #[])
  fields := #[]
  methods := #[k2m0, k2m1]
  instanceTypes := #[]
  staticTypes := #[]
  resolved := Array.replicate 21 none
  statics := none }

def pool3 : Array CpInfo := pool [(1, u "java/lang/Cloneable"), (0, .class_ 1), (0, u "java/lang/Object"), (0, .class_ 3)] 3

/-- java/lang/Cloneable -/
def k3 : Class := { plain "java/lang/Cloneable" (some 0) with
  accessFlags := 1537
  interfaces := #[]
  cf := some (fileOf pool3 2 #[] #[] 1537 4 #[] #[])
  fields := #[]
  methods := #[]
  instanceTypes := #[]
  staticTypes := #[]
  resolved := Array.replicate 8 none
  statics := none }

def pool4 : Array CpInfo := pool [(1, u "java/io/Serializable"), (0, .class_ 1), (0, u "java/lang/Object"), (0, .class_ 3)] 3

/-- java/io/Serializable -/
def k4 : Class := { plain "java/io/Serializable" (some 0) with
  accessFlags := 1537
  interfaces := #[]
  cf := some (fileOf pool4 2 #[] #[] 1537 4 #[] #[])
  fields := #[]
  methods := #[]
  instanceTypes := #[]
  staticTypes := #[]
  resolved := Array.replicate 8 none
  statics := none }

/-- the primitive byte -/
def k5 : Class := { plain "byte" none with kind := .primitive 'B', accessFlags := 0x411 }
/-- [B -/
def k6 : Class := { plain "[B" (some 0) with kind := .array 5 .byte, interfaces := #[3, 4], accessFlags := 1041 }

def heap : Heap := #[]
def classes : Array Class := #[k0, k1, k2, k3, k4, k5, k6]
def interned : List (Array UInt16 × Addr) := []
def slotsUsed : Nat := 0
def theMethod : MethodId := ⟨1, 1⟩
def args0 : Array Value := #[.long 5, .long 7]
def aboutOver (below : List Frame) : State where
  vm := { classes := classes, interned := interned.toArray }
  heap := heap
  slotsUsed := slotsUsed
  threads := #[{ frames := .invoking theMethod args0 :: below }]
def below0 : List Frame := [.native { method := ⟨0, 0⟩, args := #[] }]
def about1 : State := aboutOver below0
def p0 : Program := .bare "" "" ""
def e0 : Env := launch0.env 0 0 0
theorem w_frames : about1.frames = Frame.invoking theMethod args0 :: below0 := rfl
set_option maxRecDepth 65536 in
theorem w_args : argsFit about1.vm theMethod args0 = true := by decide +kernel
set_option maxRecDepth 65536 in
theorem w_heap : heapFits about1 = true := by decide +kernel
set_option maxRecDepth 65536 in
theorem w_runnable : about1.curStatus? = some .runnable := by decide +kernel
set_option maxRecDepth 65536 in
theorem w_alone : about1.alone = true := by decide +kernel
set_option maxRecDepth 65536 in
theorem w_named : about1.methodNamed? x = some theMethod := by decide +kernel
set_option maxRecDepth 65536 in
theorem w_hears : about1.hears theMethod below0 = true := by decide +kernel
set_option maxRecDepth 65536 in
theorem w_ripe : about1.ripe theMethod args0 below0 = true := by decide +kernel
theorem w_running : about1.status = .running := rfl
set_option maxRecDepth 65536 in
theorem w_room : about1.hasRoom e0.platform room_1 = true :=
  launch0.hasRoom_least _ room_1 (by decide +kernel) (by decide +kernel) (by decide +kernel) (by decide +kernel) (by decide +kernel) (by decide +kernel)
theorem allAtoms_all (ts : List Jvm.Cond) (a : Array Jvm.Value) (st : Jvm.State) : (allAtoms ts).before a st = ts.all (fun c => c.before a st) := by
  induction ts with
  | nil => rfl
  | cons c t ih =>
    show (Jvm.Cond.and c (allAtoms t)).before a st = _
    rw [Jvm.Cond.before_and, ih, List.all_cons]
def words1 : List Jvm.Cond := Jvm.Cond.code x code maxLocals ret :: tables_1
/-- a 'code' word, met by the world's own term for the bytes: nothing is compared byte by byte -/
theorem code_word {y : MethodName} {bytes : ByteArray} {mx : Nat} {rt : Option FieldType} {a : Array Value} {s : State} {m : MethodId} {meth : Method} {c : Code} (h1 : s.methodNamed? y = some m) (h2 : s.vm.method? m = some meth) (h3 : meth.code = some c) (h4 : c.code = bytes)
    (h5 : (c.maxLocals == mx && c.exceptionTable.isEmpty && decide (c.maxStack ≤ mostOperands) && decide (meth.sig.returnType = rt) && !meth.locks && decide (parseMethodDescriptor y.desc = some meth.sig)) = true) : (Jvm.Cond.code y bytes mx rt).before a s = true := by
  simp only [Bool.and_eq_true, beq_iff_eq, Bool.not_eq_true', decide_eq_true_eq] at h5
  obtain ⟨⟨⟨⟨⟨g1, g2⟩, g3⟩, g4⟩, g5⟩, g6⟩ := h5
  simp [Cond.before, Cond.holds, Cond.value, h1, h2, h3, h4, g1, g2, g3, g4, g5, g6]
def isCode : Jvm.Cond → Bool
  | .code _ _ _ _ => true
  | _ => false
theorem all_split {L : List Jvm.Cond} {P : Jvm.Cond → Bool} (h1 : L.all (fun c => isCode c || P c) = true) (h2 : ∀ c ∈ L.filter isCode, P c = true) : L.all P = true := by
  refine List.all_eq_true.mpr fun c hc => ?_
  have h := List.all_eq_true.mp h1 c hc
  rcases Bool.eq_false_or_eq_true (isCode c) with hi | hi
  · exact h2 c (List.mem_filter.mpr ⟨hc, hi⟩)
  · simpa [hi] using h
set_option maxRecDepth 65536 in
theorem w_c0 : (Jvm.Cond.code x code maxLocals ret).before args0 about1 = true := code_word (m := ⟨1, 1⟩) (meth := k1m1) (c := k1c1) (by decide +kernel) rfl rfl rfl (by decide +kernel)
set_option maxRecDepth 65536 in
theorem w_c1 : (Jvm.Cond.code ({ cls := "com/example/meter_for_logs/meterforlogs/Saturating", name := "multiply", desc := "(JJ)J" } : Jvm.MethodName) prog_73_method_3_code (4 : Nat) (Option.some Jvm.ClassFile.FieldType.long)).before args0 about1 = true := code_word (m := ⟨2, 1⟩) (meth := k2m1) (c := k2c1) (by decide +kernel) rfl rfl rfl (by decide +kernel)
def codes1 : List Jvm.Cond := [Jvm.Cond.code x code maxLocals ret, Jvm.Cond.code ({ cls := "com/example/meter_for_logs/meterforlogs/Saturating", name := "multiply", desc := "(JJ)J" } : Jvm.MethodName) prog_73_method_3_code (4 : Nat) (Option.some Jvm.ClassFile.FieldType.long)]
set_option maxRecDepth 65536 in
theorem codes_eq : words1.filter isCode = codes1 := rfl
theorem w_codes : ∀ c ∈ words1.filter isCode, c.before args0 about1 = true := by
  rw [codes_eq]
  intro c hc
  simp only [codes1, List.mem_cons, List.not_mem_nil, or_false] at hc
  rcases hc with rfl | rfl
  · exact w_c0
  · exact w_c1
set_option maxRecDepth 65536 in
theorem w_t1 : words1.all (fun c => isCode c || c.before args0 about1) = true := by decide +kernel
theorem w_tables : (allAtoms (Jvm.Cond.code x code maxLocals ret :: tables_1)).before args0 about1 = true := by
  rw [allAtoms_all]
  show words1.all (fun c => c.before args0 about1) = true
  refine all_split ?_ w_codes
  rw [w_t1]
set_option maxRecDepth 65536 in
theorem w_case : (Jvm.Cond.and given_1 narrow_1).before args0 about1 = true := by decide +kernel
theorem w_applies : (headSpec (Jvm.Cond.code x code maxLocals ret :: tables_1) room_1).applies x e0.platform about1 = true :=
  (Spec.applies_iff w_frames).mpr ⟨w_running, w_runnable, w_alone, w_named, w_hears, w_ripe, w_room, w_tables⟩
theorem atStart : AtStart classFile x code maxLocals ret World_1 tables_1 room_1 Calls_1 rest_1 Pre_1 launch0 p0 e0 about1 theMethod args0 below0 :=
  ⟨lists_1, trivial, launch0.admits_env _ _ _, launch0.least_env, fairChoices_fair.cas, fairChoices_fair.clock, w_frames, w_args, w_heap, w_applies, trivial, trivial, w_case⟩
end start1
theorem witness_1 : WitnessClaimed_1 := ⟨start1.p0, start1.e0, start1.about1, start1.theMethod, start1.args0, start1.below0, start1.atStart⟩
end Jvm.Pilot.@@N@@
