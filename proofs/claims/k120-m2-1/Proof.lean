import JvmDerived
import JvmDerived.Pilot.@@N@@Statement
import JvmDerived.Pilot.@@N@@Code
set_option linter.unusedVariables false
set_option linter.unusedSimpArgs false
namespace Jvm.Pilot.@@N@@
open Jvm Jvm.ClassFile Sem Op Lib Jvm.Free Jvm.Stand Jvm.LawKit Jvm.RoadKit Bundle Jvm.Pilot.@@N@@.Jvm.D
section OwnKit
variable {p : Program} {l : Launch} {e : Env} {R : Room} {s : State} {m : MethodId} {args : Array Value} {below : List Frame} {meth : Method} {c : Code} {T : State} {locs : List Loc} {cells slots : Nat} {Z : State} {a0 : Array Value} {h h' h0 : Heap}
/-- the rest of the body's run, from A on: it ends, and E holds there -/
def own_Go (p : Program) (e : Env) (below : List Frame) (E : Outcome → State → Prop) (A : State) : Prop :=
  ∃ s₂ o, Steps p.tables e below A s₂ ∧ s₂.status = .running ∧ Ended s₂ below o ∧ E o s₂
theorem own_go {E : Outcome → State → Prop} {A B : State} (k : ∀ t, Steps p.tables e below A t → Steps p.tables e below B t) (g : own_Go p e below E A) : own_Go p e below E B := by
  obtain ⟨s₂, o, h1, h2⟩ := g
  exact ⟨s₂, o, k _ h1, h2⟩
theorem own_goT {E : Outcome → State → Prop} {A B : State} (k : Steps p.tables e below B A) (g : own_Go p e below E A) : own_Go p e below E B := own_go (fun _ q => k.trans q) g
/-- what a body leaves -/
def own_Out (s : State) (Q : Option Value → Heap → List Loc → Prop) (C S : Nat) (o : Outcome) (U : State) : Prop :=
  ∃ v L, o = .returned v ∧ Q v U.heap L ∧ FrameEnd s o U L C S
/-- a body's contract: called with as' over the heap h0 it returns, and Q holds of what it returns, of the heap that it leaves and of the places that it wrote -/
def own_Con (l : Launch) (Z : State) (y : MethodName) (bytes : ByteArray) (maxL : Nat) (ret : Option FieldType) (rm : Room) (as' : Array Value) (h0 : Heap) (Q : Option Value → Heap → List Loc → Prop) (ws : List Jvm.Cond) : Prop :=
  MetFree l y (head1 (Jvm.Cond.code y bytes maxL ret :: ws) rm) (fun a U => a = as' ∧ Z.Warmed39 U.vm ∧ U.heap = h0) (fun _ _ _ _ _ => True) (fun _ U o U' => ∃ v L, o = .returned v ∧ Q v U'.heap L ∧ FrameEnd U o U' L rm.cells rm.slots)
theorem own_con {y : MethodName} {bytes : ByteArray} {maxL : Nat} {ret : Option FieldType} {rm : Room} {as' : Array Value} {Q : Option Value → Heap → List Loc → Prop} {ws : List Jvm.Cond} {F : MethodId → JFrame} (hpn : plainFor y = true) (hef : ∀ m, entryFrame m as' maxL = F m)
    (H : ∀ (p : Program) (e : Env) (s : State) (m : MethodId) (below : List Frame) (meth : Method) (c : Code) (T : State), Stand p l e rm s m as' below meth c T [] 0 0 → p.tables.exec = Jvm.exec → c.code = bytes → c.maxLocals = maxL → Z.Warmed39 s.vm → s.vm.findClass y.cls = some m.cls → meth.name = y.name →
      meth.sig.returnType = ret → meth.locks = false → T.heap = h0 → own_Go p e below (own_Out s Q rm.cells rm.slots) (T.setTop (F m))) :
    own_Con l Z y bytes maxL ret rm as' h0 Q ws := by
  refine MetFree.of_bodySF hpn hisR ?_
  intro p e s m args below meth c s₁ Bd hml0 hP hK
  obtain ⟨rfl, hZ, hh⟩ := hP
  have k := H p e s m below meth c s₁ (Stand.of_body Bd) Bd.exec Bd.bytes hml0 hZ (findClass_of_methodNamed Bd.named) (name_of_methodNamed Bd.named Bd.method).1 Bd.returns Bd.notSynchronized (by rw [← hh, Bd.state]; rfl)
  rw [← hef m] at k
  exact k
theorem own_Con.mono {y : MethodName} {bytes : ByteArray} {maxL : Nat} {ret : Option FieldType} {rm : Room} {as' : Array Value} {Q Q' : Option Value → Heap → List Loc → Prop} {ws : List Jvm.Cond} (H : own_Con l Z y bytes maxL ret rm as' h0 Q ws) (k : ∀ v h L, Q v h L → Q' v h L) : own_Con l Z y bytes maxL ret rm as' h0 Q' ws := by
  intro p e ha hc hk s m args below hf happ hP hK
  obtain ⟨n, o, g1, g2, g3, v, L, g4, g5, g6⟩ := H p e ha hc hk s m args below hf happ hP hK
  exact ⟨n, o, g1, g2, g3, v, L, g4, k _ _ _ g5, g6⟩
/-! leaving -/
theorem own_iret (X : Stand p l e R s m args below meth c T locs cells slots) (hx : p.tables.exec = Jvm.exec) (hlk : meth.locks = false) {t : FieldType} (hret : meth.sig.returnType = some t) (hti : t = .int ∨ t = .boolean ∨ t = .byte ∨ t = .char ∨ t = .short) {pc : Nat} {Ls : Array Slot} {z : Int32} (hn : narrow t (.int z) = .int z)
    (hd : decode c.code pc = .ok (.ireturn, 1)) {Q : Option Value → Heap → List Loc → Prop} {C S : Nat} (hC : cells ≤ C) (hS : slots ≤ S) (hq : Q (some (.int z)) T.heap locs) : own_Go p e below (own_Out s Q C S) (T.setTop (mkF m pc Ls [.int z])) := by
  obtain ⟨fs, hr, hrun, hended, hW, hsame⟩ := X.leave (v := some (.int z)) (fun h => by rw [hret] at h; cases h)
  exact ⟨_, _, X.ireturnOut hx hret hn hti hd hr, hrun, hended, _, _, rfl, hq, ⟨_, rfl⟩, hW, hsame.mono hC hS⟩
theorem own_lret (X : Stand p l e R s m args below meth c T locs cells slots) (hx : p.tables.exec = Jvm.exec) (hlk : meth.locks = false) (hret : meth.sig.returnType = some .long) {pc : Nat} {Ls : Array Slot} {z : Int64}
    (hd : decode c.code pc = .ok (.lreturn, 1)) {Q : Option Value → Heap → List Loc → Prop} {C S : Nat} (hC : cells ≤ C) (hS : slots ≤ S) (hq : Q (some (.long z)) T.heap locs) : own_Go p e below (own_Out s Q C S) (T.setTop (mkF m pc Ls [.long z])) := by
  obtain ⟨fs, hr, hrun, hended, hW, hsame⟩ := X.leave (v := some (.long z)) (fun h => by rw [hret] at h; cases h)
  exact ⟨_, _, X.lreturnOut hx hret hd hr, hrun, hended, _, _, rfl, hq, ⟨_, rfl⟩, hW, hsame.mono hC hS⟩
theorem own_aret (X : Stand p l e R s m args below meth c T locs cells slots) (hx : p.tables.exec = Jvm.exec) (hlk : meth.locks = false) {t : FieldType} (hret : meth.sig.returnType = some t) (ht : t.isReference = true) {pc : Nat} {Ls : Array Slot} {w : Value} (hw : w.isRef = true)
    (hd : decode c.code pc = .ok (.areturn, 1)) {Q : Option Value → Heap → List Loc → Prop} {C S : Nat} (hC : cells ≤ C) (hS : slots ≤ S) (hq : Q (some w) T.heap locs) : own_Go p e below (own_Out s Q C S) (T.setTop (mkF m pc Ls [w])) := by
  obtain ⟨fs, hr, hrun, hended, hW, hsame⟩ := X.leave (v := some w) (fun h => by rw [hret] at h; cases h)
  exact ⟨_, _, X.areturnOut hx hw hret ht hd hr, hrun, hended, _, _, rfl, hq, ⟨_, rfl⟩, hW, hsame.mono hC hS⟩
theorem own_vret (X : Stand p l e R s m args below meth c T locs cells slots) (hx : p.tables.exec = Jvm.exec) (hlk : meth.locks = false) (hret : meth.sig.returnType = none) {pc : Nat} {Ls : Array Slot}
    (hd : decode c.code pc = .ok (.return_, 1)) {Q : Option Value → Heap → List Loc → Prop} {C S : Nat} (hC : cells ≤ C) (hS : slots ≤ S) (hq : Q none T.heap locs) : own_Go p e below (own_Out s Q C S) (T.setTop (mkF m pc Ls [])) := by
  obtain ⟨fs, hr, hrun, hended, hW, hsame⟩ := X.leave (v := none) (fun _ => rfl)
  exact ⟨_, _, X.returnOut hx hret hd hr, hrun, hended, _, _, rfl, hq, ⟨_, rfl⟩, hW, hsame.mono hC hS⟩
/-! a body that leaves the heap alone -/
def own_PQ (h0 : Heap) (w : Value) (v : Option Value) (h : Heap) (L : List Loc) : Prop := v = some w ∧ h = h0 ∧ L = []
theorem own_iteI {C : Prop} [Decidable C] {a b : Int32} {k n : Nat} {A : State} (h1 : C → own_Go p e below (own_Out s (own_PQ h0 (.int a)) k n) A) (h2 : ¬ C → own_Go p e below (own_Out s (own_PQ h0 (.int b)) k n) A) : own_Go p e below (own_Out s (own_PQ h0 (.int (if C then a else b))) k n) A := by
  by_cases q : C
  · rw [if_pos q]; exact h1 q
  · rw [if_neg q]; exact h2 q
theorem own_iteL {C : Prop} [Decidable C] {a b : Int64} {k n : Nat} {A : State} (h1 : C → own_Go p e below (own_Out s (own_PQ h0 (.long a)) k n) A) (h2 : ¬ C → own_Go p e below (own_Out s (own_PQ h0 (.long b)) k n) A) : own_Go p e below (own_Out s (own_PQ h0 (.long (if C then a else b))) k n) A := by
  by_cases q : C
  · rw [if_pos q]; exact h1 q
  · rw [if_neg q]; exact h2 q
/-! calls -/
theorem own_callS (X : Stand p l e R s m args below meth c T locs cells slots) (hx : p.tables.exec = Jvm.exec) (hZ : Z.Warmed39 s.vm) {own : String} (hown : s.vm.findClass own = some m.cls) {index : Nat} {y : MethodName} {bytes : ByteArray} {maxL : Nat} {ret : Option FieldType} {rm : Room} {argsL rest : List Value} {Q : Option Value → Heap → List Loc → Prop}
    (hM : own_Con l Z y bytes maxL ret rm argsL.toArray h Q []) (eT : T.heap = h) (wl : (Jvm.Cond.methodLink own index y).before a0 Z = true) (wst : (Jvm.Cond.static y).before a0 Z = true) (wz : (Jvm.Cond.initialized y.cls).before a0 Z = true) (wc : (Jvm.Cond.code y bytes maxL ret).before a0 Z = true) (hy : y.cls ≠ "java/lang/invoke/MethodHandle" ∧ y.cls ≠ "java/lang/invoke/VarHandle")
    {sig : MethodDescriptor} (hpd : parseMethodDescriptor y.desc = some sig) (hlen : argsL.length = sig.parameters.length) {g : JFrame} (hg : g.method = m) (hsize : g.locals.size = c.maxLocals) (hstack : g.stack = argsL.reverse ++ rest) (W : Nat) (hW : 2 * g.monitorRoom + (rest.map fun v => v.category).sum ≤ W) (hdg : decode c.code g.pc = .ok (.invokestatic index, 3))
    (hf : rm.frames + 1 ≤ R.frames) (hl : W + (maxL + 11) + rm.locals ≤ R.locals) (hcs : cells + rm.cells ≤ R.cells) (hss : slots + rm.slots ≤ R.slots) :
    ∃ (v : Option Value) (T' : State) (L : List Loc), Stand p l e R s m args below meth c T' (locs ++ L) (cells + rm.cells) (slots + rm.slots) ∧ Q v T'.heap L ∧ ∀ t, Steps p.tables e below (T'.setTop { g with pc := g.pc + 3, stack := v.toList ++ rest }) t → Steps p.tables e below (T.setTop g) t := by
  obtain ⟨v, _, ⟨T', L', k', n'⟩, -, X', ⟨L, hQ, q1, q2, q3⟩, st⟩ := Jvm.LawKit.callS X hx hown (mvT hZ wl) (mvT hZ wst) (mvT hZ wz) (mvT hZ wc) hy (backOf (W := W) hM hZ wc wz hf hl) hg hsize (argsL := argsL) (rest := rest) (fun sg hsg => by rw [hpd] at hsg; cases hsg; exact hlen) hstack hW hdg (fun _ _ => ⟨rfl, eT, hcs, hss⟩)
  dsimp only [Pt.U, Pt.locs, Pt.cells, Pt.slots] at X' q1 q2 q3 st hQ
  subst q1 q2 q3
  exact ⟨v, T', L, X', hQ, st⟩
theorem own_callSP (X : Stand p l e R s m args below meth c T locs cells slots) (hx : p.tables.exec = Jvm.exec) (hZ : Z.Warmed39 s.vm) {own : String} (hown : s.vm.findClass own = some m.cls) {index : Nat} {y : MethodName} {bytes : ByteArray} {maxL : Nat} {ret : Option FieldType} {rm : Room} {argsL rest : List Value} {w : Value}
    (hM : own_Con l Z y bytes maxL ret rm argsL.toArray h (own_PQ h w) []) (eT : T.heap = h) (wl : (Jvm.Cond.methodLink own index y).before a0 Z = true) (wst : (Jvm.Cond.static y).before a0 Z = true) (wz : (Jvm.Cond.initialized y.cls).before a0 Z = true) (wc : (Jvm.Cond.code y bytes maxL ret).before a0 Z = true) (hy : y.cls ≠ "java/lang/invoke/MethodHandle" ∧ y.cls ≠ "java/lang/invoke/VarHandle")
    {sig : MethodDescriptor} (hpd : parseMethodDescriptor y.desc = some sig) (hlen : argsL.length = sig.parameters.length) {g : JFrame} (hg : g.method = m) (hsize : g.locals.size = c.maxLocals) (hstack : g.stack = argsL.reverse ++ rest) (W : Nat) (hW : 2 * g.monitorRoom + (rest.map fun v => v.category).sum ≤ W) (hdg : decode c.code g.pc = .ok (.invokestatic index, 3))
    (hf : rm.frames + 1 ≤ R.frames) (hl : W + (maxL + 11) + rm.locals ≤ R.locals) (hrc : rm.cells = 0) (hrs : rm.slots = 0) (hcs : cells ≤ R.cells) (hss : slots ≤ R.slots) :
    ∃ (T' : State), Stand p l e R s m args below meth c T' locs cells slots ∧ T'.heap = h ∧ ∀ t, Steps p.tables e below (T'.setTop { g with pc := g.pc + 3, stack := w :: rest }) t → Steps p.tables e below (T.setTop g) t := by
  obtain ⟨v, T', L, X', ⟨rfl, q2, rfl⟩, st⟩ := own_callS X hx hZ hown hM eT wl wst wz wc hy hpd hlen hg hsize hstack W hW hdg hf hl (by omega) (by omega)
  rw [List.append_nil, hrc, hrs] at X'
  exact ⟨T', X', q2, st⟩
theorem own_callI (X : Stand p l e R s m args below meth c T locs cells slots) (hx : p.tables.exec = Jvm.exec) (hZ : Z.Warmed39 s.vm) {own : String} (hown : s.vm.findClass own = some m.cls) {index : Nat} {y : MethodName} (hy1 : y.name = "<init>") {bytes : ByteArray} {maxL : Nat} {rm : Room} {b : Addr} {argsL rest : List Value} {Q : Option Value → Heap → List Loc → Prop}
    (hM : own_Con l Z y bytes maxL none rm (Value.ref b :: argsL).toArray h Q []) (eT : T.heap = h) (wl : (Jvm.Cond.methodLink own index y).before a0 Z = true) (wi : (Jvm.Cond.instanceMethod y).before a0 Z = true) (wz : (Jvm.Cond.initialized y.cls).before a0 Z = true) (wc : (Jvm.Cond.code y bytes maxL none).before a0 Z = true) (hy : y.cls ≠ "java/lang/invoke/MethodHandle" ∧ y.cls ≠ "java/lang/invoke/VarHandle")
    {sig : MethodDescriptor} (hpd : parseMethodDescriptor y.desc = some sig) (hlen : argsL.length = sig.parameters.length) {g : JFrame} (hg : g.method = m) (hsize : g.locals.size = c.maxLocals) (hstack : g.stack = argsL.reverse ++ .ref b :: rest) (W : Nat) (hW : 2 * g.monitorRoom + (rest.map fun v => v.category).sum ≤ W) (hdg : decode c.code g.pc = .ok (.invokespecial index, 3))
    (hf : rm.frames + 1 ≤ R.frames) (hl : W + (maxL + 11) + rm.locals ≤ R.locals) (hcs : cells + rm.cells ≤ R.cells) (hss : slots + rm.slots ≤ R.slots) :
    ∃ (v : Option Value) (T' : State) (L : List Loc), Stand p l e R s m args below meth c T' (locs ++ L) (cells + rm.cells) (slots + rm.slots) ∧ Q v T'.heap L ∧ ∀ t, Steps p.tables e below (T'.setTop { g with pc := g.pc + 3, stack := v.toList ++ rest }) t → Steps p.tables e below (T.setTop g) t := by
  obtain ⟨v, _, ⟨T', L', k', n'⟩, -, X', ⟨L, hQ, q1, q2, q3⟩, st⟩ := X.specialBack hx hy1 hown (mvT hZ wl) (mvT hZ wi) (mvT hZ wc) hy (backOf (W := W) hM hZ wc wz hf hl) hg hsize (Steps.refl _) (a := b) (argsL := argsL) (rest := rest) (fun sg hsg => by rw [hpd] at hsg; cases hsg; exact hlen) hstack hW hdg (fun _ _ => ⟨rfl, eT, hcs, hss⟩)
  dsimp only [Pt.U, Pt.locs, Pt.cells, Pt.slots] at X' q1 q2 q3 st hQ
  subst q1 q2 q3
  exact ⟨v, T', L, X', hQ, fun _ k => st.trans k⟩
theorem own_callV (X : Stand p l e R s m args below meth c T locs cells slots) (hx : p.tables.exec = Jvm.exec) (hZ : Z.Warmed39 s.vm) {own C : String} (hown : s.vm.findClass own = some m.cls) {index : Nat} {y z : MethodName} {bytes : ByteArray} {maxL : Nat} {ret : Option FieldType} {rm : Room} {b : Addr} {argsL rest : List Value} {Q : Option Value → Heap → List Loc → Prop}
    (hM : own_Con l Z z bytes maxL ret rm (Value.ref b :: argsL).toArray h Q []) (eT : T.heap = h) (hE : Exa Z h b C) (wl : (Jvm.Cond.methodLink own index y).before a0 Z = true) (wd : (Jvm.Cond.declares y).before a0 Z = true) (wsel : (Jvm.Cond.selects C y z).before a0 Z = true) (wi : (Jvm.Cond.instanceMethod z).before a0 Z = true) (wz : (Jvm.Cond.initialized z.cls).before a0 Z = true) (wc : (Jvm.Cond.code z bytes maxL ret).before a0 Z = true) (hnf : NotFace s y) (hy : y.cls ≠ "java/lang/invoke/MethodHandle" ∧ y.cls ≠ "java/lang/invoke/VarHandle")
    {sig : MethodDescriptor} (hpd : parseMethodDescriptor y.desc = some sig) (hlen : argsL.length = sig.parameters.length) {g : JFrame} (hg : g.method = m) (hsize : g.locals.size = c.maxLocals) (hstack : g.stack = argsL.reverse ++ .ref b :: rest) (W : Nat) (hW : 2 * g.monitorRoom + (rest.map fun v => v.category).sum ≤ W) (hdg : decode c.code g.pc = .ok (.invokevirtual index, 3))
    (hf : rm.frames + 1 ≤ R.frames) (hl : W + (maxL + 11) + rm.locals ≤ R.locals) (hcs : cells + rm.cells ≤ R.cells) (hss : slots + rm.slots ≤ R.slots) :
    ∃ (v : Option Value) (T' : State) (L : List Loc), Stand p l e R s m args below meth c T' (locs ++ L) (cells + rm.cells) (slots + rm.slots) ∧ Q v T'.heap L ∧ ∀ t, Steps p.tables e below (T'.setTop { g with pc := g.pc + 3, stack := v.toList ++ rest }) t → Steps p.tables e below (T.setTop g) t := by
  obtain ⟨cq, kq, qa, qb, qc⟩ := isOf hZ eT hE
  obtain ⟨v, _, ⟨T', L', k', n'⟩, -, X', ⟨L, hQ, q1, q2, q3⟩, st⟩ := X.virtualBack hx hown (mvT hZ wl) (mvT hZ wd) hnf (mvT hZ wsel) (mvT hZ wi) hy (backOf (W := W) hM hZ wc wz hf hl) qa qc hg hsize (Steps.refl _) (argsL := argsL) (rest := rest) (fun sg hsg => by rw [hpd] at hsg; cases hsg; exact hlen) hstack hW hdg (fun _ _ => ⟨rfl, eT, hcs, hss⟩)
  dsimp only [Pt.U, Pt.locs, Pt.cells, Pt.slots] at X' q1 q2 q3 st hQ
  subst q1 q2 q3
  exact ⟨v, T', L, X', hQ, fun _ k => st.trans k⟩
theorem own_callP (X : Stand p l e R s m args below meth c T locs cells slots) (hx : p.tables.exec = Jvm.exec) (hZ : Z.Warmed39 s.vm) {own C : String} (hown : s.vm.findClass own = some m.cls) {index kk : Nat} {y : MethodName} {bytes : ByteArray} {maxL : Nat} {ret : Option FieldType} {rm : Room} {b : Addr} {argsL rest : List Value} {Q : Option Value → Heap → List Loc → Prop}
    (hM : own_Con l Z y bytes maxL ret rm (Value.ref b :: argsL).toArray h Q []) (eT : T.heap = h) (hE : Exa Z h b C) (wl : (Jvm.Cond.methodLink own index y).before a0 Z = true) (wi : (Jvm.Cond.instanceMethod y).before a0 Z = true) (wp : (Jvm.Cond.privateMethod y).before a0 Z = true) (wn : (Jvm.Cond.instantiable y.cls kk).before a0 Z = true) (wz : (Jvm.Cond.initialized y.cls).before a0 Z = true) (wc : (Jvm.Cond.code y bytes maxL ret).before a0 Z = true) (hy : y.cls ≠ "java/lang/invoke/MethodHandle" ∧ y.cls ≠ "java/lang/invoke/VarHandle")
    {sig : MethodDescriptor} (hpd : parseMethodDescriptor y.desc = some sig) (hlen : argsL.length = sig.parameters.length) {g : JFrame} (hg : g.method = m) (hsize : g.locals.size = c.maxLocals) (hstack : g.stack = argsL.reverse ++ .ref b :: rest) (W : Nat) (hW : 2 * g.monitorRoom + (rest.map fun v => v.category).sum ≤ W) (hdg : decode c.code g.pc = .ok (.invokevirtual index, 3))
    (hf : rm.frames + 1 ≤ R.frames) (hl : W + (maxL + 11) + rm.locals ≤ R.locals) (hcs : cells + rm.cells ≤ R.cells) (hss : slots + rm.slots ≤ R.slots) :
    ∃ (v : Option Value) (T' : State) (L : List Loc), Stand p l e R s m args below meth c T' (locs ++ L) (cells + rm.cells) (slots + rm.slots) ∧ Q v T'.heap L ∧ ∀ t, Steps p.tables e below (T'.setTop { g with pc := g.pc + 3, stack := v.toList ++ rest }) t → Steps p.tables e below (T.setTop g) t := by
  obtain ⟨cq, q, q'⟩ := hE.cell
  have hp := Cond.privateMethod_at (mvP hZ wp (args := #[]))
  have hn : (Jvm.Cond.instantiable y.cls kk).before args s = true := mvT hZ wn
  obtain ⟨c2, k2, i1, i2, i3, i4, -⟩ := Cond.instantiable_spec hn
  have hsel : (Jvm.Cond.selects y.cls y y).before args s = true := selects_self_of_private i1 i2 (Bool.or_eq_false_iff.mp i4).1 hp (mvT hZ wi) hy
  obtain ⟨v, _, ⟨T', L', k', n'⟩, -, X', ⟨L, hQ, q1, q2, q3⟩, st⟩ := X.privateBack hx hown (mvT hZ wl) (mvT hZ wi) hsel hp (mvT hZ wc) hy (backOf (W := W) hM hZ wc wz hf hl) hg hsize (Steps.refl _) (a := b) (by rw [eT]; exact q) q' (argsL := argsL) (rest := rest) (fun sg hsg => by rw [hpd] at hsg; cases hsg; exact hlen) hstack hW hdg (fun _ _ => ⟨rfl, eT, hcs, hss⟩)
  dsimp only [Pt.U, Pt.locs, Pt.cells, Pt.slots] at X' q1 q2 q3 st hQ
  subst q1 q2 q3
  exact ⟨v, T', L, X', hQ, fun _ k => st.trans k⟩
theorem own_pn {y : MethodName} (hq : plainName y.cls = true) : plainFor y = true := plainFor_of_name hq
end OwnKit
section OwnArr
variable {p : Program} {l : Launch} {e : Env} {R : Room} {s : State} {m : MethodId} {args : Array Value} {below : List Frame} {meth : Method} {c : Code} {T : State} {locs : List Loc} {cells slots : Nat} {Z : State} {a0 : Array Value} {h h' h0 : Heap} {a b : Addr} {ty : FieldType} {vs : List Value} {v : Value} {i sl : Nat} {ws : List Addr}
/-- an array of ty's at a, its components vs -/
def own_AV (Z : State) (h : Heap) (a : Addr) (ty : FieldType) (vs : List Value) : Prop := ∃ c : Cell, Arr Z h a c ty ∧ c.slots.toList = vs ∧ vs.length < 2147483648 ∧ ∀ v ∈ vs, fits ty v = true
theorem own_AV.lt (A : own_AV Z h a ty vs) : a < h.size := by obtain ⟨c, q, -⟩ := A; exact q.lt
theorem own_AV.short (A : own_AV Z h a ty vs) : vs.length < 2147483648 := by obtain ⟨c, -, -, q, -⟩ := A; exact q
theorem own_AV.ext (A : own_AV Z h a ty vs) (E : Ext h h') : own_AV Z h' a ty vs := by obtain ⟨c, q, r⟩ := A; exact ⟨c, q.ext E, r⟩
theorem own_AV.other (A : own_AV Z h b ty vs) (W : Wr h h' a sl v) (q : b ≠ a) : own_AV Z h' b ty vs := by obtain ⟨c, k, r⟩ := A; exact ⟨c, k.other W q, r⟩
theorem own_AV.keep (A : own_AV Z h a ty vs) (K : Keep h h' ws) (q : a ∉ ws) : own_AV Z h' a ty vs := by obtain ⟨c, k, r⟩ := A; exact ⟨c, ⟨K.2.1 a c k.1 q, k.2⟩, r⟩
theorem own_AV.set (A : own_AV Z h a ty vs) (W : Wr h h' a i v) (hv : fits ty v = true) : own_AV Z h' a ty (vs.set i v) := by
  obtain ⟨c, k, r, z, f⟩ := A
  refine ⟨c.setSlot i v, k.same W, ?_, by rw [List.length_set]; exact z, fun u hu => ?_⟩
  · show (c.slots.setIfInBounds i v).toList = _
    rw [Array.toList_setIfInBounds, r]
  · rcases List.mem_or_eq_of_mem_set hu with q | q
    · exact f u q
    · rw [q]; exact hv
theorem own_idx {j : Int32} {i : Nat} (hj : j.toInt = i) : ¬ j < 0 ∧ j.toNatClampNeg = i := by
  refine ⟨?_, ?_⟩
  · rw [Int32.lt_iff_toInt_lt, hj]; show ¬ (i : Int) < 0; omega
  · simp only [Int32.toNatClampNeg, hj]; rfl
theorem own_AV_new {cA : ClassId} {n : Int32} {k : Nat} (A : Arr Z h a (newA cA ty n) ty) (hn : n.toInt = k) : own_AV Z h a ty (List.replicate k (defaultValue ty)) := by
  obtain ⟨q1, q2⟩ := own_idx hn
  refine ⟨_, A, ?_, ?_, fun v hv => ?_⟩
  · show (Array.replicate n.toNatClampNeg _).toList = _
    rw [q2, Array.toList_replicate]
  · rw [List.length_replicate]
    have := n.toInt_lt
    omega
  · rw [(List.mem_replicate.mp hv).2]; cases ty <;> rfl
theorem own_newA (X : Stand p l e R s m args below meth c T locs cells slots) (hx : p.tables.exec = Jvm.exec) (hZ : Z.Warmed39 s.vm) {aty : ArrayType} (w : (Jvm.Cond.arrayClass (newarray.typeOf aty)).before a0 Z = true) (eT : T.heap = h) {g : JFrame} (hg : g.method = m) (hd : decode c.code g.pc = .ok (.newarray aty, 2)) {n : Int32} {rest : List Value} (hs : g.stack = .int n :: rest)
    (k cap : Nat) (hn : n.toInt = k) (hk : k ≤ cap) (hb : cap * 8 ≤ 536870912) (hc : cells + 1 ≤ R.cells) (hl : slots + cap ≤ R.slots) :
    ∃ T' h', Stand p l e R s m args below meth c T' locs (cells + 1) (slots + cap) ∧ T'.heap = h' ∧ Ext h h' ∧ own_AV Z h' h.size (newarray.typeOf aty) (List.replicate k (defaultValue (newarray.typeOf aty))) ∧ ∀ t, Steps p.tables e below (T'.setTop { g with pc := g.pc + 2, stack := .ref h.size :: rest }) t → Steps p.tables e below (T.setTop g) t := by
  obtain ⟨q1, q2⟩ := own_idx hn
  obtain ⟨T', h', cA, X', e', E, A, st⟩ := newP X hx hZ w eT hg hd hs q1 (cap := cap) (by rw [q2]; exact hk) hb hc hl
  exact ⟨T', h', X', e', E, own_AV_new A hn, st⟩
theorem own_stI (X : Stand p l e R s m args below meth c T locs cells slots) (hx : p.tables.exec = Jvm.exec) (hZ : Z.Warmed39 s.vm) (eT : T.heap = h) (A : own_AV Z h a .int vs) {j x : Int32} {g : JFrame} (hg : g.method = m) {rest : List Value} (hs : g.stack = .int x :: .int j :: .ref a :: rest) (hd : decode c.code g.pc = .ok (.iastore, 1)) (i : Nat) (hj : j.toInt = i) (hi : i < vs.length) :
    ∃ T' h', Stand p l e R s m args below meth c T' (locs ++ [⟨a, i⟩]) cells slots ∧ T'.heap = h' ∧ Wr h h' a i (.int x) ∧ own_AV Z h' a .int (vs.set i (.int x)) ∧ ∀ t, Steps p.tables e below (T'.setTop { g with pc := g.pc + 1, stack := rest }) t → Steps p.tables e below (T.setTop g) t := by
  obtain ⟨q1, q2⟩ := own_idx hj
  have A' := A
  obtain ⟨cl, k, r, -, -⟩ := A
  have hz : cl.slots.size = vs.length := by rw [← r]; simp
  obtain ⟨T', h', X', e', W, st⟩ := stI X hx hZ eT k (j := j) (x := x) (by rw [q2, hz]; exact fun u => u.elim q1 (fun z => by omega)) hg hs hd
  rw [q2] at X' W
  exact ⟨T', h', X', e', W, A'.set W rfl, st⟩
theorem own_stJ (X : Stand p l e R s m args below meth c T locs cells slots) (hx : p.tables.exec = Jvm.exec) (hZ : Z.Warmed39 s.vm) (eT : T.heap = h) (A : own_AV Z h a .long vs) {j : Int32} {x : Int64} {g : JFrame} (hg : g.method = m) {rest : List Value} (hs : g.stack = .long x :: .int j :: .ref a :: rest) (hd : decode c.code g.pc = .ok (.lastore, 1)) (i : Nat) (hj : j.toInt = i) (hi : i < vs.length) :
    ∃ T' h', Stand p l e R s m args below meth c T' (locs ++ [⟨a, i⟩]) cells slots ∧ T'.heap = h' ∧ Wr h h' a i (.long x) ∧ own_AV Z h' a .long (vs.set i (.long x)) ∧ ∀ t, Steps p.tables e below (T'.setTop { g with pc := g.pc + 1, stack := rest }) t → Steps p.tables e below (T.setTop g) t := by
  obtain ⟨q1, q2⟩ := own_idx hj
  have A' := A
  obtain ⟨cl, k, r, -, -⟩ := A
  have hz : cl.slots.size = vs.length := by rw [← r]; simp
  obtain ⟨T', h', X', e', W, st⟩ := stJ X hx hZ eT k (j := j) (x := x) (by rw [q2, hz]; exact fun u => u.elim q1 (fun z => by omega)) hg hs hd
  rw [q2] at X' W
  exact ⟨T', h', X', e', W, A'.set W rfl, st⟩
theorem own_ldI (X : Stand p l e R s m args below meth c T locs cells slots) (hx : p.tables.exec = Jvm.exec) (hZ : Z.Warmed39 s.vm) (eT : T.heap = h) (A : own_AV Z h a .int vs) {j : Int32} {g : JFrame} (hg : g.method = m) {rest : List Value} (hs : g.stack = .int j :: .ref a :: rest) (hd : decode c.code g.pc = .ok (.iaload, 1)) (i : Nat) (hj : j.toInt = i) {x : Value} (hi : vs[i]? = some x) :
    ∀ t, Steps p.tables e below (T.setTop { g with pc := g.pc + 1, stack := x :: rest }) t → Steps p.tables e below (T.setTop g) t := by
  obtain ⟨q1, q2⟩ := own_idx hj
  obtain ⟨cl, k, r, -, -⟩ := A
  have hz : cl.slots.size = vs.length := by rw [← r]; simp
  have hv : cl.slots[i]? = some x := by rw [← Array.getElem?_toList, r]; exact hi
  have hl := (List.getElem?_eq_some_iff.mp hi).1
  exact X.iaload hx (by rw [eT]; exact k.1) (State.isArrayOf_alike hZ.alike k.2.1) k.2.2 (by rw [q2, hz]; exact fun u => u.elim q1 (fun z => by omega)) (by rw [q2]; exact hv) hg hs hd
theorem own_ldJ (X : Stand p l e R s m args below meth c T locs cells slots) (hx : p.tables.exec = Jvm.exec) (hZ : Z.Warmed39 s.vm) (eT : T.heap = h) (A : own_AV Z h a .long vs) {j : Int32} {g : JFrame} (hg : g.method = m) {rest : List Value} (hs : g.stack = .int j :: .ref a :: rest) (hd : decode c.code g.pc = .ok (.laload, 1)) (i : Nat) (hj : j.toInt = i) {x : Value} (hi : vs[i]? = some x) :
    ∀ t, Steps p.tables e below (T.setTop { g with pc := g.pc + 1, stack := x :: rest }) t → Steps p.tables e below (T.setTop g) t := by
  obtain ⟨q1, q2⟩ := own_idx hj
  obtain ⟨cl, k, r, -, -⟩ := A
  have hz : cl.slots.size = vs.length := by rw [← r]; simp
  have hv : cl.slots[i]? = some x := by rw [← Array.getElem?_toList, r]; exact hi
  have hl := (List.getElem?_eq_some_iff.mp hi).1
  exact X.laload hx (by rw [eT]; exact k.1) (State.isArrayOf_alike hZ.alike k.2.1) k.2.2 (by rw [q2, hz]; exact fun u => u.elim q1 (fun z => by omega)) (by rw [q2]; exact hv) hg hs hd
theorem own_len (X : Stand p l e R s m args below meth c T locs cells slots) (hx : p.tables.exec = Jvm.exec) (hZ : Z.Warmed39 s.vm) (eT : T.heap = h) (A : own_AV Z h a ty vs) {g : JFrame} (hg : g.method = m) {rest : List Value} (hs : g.stack = .ref a :: rest) (hd : decode c.code g.pc = .ok (.arraylength, 1)) (n : Int32) (hn : n.toInt = vs.length) :
    ∀ t, Steps p.tables e below (T.setTop { g with pc := g.pc + 1, stack := .int n :: rest }) t → Steps p.tables e below (T.setTop g) t := by
  obtain ⟨cl, k, r, z, -⟩ := A
  have hz : cl.slots.size = vs.length := by rw [← r]; simp
  have en : cl.slots.size.toInt32 = n := Int32.toInt_inj.mp (by rw [hn, hz]; exact len_toInt z)
  intro t q
  refine X.arraylength hx (by rw [eT]; exact k.1) (State.isArrayOf_alike hZ.alike k.2.1) hg hs hd t ?_
  rw [en]; exact q
theorem own_newAE (X : Stand p l e R s m args below meth c T locs cells slots) (hx : p.tables.exec = Jvm.exec) (hZ : Z.Warmed39 s.vm) {aty : ArrayType} (w : (Jvm.Cond.arrayClass (newarray.typeOf aty)).before a0 Z = true) (eT : T.heap = h) {g : JFrame} (hg : g.method = m) (hd : decode c.code g.pc = .ok (.newarray aty, 2)) {n : Int32} {rest : List Value} (hs : g.stack = .int n :: rest)
    (k cap : Nat) (hn : n.toInt = k) (hk : k ≤ cap) (hb : cap * 8 ≤ 536870912) (hc : cells + 1 ≤ R.cells) (hl : slots + cap ≤ R.slots) {ad : String} (had : "[" ++ (newarray.typeOf aty).toString = ad) :
    ∃ T' h', Stand p l e R s m args below meth c T' locs (cells + 1) (slots + cap) ∧ T'.heap = h' ∧ Ext h h' ∧ own_AV Z h' h.size (newarray.typeOf aty) (List.replicate k (defaultValue (newarray.typeOf aty))) ∧ Exa Z h' h.size ad ∧ ∀ t, Steps p.tables e below (T'.setTop { g with pc := g.pc + 2, stack := .ref h.size :: rest }) t → Steps p.tables e below (T.setTop g) t := by
  obtain ⟨q1, q2⟩ := own_idx hn
  obtain ⟨T', h', cA, X', e', E, A, C, st⟩ := newPE X hx hZ w eT hg hd hs q1 (cap := cap) (by rw [q2]; exact hk) hb hc hl had
  exact ⟨T', h', X', e', E, own_AV_new A hn, C, st⟩
theorem own_AV.arv (A : own_AV Z h a ty vs) {z : Int32} (hz : z.toInt = vs.length) (dv : Value) : ∃ k, Arv Z h a k ty z vs dv := by
  obtain ⟨q1, q2⟩ := own_idx hz
  obtain ⟨cl, k, r, -, f⟩ := A
  have hs : cl.slots.size = vs.length := by rw [← r]; simp
  refine ⟨cl.cls, cl, k, rfl, by rw [hs, q2], q1, fun i hi => ?_, fun i hi => ?_⟩
  · rw [← Array.getElem?_toList, r, List.getD_eq_getElem?_getD, List.getElem?_eq_getElem (by omega)]; rfl
  · rw [List.getD_eq_getElem?_getD, List.getElem?_eq_getElem (by omega)]; exact f _ (List.getElem_mem _)
theorem own_arv {k : ClassId} {z : Int32} {dv : Value} (F : Arv Z h a k ty z vs dv) (hl : vs.length = z.toNatClampNeg) : own_AV Z h a ty vs := by
  obtain ⟨cl, A, -, S, q, H, G⟩ := F
  have hs : cl.slots.size = vs.length := by rw [S, hl]
  have e1 : cl.slots.toList = vs := by
    apply List.ext_getElem?
    intro i
    by_cases hi : i < vs.length
    · have := H i (by omega)
      rw [Array.getElem?_toList, this, List.getD_eq_getElem?_getD, List.getElem?_eq_getElem hi]; rfl
    · rw [List.getElem?_eq_none (l := vs) (by omega), List.getElem?_eq_none (l := cl.slots.toList) (by rw [Array.length_toList]; omega)]
  refine ⟨cl, A, e1, ?_, fun v hv => ?_⟩
  · have := z.toInt_lt
    rw [hl]; simp only [Int32.toNatClampNeg]; omega
  · obtain ⟨i, hi, rfl⟩ := List.getElem_of_mem hv
    have := G i (by omega)
    rw [List.getD_eq_getElem?_getD, List.getElem?_eq_getElem hi] at this
    exact this
theorem own_copy (X : Stand p l e R s m args below meth c T locs cells slots) (hx : p.tables.exec = Jvm.exec) (hZ : Z.Warmed39 s.vm) {own : String} {index : Nat} (hown : s.vm.findClass own = some m.cls)
    (w1 : (Jvm.Cond.methodLink own index Jvm.Stand.acN).before a0 Z = true) (w2 : (Jvm.Cond.native Jvm.Stand.acN).before a0 Z = true) (w3 : (Jvm.Cond.static Jvm.Stand.acN).before a0 Z = true) (w4 : (Jvm.Cond.initialized "java/lang/System").before a0 Z = true) (eT : T.heap = h)
    {us : List Value} (A : own_AV Z h a ty vs) (B : own_AV Z h b ty us) (hp : refKind ty = false) {sp dp nn : Int32} {g : JFrame} (hg : g.method = m) (hsize : g.locals.size = c.maxLocals) {rest : List Value} (hs : g.stack = .int nn :: .int dp :: .ref b :: .int sp :: .ref a :: rest) (hd : decode c.code g.pc = .ok (.invokestatic index, 3))
    (i j n : Nat) (hsp : sp.toInt = i) (hdp : dp.toInt = j) (hn : nn.toInt = n) (h4 : i + n ≤ vs.length) (h5 : j + n ≤ us.length) {n0 : Nat} (N : Fr n0 locs) (ge : n0 ≤ b)
    (W : Nat) (hW : 2 * g.monitorRoom + (rest.map fun v => v.category).sum ≤ W) (hf : 1 ≤ R.frames) (hlo : W + (nativeFrameWords "java/lang/System" "arraycopy" 5 + 11) ≤ R.locals) :
    ∃ T' h' L, Stand p l e R s m args below meth c T' L cells slots ∧ T'.heap = h' ∧ Fr n0 L ∧ Keep h h' [b] ∧ own_AV Z h' b ty (us.take j ++ (vs.drop i).take n ++ us.drop (j + n)) ∧
      ∀ t, Steps p.tables e below (T'.setTop { g with pc := g.pc + 3, stack := rest }) t → Steps p.tables e below (T.setTop g) t := by
  obtain ⟨s1, s2⟩ := own_idx hsp
  obtain ⟨d1, d2⟩ := own_idx hdp
  obtain ⟨n1, n2⟩ := own_idx hn
  have zA := len_toInt A.short
  have zB := len_toInt B.short
  obtain ⟨kA, FA⟩ := A.arv zA .null
  obtain ⟨kB, FB⟩ := B.arv zB .null
  have cA : vs.length.toInt32.toNatClampNeg = vs.length := (own_idx zA).2
  have cB : us.length.toInt32.toNatClampNeg = us.length := (own_idx zB).2
  have hus : (vs.drop i).take n = (List.range nn.toNatClampNeg).map fun q => vs.getD (sp.toNatClampNeg + q) .null := by
    rw [n2, s2]
    apply List.ext_getElem?
    intro q
    by_cases hq : q < n
    · rw [List.getElem?_take_of_lt hq, List.getElem?_drop, List.getElem?_map, List.getElem?_range hq, List.getElem?_eq_getElem (by omega)]
      show some _ = some (vs.getD (i + q) .null)
      rw [List.getD_eq_getElem?_getD, List.getElem?_eq_getElem (by omega)]; rfl
    · rw [List.getElem?_eq_none (by rw [List.length_take]; omega), List.getElem?_eq_none (by simp; omega)]
  obtain ⟨T', h', L, X', e', NL, K, F', st⟩ := cpA X hx hZ hown w1 w2 w3 w4 eT FA FB (Or.inl ⟨rfl, hp⟩) s1 d1 n1 (by rw [s2, n2, cA]; exact h4) (by rw [d2, n2, cB]; exact h5) hus (by rw [d2, n2]; exact h5) N ge hg hsize hs hd hf hW hlo
  rw [d2, n2] at F'
  exact ⟨T', h', L, X', e', NL, K, own_arv F' (by rw [cB]; simp only [List.length_append, List.length_take, List.length_drop]; omega), st⟩
theorem own_clone (X : Stand p l e R s m args below meth c T locs cells slots) (hx : p.tables.exec = Jvm.exec) (hZ : Z.Warmed39 s.vm) {own ad : String} {index : Nat} (hown : s.vm.findClass own = some m.cls)
    (w1 : (Jvm.Cond.methodLink own index ⟨ad, "clone", "()Ljava/lang/Object;"⟩).before a0 Z = true) (w2 : (Jvm.Cond.sameMethod ad "java/lang/Object" "clone" "()Ljava/lang/Object;").before a0 Z = true) (w3 : (Jvm.Cond.native ⟨"java/lang/Object", "clone", "()Ljava/lang/Object;"⟩).before a0 Z = true)
    (w4 : (Jvm.Cond.instanceMethod ⟨"java/lang/Object", "clone", "()Ljava/lang/Object;"⟩).before a0 Z = true) (w5 : (Jvm.Cond.selects ad ⟨ad, "clone", "()Ljava/lang/Object;"⟩ ⟨"java/lang/Object", "clone", "()Ljava/lang/Object;"⟩).before a0 Z = true) (w6 : (Jvm.Cond.castable ad "java/lang/Cloneable").before a0 Z = true)
    (eT : T.heap = h) (A : own_AV Z h a ty vs) (E : Exa Z h a ad) {g : JFrame} (hg : g.method = m) (hsize : g.locals.size = c.maxLocals) {rest : List Value} (hs : g.stack = .ref a :: rest) (hd : decode c.code g.pc = .ok (.invokevirtual index, 3))
    (W cap : Nat) (hW : 2 * g.monitorRoom + (rest.map fun v => v.category).sum ≤ W) (hf : 1 ≤ R.frames) (hl : W + 14 ≤ R.locals) (hcap : vs.length ≤ cap) (hc : cells + 1 ≤ R.cells) (hsl : slots + cap ≤ R.slots) :
    ∃ T' h', Stand p l e R s m args below meth c T' locs (cells + 1) (slots + cap) ∧ T'.heap = h' ∧ Ext h h' ∧ own_AV Z h' h.size ty vs ∧ Exa Z h' h.size ad ∧
      ∀ t, Steps p.tables e below (T'.setTop { g with pc := g.pc + 3, stack := .ref h.size :: rest }) t → Steps p.tables e below (T.setTop g) t := by
  obtain ⟨cl, k, r, z, f⟩ := A
  have hz : cl.slots.size = vs.length := by rw [← r]; simp
  have FC : FitC Z cl := fitC_of k fun i hi v hv => f v (by rw [← r]; exact List.mem_of_getElem? (i := i) (by rw [Array.getElem?_toList]; exact hv))
  obtain ⟨T', h', X', e', E', A', C', st⟩ := cloneA X hx hZ hown w1 w2 w3 w4 w5 w6 eT k E FC hg hsize hs hd hf (W := W) hW hl (cap := cap) (by omega) hc hsl
  exact ⟨T', h', X', e', E', ⟨_, A', r, z, f⟩, C', st⟩
end OwnArr
/-- an Ids at a, its array at b holding us, n of them counted -/
def own_Ids (Z : State) (h : Heap) (a b : Addr) (us : List Value) (n : Int32) : Prop := Exa Z h a "com/example/secure_model_views/securemodelviews/Ids" ∧ Fld Z h a "com/example/secure_model_views/securemodelviews/Ids" "ids" "[I" (.ref b) ∧ Fld Z h a "com/example/secure_model_views/securemodelviews/Ids" "size" "I" (.int n) ∧ own_AV Z h b .int us ∧ Exa Z h b "[I" ∧ a ≠ b
theorem d1_0 : decode prog_3_method_1_code 0 = .ok (.aload_n 0, 1) := by decide +kernel
theorem d1_1 : decode prog_3_method_1_code 1 = .ok (.invokespecial 1, 3) := by decide +kernel
theorem d1_4 : decode prog_3_method_1_code 4 = .ok (.aload_n 0, 1) := by decide +kernel
theorem d1_5 : decode prog_3_method_1_code 5 = .ok (.bipush 16, 2) := by decide +kernel
theorem d1_7 : decode prog_3_method_1_code 7 = .ok (.newarray .int, 2) := by decide +kernel
theorem d1_9 : decode prog_3_method_1_code 9 = .ok (.putfield 7, 3) := by decide +kernel
theorem d1_12 : decode prog_3_method_1_code 12 = .ok (.return_, 1) := by decide +kernel
set_option maxRecDepth 65536 in
set_option maxHeartbeats 40000000 in
theorem own_init_con (l : Launch) (Z : State) (a0 : Array Value) (hw : ∀ d ∈ tables_1, d.before a0 Z = true) (a : Addr) (n0 : Nat) (h0 : Heap) (o_E0 : Exa Z h0 a "com/example/secure_model_views/securemodelviews/Ids") (o_ids0 : Fld Z h0 a "com/example/secure_model_views/securemodelviews/Ids" "ids" "[I" .null) (o_size0 : Fld Z h0 a "com/example/secure_model_views/securemodelviews/Ids" "size" "I" (.int (0 : Int32))) (ga : n0 ≤ a) (gn : n0 ≤ h0.size) (ws : List Jvm.Cond) :
    own_Con l Z (⟨"com/example/secure_model_views/securemodelviews/Ids", "<init>", "()V"⟩ : MethodName) prog_3_method_1_code 1 none ({ frames := 1, cells := 1, slots := 16, locals := 40 } : Room) #[(.ref a)] h0 (fun v h L => v = none ∧ Fr n0 L ∧ Keep h0 h [a] ∧ own_Ids Z h a h0.size (List.replicate 16 (.int 0)) 0) ws := by
  refine own_con (F := fun m => (mkF m 0 #[.val (.ref a)] [])) (own_pn (by first | (simp [plainName, overriddenIn]; done) | decide +kernel)) (fun m => by first | (simp [entryFrame, mkF, argsToLocals, Value.category]; done) | rfl) ?_
  intro p e s m below meth c T X hx hby hml hZ hown hnm hret hlk eT
  show own_Go p e below (own_Out s (fun v h L => v = none ∧ Fr n0 L ∧ Keep h0 h [a] ∧ own_Ids Z h a h0.size (List.replicate 16 (.int 0)) 0) ({ frames := 1, cells := 1, slots := 16, locals := 40 } : Room).cells ({ frames := 1, cells := 1, slots := 16, locals := 40 } : Room).slots) (T.setTop (mkF m 0 #[.val (.ref a)] []))
  have N0 := Fr.nil n0
  have K0 := Keep.refl h0 [a]
  refine own_go (fun _ => XS.aloadN X.here hx rfl (hb hby d1_0) rfl rfl) ?_
  show own_Go p e below _ (T.setTop (mkF m 1 #[.val (.ref a)] [(.ref a)]))
  obtain ⟨T1, X1, e1, st1⟩ := initO X hx hZ hown (hw _ (List.mem_of_getElem? (i := 7) rfl)) (hw _ (List.mem_of_getElem? (i := 8) rfl)) (hw _ (List.mem_of_getElem? (i := 9) rfl)) eT (g := (mkF m 1 #[.val (.ref a)] [(.ref a)])) rfl (by rw [hml]; rfl) rfl (hb hby d1_1) (by decide) (W := 0) (by show 2 * 0 + _ ≤ _; exact Nat.le_of_eq rfl) (by decide)
  refine own_go st1 ?_
  show own_Go p e below _ (T1.setTop (mkF m 4 #[.val (.ref a)] []))
  refine own_go (fun _ => XS.aloadN X1.here hx rfl (hb hby d1_4) rfl rfl) ?_
  show own_Go p e below _ (T1.setTop (mkF m 5 #[.val (.ref a)] [(.ref a)]))
  refine own_go (fun _ => XS.bipush X1.here hx rfl (hb hby d1_5)) ?_
  show own_Go p e below _ (T1.setTop (mkF m 7 #[.val (.ref a)] [(.int (16 : Int32)), (.ref a)]))
  obtain ⟨T2, h2, X2, e2, E2, A2, C2, st2⟩ := own_newAE X1 hx hZ (aty := .int) (hw _ (List.mem_of_getElem? (i := 10) rfl)) e1 (g := (mkF m 7 #[.val (.ref a)] [(.int (16 : Int32)), (.ref a)])) rfl (hb hby d1_7) rfl 16 16 (by decide) (by decide) (by decide) (by decide) (by decide) (ad := "[I") (by first | rfl | decide)
  obtain ⟨a2, q2⟩ : ∃ z, z = h0.size := ⟨_, rfl⟩
  rw [← q2] at A2 C2 st2
  have ne_a_a2 : a ≠ a2 := fun z => absurd o_E0.lt (by rw [z, q2]; exact Nat.lt_irrefl _)
  have o_E_2 := o_E0.ext E2
  have o_ids_2 := o_ids0.ext E2
  have o_size_2 := o_size0.ext E2
  have K2 := K0.ext E2
  refine own_go st2 ?_
  show own_Go p e below _ (T2.setTop (mkF m 9 #[.val (.ref a)] [(.ref a2), (.ref a)]))
  obtain ⟨T3, h3, X3, e3, W3, st3⟩ := putF X2 hx hZ hown (host := "") (Or.inl (hw _ (List.mem_of_getElem? (i := 11) rfl))) Via.refl e2 o_ids_2 o_E_2 (Or.inl (hw _ (List.mem_of_getElem? (i := 12) rfl))) (hw _ (List.mem_of_getElem? (i := 2) rfl)) (ty := (.array .int)) (by decide) rfl rfl (g := (mkF m 9 #[.val (.ref a)] [(.ref a2), (.ref a)])) rfl rfl (hb hby d1_9)
  have N3 := Fr.snoc X3 N0 ga
  have o_E_3 := o_E_2.wr W3
  have o_ids_3 := o_ids_2.same W3
  have o_size_3 := o_size_2.other W3 (Or.inr (slot_ne (t := .int) (t' := (.array .int)) (Or.inl (hw _ (List.mem_of_getElem? (i := 23) rfl))) (Or.inl (hw _ (List.mem_of_getElem? (i := 12) rfl))) (by decide) (by decide) (by decide)))
  have r_E_3 := C2.wr W3
  have r_A_3 := A2.other W3 (Ne.symm ne_a_a2)
  have K3 := K2.wr W3 (Or.inl (List.mem_of_getElem? (i := 0) rfl))
  refine own_go st3 ?_
  show own_Go p e below _ (T3.setTop (mkF m 12 #[.val (.ref a)] []))
  exact own_vret X3 hx hlk hret (hb hby d1_12) (by decide) (by decide) (by rw [e3]; exact ⟨rfl, N3, K3, o_E_3, q2 ▸ o_ids_3, o_size_3, q2 ▸ r_A_3, q2 ▸ r_E_3, q2 ▸ ne_a_a2⟩)
theorem d4_0 : decode prog_3_method_2_code 0 = .ok (.aload_n 0, 1) := by decide +kernel
theorem d4_1 : decode prog_3_method_2_code 1 = .ok (.getfield 13, 3) := by decide +kernel
theorem d4_4 : decode prog_3_method_2_code 4 = .ok (.aload_n 0, 1) := by decide +kernel
theorem d4_5 : decode prog_3_method_2_code 5 = .ok (.getfield 7, 3) := by decide +kernel
theorem d4_8 : decode prog_3_method_2_code 8 = .ok (.arraylength, 1) := by decide +kernel
theorem d4_9 : decode prog_3_method_2_code 9 = .ok (.if_icmp .ne 20, 3) := by decide +kernel
theorem d4_29 : decode prog_3_method_2_code 29 = .ok (.aload_n 0, 1) := by decide +kernel
theorem d4_30 : decode prog_3_method_2_code 30 = .ok (.getfield 7, 3) := by decide +kernel
theorem d4_33 : decode prog_3_method_2_code 33 = .ok (.aload_n 0, 1) := by decide +kernel
theorem d4_34 : decode prog_3_method_2_code 34 = .ok (.getfield 13, 3) := by decide +kernel
theorem d4_37 : decode prog_3_method_2_code 37 = .ok (.iload_n 1, 1) := by decide +kernel
theorem d4_38 : decode prog_3_method_2_code 38 = .ok (.iastore, 1) := by decide +kernel
theorem d4_39 : decode prog_3_method_2_code 39 = .ok (.aload_n 0, 1) := by decide +kernel
theorem d4_40 : decode prog_3_method_2_code 40 = .ok (.dup, 1) := by decide +kernel
theorem d4_41 : decode prog_3_method_2_code 41 = .ok (.getfield 13, 3) := by decide +kernel
theorem d4_44 : decode prog_3_method_2_code 44 = .ok (.iconst 1, 1) := by decide +kernel
theorem d4_45 : decode prog_3_method_2_code 45 = .ok (.iadd, 1) := by decide +kernel
theorem d4_46 : decode prog_3_method_2_code 46 = .ok (.putfield 13, 3) := by decide +kernel
theorem d4_49 : decode prog_3_method_2_code 49 = .ok (.return_, 1) := by decide +kernel
set_option maxRecDepth 65536 in
set_option maxHeartbeats 40000000 in
theorem own_add_con (l : Launch) (Z : State) (a0 : Array Value) (hw : ∀ d ∈ tables_1, d.before a0 Z = true) (a b : Addr) (us : List Value) (n y : Int32) (j n0 : Nat) (h0 : Heap) (I0 : own_Ids Z h0 a b us n) (hj : n.toInt = j) (hlt : j < us.length) (ga : n0 ≤ a) (gb : n0 ≤ b) (ws : List Jvm.Cond) :
    own_Con l Z (⟨"com/example/secure_model_views/securemodelviews/Ids", "add", "(I)V"⟩ : MethodName) prog_3_method_2_code 2 none ({ frames := 0, cells := 0, slots := 0, locals := 0 } : Room) #[(.ref a), (.int y)] h0 (fun v h L => v = none ∧ Fr n0 L ∧ Keep h0 h [a, b] ∧ own_Ids Z h a b (us.set j (.int y)) (n + 1)) ws := by
  refine own_con (F := fun m => (mkF m 0 #[.val (.ref a), .val (.int y)] [])) (own_pn (by first | (simp [plainName, overriddenIn]; done) | decide +kernel)) (fun m => by first | (simp [entryFrame, mkF, argsToLocals, Value.category]; done) | rfl) ?_
  intro p e s m below meth c T X hx hby hml hZ hown hnm hret hlk eT
  show own_Go p e below (own_Out s (fun v h L => v = none ∧ Fr n0 L ∧ Keep h0 h [a, b] ∧ own_Ids Z h a b (us.set j (.int y)) (n + 1)) ({ frames := 0, cells := 0, slots := 0, locals := 0 } : Room).cells ({ frames := 0, cells := 0, slots := 0, locals := 0 } : Room).slots) (T.setTop (mkF m 0 #[.val (.ref a), .val (.int y)] []))
  obtain ⟨o_E0, o_ids0, o_size0, r_A0, r_E0, ne_a_b⟩ := I0
  have N0 := Fr.nil n0
  have K0 := Keep.refl h0 [a, b]
  have ez := len_toInt r_A0.short
  obtain ⟨z, hz⟩ : ∃ z : Int32, z = us.length.toInt32 := ⟨_, rfl⟩
  rw [← hz] at ez
  refine own_go (fun _ => XS.aloadN X.here hx rfl (hb hby d4_0) rfl rfl) ?_
  show own_Go p e below _ (T.setTop (mkF m 1 #[.val (.ref a), .val (.int y)] [(.ref a)]))
  obtain ⟨T1, X1, e1, st1⟩ := getF X hx hZ hown (host := "") (Or.inl (hw _ (List.mem_of_getElem? (i := 22) rfl))) Via.refl eT o_size0 (g := (mkF m 1 #[.val (.ref a), .val (.int y)] [(.ref a)])) rfl rfl (hb hby d4_1)
  refine own_go st1 ?_
  show own_Go p e below _ (T1.setTop (mkF m 4 #[.val (.ref a), .val (.int y)] [(.int n)]))
  refine own_go (fun _ => XS.aloadN X1.here hx rfl (hb hby d4_4) rfl rfl) ?_
  show own_Go p e below _ (T1.setTop (mkF m 5 #[.val (.ref a), .val (.int y)] [(.ref a), (.int n)]))
  obtain ⟨T2, X2, e2, st2⟩ := getF X1 hx hZ hown (host := "") (Or.inl (hw _ (List.mem_of_getElem? (i := 11) rfl))) Via.refl e1 o_ids0 (g := (mkF m 5 #[.val (.ref a), .val (.int y)] [(.ref a), (.int n)])) rfl rfl (hb hby d4_5)
  refine own_go st2 ?_
  show own_Go p e below _ (T2.setTop (mkF m 8 #[.val (.ref a), .val (.int y)] [(.ref b), (.int n)]))
  refine own_go (own_len X2 hx hZ e2 r_A0 (g := (mkF m 8 #[.val (.ref a), .val (.int y)] [(.ref b), (.int n)])) rfl rfl (hb hby d4_8) z ez) ?_
  show own_Go p e below _ (T2.setTop (mkF m 9 #[.val (.ref a), .val (.int y)] [(.int z), (.int n)]))
  refine own_go (fun _ => XS.icmpYes X2.here hx rfl (pc0 := 9) (pc' := 29) rfl (hb hby d4_9) rfl (XT.ii_ne_t (fun q => by rw [q, ez] at hj; omega)) (by decide) (by decide)) ?_
  show own_Go p e below _ (T2.setTop (mkF m 29 #[.val (.ref a), .val (.int y)] []))
  refine own_go (fun _ => XS.aloadN X2.here hx rfl (hb hby d4_29) rfl rfl) ?_
  show own_Go p e below _ (T2.setTop (mkF m 30 #[.val (.ref a), .val (.int y)] [(.ref a)]))
  obtain ⟨T3, X3, e3, st3⟩ := getF X2 hx hZ hown (host := "") (Or.inl (hw _ (List.mem_of_getElem? (i := 11) rfl))) Via.refl e2 o_ids0 (g := (mkF m 30 #[.val (.ref a), .val (.int y)] [(.ref a)])) rfl rfl (hb hby d4_30)
  refine own_go st3 ?_
  show own_Go p e below _ (T3.setTop (mkF m 33 #[.val (.ref a), .val (.int y)] [(.ref b)]))
  refine own_go (fun _ => XS.aloadN X3.here hx rfl (hb hby d4_33) rfl rfl) ?_
  show own_Go p e below _ (T3.setTop (mkF m 34 #[.val (.ref a), .val (.int y)] [(.ref a), (.ref b)]))
  obtain ⟨T4, X4, e4, st4⟩ := getF X3 hx hZ hown (host := "") (Or.inl (hw _ (List.mem_of_getElem? (i := 22) rfl))) Via.refl e3 o_size0 (g := (mkF m 34 #[.val (.ref a), .val (.int y)] [(.ref a), (.ref b)])) rfl rfl (hb hby d4_34)
  refine own_go st4 ?_
  show own_Go p e below _ (T4.setTop (mkF m 37 #[.val (.ref a), .val (.int y)] [(.int n), (.ref b)]))
  refine own_go (fun _ => XS.iloadN X4.here hx rfl (hb hby d4_37) rfl) ?_
  show own_Go p e below _ (T4.setTop (mkF m 38 #[.val (.ref a), .val (.int y)] [(.int y), (.int n), (.ref b)]))
  obtain ⟨T5, h5, X5, e5, W5, A5, st5⟩ := own_stI X4 hx hZ e4 r_A0 (g := (mkF m 38 #[.val (.ref a), .val (.int y)] [(.int y), (.int n), (.ref b)])) rfl rfl (hb hby d4_38) j hj hlt
  have N5 := Fr.snoc X5 N0 gb
  have o_E_5 := o_E0.wr W5
  have o_ids_5 := o_ids0.other W5 (Or.inl ne_a_b)
  have o_size_5 := o_size0.other W5 (Or.inl ne_a_b)
  have r_E_5 := r_E0.wr W5
  have K5 := K0.wr W5 (Or.inl (List.mem_of_getElem? (i := 1) rfl))
  refine own_go st5 ?_
  show own_Go p e below _ (T5.setTop (mkF m 39 #[.val (.ref a), .val (.int y)] []))
  refine own_go (fun _ => XS.aloadN X5.here hx rfl (hb hby d4_39) rfl rfl) ?_
  show own_Go p e below _ (T5.setTop (mkF m 40 #[.val (.ref a), .val (.int y)] [(.ref a)]))
  refine own_go (fun _ => XS.dup X5.here hx rfl (hb hby d4_40) rfl rfl) ?_
  show own_Go p e below _ (T5.setTop (mkF m 41 #[.val (.ref a), .val (.int y)] [(.ref a), (.ref a)]))
  obtain ⟨T6, X6, e6, st6⟩ := getF X5 hx hZ hown (host := "") (Or.inl (hw _ (List.mem_of_getElem? (i := 22) rfl))) Via.refl e5 o_size_5 (g := (mkF m 41 #[.val (.ref a), .val (.int y)] [(.ref a), (.ref a)])) rfl rfl (hb hby d4_41)
  refine own_go st6 ?_
  show own_Go p e below _ (T6.setTop (mkF m 44 #[.val (.ref a), .val (.int y)] [(.int n), (.ref a)]))
  refine own_go (fun _ => XS.iconst X6.here hx rfl (hb hby d4_44)) ?_
  show own_Go p e below _ (T6.setTop (mkF m 45 #[.val (.ref a), .val (.int y)] [(.int (1 : Int32)), (.int n), (.ref a)]))
  refine own_go (fun _ => XS.iadd X6.here hx rfl (hb hby d4_45) rfl) ?_
  show own_Go p e below _ (T6.setTop (mkF m 46 #[.val (.ref a), .val (.int y)] [(.int (n + (1 : Int32))), (.ref a)]))
  obtain ⟨T7, h7, X7, e7, W7, st7⟩ := putF X6 hx hZ hown (host := "") (Or.inl (hw _ (List.mem_of_getElem? (i := 22) rfl))) Via.refl e6 o_size_5 o_E_5 (Or.inl (hw _ (List.mem_of_getElem? (i := 23) rfl))) (hw _ (List.mem_of_getElem? (i := 2) rfl)) (ty := .int) (by decide) rfl rfl (g := (mkF m 46 #[.val (.ref a), .val (.int y)] [(.int (n + (1 : Int32))), (.ref a)])) rfl rfl (hb hby d4_46)
  have N7 := Fr.snoc X7 N5 ga
  have o_E_7 := o_E_5.wr W7
  have o_ids_7 := o_ids_5.other W7 (Or.inr (slot_ne (t := (.array .int)) (t' := .int) (Or.inl (hw _ (List.mem_of_getElem? (i := 12) rfl))) (Or.inl (hw _ (List.mem_of_getElem? (i := 23) rfl))) (by decide) (by decide) (by decide)))
  have o_size_7 := o_size_5.same W7
  have r_A_7 := A5.other W7 (Ne.symm ne_a_b)
  have r_E_7 := r_E_5.wr W7
  have K7 := K5.wr W7 (Or.inl (List.mem_of_getElem? (i := 0) rfl))
  refine own_go st7 ?_
  show own_Go p e below _ (T7.setTop (mkF m 49 #[.val (.ref a), .val (.int y)] []))
  exact own_vret X7 hx hlk hret (hb hby d4_49) (by decide) (by decide) (by rw [e7]; exact ⟨rfl, N7, K7, o_E_7, o_ids_7, o_size_7, r_A_7, r_E_7, ne_a_b⟩)
theorem d8_0 : decode jdk_29_method_69_code 0 = .ok (.iload_n 0, 1) := by decide +kernel
theorem d8_1 : decode jdk_29_method_69_code 1 = .ok (.iload_n 1, 1) := by decide +kernel
theorem d8_2 : decode jdk_29_method_69_code 2 = .ok (.if_icmp .gt 7, 3) := by decide +kernel
theorem d8_5 : decode jdk_29_method_69_code 5 = .ok (.iload_n 0, 1) := by decide +kernel
theorem d8_6 : decode jdk_29_method_69_code 6 = .ok (.goto 4, 3) := by decide +kernel
theorem d8_9 : decode jdk_29_method_69_code 9 = .ok (.iload_n 1, 1) := by decide +kernel
theorem d8_10 : decode jdk_29_method_69_code 10 = .ok (.ireturn, 1) := by decide +kernel
def own_min (x0 : Int32) (x1 : Int32) : Int32 := (if x1 < x0 then x1 else x0)
set_option maxRecDepth 65536 in
set_option maxHeartbeats 40000000 in
theorem own_min_con (l : Launch) (Z : State) (a0 : Array Value) (hw : ∀ d ∈ tables_1, d.before a0 Z = true) (x0 : Int32) (x1 : Int32)  (h0 : Heap) (ws : List Jvm.Cond) :
    own_Con l Z (⟨"java/lang/Math", "min", "(II)I"⟩ : MethodName) jdk_29_method_69_code 2 (some .int) ({ frames := 0, cells := 0, slots := 0, locals := 0 } : Room) #[(.int x0), (.int x1)] h0 (own_PQ h0 (.int (own_min x0 x1))) ws := by
  refine own_con (F := fun m => (mkF m 0 #[.val (.int x0), .val (.int x1)] [])) (by decide +kernel) (fun m => by first | (simp [entryFrame, mkF, argsToLocals, Value.category]; done) | rfl) ?_
  intro p e s m below meth c T X hx hby hml hZ hown hnm hret hlk eT
  show own_Go p e below (own_Out s (own_PQ h0 (.int (own_min x0 x1))) 0 0) (T.setTop (mkF m 0 #[.val (.int x0), .val (.int x1)] []))
  show own_Go p e below (own_Out s (own_PQ h0 (.int (if x1 < x0 then x1 else x0))) 0 0) _
  refine own_go (fun _ => XS.iloadN X.here hx rfl (hb hby d8_0) rfl) ?_
  show own_Go p e below _ (T.setTop (mkF m 1 #[.val (.int x0), .val (.int x1)] [(.int x0)]))
  refine own_go (fun _ => XS.iloadN X.here hx rfl (hb hby d8_1) rfl) ?_
  show own_Go p e below _ (T.setTop (mkF m 2 #[.val (.int x0), .val (.int x1)] [(.int x1), (.int x0)]))
  refine own_iteI (fun hc2 => ?_) (fun hc2 => ?_)
  · skip
    refine own_go (fun _ => XS.icmpYes X.here hx rfl (pc0 := 2) (pc' := 9) rfl (hb hby d8_2) rfl (XT.ii_gt_t hc2) (by decide) (by decide)) ?_
    show own_Go p e below _ (T.setTop (mkF m 9 #[.val (.int x0), .val (.int x1)] []))
    refine own_go (fun _ => XS.iloadN X.here hx rfl (hb hby d8_9) rfl) ?_
    show own_Go p e below _ (T.setTop (mkF m 10 #[.val (.int x0), .val (.int x1)] [(.int x1)]))
    exact own_iret X hx hlk hret (Or.inl rfl) rfl (hb hby d8_10) (Nat.zero_le _) (Nat.zero_le _) ⟨rfl, eT, rfl⟩
  · skip
    refine own_go (fun _ => XS.icmpNo X.here hx rfl (hb hby d8_2) rfl (XT.ii_gt_f hc2)) ?_
    show own_Go p e below _ (T.setTop (mkF m 5 #[.val (.int x0), .val (.int x1)] []))
    refine own_go (fun _ => XS.iloadN X.here hx rfl (hb hby d8_5) rfl) ?_
    show own_Go p e below _ (T.setTop (mkF m 6 #[.val (.int x0), .val (.int x1)] [(.int x0)]))
    refine own_go (fun _ => XS.goto X.here hx rfl (pc0 := 6) (pc' := 10) rfl (hb hby d8_6) (by decide) (by decide)) ?_
    show own_Go p e below _ (T.setTop (mkF m 10 #[.val (.int x0), .val (.int x1)] [(.int x0)]))
    exact own_iret X hx hlk hret (Or.inl rfl) rfl (hb hby d8_10) (Nat.zero_le _) (Nat.zero_le _) ⟨rfl, eT, rfl⟩
theorem own_min_toInt (z n : Int32) : (own_min z n).toInt = min z.toInt n.toInt := by
  unfold own_min
  by_cases q : n < z
  · rw [if_pos q]; rw [Int32.lt_iff_toInt_lt] at q; omega
  · rw [if_neg q]; rw [Int32.lt_iff_toInt_lt] at q; omega
theorem own_cut (us : List Value) (j : Nat) : (List.replicate j (defaultValue .int)).take 0 ++ (us.drop 0).take (min us.length j) ++ (List.replicate j (defaultValue .int)).drop (0 + min us.length j) = us.take j ++ List.replicate (j - us.length) (Value.int 0) := by
  rw [List.take_zero, List.nil_append, List.drop_zero, List.drop_replicate]
  show us.take (min us.length j) ++ List.replicate (j - (0 + min us.length j)) (Value.int 0) = _
  by_cases q : us.length ≤ j
  · rw [Nat.min_eq_left q, List.take_of_length_le (Nat.le_refl _), List.take_of_length_le q, Nat.zero_add]
  · rw [Nat.min_eq_right (by omega), show j - (0 + j) = 0 by omega, show j - us.length = 0 by omega]
theorem d7_0 : decode jdk_65_method_123_code 0 = .ok (.iload_n 1, 1) := by decide +kernel
theorem d7_1 : decode jdk_65_method_123_code 1 = .ok (.aload_n 0, 1) := by decide +kernel
theorem d7_2 : decode jdk_65_method_123_code 2 = .ok (.arraylength, 1) := by decide +kernel
theorem d7_3 : decode jdk_65_method_123_code 3 = .ok (.if_icmp .ne 11, 3) := by decide +kernel
theorem d7_14 : decode jdk_65_method_123_code 14 = .ok (.iload_n 1, 1) := by decide +kernel
theorem d7_15 : decode jdk_65_method_123_code 15 = .ok (.newarray .int, 2) := by decide +kernel
theorem d7_17 : decode jdk_65_method_123_code 17 = .ok (.astore_n 2, 1) := by decide +kernel
theorem d7_18 : decode jdk_65_method_123_code 18 = .ok (.aload_n 0, 1) := by decide +kernel
theorem d7_19 : decode jdk_65_method_123_code 19 = .ok (.iconst 0, 1) := by decide +kernel
theorem d7_20 : decode jdk_65_method_123_code 20 = .ok (.aload_n 2, 1) := by decide +kernel
theorem d7_21 : decode jdk_65_method_123_code 21 = .ok (.iconst 0, 1) := by decide +kernel
theorem d7_22 : decode jdk_65_method_123_code 22 = .ok (.aload_n 0, 1) := by decide +kernel
theorem d7_23 : decode jdk_65_method_123_code 23 = .ok (.arraylength, 1) := by decide +kernel
theorem d7_24 : decode jdk_65_method_123_code 24 = .ok (.iload_n 1, 1) := by decide +kernel
theorem d7_25 : decode jdk_65_method_123_code 25 = .ok (.invokestatic 304, 3) := by decide +kernel
theorem d7_28 : decode jdk_65_method_123_code 28 = .ok (.invokestatic 150, 3) := by decide +kernel
theorem d7_31 : decode jdk_65_method_123_code 31 = .ok (.aload_n 2, 1) := by decide +kernel
theorem d7_32 : decode jdk_65_method_123_code 32 = .ok (.areturn, 1) := by decide +kernel
set_option maxRecDepth 65536 in
set_option maxHeartbeats 40000000 in
theorem own_copyOf_con (l : Launch) (Z : State) (a0 : Array Value) (hw : ∀ d ∈ tables_1, d.before a0 Z = true) (b : Addr) (us : List Value) (n : Int32) (j n0 : Nat) (h0 : Heap) (r_A0 : own_AV Z h0 b .int us) (hj : n.toInt = j) (hcap : j ≤ 32) (hne : j ≠ us.length) (gn : n0 ≤ h0.size) (ws : List Jvm.Cond) :
    own_Con l Z (⟨"java/util/Arrays", "copyOf", "([II)[I"⟩ : MethodName) jdk_65_method_123_code 3 (some (.array .int)) ({ frames := 1, cells := 1, slots := 32, locals := 60 } : Room) #[(.ref b), (.int n)] h0 (fun v h L => v = some (.ref h0.size) ∧ Fr n0 L ∧ Keep h0 h [] ∧ own_AV Z h h0.size .int (us.take j ++ List.replicate (j - us.length) (.int 0)) ∧ Exa Z h h0.size "[I") ws := by
  refine own_con (F := fun m => (mkF m 0 #[.val (.ref b), .val (.int n), .unset] [])) (own_pn (by first | (simp [plainName, overriddenIn]; done) | decide +kernel)) (fun m => by first | (simp [entryFrame, mkF, argsToLocals, Value.category]; done) | rfl) ?_
  intro p e s m below meth c T X hx hby hml hZ hown hnm hret hlk eT
  show own_Go p e below (own_Out s (fun v h L => v = some (.ref h0.size) ∧ Fr n0 L ∧ Keep h0 h [] ∧ own_AV Z h h0.size .int (us.take j ++ List.replicate (j - us.length) (.int 0)) ∧ Exa Z h h0.size "[I") ({ frames := 1, cells := 1, slots := 32, locals := 60 } : Room).cells ({ frames := 1, cells := 1, slots := 32, locals := 60 } : Room).slots) (T.setTop (mkF m 0 #[.val (.ref b), .val (.int n), .unset] []))
  have N0 := Fr.nil n0
  have K0 := Keep.refl h0 []
  have ez := len_toInt r_A0.short
  obtain ⟨z, hz⟩ : ∃ z : Int32, z = us.length.toInt32 := ⟨_, rfl⟩
  rw [← hz] at ez
  refine own_go (fun _ => XS.iloadN X.here hx rfl (hb hby d7_0) rfl) ?_
  show own_Go p e below _ (T.setTop (mkF m 1 #[.val (.ref b), .val (.int n), .unset] [(.int n)]))
  refine own_go (fun _ => XS.aloadN X.here hx rfl (hb hby d7_1) rfl rfl) ?_
  show own_Go p e below _ (T.setTop (mkF m 2 #[.val (.ref b), .val (.int n), .unset] [(.ref b), (.int n)]))
  refine own_go (own_len X hx hZ eT r_A0 (g := (mkF m 2 #[.val (.ref b), .val (.int n), .unset] [(.ref b), (.int n)])) rfl rfl (hb hby d7_2) z ez) ?_
  show own_Go p e below _ (T.setTop (mkF m 3 #[.val (.ref b), .val (.int n), .unset] [(.int z), (.int n)]))
  refine own_go (fun _ => XS.icmpYes X.here hx rfl (pc0 := 3) (pc' := 14) rfl (hb hby d7_3) rfl (XT.ii_ne_t (fun q => by rw [q, ez] at hj; omega)) (by decide) (by decide)) ?_
  show own_Go p e below _ (T.setTop (mkF m 14 #[.val (.ref b), .val (.int n), .unset] []))
  refine own_go (fun _ => XS.iloadN X.here hx rfl (hb hby d7_14) rfl) ?_
  show own_Go p e below _ (T.setTop (mkF m 15 #[.val (.ref b), .val (.int n), .unset] [(.int n)]))
  obtain ⟨T1, h1, X1, e1, E1, A1, C1, st1⟩ := own_newAE X hx hZ (aty := .int) (hw _ (List.mem_of_getElem? (i := 10) rfl)) eT (g := (mkF m 15 #[.val (.ref b), .val (.int n), .unset] [(.int n)])) rfl (hb hby d7_15) rfl j 32 hj hcap (by decide) (by decide) (by decide) (ad := "[I") (by first | rfl | decide)
  obtain ⟨a1, q1⟩ : ∃ z, z = h0.size := ⟨_, rfl⟩
  rw [← q1] at A1 C1 st1
  have ne_b_a1 : b ≠ a1 := fun z => absurd r_A0.lt (by rw [z, q1]; exact Nat.lt_irrefl _)
  have r_A_1 := r_A0.ext E1
  have K1 := K0.ext E1
  refine own_go st1 ?_
  show own_Go p e below _ (T1.setTop (mkF m 17 #[.val (.ref b), .val (.int n), .unset] [(.ref a1)]))
  refine own_go (fun _ => XS.astoreN X1.here hx rfl (hb hby d7_17) rfl rfl (l' := #[.val (.ref b), .val (.int n), .val (.ref a1)]) rfl) ?_
  show own_Go p e below _ (T1.setTop (mkF m 18 #[.val (.ref b), .val (.int n), .val (.ref a1)] []))
  refine own_go (fun _ => XS.aloadN X1.here hx rfl (hb hby d7_18) rfl rfl) ?_
  show own_Go p e below _ (T1.setTop (mkF m 19 #[.val (.ref b), .val (.int n), .val (.ref a1)] [(.ref b)]))
  refine own_go (fun _ => XS.iconst X1.here hx rfl (hb hby d7_19)) ?_
  show own_Go p e below _ (T1.setTop (mkF m 20 #[.val (.ref b), .val (.int n), .val (.ref a1)] [(.int (0 : Int32)), (.ref b)]))
  refine own_go (fun _ => XS.aloadN X1.here hx rfl (hb hby d7_20) rfl rfl) ?_
  show own_Go p e below _ (T1.setTop (mkF m 21 #[.val (.ref b), .val (.int n), .val (.ref a1)] [(.ref a1), (.int (0 : Int32)), (.ref b)]))
  refine own_go (fun _ => XS.iconst X1.here hx rfl (hb hby d7_21)) ?_
  show own_Go p e below _ (T1.setTop (mkF m 22 #[.val (.ref b), .val (.int n), .val (.ref a1)] [(.int (0 : Int32)), (.ref a1), (.int (0 : Int32)), (.ref b)]))
  refine own_go (fun _ => XS.aloadN X1.here hx rfl (hb hby d7_22) rfl rfl) ?_
  show own_Go p e below _ (T1.setTop (mkF m 23 #[.val (.ref b), .val (.int n), .val (.ref a1)] [(.ref b), (.int (0 : Int32)), (.ref a1), (.int (0 : Int32)), (.ref b)]))
  refine own_go (own_len X1 hx hZ e1 r_A_1 (g := (mkF m 23 #[.val (.ref b), .val (.int n), .val (.ref a1)] [(.ref b), (.int (0 : Int32)), (.ref a1), (.int (0 : Int32)), (.ref b)])) rfl rfl (hb hby d7_23) z ez) ?_
  show own_Go p e below _ (T1.setTop (mkF m 24 #[.val (.ref b), .val (.int n), .val (.ref a1)] [(.int z), (.int (0 : Int32)), (.ref a1), (.int (0 : Int32)), (.ref b)]))
  refine own_go (fun _ => XS.iloadN X1.here hx rfl (hb hby d7_24) rfl) ?_
  show own_Go p e below _ (T1.setTop (mkF m 25 #[.val (.ref b), .val (.int n), .val (.ref a1)] [(.int n), (.int z), (.int (0 : Int32)), (.ref a1), (.int (0 : Int32)), (.ref b)]))
  obtain ⟨T2, X2, e2, st2⟩ := own_callSP X1 hx hZ hown (argsL := [(.int z), (.int n)]) (rest := [(.int (0 : Int32)), (.ref a1), (.int (0 : Int32)), (.ref b)]) (own_min_con l Z a0 hw z n h1 []) e1 (hw _ (List.mem_of_getElem? (i := 38) rfl)) (hw _ (List.mem_of_getElem? (i := 39) rfl)) (hw _ (List.mem_of_getElem? (i := 40) rfl)) (hw _ (List.mem_of_getElem? (i := 41) rfl)) (by decide) (by decide +kernel : parseMethodDescriptor "(II)I" = some ⟨[.int, .int], some .int⟩) rfl (g := (mkF m 25 #[.val (.ref b), .val (.int n), .val (.ref a1)] [(.int n), (.int z), (.int (0 : Int32)), (.ref a1), (.int (0 : Int32)), (.ref b)])) rfl (by rw [hml]; rfl) rfl 4 (by show 2 * 0 + _ ≤ _; exact Nat.le_of_eq rfl) (hb hby d7_25) (by decide) (by decide) rfl rfl (by decide) (by decide)
  refine own_go st2 ?_
  show own_Go p e below _ (T2.setTop (mkF m 28 #[.val (.ref b), .val (.int n), .val (.ref a1)] [(.int (own_min z n)), (.int (0 : Int32)), (.ref a1), (.int (0 : Int32)), (.ref b)]))
  have em : (own_min z n).toInt = ((min us.length j : Nat) : Int) := by
    have := own_min_toInt z n
    omega
  obtain ⟨T3, h3, L3, X3, e3, N3, Kc3, A3, st3⟩ := own_copy X2 hx hZ hown (hw _ (List.mem_of_getElem? (i := 42) rfl)) (hw _ (List.mem_of_getElem? (i := 45) rfl)) (hw _ (List.mem_of_getElem? (i := 43) rfl)) (hw _ (List.mem_of_getElem? (i := 44) rfl)) e2 r_A_1 A1 rfl (g := (mkF m 28 #[.val (.ref b), .val (.int n), .val (.ref a1)] [(.int (own_min z n)), (.int (0 : Int32)), (.ref a1), (.int (0 : Int32)), (.ref b)])) rfl (by rw [hml]; rfl) rfl (hb hby d7_28) 0 0 (min us.length j) (by decide) (by decide) em (by omega) (by rw [List.length_replicate]; omega) N0 (by rw [q1]; exact gn) 0 (by show 2 * 0 + _ ≤ _; exact Nat.le_of_eq rfl) (by decide) (by decide)
  have r_A_3 := r_A_1.keep Kc3 (ninS ne_b_a1 nin0)
  have n_E_3 := C1.keep Kc3
  have K3 := K1.trans Kc3 (allS (Or.inr (Nat.le_of_eq q1.symm)) all0)
  refine own_go st3 ?_
  show own_Go p e below _ (T3.setTop (mkF m 31 #[.val (.ref b), .val (.int n), .val (.ref a1)] []))
  refine own_go (fun _ => XS.aloadN X3.here hx rfl (hb hby d7_31) rfl rfl) ?_
  show own_Go p e below _ (T3.setTop (mkF m 32 #[.val (.ref b), .val (.int n), .val (.ref a1)] [(.ref a1)]))
  have AR : own_AV Z h3 a1 .int (us.take j ++ List.replicate (j - us.length) (.int 0)) := by
    rw [← own_cut us j]
    exact A3
  exact own_aret X3 hx hlk hret rfl rfl (hb hby d7_32) (by decide) (by decide) (by rw [e3]; exact ⟨by rw [q1], N3, K3, q1 ▸ AR, q1 ▸ n_E_3⟩)
theorem d3_0 : decode method_2_code 0 = .ok (.iload_n 0, 1) := by decide +kernel
theorem d3_1 : decode method_2_code 1 = .ok (.iload_n 2, 1) := by decide +kernel
theorem d3_2 : decode method_2_code 2 = .ok (.iload_n 1, 1) := by decide +kernel
theorem d3_3 : decode method_2_code 3 = .ok (.imul, 1) := by decide +kernel
theorem d3_4 : decode method_2_code 4 = .ok (.iadd, 1) := by decide +kernel
theorem d3_5 : decode method_2_code 5 = .ok (.ireturn, 1) := by decide +kernel
def own_v (x0 : Int32) (x1 : Int32) (x2 : Int32) : Int32 := (x0 + (x2 * x1))
set_option maxRecDepth 65536 in
set_option maxHeartbeats 40000000 in
theorem own_v_con (l : Launch) (Z : State) (a0 : Array Value) (hw : ∀ d ∈ tables_1, d.before a0 Z = true) (x0 : Int32) (x1 : Int32) (x2 : Int32)  (h0 : Heap) (ws : List Jvm.Cond) :
    own_Con l Z (⟨"com/example/secure_model_views/securemodelviews/IdsAddPinLaw", "v", "(III)I"⟩ : MethodName) method_2_code 3 (some .int) ({ frames := 0, cells := 0, slots := 0, locals := 0 } : Room) #[(.int x0), (.int x1), (.int x2)] h0 (own_PQ h0 (.int (own_v x0 x1 x2))) ws := by
  refine own_con (F := fun m => (mkF m 0 #[.val (.int x0), .val (.int x1), .val (.int x2)] [])) (own_pn (by first | (simp [plainName, overriddenIn]; done) | decide +kernel)) (fun m => by first | (simp [entryFrame, mkF, argsToLocals, Value.category]; done) | rfl) ?_
  intro p e s m below meth c T X hx hby hml hZ hown hnm hret hlk eT
  show own_Go p e below (own_Out s (own_PQ h0 (.int (own_v x0 x1 x2))) 0 0) (T.setTop (mkF m 0 #[.val (.int x0), .val (.int x1), .val (.int x2)] []))
  show own_Go p e below (own_Out s (own_PQ h0 (.int (x0 + (x2 * x1)))) 0 0) _
  refine own_go (fun _ => XS.iloadN X.here hx rfl (hb hby d3_0) rfl) ?_
  show own_Go p e below _ (T.setTop (mkF m 1 #[.val (.int x0), .val (.int x1), .val (.int x2)] [(.int x0)]))
  refine own_go (fun _ => XS.iloadN X.here hx rfl (hb hby d3_1) rfl) ?_
  show own_Go p e below _ (T.setTop (mkF m 2 #[.val (.int x0), .val (.int x1), .val (.int x2)] [(.int x2), (.int x0)]))
  refine own_go (fun _ => XS.iloadN X.here hx rfl (hb hby d3_2) rfl) ?_
  show own_Go p e below _ (T.setTop (mkF m 3 #[.val (.int x0), .val (.int x1), .val (.int x2)] [(.int x1), (.int x2), (.int x0)]))
  refine own_go (fun _ => XS.imul X.here hx rfl (hb hby d3_3) rfl) ?_
  show own_Go p e below _ (T.setTop (mkF m 4 #[.val (.int x0), .val (.int x1), .val (.int x2)] [(.int (x2 * x1)), (.int x0)]))
  refine own_go (fun _ => XS.iadd X.here hx rfl (hb hby d3_4) rfl) ?_
  show own_Go p e below _ (T.setTop (mkF m 5 #[.val (.int x0), .val (.int x1), .val (.int x2)] [(.int (x0 + (x2 * x1)))]))
  exact own_iret X hx hlk hret (Or.inl rfl) rfl (hb hby d3_5) (Nat.zero_le _) (Nat.zero_le _) ⟨rfl, eT, rfl⟩
theorem d7_6 : decode jdk_65_method_123_code 6 = .ok (.aload_n 0, 1) := by decide +kernel
theorem d7_7 : decode jdk_65_method_123_code 7 = .ok (.invokevirtual 316, 3) := by decide +kernel
theorem d7_10 : decode jdk_65_method_123_code 10 = .ok (.checkcast 317, 3) := by decide +kernel
theorem d7_13 : decode jdk_65_method_123_code 13 = .ok (.areturn, 1) := by decide +kernel
set_option maxRecDepth 65536 in
set_option maxHeartbeats 40000000 in
theorem own_cloneOf_con (l : Launch) (Z : State) (a0 : Array Value) (hw : ∀ d ∈ tables_1, d.before a0 Z = true) (b : Addr) (us : List Value) (n : Int32) (n0 : Nat) (h0 : Heap) (r_A0 : own_AV Z h0 b .int us) (r_E0 : Exa Z h0 b "[I") (hj : n.toInt = us.length) (hcap : us.length ≤ 32) (ws : List Jvm.Cond) :
    own_Con l Z (⟨"java/util/Arrays", "copyOf", "([II)[I"⟩ : MethodName) jdk_65_method_123_code 3 (some (.array .int)) ({ frames := 1, cells := 1, slots := 32, locals := 60 } : Room) #[(.ref b), (.int n)] h0 (fun v h L => v = some (.ref h0.size) ∧ Fr n0 L ∧ Keep h0 h [] ∧ own_AV Z h h0.size .int us ∧ Exa Z h h0.size "[I") ws := by
  refine own_con (F := fun m => (mkF m 0 #[.val (.ref b), .val (.int n), .unset] [])) (own_pn (by first | (simp [plainName, overriddenIn]; done) | decide +kernel)) (fun m => by first | (simp [entryFrame, mkF, argsToLocals, Value.category]; done) | rfl) ?_
  intro p e s m below meth c T X hx hby hml hZ hown hnm hret hlk eT
  show own_Go p e below (own_Out s (fun v h L => v = some (.ref h0.size) ∧ Fr n0 L ∧ Keep h0 h [] ∧ own_AV Z h h0.size .int us ∧ Exa Z h h0.size "[I") ({ frames := 1, cells := 1, slots := 32, locals := 60 } : Room).cells ({ frames := 1, cells := 1, slots := 32, locals := 60 } : Room).slots) (T.setTop (mkF m 0 #[.val (.ref b), .val (.int n), .unset] []))
  have N0 := Fr.nil n0
  have K0 := Keep.refl h0 []
  refine own_go (fun _ => XS.iloadN X.here hx rfl (hb hby d7_0) rfl) ?_
  show own_Go p e below _ (T.setTop (mkF m 1 #[.val (.ref b), .val (.int n), .unset] [(.int n)]))
  refine own_go (fun _ => XS.aloadN X.here hx rfl (hb hby d7_1) rfl rfl) ?_
  show own_Go p e below _ (T.setTop (mkF m 2 #[.val (.ref b), .val (.int n), .unset] [(.ref b), (.int n)]))
  refine own_go (own_len X hx hZ eT r_A0 (g := (mkF m 2 #[.val (.ref b), .val (.int n), .unset] [(.ref b), (.int n)])) rfl rfl (hb hby d7_2) n hj) ?_
  show own_Go p e below _ (T.setTop (mkF m 3 #[.val (.ref b), .val (.int n), .unset] [(.int n), (.int n)]))
  refine own_go (fun _ => XS.icmpNo X.here hx rfl (hb hby d7_3) rfl (XT.ii_ne_f rfl)) ?_
  show own_Go p e below _ (T.setTop (mkF m 6 #[.val (.ref b), .val (.int n), .unset] []))
  refine own_go (fun _ => XS.aloadN X.here hx rfl (hb hby d7_6) rfl rfl) ?_
  show own_Go p e below _ (T.setTop (mkF m 7 #[.val (.ref b), .val (.int n), .unset] [(.ref b)]))
  obtain ⟨T1, h1, X1, e1, E1, A1, C1, st1⟩ := own_clone X hx hZ hown (ad := "[I") (hw _ (List.mem_of_getElem? (i := 54) rfl)) (hw _ (List.mem_of_getElem? (i := 55) rfl)) (hw _ (List.mem_of_getElem? (i := 59) rfl)) (hw _ (List.mem_of_getElem? (i := 57) rfl)) (hw _ (List.mem_of_getElem? (i := 58) rfl)) (hw _ (List.mem_of_getElem? (i := 60) rfl)) eT r_A0 r_E0 (g := (mkF m 7 #[.val (.ref b), .val (.int n), .unset] [(.ref b)])) rfl (by rw [hml]; rfl) rfl (hb hby d7_7) 0 32 (by show 2 * 0 + _ ≤ _; exact Nat.le_of_eq rfl) (by decide) (by decide) hcap (by decide) (by decide)
  have K1 := K0.ext E1
  refine own_go st1 ?_
  show own_Go p e below _ (T1.setTop (mkF m 10 #[.val (.ref b), .val (.int n), .unset] [(.ref h0.size)]))
  obtain ⟨T2, X2, e2, st2⟩ := castY X1 hx hZ hown (hw _ (List.mem_of_getElem? (i := 61) rfl)) e1 (Ins.self C1) (g := (mkF m 10 #[.val (.ref b), .val (.int n), .unset] [(.ref h0.size)])) rfl rfl (hb hby d7_10)
  refine own_go st2 ?_
  show own_Go p e below _ (T2.setTop (mkF m 13 #[.val (.ref b), .val (.int n), .unset] [(.ref h0.size)]))
  exact own_aret X2 hx hlk hret rfl rfl (hb hby d7_13) (by decide) (by decide) (by rw [e2]; exact ⟨rfl, N0, K1, A1, C1⟩)
theorem d6_0 : decode prog_3_method_5_code 0 = .ok (.aload_n 0, 1) := by decide +kernel
theorem d6_1 : decode prog_3_method_5_code 1 = .ok (.getfield 7, 3) := by decide +kernel
theorem d6_4 : decode prog_3_method_5_code 4 = .ok (.aload_n 0, 1) := by decide +kernel
theorem d6_5 : decode prog_3_method_5_code 5 = .ok (.getfield 13, 3) := by decide +kernel
theorem d6_8 : decode prog_3_method_5_code 8 = .ok (.invokestatic 17, 3) := by decide +kernel
theorem d6_11 : decode prog_3_method_5_code 11 = .ok (.areturn, 1) := by decide +kernel
set_option maxRecDepth 65536 in
set_option maxHeartbeats 40000000 in
theorem own_toArray_con (l : Launch) (Z : State) (a0 : Array Value) (hw : ∀ d ∈ tables_1, d.before a0 Z = true) (a b : Addr) (us : List Value) (n : Int32) (j n0 : Nat) (h0 : Heap) (I0 : own_Ids Z h0 a b us n) (hj : n.toInt = j) (hlt : j ≤ us.length) (hcap : us.length ≤ 32) (gn : n0 ≤ h0.size) (ws : List Jvm.Cond) :
    own_Con l Z (⟨"com/example/secure_model_views/securemodelviews/Ids", "toArray", "()[I"⟩ : MethodName) prog_3_method_5_code 1 (some (.array .int)) ({ frames := 2, cells := 1, slots := 32, locals := 80 } : Room) #[(.ref a)] h0 (fun v h L => v = some (.ref h0.size) ∧ Fr n0 L ∧ Keep h0 h [] ∧ own_AV Z h h0.size .int (us.take j) ∧ Exa Z h h0.size "[I") ws := by
  refine own_con (F := fun m => (mkF m 0 #[.val (.ref a)] [])) (own_pn (by first | (simp [plainName, overriddenIn]; done) | decide +kernel)) (fun m => by first | (simp [entryFrame, mkF, argsToLocals, Value.category]; done) | rfl) ?_
  intro p e s m below meth c T X hx hby hml hZ hown hnm hret hlk eT
  show own_Go p e below (own_Out s (fun v h L => v = some (.ref h0.size) ∧ Fr n0 L ∧ Keep h0 h [] ∧ own_AV Z h h0.size .int (us.take j) ∧ Exa Z h h0.size "[I") ({ frames := 2, cells := 1, slots := 32, locals := 80 } : Room).cells ({ frames := 2, cells := 1, slots := 32, locals := 80 } : Room).slots) (T.setTop (mkF m 0 #[.val (.ref a)] []))
  obtain ⟨o_E0, o_ids0, o_size0, r_A0, r_E0, ne_a_b⟩ := I0
  have N0 := Fr.nil n0
  refine own_go (fun _ => XS.aloadN X.here hx rfl (hb hby d6_0) rfl rfl) ?_
  show own_Go p e below _ (T.setTop (mkF m 1 #[.val (.ref a)] [(.ref a)]))
  obtain ⟨T1, X1, e1, st1⟩ := getF X hx hZ hown (host := "") (Or.inl (hw _ (List.mem_of_getElem? (i := 11) rfl))) Via.refl eT o_ids0 (g := (mkF m 1 #[.val (.ref a)] [(.ref a)])) rfl rfl (hb hby d6_1)
  refine own_go st1 ?_
  show own_Go p e below _ (T1.setTop (mkF m 4 #[.val (.ref a)] [(.ref b)]))
  refine own_go (fun _ => XS.aloadN X1.here hx rfl (hb hby d6_4) rfl rfl) ?_
  show own_Go p e below _ (T1.setTop (mkF m 5 #[.val (.ref a)] [(.ref a), (.ref b)]))
  obtain ⟨T2, X2, e2, st2⟩ := getF X1 hx hZ hown (host := "") (Or.inl (hw _ (List.mem_of_getElem? (i := 22) rfl))) Via.refl e1 o_size0 (g := (mkF m 5 #[.val (.ref a)] [(.ref a), (.ref b)])) rfl rfl (hb hby d6_5)
  refine own_go st2 ?_
  show own_Go p e below _ (T2.setTop (mkF m 8 #[.val (.ref a)] [(.int n), (.ref b)]))
  by_cases hq : j = us.length
  · skip
    obtain ⟨_, T3, L3, X3, ⟨rfl, Nc3, Kc3, Ac3, Cc3⟩, st3⟩ := own_callS X2 hx hZ hown (argsL := [(.ref b), (.int n)]) (rest := []) (own_cloneOf_con l Z a0 hw b us n n0 h0 r_A0 r_E0 (by rw [hj, hq]) hcap []) e2 (hw _ (List.mem_of_getElem? (i := 34) rfl)) (hw _ (List.mem_of_getElem? (i := 35) rfl)) (hw _ (List.mem_of_getElem? (i := 36) rfl)) (hw _ (List.mem_of_getElem? (i := 37) rfl)) (by decide) (by decide +kernel : parseMethodDescriptor "([II)[I" = some ⟨[(.array .int), .int], (some (.array .int))⟩) rfl (g := (mkF m 8 #[.val (.ref a)] [(.int n), (.ref b)])) rfl (by rw [hml]; rfl) rfl 0 (by show 2 * 0 + _ ≤ _; exact Nat.le_of_eq rfl) (hb hby d6_8) (by decide) (by decide) (by decide) (by decide)
    have N3 := Fr.app N0 Nc3
    have o_E_3 := o_E0.keep Kc3
    have o_ids_3 := o_ids0.keep Kc3 nin0
    have o_size_3 := o_size0.keep Kc3 nin0
    have r_A_3 := r_A0.keep Kc3 nin0
    have r_E_3 := r_E0.keep Kc3
    refine own_go st3 ?_
    show own_Go p e below _ (T3.setTop (mkF m 11 #[.val (.ref a)] [(.ref h0.size)]))
    exact own_aret X3 hx hlk hret rfl rfl (hb hby d6_11) (by decide) (by decide) ⟨rfl, N3, Kc3, by rw [List.take_of_length_le (Nat.le_of_eq hq.symm)]; exact Ac3, Cc3⟩
  · skip
    obtain ⟨_, T4, L4, X4, ⟨rfl, Nc4, Kc4, Ac4, Cc4⟩, st4⟩ := own_callS X2 hx hZ hown (argsL := [(.ref b), (.int n)]) (rest := []) (own_copyOf_con l Z a0 hw b us n j n0 h0 r_A0 hj (Nat.le_trans hlt hcap) hq gn []) e2 (hw _ (List.mem_of_getElem? (i := 34) rfl)) (hw _ (List.mem_of_getElem? (i := 35) rfl)) (hw _ (List.mem_of_getElem? (i := 36) rfl)) (hw _ (List.mem_of_getElem? (i := 37) rfl)) (by decide) (by decide +kernel : parseMethodDescriptor "([II)[I" = some ⟨[(.array .int), .int], (some (.array .int))⟩) rfl (g := (mkF m 8 #[.val (.ref a)] [(.int n), (.ref b)])) rfl (by rw [hml]; rfl) rfl 0 (by show 2 * 0 + _ ≤ _; exact Nat.le_of_eq rfl) (hb hby d6_8) (by decide) (by decide) (by decide) (by decide)
    have N4 := Fr.app N0 Nc4
    have o_E_4 := o_E0.keep Kc4
    have o_ids_4 := o_ids0.keep Kc4 nin0
    have o_size_4 := o_size0.keep Kc4 nin0
    have r_A_4 := r_A0.keep Kc4 nin0
    have r_E_4 := r_E0.keep Kc4
    refine own_go st4 ?_
    show own_Go p e below _ (T4.setTop (mkF m 11 #[.val (.ref a)] [(.ref h0.size)]))
    rw [show j - us.length = 0 by omega, List.replicate_zero, List.append_nil] at Ac4
    exact own_aret X4 hx hlk hret rfl rfl (hb hby d6_11) (by decide) (by decide) ⟨rfl, N4, Kc4, Ac4, Cc4⟩
theorem d4_12 : decode prog_3_method_2_code 12 = .ok (.aload_n 0, 1) := by decide +kernel
theorem d4_13 : decode prog_3_method_2_code 13 = .ok (.aload_n 0, 1) := by decide +kernel
theorem d4_14 : decode prog_3_method_2_code 14 = .ok (.getfield 7, 3) := by decide +kernel
theorem d4_17 : decode prog_3_method_2_code 17 = .ok (.iconst 2, 1) := by decide +kernel
theorem d4_18 : decode prog_3_method_2_code 18 = .ok (.aload_n 0, 1) := by decide +kernel
theorem d4_19 : decode prog_3_method_2_code 19 = .ok (.getfield 13, 3) := by decide +kernel
theorem d4_22 : decode prog_3_method_2_code 22 = .ok (.imul, 1) := by decide +kernel
theorem d4_23 : decode prog_3_method_2_code 23 = .ok (.invokestatic 17, 3) := by decide +kernel
theorem d4_26 : decode prog_3_method_2_code 26 = .ok (.putfield 7, 3) := by decide +kernel
set_option maxRecDepth 65536 in
set_option maxHeartbeats 40000000 in
theorem own_addG_con (l : Launch) (Z : State) (a0 : Array Value) (hw : ∀ d ∈ tables_1, d.before a0 Z = true) (a b : Addr) (us : List Value) (y : Int32) (n0 : Nat) (h0 : Heap) (I0 : own_Ids Z h0 a b us 16) (hlen : us.length = 16) (ga : n0 ≤ a) (gn : n0 ≤ h0.size) (ws : List Jvm.Cond) :
    own_Con l Z (⟨"com/example/secure_model_views/securemodelviews/Ids", "add", "(I)V"⟩ : MethodName) prog_3_method_2_code 2 none ({ frames := 2, cells := 1, slots := 32, locals := 80 } : Room) #[(.ref a), (.int y)] h0 (fun v h L => v = none ∧ Fr n0 L ∧ Keep h0 h [a] ∧ own_Ids Z h a h0.size ((us ++ List.replicate 16 (Value.int 0)).set 16 (Value.int y)) (16 + 1)) ws := by
  refine own_con (F := fun m => (mkF m 0 #[.val (.ref a), .val (.int y)] [])) (own_pn (by first | (simp [plainName, overriddenIn]; done) | decide +kernel)) (fun m => by first | (simp [entryFrame, mkF, argsToLocals, Value.category]; done) | rfl) ?_
  intro p e s m below meth c T X hx hby hml hZ hown hnm hret hlk eT
  show own_Go p e below (own_Out s (fun v h L => v = none ∧ Fr n0 L ∧ Keep h0 h [a] ∧ own_Ids Z h a h0.size ((us ++ List.replicate 16 (Value.int 0)).set 16 (Value.int y)) (16 + 1)) ({ frames := 2, cells := 1, slots := 32, locals := 80 } : Room).cells ({ frames := 2, cells := 1, slots := 32, locals := 80 } : Room).slots) (T.setTop (mkF m 0 #[.val (.ref a), .val (.int y)] []))
  obtain ⟨o_E0, o_ids0, o_size0, r_A0, r_E0, ne_a_b⟩ := I0
  have N0 := Fr.nil n0
  have K0 := Keep.refl h0 [a]
  obtain ⟨r, hr⟩ : ∃ z, z = h0.size := ⟨_, rfl⟩
  have ne_a_r : a ≠ r := by rw [hr]; exact Nat.ne_of_lt o_E0.lt
  have ne_b_r : b ≠ r := by rw [hr]; exact Nat.ne_of_lt r_A0.lt
  rw [← hr]
  refine own_go (fun _ => XS.aloadN X.here hx rfl (hb hby d4_0) rfl rfl) ?_
  show own_Go p e below _ (T.setTop (mkF m 1 #[.val (.ref a), .val (.int y)] [(.ref a)]))
  obtain ⟨T1, X1, e1, st1⟩ := getF X hx hZ hown (host := "") (Or.inl (hw _ (List.mem_of_getElem? (i := 22) rfl))) Via.refl eT o_size0 (g := (mkF m 1 #[.val (.ref a), .val (.int y)] [(.ref a)])) rfl rfl (hb hby d4_1)
  refine own_go st1 ?_
  show own_Go p e below _ (T1.setTop (mkF m 4 #[.val (.ref a), .val (.int y)] [(.int (16 : Int32))]))
  refine own_go (fun _ => XS.aloadN X1.here hx rfl (hb hby d4_4) rfl rfl) ?_
  show own_Go p e below _ (T1.setTop (mkF m 5 #[.val (.ref a), .val (.int y)] [(.ref a), (.int (16 : Int32))]))
  obtain ⟨T2, X2, e2, st2⟩ := getF X1 hx hZ hown (host := "") (Or.inl (hw _ (List.mem_of_getElem? (i := 11) rfl))) Via.refl e1 o_ids0 (g := (mkF m 5 #[.val (.ref a), .val (.int y)] [(.ref a), (.int (16 : Int32))])) rfl rfl (hb hby d4_5)
  refine own_go st2 ?_
  show own_Go p e below _ (T2.setTop (mkF m 8 #[.val (.ref a), .val (.int y)] [(.ref b), (.int (16 : Int32))]))
  refine own_go (own_len X2 hx hZ e2 r_A0 (g := (mkF m 8 #[.val (.ref a), .val (.int y)] [(.ref b), (.int (16 : Int32))])) rfl rfl (hb hby d4_8) (16 : Int32) (by rw [hlen]; decide)) ?_
  show own_Go p e below _ (T2.setTop (mkF m 9 #[.val (.ref a), .val (.int y)] [(.int (16 : Int32)), (.int (16 : Int32))]))
  refine own_go (fun _ => XS.icmpNo X2.here hx rfl (hb hby d4_9) rfl (XT.ii_ne_f rfl)) ?_
  show own_Go p e below _ (T2.setTop (mkF m 12 #[.val (.ref a), .val (.int y)] []))
  refine own_go (fun _ => XS.aloadN X2.here hx rfl (hb hby d4_12) rfl rfl) ?_
  show own_Go p e below _ (T2.setTop (mkF m 13 #[.val (.ref a), .val (.int y)] [(.ref a)]))
  refine own_go (fun _ => XS.aloadN X2.here hx rfl (hb hby d4_13) rfl rfl) ?_
  show own_Go p e below _ (T2.setTop (mkF m 14 #[.val (.ref a), .val (.int y)] [(.ref a), (.ref a)]))
  obtain ⟨T3, X3, e3, st3⟩ := getF X2 hx hZ hown (host := "") (Or.inl (hw _ (List.mem_of_getElem? (i := 11) rfl))) Via.refl e2 o_ids0 (g := (mkF m 14 #[.val (.ref a), .val (.int y)] [(.ref a), (.ref a)])) rfl rfl (hb hby d4_14)
  refine own_go st3 ?_
  show own_Go p e below _ (T3.setTop (mkF m 17 #[.val (.ref a), .val (.int y)] [(.ref b), (.ref a)]))
  refine own_go (fun _ => XS.iconst X3.here hx rfl (hb hby d4_17)) ?_
  show own_Go p e below _ (T3.setTop (mkF m 18 #[.val (.ref a), .val (.int y)] [(.int (2 : Int32)), (.ref b), (.ref a)]))
  refine own_go (fun _ => XS.aloadN X3.here hx rfl (hb hby d4_18) rfl rfl) ?_
  show own_Go p e below _ (T3.setTop (mkF m 19 #[.val (.ref a), .val (.int y)] [(.ref a), (.int (2 : Int32)), (.ref b), (.ref a)]))
  obtain ⟨T4, X4, e4, st4⟩ := getF X3 hx hZ hown (host := "") (Or.inl (hw _ (List.mem_of_getElem? (i := 22) rfl))) Via.refl e3 o_size0 (g := (mkF m 19 #[.val (.ref a), .val (.int y)] [(.ref a), (.int (2 : Int32)), (.ref b), (.ref a)])) rfl rfl (hb hby d4_19)
  refine own_go st4 ?_
  show own_Go p e below _ (T4.setTop (mkF m 22 #[.val (.ref a), .val (.int y)] [(.int (16 : Int32)), (.int (2 : Int32)), (.ref b), (.ref a)]))
  refine own_go (fun _ => XS.imul X4.here hx rfl (hb hby d4_22) rfl) ?_
  show own_Go p e below _ (T4.setTop (mkF m 23 #[.val (.ref a), .val (.int y)] [(.int ((2 : Int32) * (16 : Int32))), (.ref b), (.ref a)]))
  obtain ⟨_, T5, L5, X5, ⟨rfl, Nc5, Kc5, Ac5, Cc5⟩, st5⟩ := own_callS X4 hx hZ hown (argsL := [(.ref b), (.int ((2 : Int32) * (16 : Int32)))]) (rest := [(.ref a)]) (own_copyOf_con l Z a0 hw b us (2 * 16) 32 n0 h0 r_A0 (by decide) (by decide) (by rw [hlen]; decide) gn []) e4 (hw _ (List.mem_of_getElem? (i := 34) rfl)) (hw _ (List.mem_of_getElem? (i := 35) rfl)) (hw _ (List.mem_of_getElem? (i := 36) rfl)) (hw _ (List.mem_of_getElem? (i := 37) rfl)) (by decide) (by decide +kernel : parseMethodDescriptor "([II)[I" = some ⟨[(.array .int), .int], (some (.array .int))⟩) rfl (g := (mkF m 23 #[.val (.ref a), .val (.int y)] [(.int ((2 : Int32) * (16 : Int32))), (.ref b), (.ref a)])) rfl (by rw [hml]; rfl) rfl 1 (by show 2 * 0 + _ ≤ _; exact Nat.le_of_eq rfl) (hb hby d4_23) (by decide) (by decide) (by decide) (by decide)
  have N5 := Fr.app N0 Nc5
  have o_E_5 := o_E0.keep Kc5
  have o_ids_5 := o_ids0.keep Kc5 nin0
  have o_size_5 := o_size0.keep Kc5 nin0
  have r_A_5 := r_A0.keep Kc5 nin0
  have r_E_5 := r_E0.keep Kc5
  have K5 := K0.trans Kc5 all0
  rw [← hr] at Ac5 Cc5 st5
  refine own_go st5 ?_
  show own_Go p e below _ (T5.setTop (mkF m 26 #[.val (.ref a), .val (.int y)] [(.ref r), (.ref a)]))
  rw [hlen, List.take_of_length_le (by rw [hlen]; decide)] at Ac5
  obtain ⟨T6, h6, X6, e6, W6, st6⟩ := putF X5 hx hZ hown (host := "") (Or.inl (hw _ (List.mem_of_getElem? (i := 11) rfl))) Via.refl rfl o_ids_5 o_E_5 (Or.inl (hw _ (List.mem_of_getElem? (i := 12) rfl))) (hw _ (List.mem_of_getElem? (i := 2) rfl)) (ty := (.array .int)) (by decide) rfl rfl (g := (mkF m 26 #[.val (.ref a), .val (.int y)] [(.ref r), (.ref a)])) rfl rfl (hb hby d4_26)
  have N6 := Fr.snoc X6 N5 ga
  have o_E_6 := o_E_5.wr W6
  have o_ids_6 := o_ids_5.same W6
  have o_size_6 := o_size_5.other W6 (Or.inr (slot_ne (t := .int) (t' := (.array .int)) (Or.inl (hw _ (List.mem_of_getElem? (i := 23) rfl))) (Or.inl (hw _ (List.mem_of_getElem? (i := 12) rfl))) (by decide) (by decide) (by decide)))
  have r_A_6 := r_A_5.other W6 (Ne.symm ne_a_b)
  have r_E_6 := r_E_5.wr W6
  have n_A_6 := Ac5.other W6 (Ne.symm ne_a_r)
  have n_E_6 := Cc5.wr W6
  have K6 := K5.wr W6 (Or.inl (List.mem_of_getElem? (i := 0) rfl))
  refine own_go st6 ?_
  show own_Go p e below _ (T6.setTop (mkF m 29 #[.val (.ref a), .val (.int y)] []))
  refine own_go (fun _ => XS.aloadN X6.here hx rfl (hb hby d4_29) rfl rfl) ?_
  show own_Go p e below _ (T6.setTop (mkF m 30 #[.val (.ref a), .val (.int y)] [(.ref a)]))
  obtain ⟨T7, X7, e7, st7⟩ := getF X6 hx hZ hown (host := "") (Or.inl (hw _ (List.mem_of_getElem? (i := 11) rfl))) Via.refl e6 o_ids_6 (g := (mkF m 30 #[.val (.ref a), .val (.int y)] [(.ref a)])) rfl rfl (hb hby d4_30)
  refine own_go st7 ?_
  show own_Go p e below _ (T7.setTop (mkF m 33 #[.val (.ref a), .val (.int y)] [(.ref r)]))
  refine own_go (fun _ => XS.aloadN X7.here hx rfl (hb hby d4_33) rfl rfl) ?_
  show own_Go p e below _ (T7.setTop (mkF m 34 #[.val (.ref a), .val (.int y)] [(.ref a), (.ref r)]))
  obtain ⟨T8, X8, e8, st8⟩ := getF X7 hx hZ hown (host := "") (Or.inl (hw _ (List.mem_of_getElem? (i := 22) rfl))) Via.refl e7 o_size_6 (g := (mkF m 34 #[.val (.ref a), .val (.int y)] [(.ref a), (.ref r)])) rfl rfl (hb hby d4_34)
  refine own_go st8 ?_
  show own_Go p e below _ (T8.setTop (mkF m 37 #[.val (.ref a), .val (.int y)] [(.int (16 : Int32)), (.ref r)]))
  refine own_go (fun _ => XS.iloadN X8.here hx rfl (hb hby d4_37) rfl) ?_
  show own_Go p e below _ (T8.setTop (mkF m 38 #[.val (.ref a), .val (.int y)] [(.int y), (.int (16 : Int32)), (.ref r)]))
  obtain ⟨T9, h9, X9, e9, W9, A9, st9⟩ := own_stI X8 hx hZ e8 n_A_6 (g := (mkF m 38 #[.val (.ref a), .val (.int y)] [(.int y), (.int (16 : Int32)), (.ref r)])) rfl rfl (hb hby d4_38) 16 (by decide) (by rw [List.length_append, hlen]; decide)
  have N9 := Fr.snoc X9 N6 (by rw [hr]; exact gn)
  have o_E_9 := o_E_6.wr W9
  have o_ids_9 := o_ids_6.other W9 (Or.inl ne_a_r)
  have o_size_9 := o_size_6.other W9 (Or.inl ne_a_r)
  have r_A_9 := r_A_6.other W9 ne_b_r
  have r_E_9 := r_E_6.wr W9
  have n_E_9 := n_E_6.wr W9
  have K9 := K6.wr W9 (Or.inr (Nat.le_of_eq hr.symm))
  refine own_go st9 ?_
  show own_Go p e below _ (T9.setTop (mkF m 39 #[.val (.ref a), .val (.int y)] []))
  refine own_go (fun _ => XS.aloadN X9.here hx rfl (hb hby d4_39) rfl rfl) ?_
  show own_Go p e below _ (T9.setTop (mkF m 40 #[.val (.ref a), .val (.int y)] [(.ref a)]))
  refine own_go (fun _ => XS.dup X9.here hx rfl (hb hby d4_40) rfl rfl) ?_
  show own_Go p e below _ (T9.setTop (mkF m 41 #[.val (.ref a), .val (.int y)] [(.ref a), (.ref a)]))
  obtain ⟨T10, X10, e10, st10⟩ := getF X9 hx hZ hown (host := "") (Or.inl (hw _ (List.mem_of_getElem? (i := 22) rfl))) Via.refl e9 o_size_9 (g := (mkF m 41 #[.val (.ref a), .val (.int y)] [(.ref a), (.ref a)])) rfl rfl (hb hby d4_41)
  refine own_go st10 ?_
  show own_Go p e below _ (T10.setTop (mkF m 44 #[.val (.ref a), .val (.int y)] [(.int (16 : Int32)), (.ref a)]))
  refine own_go (fun _ => XS.iconst X10.here hx rfl (hb hby d4_44)) ?_
  show own_Go p e below _ (T10.setTop (mkF m 45 #[.val (.ref a), .val (.int y)] [(.int (1 : Int32)), (.int (16 : Int32)), (.ref a)]))
  refine own_go (fun _ => XS.iadd X10.here hx rfl (hb hby d4_45) rfl) ?_
  show own_Go p e below _ (T10.setTop (mkF m 46 #[.val (.ref a), .val (.int y)] [(.int ((16 : Int32) + (1 : Int32))), (.ref a)]))
  obtain ⟨T11, h11, X11, e11, W11, st11⟩ := putF X10 hx hZ hown (host := "") (Or.inl (hw _ (List.mem_of_getElem? (i := 22) rfl))) Via.refl e10 o_size_9 o_E_9 (Or.inl (hw _ (List.mem_of_getElem? (i := 23) rfl))) (hw _ (List.mem_of_getElem? (i := 2) rfl)) (ty := .int) (by decide) rfl rfl (g := (mkF m 46 #[.val (.ref a), .val (.int y)] [(.int ((16 : Int32) + (1 : Int32))), (.ref a)])) rfl rfl (hb hby d4_46)
  have N11 := Fr.snoc X11 N9 ga
  have o_E_11 := o_E_9.wr W11
  have o_ids_11 := o_ids_9.other W11 (Or.inr (slot_ne (t := (.array .int)) (t' := .int) (Or.inl (hw _ (List.mem_of_getElem? (i := 12) rfl))) (Or.inl (hw _ (List.mem_of_getElem? (i := 23) rfl))) (by decide) (by decide) (by decide)))
  have o_size_11 := o_size_9.same W11
  have r_A_11 := r_A_9.other W11 (Ne.symm ne_a_b)
  have r_E_11 := r_E_9.wr W11
  have n_A_11 := A9.other W11 (Ne.symm ne_a_r)
  have n_E_11 := n_E_9.wr W11
  have K11 := K9.wr W11 (Or.inl (List.mem_of_getElem? (i := 0) rfl))
  refine own_go st11 ?_
  show own_Go p e below _ (T11.setTop (mkF m 49 #[.val (.ref a), .val (.int y)] []))
  exact own_vret X11 hx hlk hret (hb hby d4_49) (by decide) (by decide) (by rw [e11]; exact ⟨rfl, N11, K11, o_E_11, o_ids_11, o_size_11, n_A_11, n_E_11, ne_a_r⟩)
theorem d5_0 : decode prog_3_method_3_code 0 = .ok (.aload_n 0, 1) := by decide +kernel
theorem d5_1 : decode prog_3_method_3_code 1 = .ok (.getfield 13, 3) := by decide +kernel
theorem d5_4 : decode prog_3_method_3_code 4 = .ok (.ireturn, 1) := by decide +kernel
set_option maxRecDepth 65536 in
set_option maxHeartbeats 40000000 in
theorem own_size_con (l : Launch) (Z : State) (a0 : Array Value) (hw : ∀ d ∈ tables_1, d.before a0 Z = true) (a b : Addr) (us : List Value) (n : Int32) (h0 : Heap) (I0 : own_Ids Z h0 a b us n) (ws : List Jvm.Cond) :
    own_Con l Z (⟨"com/example/secure_model_views/securemodelviews/Ids", "size", "()I"⟩ : MethodName) prog_3_method_3_code 1 (some .int) ({ frames := 0, cells := 0, slots := 0, locals := 0 } : Room) #[(.ref a)] h0 (own_PQ h0 (.int n)) ws := by
  refine own_con (F := fun m => (mkF m 0 #[.val (.ref a)] [])) (own_pn (by first | (simp [plainName, overriddenIn]; done) | decide +kernel)) (fun m => by first | (simp [entryFrame, mkF, argsToLocals, Value.category]; done) | rfl) ?_
  intro p e s m below meth c T X hx hby hml hZ hown hnm hret hlk eT
  show own_Go p e below (own_Out s (own_PQ h0 (.int n)) ({ frames := 0, cells := 0, slots := 0, locals := 0 } : Room).cells ({ frames := 0, cells := 0, slots := 0, locals := 0 } : Room).slots) (T.setTop (mkF m 0 #[.val (.ref a)] []))
  obtain ⟨o_E0, o_ids0, o_size0, r_A0, r_E0, ne_a_b⟩ := I0
  refine own_go (fun _ => XS.aloadN X.here hx rfl (hb hby d5_0) rfl rfl) ?_
  show own_Go p e below _ (T.setTop (mkF m 1 #[.val (.ref a)] [(.ref a)]))
  obtain ⟨T1, X1, e1, st1⟩ := getF X hx hZ hown (host := "") (Or.inl (hw _ (List.mem_of_getElem? (i := 22) rfl))) Via.refl eT o_size0 (g := (mkF m 1 #[.val (.ref a)] [(.ref a)])) rfl rfl (hb hby d5_1)
  refine own_go st1 ?_
  show own_Go p e below _ (T1.setTop (mkF m 4 #[.val (.ref a)] [(.int n)]))
  exact own_iret X1 hx hlk hret (Or.inl rfl) rfl (hb hby d5_4) (Nat.zero_le _) (Nat.zero_le _) ⟨rfl, e1, rfl⟩
theorem d10_0 : decode prog_3_method_4_code 0 = .ok (.aload_n 0, 1) := by decide +kernel
theorem d10_1 : decode prog_3_method_4_code 1 = .ok (.getfield 7, 3) := by decide +kernel
theorem d10_4 : decode prog_3_method_4_code 4 = .ok (.iload_n 1, 1) := by decide +kernel
theorem d10_5 : decode prog_3_method_4_code 5 = .ok (.iaload, 1) := by decide +kernel
theorem d10_6 : decode prog_3_method_4_code 6 = .ok (.ireturn, 1) := by decide +kernel
set_option maxRecDepth 65536 in
set_option maxHeartbeats 40000000 in
theorem own_get_con (l : Launch) (Z : State) (a0 : Array Value) (hw : ∀ d ∈ tables_1, d.before a0 Z = true) (a b : Addr) (us : List Value) (n y z : Int32) (i : Nat) (h0 : Heap) (I0 : own_Ids Z h0 a b us n) (hi : y.toInt = i) (hv : us[i]? = some (.int z)) (ws : List Jvm.Cond) :
    own_Con l Z (⟨"com/example/secure_model_views/securemodelviews/Ids", "get", "(I)I"⟩ : MethodName) prog_3_method_4_code 2 (some .int) ({ frames := 0, cells := 0, slots := 0, locals := 0 } : Room) #[(.ref a), (.int y)] h0 (own_PQ h0 (.int z)) ws := by
  refine own_con (F := fun m => (mkF m 0 #[.val (.ref a), .val (.int y)] [])) (own_pn (by first | (simp [plainName, overriddenIn]; done) | decide +kernel)) (fun m => by first | (simp [entryFrame, mkF, argsToLocals, Value.category]; done) | rfl) ?_
  intro p e s m below meth c T X hx hby hml hZ hown hnm hret hlk eT
  show own_Go p e below (own_Out s (own_PQ h0 (.int z)) ({ frames := 0, cells := 0, slots := 0, locals := 0 } : Room).cells ({ frames := 0, cells := 0, slots := 0, locals := 0 } : Room).slots) (T.setTop (mkF m 0 #[.val (.ref a), .val (.int y)] []))
  obtain ⟨o_E0, o_ids0, o_size0, r_A0, r_E0, ne_a_b⟩ := I0
  refine own_go (fun _ => XS.aloadN X.here hx rfl (hb hby d10_0) rfl rfl) ?_
  show own_Go p e below _ (T.setTop (mkF m 1 #[.val (.ref a), .val (.int y)] [(.ref a)]))
  obtain ⟨T1, X1, e1, st1⟩ := getF X hx hZ hown (host := "") (Or.inl (hw _ (List.mem_of_getElem? (i := 11) rfl))) Via.refl eT o_ids0 (g := (mkF m 1 #[.val (.ref a), .val (.int y)] [(.ref a)])) rfl rfl (hb hby d10_1)
  refine own_go st1 ?_
  show own_Go p e below _ (T1.setTop (mkF m 4 #[.val (.ref a), .val (.int y)] [(.ref b)]))
  refine own_go (fun _ => XS.iloadN X1.here hx rfl (hb hby d10_4) rfl) ?_
  show own_Go p e below _ (T1.setTop (mkF m 5 #[.val (.ref a), .val (.int y)] [(.int y), (.ref b)]))
  refine own_go (own_ldI X1 hx hZ e1 r_A0 (g := (mkF m 5 #[.val (.ref a), .val (.int y)] [(.int y), (.ref b)])) rfl rfl (hb hby d10_5) i hi (x := (.int z)) hv) ?_
  show own_Go p e below _ (T1.setTop (mkF m 6 #[.val (.ref a), .val (.int y)] [(.int z)]))
  exact own_iret X1 hx hlk hret (Or.inl rfl) rfl (hb hby d10_6) (Nat.zero_le _) (Nat.zero_le _) ⟨rfl, e1, rfl⟩
theorem d9_0 : decode method_3_code 0 = .ok (.iload_n 2, 1) := by decide +kernel
theorem d9_1 : decode method_3_code 1 = .ok (.iload_n 1, 1) := by decide +kernel
theorem d9_2 : decode method_3_code 2 = .ok (.if_icmp .ge 16, 3) := by decide +kernel
theorem d9_5 : decode method_3_code 5 = .ok (.aload_n 0, 1) := by decide +kernel
theorem d9_6 : decode method_3_code 6 = .ok (.iload_n 2, 1) := by decide +kernel
theorem d9_7 : decode method_3_code 7 = .ok (.iaload, 1) := by decide +kernel
theorem d9_8 : decode method_3_code 8 = .ok (.iload_n 3, 1) := by decide +kernel
theorem d9_9 : decode method_3_code 9 = .ok (.iload 4, 2) := by decide +kernel
theorem d9_11 : decode method_3_code 11 = .ok (.iload_n 2, 1) := by decide +kernel
theorem d9_12 : decode method_3_code 12 = .ok (.invokestatic 7, 3) := by decide +kernel
theorem d9_15 : decode method_3_code 15 = .ok (.if_icmp .ne 7, 3) := by decide +kernel
theorem d9_18 : decode method_3_code 18 = .ok (.iconst 1, 1) := by decide +kernel
theorem d9_19 : decode method_3_code 19 = .ok (.goto 4, 3) := by decide +kernel
theorem d9_23 : decode method_3_code 23 = .ok (.ireturn, 1) := by decide +kernel
set_option maxRecDepth 65536 in
set_option maxHeartbeats 40000000 in
theorem own_ok_con (l : Launch) (Z : State) (a0 : Array Value) (hw : ∀ d ∈ tables_1, d.before a0 Z = true) (r : Addr) (vs : List Value) (n k y0 y1 : Int32) (i : Nat) (h0 : Heap) (r_A0 : own_AV Z h0 r .int vs) (hn : n.toInt = vs.length) (hk : k.toInt = i) (hv : i < vs.length → vs[i]? = some (.int (own_v y0 y1 k))) (ws : List Jvm.Cond) :
    own_Con l Z (⟨"com/example/secure_model_views/securemodelviews/IdsAddPinLaw", "ok", "([IIIII)Z"⟩ : MethodName) method_3_code 5 (some .boolean) ({ frames := 1, cells := 0, slots := 0, locals := 30 } : Room) #[(.ref r), (.int n), (.int k), (.int y0), (.int y1)] h0 (own_PQ h0 (.int 1)) ws := by
  refine own_con (F := fun m => (mkF m 0 #[.val (.ref r), .val (.int n), .val (.int k), .val (.int y0), .val (.int y1)] [])) (own_pn (by first | (simp [plainName, overriddenIn]; done) | decide +kernel)) (fun m => by first | (simp [entryFrame, mkF, argsToLocals, Value.category]; done) | rfl) ?_
  intro p e s m below meth c T X hx hby hml hZ hown hnm hret hlk eT
  show own_Go p e below (own_Out s (own_PQ h0 (.int 1)) ({ frames := 1, cells := 0, slots := 0, locals := 30 } : Room).cells ({ frames := 1, cells := 0, slots := 0, locals := 30 } : Room).slots) (T.setTop (mkF m 0 #[.val (.ref r), .val (.int n), .val (.int k), .val (.int y0), .val (.int y1)] []))
  refine own_go (fun _ => XS.iloadN X.here hx rfl (hb hby d9_0) rfl) ?_
  show own_Go p e below _ (T.setTop (mkF m 1 #[.val (.ref r), .val (.int n), .val (.int k), .val (.int y0), .val (.int y1)] [(.int k)]))
  refine own_go (fun _ => XS.iloadN X.here hx rfl (hb hby d9_1) rfl) ?_
  show own_Go p e below _ (T.setTop (mkF m 2 #[.val (.ref r), .val (.int n), .val (.int k), .val (.int y0), .val (.int y1)] [(.int n), (.int k)]))
  by_cases hc : k < n
  · skip
    have hl : i < vs.length := by rw [Int32.lt_iff_toInt_lt, hk, hn] at hc; omega
    refine own_go (fun _ => XS.icmpNo X.here hx rfl (hb hby d9_2) rfl (XT.ii_ge_f hc)) ?_
    show own_Go p e below _ (T.setTop (mkF m 5 #[.val (.ref r), .val (.int n), .val (.int k), .val (.int y0), .val (.int y1)] []))
    refine own_go (fun _ => XS.aloadN X.here hx rfl (hb hby d9_5) rfl rfl) ?_
    show own_Go p e below _ (T.setTop (mkF m 6 #[.val (.ref r), .val (.int n), .val (.int k), .val (.int y0), .val (.int y1)] [(.ref r)]))
    refine own_go (fun _ => XS.iloadN X.here hx rfl (hb hby d9_6) rfl) ?_
    show own_Go p e below _ (T.setTop (mkF m 7 #[.val (.ref r), .val (.int n), .val (.int k), .val (.int y0), .val (.int y1)] [(.int k), (.ref r)]))
    refine own_go (own_ldI X hx hZ eT r_A0 (g := (mkF m 7 #[.val (.ref r), .val (.int n), .val (.int k), .val (.int y0), .val (.int y1)] [(.int k), (.ref r)])) rfl rfl (hb hby d9_7) i hk (x := (.int (own_v y0 y1 k))) (hv hl)) ?_
    show own_Go p e below _ (T.setTop (mkF m 8 #[.val (.ref r), .val (.int n), .val (.int k), .val (.int y0), .val (.int y1)] [(.int (own_v y0 y1 k))]))
    refine own_go (fun _ => XS.iloadN X.here hx rfl (hb hby d9_8) rfl) ?_
    show own_Go p e below _ (T.setTop (mkF m 9 #[.val (.ref r), .val (.int n), .val (.int k), .val (.int y0), .val (.int y1)] [(.int y0), (.int (own_v y0 y1 k))]))
    refine own_go (fun _ => XS.iload X.here hx rfl (hb hby d9_9) rfl) ?_
    show own_Go p e below _ (T.setTop (mkF m 11 #[.val (.ref r), .val (.int n), .val (.int k), .val (.int y0), .val (.int y1)] [(.int y1), (.int y0), (.int (own_v y0 y1 k))]))
    refine own_go (fun _ => XS.iloadN X.here hx rfl (hb hby d9_11) rfl) ?_
    show own_Go p e below _ (T.setTop (mkF m 12 #[.val (.ref r), .val (.int n), .val (.int k), .val (.int y0), .val (.int y1)] [(.int k), (.int y1), (.int y0), (.int (own_v y0 y1 k))]))
    obtain ⟨T1, X1, e1, st1⟩ := own_callSP X hx hZ hown (argsL := [(.int y0), (.int y1), (.int k)]) (rest := [(.int (own_v y0 y1 k))]) (own_v_con l Z a0 hw y0 y1 k h0 []) eT (hw _ (List.mem_of_getElem? (i := 13) rfl)) (hw _ (List.mem_of_getElem? (i := 14) rfl)) (hw _ (List.mem_of_getElem? (i := 15) rfl)) (hw _ (List.mem_of_getElem? (i := 16) rfl)) (by decide) (by decide +kernel : parseMethodDescriptor "(III)I" = some ⟨[.int, .int, .int], some .int⟩) rfl (g := (mkF m 12 #[.val (.ref r), .val (.int n), .val (.int k), .val (.int y0), .val (.int y1)] [(.int k), (.int y1), (.int y0), (.int (own_v y0 y1 k))])) rfl (by rw [hml]; rfl) rfl 1 (by show 2 * 0 + _ ≤ _; exact Nat.le_of_eq rfl) (hb hby d9_12) (by decide) (by decide) rfl rfl (by decide) (by decide)
    refine own_go st1 ?_
    show own_Go p e below _ (T1.setTop (mkF m 15 #[.val (.ref r), .val (.int n), .val (.int k), .val (.int y0), .val (.int y1)] [(.int (own_v y0 y1 k)), (.int (own_v y0 y1 k))]))
    refine own_go (fun _ => XS.icmpNo X1.here hx rfl (hb hby d9_15) rfl (XT.ii_ne_f rfl)) ?_
    show own_Go p e below _ (T1.setTop (mkF m 18 #[.val (.ref r), .val (.int n), .val (.int k), .val (.int y0), .val (.int y1)] []))
    refine own_go (fun _ => XS.iconst X1.here hx rfl (hb hby d9_18)) ?_
    show own_Go p e below _ (T1.setTop (mkF m 19 #[.val (.ref r), .val (.int n), .val (.int k), .val (.int y0), .val (.int y1)] [(.int (1 : Int32))]))
    refine own_go (fun _ => XS.goto X1.here hx rfl (pc0 := 19) (pc' := 23) rfl (hb hby d9_19) (by decide) (by decide)) ?_
    show own_Go p e below _ (T1.setTop (mkF m 23 #[.val (.ref r), .val (.int n), .val (.int k), .val (.int y0), .val (.int y1)] [(.int (1 : Int32))]))
    exact own_iret X1 hx hlk hret (Or.inr (Or.inl rfl)) rfl (hb hby d9_23) (Nat.zero_le _) (Nat.zero_le _) ⟨rfl, e1, rfl⟩
  · skip
    refine own_go (fun _ => XS.icmpYes X.here hx rfl (pc0 := 2) (pc' := 18) rfl (hb hby d9_2) rfl (XT.ii_ge_t hc) (by decide) (by decide)) ?_
    show own_Go p e below _ (T.setTop (mkF m 18 #[.val (.ref r), .val (.int n), .val (.int k), .val (.int y0), .val (.int y1)] []))
    refine own_go (fun _ => XS.iconst X.here hx rfl (hb hby d9_18)) ?_
    show own_Go p e below _ (T.setTop (mkF m 19 #[.val (.ref r), .val (.int n), .val (.int k), .val (.int y0), .val (.int y1)] [(.int (1 : Int32))]))
    refine own_go (fun _ => XS.goto X.here hx rfl (pc0 := 19) (pc' := 23) rfl (hb hby d9_19) (by decide) (by decide)) ?_
    show own_Go p e below _ (T.setTop (mkF m 23 #[.val (.ref r), .val (.int n), .val (.int k), .val (.int y0), .val (.int y1)] [(.int (1 : Int32))]))
    exact own_iret X hx hlk hret (Or.inr (Or.inl rfl)) rfl (hb hby d9_23) (Nat.zero_le _) (Nat.zero_le _) ⟨rfl, eT, rfl⟩
theorem own_18 (x : Int32) : ∃ nn : Nat, nn < 18 ∧ ((x &&& (2147483647 : Int32)) - ((x &&& (2147483647 : Int32)) / (18 : Int32)) * (18 : Int32)).toInt = (nn : Int) := by
  have hz := (c_and x (2147483647 : Int32) (by decide)).1
  generalize x &&& (2147483647 : Int32) = z at *
  have d1 := (c_idiv z 18 18 (by decide) (by decide)).1 hz
  have d2 := c_imul (z / (18 : Int32)) 18
  have d3 := c_isub z ((z / (18 : Int32)) * (18 : Int32))
  have b1 := z.toInt_lt
  have b2 := ((z / (18 : Int32)) * (18 : Int32)).toInt_lt
  have b3 := ((z / (18 : Int32)) * (18 : Int32)).le_toInt
  have b4 := (z - (z / (18 : Int32)) * (18 : Int32)).toInt_lt
  have b5 := (z - (z / (18 : Int32)) * (18 : Int32)).le_toInt
  have l5 : (18 : Int32).toInt = 18 := by decide
  rw [l5, d1] at d2
  exact ⟨(z - (z / (18 : Int32)) * (18 : Int32)).toInt.toNat, by omega, by omega⟩
/-- the first k components are the law's values -/
def own_Pre (x0 x1 : Int32) (us : List Value) (k : Nat) : Prop := ∀ i, i < k → us[i]? = some (.int (own_v x0 x1 (Int32.ofNat i)))
theorem own_Pre.set {x0 x1 : Int32} {us : List Value} {k : Nat} (H : own_Pre x0 x1 us k) (hk : k < us.length) : own_Pre x0 x1 (us.set k (.int (own_v x0 x1 (Int32.ofNat k)))) (k + 1) := fun i hi => by
  by_cases q : k = i
  · subst q; rw [List.getElem?_set_self hk]
  · rw [List.getElem?_set_ne q]; exact H i (by omega)
theorem own_Pre.app {x0 x1 : Int32} {us vs : List Value} {k : Nat} (H : own_Pre x0 x1 us k) (hk : k ≤ us.length) : own_Pre x0 x1 (us ++ vs) k := fun i hi => by
  rw [List.getElem?_append_left (by omega)]; exact H i hi
theorem own_sub1 {n : Int32} {k : Nat} (hn : n.toInt = ((k + 1 : Nat) : Int)) : (n - (1 : Int32)).toInt = (k : Int) ∧ n - (1 : Int32) = Int32.ofNat k := by
  have d := c_isub n 1
  have b1 := n.toInt_lt
  have b2 := (n - (1 : Int32)).toInt_lt
  have b3 := (n - (1 : Int32)).le_toInt
  have l1 : (1 : Int32).toInt = 1 := by decide
  rw [l1] at d
  have e : (n - (1 : Int32)).toInt = (k : Int) := by omega
  refine ⟨e, Int32.toInt_inj.mp ?_⟩
  rw [e]; exact (Int32.toInt_ofNat_small (by omega)).symm
def own_Q1 (n0 : Nat) (v : Option Value) (h : Heap) (L : List Loc) : Prop := v = some (.int 1) ∧ Fr n0 L
set_option maxRecDepth 65536 in
set_option maxHeartbeats 40000000 in
theorem own_main_con (l : Launch) (Z : State) (a0 : Array Value) (hw : ∀ d ∈ tables_1, d.before a0 Z = true) (x0 : Int32) (x1 : Int32) (x2 : Int32)  (h0 : Heap) (ws : List Jvm.Cond) :
    own_Con l Z x code maxLocals ret room_1 #[(.int x0), (.int x1), (.int x2)] h0 (own_Q1 h0.size) ws := by
  refine own_con (F := fun m => (mkF m 0 #[.val (.int x0), .val (.int x1), .val (.int x2), .unset, .unset, .unset] [])) (own_pn (by first | (simp [plainName, overriddenIn]; done) | decide +kernel)) (fun m => by first | (simp [entryFrame, mkF, argsToLocals, Value.category, maxLocals]; done) | rfl) ?_
  intro p e s m below meth c T X hx hby hml hZ hown hnm hret hlk eT
  show own_Go p e below (own_Out s (own_Q1 h0.size) room_1.cells room_1.slots) (T.setTop (mkF m 0 #[.val (.int x0), .val (.int x1), .val (.int x2), .unset, .unset, .unset] []))
  have N0 := Fr.nil h0.size
  refine own_go (fun _ => XS.iloadN X.here hx rfl (hb hby at_0) rfl) ?_
  show own_Go p e below _ (T.setTop (mkF m 1 #[.val (.int x0), .val (.int x1), .val (.int x2), .unset, .unset, .unset] [(.int x2)]))
  refine own_go (X.ldcInt hx hown (mvT hZ (hw _ (List.mem_of_getElem? (i := 0) rfl))) (g := (mkF m 1 #[.val (.int x0), .val (.int x1), .val (.int x2), .unset, .unset, .unset] [(.int x2)])) rfl (hb hby at_1)) ?_
  show own_Go p e below _ (T.setTop (mkF m 3 #[.val (.int x0), .val (.int x1), .val (.int x2), .unset, .unset, .unset] [(.int (2147483647 : Int32)), (.int x2)]))
  refine own_go (fun _ => XS.iand X.here hx rfl (hb hby at_3) rfl) ?_
  show own_Go p e below _ (T.setTop (mkF m 4 #[.val (.int x0), .val (.int x1), .val (.int x2), .unset, .unset, .unset] [(.int (x2 &&& (2147483647 : Int32)))]))
  refine own_go (fun _ => XS.bipush X.here hx rfl (hb hby at_4)) ?_
  show own_Go p e below _ (T.setTop (mkF m 6 #[.val (.int x0), .val (.int x1), .val (.int x2), .unset, .unset, .unset] [(.int (18 : Int32)), (.int (x2 &&& (2147483647 : Int32)))]))
  refine own_go (fun _ => XS.irem X.here hx rfl (hb hby at_6) rfl (by decide)) ?_
  show own_Go p e below _ (T.setTop (mkF m 7 #[.val (.int x0), .val (.int x1), .val (.int x2), .unset, .unset, .unset] [(.int ((x2 &&& (2147483647 : Int32)) - ((x2 &&& (2147483647 : Int32)) / (18 : Int32)) * (18 : Int32)))]))
  obtain ⟨nn, hnn, hn⟩ := own_18 x2
  generalize ((x2 &&& (2147483647 : Int32)) - ((x2 &&& (2147483647 : Int32)) / (18 : Int32)) * (18 : Int32)) = n at *
  show own_Go p e below _ (T.setTop (mkF m 7 #[.val (.int x0), .val (.int x1), .val (.int x2), .unset, .unset, .unset] [(.int n)]))
  have C17 : ∀ (T : State) (locs : List Loc) (X : Stand p l e room_1 s m #[(.int x0), (.int x1), (.int x2)] below meth c T locs 4 100) (N : Fr h0.size locs) (a b : Addr) (us : List Value) (I : own_Ids Z T.heap a b us n) (ga : h0.size ≤ a) (gb : h0.size ≤ b) (hl : nn ≤ us.length) (hc : us.length ≤ 32) (H : own_Pre x0 x1 us nn), own_Go p e below (own_Out s (own_Q1 h0.size) room_1.cells room_1.slots) (T.setTop (mkF m 310 #[.val (.int x0), .val (.int x1), .val (.int x2), .val (.int n), .val (.ref a), .unset] [])) := by
    intro T locs X N a b us I ga gb hl hc H
    show own_Go p e below _ (T.setTop (mkF m 310 #[.val (.int x0), .val (.int x1), .val (.int x2), .val (.int n), .val (.ref a), .unset] []))
    refine own_go (fun _ => XS.aload X.here hx rfl (hb hby at_310) rfl rfl) ?_
    show own_Go p e below _ (T.setTop (mkF m 312 #[.val (.int x0), .val (.int x1), .val (.int x2), .val (.int n), .val (.ref a), .unset] [(.ref a)]))
    have ex0 := I.1
    obtain ⟨_, T1, L1, X1, ⟨rfl, eh1, rfl⟩, st1⟩ := own_callV X hx hZ hown (argsL := []) (rest := []) (own_size_con l Z a0 hw a b us n T.heap I []) rfl ex0 (hw _ (List.mem_of_getElem? (i := 24) rfl)) (hw _ (List.mem_of_getElem? (i := 25) rfl)) (hw _ (List.mem_of_getElem? (i := 27) rfl)) (hw _ (List.mem_of_getElem? (i := 26) rfl)) (hw _ (List.mem_of_getElem? (i := 3) rfl)) (hw _ (List.mem_of_getElem? (i := 28) rfl)) (notFace_of_selects (args := #[]) (mvT hZ (hw _ (List.mem_of_getElem? (i := 27) rfl)))) (by decide) (by decide +kernel : parseMethodDescriptor "()I" = some ⟨[], some .int⟩) rfl (g := (mkF m 312 #[.val (.int x0), .val (.int x1), .val (.int x2), .val (.int n), .val (.ref a), .unset] [(.ref a)])) rfl (by rw [hml]; rfl) rfl 0 (by show 2 * 0 + _ ≤ _; exact Nat.le_of_eq rfl) (hb hby at_312) (by decide) (by decide) (by decide) (by decide)
    rw [List.append_nil] at X1
    refine own_go st1 ?_
    show own_Go p e below _ (T1.setTop (mkF m 315 #[.val (.int x0), .val (.int x1), .val (.int x2), .val (.int n), .val (.ref a), .unset] [(.int n)]))
    refine own_go (fun _ => XS.iloadN X1.here hx rfl (hb hby at_315) rfl) ?_
    show own_Go p e below _ (T1.setTop (mkF m 316 #[.val (.int x0), .val (.int x1), .val (.int x2), .val (.int n), .val (.ref a), .unset] [(.int n), (.int n)]))
    refine own_go (fun _ => XS.icmpYes X1.here hx rfl (pc0 := 316) (pc' := 321) rfl (hb hby at_316) rfl (XT.ii_eq_t rfl) (by decide) (by decide)) ?_
    show own_Go p e below _ (T1.setTop (mkF m 321 #[.val (.int x0), .val (.int x1), .val (.int x2), .val (.int n), .val (.ref a), .unset] []))
    refine own_go (fun _ => XS.aload X1.here hx rfl (hb hby at_321) rfl rfl) ?_
    show own_Go p e below _ (T1.setTop (mkF m 323 #[.val (.int x0), .val (.int x1), .val (.int x2), .val (.int n), .val (.ref a), .unset] [(.ref a)]))
    have gn : h0.size ≤ T.heap.size := Nat.le_trans ga (Nat.le_of_lt I.1.lt)
    obtain ⟨r, hr⟩ : ∃ z, z = T.heap.size := ⟨_, rfl⟩
    obtain ⟨_, T2, L2, X2, ⟨rfl, Nc2, Kc2, Ac2, Cc2⟩, st2⟩ := own_callV X1 hx hZ hown (argsL := []) (rest := []) (own_toArray_con l Z a0 hw a b us n nn h0.size T.heap I hn hl hc gn []) eh1 ex0 (hw _ (List.mem_of_getElem? (i := 29) rfl)) (hw _ (List.mem_of_getElem? (i := 30) rfl)) (hw _ (List.mem_of_getElem? (i := 32) rfl)) (hw _ (List.mem_of_getElem? (i := 31) rfl)) (hw _ (List.mem_of_getElem? (i := 3) rfl)) (hw _ (List.mem_of_getElem? (i := 33) rfl)) (notFace_of_selects (args := #[]) (mvT hZ (hw _ (List.mem_of_getElem? (i := 32) rfl)))) (by decide) (by decide +kernel : parseMethodDescriptor "()[I" = some ⟨[], (some (.array .int))⟩) rfl (g := (mkF m 323 #[.val (.int x0), .val (.int x1), .val (.int x2), .val (.int n), .val (.ref a), .unset] [(.ref a)])) rfl (by rw [hml]; rfl) rfl 0 (by show 2 * 0 + _ ≤ _; exact Nat.le_of_eq rfl) (hb hby at_323) (by decide) (by decide) (by decide) (by decide)
    have N2 := Fr.app N Nc2
    have o_E_2 := ex0.keep Kc2
    rw [← hr] at Ac2 Cc2 st2
    refine own_go st2 ?_
    show own_Go p e below _ (T2.setTop (mkF m 326 #[.val (.int x0), .val (.int x1), .val (.int x2), .val (.int n), .val (.ref a), .unset] [(.ref r)]))
    have I2 : own_Ids Z T2.heap a b us n := ⟨I.1.keep Kc2, I.2.1.keep Kc2 nin0, I.2.2.1.keep Kc2 nin0, I.2.2.2.1.keep Kc2 nin0, I.2.2.2.2.1.keep Kc2, I.2.2.2.2.2⟩
    have tl : (us.take nn).length = nn := by rw [List.length_take]; omega
    have hz : n.toInt = (us.take nn).length := by rw [tl, hn]
    have TV : ∀ i, i < (us.take nn).length → (us.take nn)[i]? = some (.int (own_v x0 x1 (Int32.ofNat i))) := fun i hi => by rw [List.getElem?_take_of_lt (by omega)]; exact H i (by omega)
    refine own_go (fun _ => XS.astore X2.here hx rfl (hb hby at_326) rfl rfl (l' := #[.val (.int x0), .val (.int x1), .val (.int x2), .val (.int n), .val (.ref a), .val (.ref r)]) rfl) ?_
    show own_Go p e below _ (T2.setTop (mkF m 328 #[.val (.int x0), .val (.int x1), .val (.int x2), .val (.int n), .val (.ref a), .val (.ref r)] []))
    refine own_go (fun _ => XS.aload X2.here hx rfl (hb hby at_328) rfl rfl) ?_
    show own_Go p e below _ (T2.setTop (mkF m 330 #[.val (.int x0), .val (.int x1), .val (.int x2), .val (.int n), .val (.ref a), .val (.ref r)] [(.ref r)]))
    refine own_go (own_len X2 hx hZ rfl Ac2 (g := (mkF m 330 #[.val (.int x0), .val (.int x1), .val (.int x2), .val (.int n), .val (.ref a), .val (.ref r)] [(.ref r)])) rfl rfl (hb hby at_330) n hz) ?_
    show own_Go p e below _ (T2.setTop (mkF m 331 #[.val (.int x0), .val (.int x1), .val (.int x2), .val (.int n), .val (.ref a), .val (.ref r)] [(.int n)]))
    refine own_go (fun _ => XS.iloadN X2.here hx rfl (hb hby at_331) rfl) ?_
    show own_Go p e below _ (T2.setTop (mkF m 332 #[.val (.int x0), .val (.int x1), .val (.int x2), .val (.int n), .val (.ref a), .val (.ref r)] [(.int n), (.int n)]))
    refine own_go (fun _ => XS.icmpYes X2.here hx rfl (pc0 := 332) (pc' := 337) rfl (hb hby at_332) rfl (XT.ii_eq_t rfl) (by decide) (by decide)) ?_
    show own_Go p e below _ (T2.setTop (mkF m 337 #[.val (.int x0), .val (.int x1), .val (.int x2), .val (.int n), .val (.ref a), .val (.ref r)] []))
    refine own_go (fun _ => XS.aload X2.here hx rfl (hb hby at_337) rfl rfl) ?_
    show own_Go p e below _ (T2.setTop (mkF m 339 #[.val (.int x0), .val (.int x1), .val (.int x2), .val (.int n), .val (.ref a), .val (.ref r)] [(.ref r)]))
    refine own_go (fun _ => XS.iloadN X2.here hx rfl (hb hby at_339) rfl) ?_
    show own_Go p e below _ (T2.setTop (mkF m 340 #[.val (.int x0), .val (.int x1), .val (.int x2), .val (.int n), .val (.ref a), .val (.ref r)] [(.int n), (.ref r)]))
    refine own_go (fun _ => XS.iconst X2.here hx rfl (hb hby at_340)) ?_
    show own_Go p e below _ (T2.setTop (mkF m 341 #[.val (.int x0), .val (.int x1), .val (.int x2), .val (.int n), .val (.ref a), .val (.ref r)] [(.int (0 : Int32)), (.int n), (.ref r)]))
    refine own_go (fun _ => XS.iloadN X2.here hx rfl (hb hby at_341) rfl) ?_
    show own_Go p e below _ (T2.setTop (mkF m 342 #[.val (.int x0), .val (.int x1), .val (.int x2), .val (.int n), .val (.ref a), .val (.ref r)] [(.int x0), (.int (0 : Int32)), (.int n), (.ref r)]))
    refine own_go (fun _ => XS.iloadN X2.here hx rfl (hb hby at_342) rfl) ?_
    show own_Go p e below _ (T2.setTop (mkF m 343 #[.val (.int x0), .val (.int x1), .val (.int x2), .val (.int n), .val (.ref a), .val (.ref r)] [(.int x1), (.int x0), (.int (0 : Int32)), (.int n), (.ref r)]))
    obtain ⟨_, T3, L3, X3, ⟨rfl, eh3, rfl⟩, st3⟩ := own_callS X2 hx hZ hown (argsL := [(.ref r), (.int n), (.int (0 : Int32)), (.int x0), (.int x1)]) (rest := []) (own_ok_con l Z a0 hw r (us.take nn) n (0 : Int32) x0 x1 0 T2.heap Ac2 hz (by decide) (TV 0) []) rfl (hw _ (List.mem_of_getElem? (i := 46) rfl)) (hw _ (List.mem_of_getElem? (i := 47) rfl)) (hw _ (List.mem_of_getElem? (i := 15) rfl)) (hw _ (List.mem_of_getElem? (i := 48) rfl)) (by decide) (by decide +kernel : parseMethodDescriptor "([IIIII)Z" = some ⟨[(.array .int), .int, .int, .int, .int], some .boolean⟩) rfl (g := (mkF m 343 #[.val (.int x0), .val (.int x1), .val (.int x2), .val (.int n), .val (.ref a), .val (.ref r)] [(.int x1), (.int x0), (.int (0 : Int32)), (.int n), (.ref r)])) rfl (by rw [hml]; rfl) rfl 0 (by show 2 * 0 + _ ≤ _; exact Nat.le_of_eq rfl) (hb hby at_343) (by decide) (by decide) (by decide) (by decide)
    rw [List.append_nil] at X3
    refine own_go st3 ?_
    show own_Go p e below _ (T3.setTop (mkF m 346 #[.val (.int x0), .val (.int x1), .val (.int x2), .val (.int n), .val (.ref a), .val (.ref r)] [(.int (1 : Int32))]))
    refine own_go (fun _ => XS.ifYes X3.here hx rfl (pc0 := 346) (pc' := 351) rfl (hb hby at_346) rfl (XT.i0_ne_t (by decide)) (by decide) (by decide)) ?_
    show own_Go p e below _ (T3.setTop (mkF m 351 #[.val (.int x0), .val (.int x1), .val (.int x2), .val (.int n), .val (.ref a), .val (.ref r)] []))
    refine own_go (fun _ => XS.aload X3.here hx rfl (hb hby at_351) rfl rfl) ?_
    show own_Go p e below _ (T3.setTop (mkF m 353 #[.val (.int x0), .val (.int x1), .val (.int x2), .val (.int n), .val (.ref a), .val (.ref r)] [(.ref r)]))
    refine own_go (fun _ => XS.iloadN X3.here hx rfl (hb hby at_353) rfl) ?_
    show own_Go p e below _ (T3.setTop (mkF m 354 #[.val (.int x0), .val (.int x1), .val (.int x2), .val (.int n), .val (.ref a), .val (.ref r)] [(.int n), (.ref r)]))
    refine own_go (fun _ => XS.iconst X3.here hx rfl (hb hby at_354)) ?_
    show own_Go p e below _ (T3.setTop (mkF m 355 #[.val (.int x0), .val (.int x1), .val (.int x2), .val (.int n), .val (.ref a), .val (.ref r)] [(.int (1 : Int32)), (.int n), (.ref r)]))
    refine own_go (fun _ => XS.iloadN X3.here hx rfl (hb hby at_355) rfl) ?_
    show own_Go p e below _ (T3.setTop (mkF m 356 #[.val (.int x0), .val (.int x1), .val (.int x2), .val (.int n), .val (.ref a), .val (.ref r)] [(.int x0), (.int (1 : Int32)), (.int n), (.ref r)]))
    refine own_go (fun _ => XS.iloadN X3.here hx rfl (hb hby at_356) rfl) ?_
    show own_Go p e below _ (T3.setTop (mkF m 357 #[.val (.int x0), .val (.int x1), .val (.int x2), .val (.int n), .val (.ref a), .val (.ref r)] [(.int x1), (.int x0), (.int (1 : Int32)), (.int n), (.ref r)]))
    obtain ⟨_, T4, L4, X4, ⟨rfl, eh4, rfl⟩, st4⟩ := own_callS X3 hx hZ hown (argsL := [(.ref r), (.int n), (.int (1 : Int32)), (.int x0), (.int x1)]) (rest := []) (own_ok_con l Z a0 hw r (us.take nn) n (1 : Int32) x0 x1 1 T2.heap Ac2 hz (by decide) (TV 1) []) eh3 (hw _ (List.mem_of_getElem? (i := 46) rfl)) (hw _ (List.mem_of_getElem? (i := 47) rfl)) (hw _ (List.mem_of_getElem? (i := 15) rfl)) (hw _ (List.mem_of_getElem? (i := 48) rfl)) (by decide) (by decide +kernel : parseMethodDescriptor "([IIIII)Z" = some ⟨[(.array .int), .int, .int, .int, .int], some .boolean⟩) rfl (g := (mkF m 357 #[.val (.int x0), .val (.int x1), .val (.int x2), .val (.int n), .val (.ref a), .val (.ref r)] [(.int x1), (.int x0), (.int (1 : Int32)), (.int n), (.ref r)])) rfl (by rw [hml]; rfl) rfl 0 (by show 2 * 0 + _ ≤ _; exact Nat.le_of_eq rfl) (hb hby at_357) (by decide) (by decide) (by decide) (by decide)
    rw [List.append_nil] at X4
    refine own_go st4 ?_
    show own_Go p e below _ (T4.setTop (mkF m 360 #[.val (.int x0), .val (.int x1), .val (.int x2), .val (.int n), .val (.ref a), .val (.ref r)] [(.int (1 : Int32))]))
    refine own_go (fun _ => XS.ifYes X4.here hx rfl (pc0 := 360) (pc' := 365) rfl (hb hby at_360) rfl (XT.i0_ne_t (by decide)) (by decide) (by decide)) ?_
    show own_Go p e below _ (T4.setTop (mkF m 365 #[.val (.int x0), .val (.int x1), .val (.int x2), .val (.int n), .val (.ref a), .val (.ref r)] []))
    refine own_go (fun _ => XS.aload X4.here hx rfl (hb hby at_365) rfl rfl) ?_
    show own_Go p e below _ (T4.setTop (mkF m 367 #[.val (.int x0), .val (.int x1), .val (.int x2), .val (.int n), .val (.ref a), .val (.ref r)] [(.ref r)]))
    refine own_go (fun _ => XS.iloadN X4.here hx rfl (hb hby at_367) rfl) ?_
    show own_Go p e below _ (T4.setTop (mkF m 368 #[.val (.int x0), .val (.int x1), .val (.int x2), .val (.int n), .val (.ref a), .val (.ref r)] [(.int n), (.ref r)]))
    refine own_go (fun _ => XS.iconst X4.here hx rfl (hb hby at_368)) ?_
    show own_Go p e below _ (T4.setTop (mkF m 369 #[.val (.int x0), .val (.int x1), .val (.int x2), .val (.int n), .val (.ref a), .val (.ref r)] [(.int (2 : Int32)), (.int n), (.ref r)]))
    refine own_go (fun _ => XS.iloadN X4.here hx rfl (hb hby at_369) rfl) ?_
    show own_Go p e below _ (T4.setTop (mkF m 370 #[.val (.int x0), .val (.int x1), .val (.int x2), .val (.int n), .val (.ref a), .val (.ref r)] [(.int x0), (.int (2 : Int32)), (.int n), (.ref r)]))
    refine own_go (fun _ => XS.iloadN X4.here hx rfl (hb hby at_370) rfl) ?_
    show own_Go p e below _ (T4.setTop (mkF m 371 #[.val (.int x0), .val (.int x1), .val (.int x2), .val (.int n), .val (.ref a), .val (.ref r)] [(.int x1), (.int x0), (.int (2 : Int32)), (.int n), (.ref r)]))
    obtain ⟨_, T5, L5, X5, ⟨rfl, eh5, rfl⟩, st5⟩ := own_callS X4 hx hZ hown (argsL := [(.ref r), (.int n), (.int (2 : Int32)), (.int x0), (.int x1)]) (rest := []) (own_ok_con l Z a0 hw r (us.take nn) n (2 : Int32) x0 x1 2 T2.heap Ac2 hz (by decide) (TV 2) []) eh4 (hw _ (List.mem_of_getElem? (i := 46) rfl)) (hw _ (List.mem_of_getElem? (i := 47) rfl)) (hw _ (List.mem_of_getElem? (i := 15) rfl)) (hw _ (List.mem_of_getElem? (i := 48) rfl)) (by decide) (by decide +kernel : parseMethodDescriptor "([IIIII)Z" = some ⟨[(.array .int), .int, .int, .int, .int], some .boolean⟩) rfl (g := (mkF m 371 #[.val (.int x0), .val (.int x1), .val (.int x2), .val (.int n), .val (.ref a), .val (.ref r)] [(.int x1), (.int x0), (.int (2 : Int32)), (.int n), (.ref r)])) rfl (by rw [hml]; rfl) rfl 0 (by show 2 * 0 + _ ≤ _; exact Nat.le_of_eq rfl) (hb hby at_371) (by decide) (by decide) (by decide) (by decide)
    rw [List.append_nil] at X5
    refine own_go st5 ?_
    show own_Go p e below _ (T5.setTop (mkF m 374 #[.val (.int x0), .val (.int x1), .val (.int x2), .val (.int n), .val (.ref a), .val (.ref r)] [(.int (1 : Int32))]))
    refine own_go (fun _ => XS.ifYes X5.here hx rfl (pc0 := 374) (pc' := 379) rfl (hb hby at_374) rfl (XT.i0_ne_t (by decide)) (by decide) (by decide)) ?_
    show own_Go p e below _ (T5.setTop (mkF m 379 #[.val (.int x0), .val (.int x1), .val (.int x2), .val (.int n), .val (.ref a), .val (.ref r)] []))
    refine own_go (fun _ => XS.aload X5.here hx rfl (hb hby at_379) rfl rfl) ?_
    show own_Go p e below _ (T5.setTop (mkF m 381 #[.val (.int x0), .val (.int x1), .val (.int x2), .val (.int n), .val (.ref a), .val (.ref r)] [(.ref r)]))
    refine own_go (fun _ => XS.iloadN X5.here hx rfl (hb hby at_381) rfl) ?_
    show own_Go p e below _ (T5.setTop (mkF m 382 #[.val (.int x0), .val (.int x1), .val (.int x2), .val (.int n), .val (.ref a), .val (.ref r)] [(.int n), (.ref r)]))
    refine own_go (fun _ => XS.iconst X5.here hx rfl (hb hby at_382)) ?_
    show own_Go p e below _ (T5.setTop (mkF m 383 #[.val (.int x0), .val (.int x1), .val (.int x2), .val (.int n), .val (.ref a), .val (.ref r)] [(.int (3 : Int32)), (.int n), (.ref r)]))
    refine own_go (fun _ => XS.iloadN X5.here hx rfl (hb hby at_383) rfl) ?_
    show own_Go p e below _ (T5.setTop (mkF m 384 #[.val (.int x0), .val (.int x1), .val (.int x2), .val (.int n), .val (.ref a), .val (.ref r)] [(.int x0), (.int (3 : Int32)), (.int n), (.ref r)]))
    refine own_go (fun _ => XS.iloadN X5.here hx rfl (hb hby at_384) rfl) ?_
    show own_Go p e below _ (T5.setTop (mkF m 385 #[.val (.int x0), .val (.int x1), .val (.int x2), .val (.int n), .val (.ref a), .val (.ref r)] [(.int x1), (.int x0), (.int (3 : Int32)), (.int n), (.ref r)]))
    obtain ⟨_, T6, L6, X6, ⟨rfl, eh6, rfl⟩, st6⟩ := own_callS X5 hx hZ hown (argsL := [(.ref r), (.int n), (.int (3 : Int32)), (.int x0), (.int x1)]) (rest := []) (own_ok_con l Z a0 hw r (us.take nn) n (3 : Int32) x0 x1 3 T2.heap Ac2 hz (by decide) (TV 3) []) eh5 (hw _ (List.mem_of_getElem? (i := 46) rfl)) (hw _ (List.mem_of_getElem? (i := 47) rfl)) (hw _ (List.mem_of_getElem? (i := 15) rfl)) (hw _ (List.mem_of_getElem? (i := 48) rfl)) (by decide) (by decide +kernel : parseMethodDescriptor "([IIIII)Z" = some ⟨[(.array .int), .int, .int, .int, .int], some .boolean⟩) rfl (g := (mkF m 385 #[.val (.int x0), .val (.int x1), .val (.int x2), .val (.int n), .val (.ref a), .val (.ref r)] [(.int x1), (.int x0), (.int (3 : Int32)), (.int n), (.ref r)])) rfl (by rw [hml]; rfl) rfl 0 (by show 2 * 0 + _ ≤ _; exact Nat.le_of_eq rfl) (hb hby at_385) (by decide) (by decide) (by decide) (by decide)
    rw [List.append_nil] at X6
    refine own_go st6 ?_
    show own_Go p e below _ (T6.setTop (mkF m 388 #[.val (.int x0), .val (.int x1), .val (.int x2), .val (.int n), .val (.ref a), .val (.ref r)] [(.int (1 : Int32))]))
    refine own_go (fun _ => XS.ifYes X6.here hx rfl (pc0 := 388) (pc' := 393) rfl (hb hby at_388) rfl (XT.i0_ne_t (by decide)) (by decide) (by decide)) ?_
    show own_Go p e below _ (T6.setTop (mkF m 393 #[.val (.int x0), .val (.int x1), .val (.int x2), .val (.int n), .val (.ref a), .val (.ref r)] []))
    refine own_go (fun _ => XS.aload X6.here hx rfl (hb hby at_393) rfl rfl) ?_
    show own_Go p e below _ (T6.setTop (mkF m 395 #[.val (.int x0), .val (.int x1), .val (.int x2), .val (.int n), .val (.ref a), .val (.ref r)] [(.ref r)]))
    refine own_go (fun _ => XS.iloadN X6.here hx rfl (hb hby at_395) rfl) ?_
    show own_Go p e below _ (T6.setTop (mkF m 396 #[.val (.int x0), .val (.int x1), .val (.int x2), .val (.int n), .val (.ref a), .val (.ref r)] [(.int n), (.ref r)]))
    refine own_go (fun _ => XS.iconst X6.here hx rfl (hb hby at_396)) ?_
    show own_Go p e below _ (T6.setTop (mkF m 397 #[.val (.int x0), .val (.int x1), .val (.int x2), .val (.int n), .val (.ref a), .val (.ref r)] [(.int (4 : Int32)), (.int n), (.ref r)]))
    refine own_go (fun _ => XS.iloadN X6.here hx rfl (hb hby at_397) rfl) ?_
    show own_Go p e below _ (T6.setTop (mkF m 398 #[.val (.int x0), .val (.int x1), .val (.int x2), .val (.int n), .val (.ref a), .val (.ref r)] [(.int x0), (.int (4 : Int32)), (.int n), (.ref r)]))
    refine own_go (fun _ => XS.iloadN X6.here hx rfl (hb hby at_398) rfl) ?_
    show own_Go p e below _ (T6.setTop (mkF m 399 #[.val (.int x0), .val (.int x1), .val (.int x2), .val (.int n), .val (.ref a), .val (.ref r)] [(.int x1), (.int x0), (.int (4 : Int32)), (.int n), (.ref r)]))
    obtain ⟨_, T7, L7, X7, ⟨rfl, eh7, rfl⟩, st7⟩ := own_callS X6 hx hZ hown (argsL := [(.ref r), (.int n), (.int (4 : Int32)), (.int x0), (.int x1)]) (rest := []) (own_ok_con l Z a0 hw r (us.take nn) n (4 : Int32) x0 x1 4 T2.heap Ac2 hz (by decide) (TV 4) []) eh6 (hw _ (List.mem_of_getElem? (i := 46) rfl)) (hw _ (List.mem_of_getElem? (i := 47) rfl)) (hw _ (List.mem_of_getElem? (i := 15) rfl)) (hw _ (List.mem_of_getElem? (i := 48) rfl)) (by decide) (by decide +kernel : parseMethodDescriptor "([IIIII)Z" = some ⟨[(.array .int), .int, .int, .int, .int], some .boolean⟩) rfl (g := (mkF m 399 #[.val (.int x0), .val (.int x1), .val (.int x2), .val (.int n), .val (.ref a), .val (.ref r)] [(.int x1), (.int x0), (.int (4 : Int32)), (.int n), (.ref r)])) rfl (by rw [hml]; rfl) rfl 0 (by show 2 * 0 + _ ≤ _; exact Nat.le_of_eq rfl) (hb hby at_399) (by decide) (by decide) (by decide) (by decide)
    rw [List.append_nil] at X7
    refine own_go st7 ?_
    show own_Go p e below _ (T7.setTop (mkF m 402 #[.val (.int x0), .val (.int x1), .val (.int x2), .val (.int n), .val (.ref a), .val (.ref r)] [(.int (1 : Int32))]))
    refine own_go (fun _ => XS.ifYes X7.here hx rfl (pc0 := 402) (pc' := 407) rfl (hb hby at_402) rfl (XT.i0_ne_t (by decide)) (by decide) (by decide)) ?_
    show own_Go p e below _ (T7.setTop (mkF m 407 #[.val (.int x0), .val (.int x1), .val (.int x2), .val (.int n), .val (.ref a), .val (.ref r)] []))
    refine own_go (fun _ => XS.aload X7.here hx rfl (hb hby at_407) rfl rfl) ?_
    show own_Go p e below _ (T7.setTop (mkF m 409 #[.val (.int x0), .val (.int x1), .val (.int x2), .val (.int n), .val (.ref a), .val (.ref r)] [(.ref r)]))
    refine own_go (fun _ => XS.iloadN X7.here hx rfl (hb hby at_409) rfl) ?_
    show own_Go p e below _ (T7.setTop (mkF m 410 #[.val (.int x0), .val (.int x1), .val (.int x2), .val (.int n), .val (.ref a), .val (.ref r)] [(.int n), (.ref r)]))
    refine own_go (fun _ => XS.iconst X7.here hx rfl (hb hby at_410)) ?_
    show own_Go p e below _ (T7.setTop (mkF m 411 #[.val (.int x0), .val (.int x1), .val (.int x2), .val (.int n), .val (.ref a), .val (.ref r)] [(.int (5 : Int32)), (.int n), (.ref r)]))
    refine own_go (fun _ => XS.iloadN X7.here hx rfl (hb hby at_411) rfl) ?_
    show own_Go p e below _ (T7.setTop (mkF m 412 #[.val (.int x0), .val (.int x1), .val (.int x2), .val (.int n), .val (.ref a), .val (.ref r)] [(.int x0), (.int (5 : Int32)), (.int n), (.ref r)]))
    refine own_go (fun _ => XS.iloadN X7.here hx rfl (hb hby at_412) rfl) ?_
    show own_Go p e below _ (T7.setTop (mkF m 413 #[.val (.int x0), .val (.int x1), .val (.int x2), .val (.int n), .val (.ref a), .val (.ref r)] [(.int x1), (.int x0), (.int (5 : Int32)), (.int n), (.ref r)]))
    obtain ⟨_, T8, L8, X8, ⟨rfl, eh8, rfl⟩, st8⟩ := own_callS X7 hx hZ hown (argsL := [(.ref r), (.int n), (.int (5 : Int32)), (.int x0), (.int x1)]) (rest := []) (own_ok_con l Z a0 hw r (us.take nn) n (5 : Int32) x0 x1 5 T2.heap Ac2 hz (by decide) (TV 5) []) eh7 (hw _ (List.mem_of_getElem? (i := 46) rfl)) (hw _ (List.mem_of_getElem? (i := 47) rfl)) (hw _ (List.mem_of_getElem? (i := 15) rfl)) (hw _ (List.mem_of_getElem? (i := 48) rfl)) (by decide) (by decide +kernel : parseMethodDescriptor "([IIIII)Z" = some ⟨[(.array .int), .int, .int, .int, .int], some .boolean⟩) rfl (g := (mkF m 413 #[.val (.int x0), .val (.int x1), .val (.int x2), .val (.int n), .val (.ref a), .val (.ref r)] [(.int x1), (.int x0), (.int (5 : Int32)), (.int n), (.ref r)])) rfl (by rw [hml]; rfl) rfl 0 (by show 2 * 0 + _ ≤ _; exact Nat.le_of_eq rfl) (hb hby at_413) (by decide) (by decide) (by decide) (by decide)
    rw [List.append_nil] at X8
    refine own_go st8 ?_
    show own_Go p e below _ (T8.setTop (mkF m 416 #[.val (.int x0), .val (.int x1), .val (.int x2), .val (.int n), .val (.ref a), .val (.ref r)] [(.int (1 : Int32))]))
    refine own_go (fun _ => XS.ifYes X8.here hx rfl (pc0 := 416) (pc' := 421) rfl (hb hby at_416) rfl (XT.i0_ne_t (by decide)) (by decide) (by decide)) ?_
    show own_Go p e below _ (T8.setTop (mkF m 421 #[.val (.int x0), .val (.int x1), .val (.int x2), .val (.int n), .val (.ref a), .val (.ref r)] []))
    refine own_go (fun _ => XS.aload X8.here hx rfl (hb hby at_421) rfl rfl) ?_
    show own_Go p e below _ (T8.setTop (mkF m 423 #[.val (.int x0), .val (.int x1), .val (.int x2), .val (.int n), .val (.ref a), .val (.ref r)] [(.ref r)]))
    refine own_go (fun _ => XS.iloadN X8.here hx rfl (hb hby at_423) rfl) ?_
    show own_Go p e below _ (T8.setTop (mkF m 424 #[.val (.int x0), .val (.int x1), .val (.int x2), .val (.int n), .val (.ref a), .val (.ref r)] [(.int n), (.ref r)]))
    refine own_go (fun _ => XS.bipush X8.here hx rfl (hb hby at_424)) ?_
    show own_Go p e below _ (T8.setTop (mkF m 426 #[.val (.int x0), .val (.int x1), .val (.int x2), .val (.int n), .val (.ref a), .val (.ref r)] [(.int (6 : Int32)), (.int n), (.ref r)]))
    refine own_go (fun _ => XS.iloadN X8.here hx rfl (hb hby at_426) rfl) ?_
    show own_Go p e below _ (T8.setTop (mkF m 427 #[.val (.int x0), .val (.int x1), .val (.int x2), .val (.int n), .val (.ref a), .val (.ref r)] [(.int x0), (.int (6 : Int32)), (.int n), (.ref r)]))
    refine own_go (fun _ => XS.iloadN X8.here hx rfl (hb hby at_427) rfl) ?_
    show own_Go p e below _ (T8.setTop (mkF m 428 #[.val (.int x0), .val (.int x1), .val (.int x2), .val (.int n), .val (.ref a), .val (.ref r)] [(.int x1), (.int x0), (.int (6 : Int32)), (.int n), (.ref r)]))
    obtain ⟨_, T9, L9, X9, ⟨rfl, eh9, rfl⟩, st9⟩ := own_callS X8 hx hZ hown (argsL := [(.ref r), (.int n), (.int (6 : Int32)), (.int x0), (.int x1)]) (rest := []) (own_ok_con l Z a0 hw r (us.take nn) n (6 : Int32) x0 x1 6 T2.heap Ac2 hz (by decide) (TV 6) []) eh8 (hw _ (List.mem_of_getElem? (i := 46) rfl)) (hw _ (List.mem_of_getElem? (i := 47) rfl)) (hw _ (List.mem_of_getElem? (i := 15) rfl)) (hw _ (List.mem_of_getElem? (i := 48) rfl)) (by decide) (by decide +kernel : parseMethodDescriptor "([IIIII)Z" = some ⟨[(.array .int), .int, .int, .int, .int], some .boolean⟩) rfl (g := (mkF m 428 #[.val (.int x0), .val (.int x1), .val (.int x2), .val (.int n), .val (.ref a), .val (.ref r)] [(.int x1), (.int x0), (.int (6 : Int32)), (.int n), (.ref r)])) rfl (by rw [hml]; rfl) rfl 0 (by show 2 * 0 + _ ≤ _; exact Nat.le_of_eq rfl) (hb hby at_428) (by decide) (by decide) (by decide) (by decide)
    rw [List.append_nil] at X9
    refine own_go st9 ?_
    show own_Go p e below _ (T9.setTop (mkF m 431 #[.val (.int x0), .val (.int x1), .val (.int x2), .val (.int n), .val (.ref a), .val (.ref r)] [(.int (1 : Int32))]))
    refine own_go (fun _ => XS.ifYes X9.here hx rfl (pc0 := 431) (pc' := 436) rfl (hb hby at_431) rfl (XT.i0_ne_t (by decide)) (by decide) (by decide)) ?_
    show own_Go p e below _ (T9.setTop (mkF m 436 #[.val (.int x0), .val (.int x1), .val (.int x2), .val (.int n), .val (.ref a), .val (.ref r)] []))
    refine own_go (fun _ => XS.aload X9.here hx rfl (hb hby at_436) rfl rfl) ?_
    show own_Go p e below _ (T9.setTop (mkF m 438 #[.val (.int x0), .val (.int x1), .val (.int x2), .val (.int n), .val (.ref a), .val (.ref r)] [(.ref r)]))
    refine own_go (fun _ => XS.iloadN X9.here hx rfl (hb hby at_438) rfl) ?_
    show own_Go p e below _ (T9.setTop (mkF m 439 #[.val (.int x0), .val (.int x1), .val (.int x2), .val (.int n), .val (.ref a), .val (.ref r)] [(.int n), (.ref r)]))
    refine own_go (fun _ => XS.bipush X9.here hx rfl (hb hby at_439)) ?_
    show own_Go p e below _ (T9.setTop (mkF m 441 #[.val (.int x0), .val (.int x1), .val (.int x2), .val (.int n), .val (.ref a), .val (.ref r)] [(.int (7 : Int32)), (.int n), (.ref r)]))
    refine own_go (fun _ => XS.iloadN X9.here hx rfl (hb hby at_441) rfl) ?_
    show own_Go p e below _ (T9.setTop (mkF m 442 #[.val (.int x0), .val (.int x1), .val (.int x2), .val (.int n), .val (.ref a), .val (.ref r)] [(.int x0), (.int (7 : Int32)), (.int n), (.ref r)]))
    refine own_go (fun _ => XS.iloadN X9.here hx rfl (hb hby at_442) rfl) ?_
    show own_Go p e below _ (T9.setTop (mkF m 443 #[.val (.int x0), .val (.int x1), .val (.int x2), .val (.int n), .val (.ref a), .val (.ref r)] [(.int x1), (.int x0), (.int (7 : Int32)), (.int n), (.ref r)]))
    obtain ⟨_, T10, L10, X10, ⟨rfl, eh10, rfl⟩, st10⟩ := own_callS X9 hx hZ hown (argsL := [(.ref r), (.int n), (.int (7 : Int32)), (.int x0), (.int x1)]) (rest := []) (own_ok_con l Z a0 hw r (us.take nn) n (7 : Int32) x0 x1 7 T2.heap Ac2 hz (by decide) (TV 7) []) eh9 (hw _ (List.mem_of_getElem? (i := 46) rfl)) (hw _ (List.mem_of_getElem? (i := 47) rfl)) (hw _ (List.mem_of_getElem? (i := 15) rfl)) (hw _ (List.mem_of_getElem? (i := 48) rfl)) (by decide) (by decide +kernel : parseMethodDescriptor "([IIIII)Z" = some ⟨[(.array .int), .int, .int, .int, .int], some .boolean⟩) rfl (g := (mkF m 443 #[.val (.int x0), .val (.int x1), .val (.int x2), .val (.int n), .val (.ref a), .val (.ref r)] [(.int x1), (.int x0), (.int (7 : Int32)), (.int n), (.ref r)])) rfl (by rw [hml]; rfl) rfl 0 (by show 2 * 0 + _ ≤ _; exact Nat.le_of_eq rfl) (hb hby at_443) (by decide) (by decide) (by decide) (by decide)
    rw [List.append_nil] at X10
    refine own_go st10 ?_
    show own_Go p e below _ (T10.setTop (mkF m 446 #[.val (.int x0), .val (.int x1), .val (.int x2), .val (.int n), .val (.ref a), .val (.ref r)] [(.int (1 : Int32))]))
    refine own_go (fun _ => XS.ifYes X10.here hx rfl (pc0 := 446) (pc' := 451) rfl (hb hby at_446) rfl (XT.i0_ne_t (by decide)) (by decide) (by decide)) ?_
    show own_Go p e below _ (T10.setTop (mkF m 451 #[.val (.int x0), .val (.int x1), .val (.int x2), .val (.int n), .val (.ref a), .val (.ref r)] []))
    refine own_go (fun _ => XS.aload X10.here hx rfl (hb hby at_451) rfl rfl) ?_
    show own_Go p e below _ (T10.setTop (mkF m 453 #[.val (.int x0), .val (.int x1), .val (.int x2), .val (.int n), .val (.ref a), .val (.ref r)] [(.ref r)]))
    refine own_go (fun _ => XS.iloadN X10.here hx rfl (hb hby at_453) rfl) ?_
    show own_Go p e below _ (T10.setTop (mkF m 454 #[.val (.int x0), .val (.int x1), .val (.int x2), .val (.int n), .val (.ref a), .val (.ref r)] [(.int n), (.ref r)]))
    refine own_go (fun _ => XS.bipush X10.here hx rfl (hb hby at_454)) ?_
    show own_Go p e below _ (T10.setTop (mkF m 456 #[.val (.int x0), .val (.int x1), .val (.int x2), .val (.int n), .val (.ref a), .val (.ref r)] [(.int (8 : Int32)), (.int n), (.ref r)]))
    refine own_go (fun _ => XS.iloadN X10.here hx rfl (hb hby at_456) rfl) ?_
    show own_Go p e below _ (T10.setTop (mkF m 457 #[.val (.int x0), .val (.int x1), .val (.int x2), .val (.int n), .val (.ref a), .val (.ref r)] [(.int x0), (.int (8 : Int32)), (.int n), (.ref r)]))
    refine own_go (fun _ => XS.iloadN X10.here hx rfl (hb hby at_457) rfl) ?_
    show own_Go p e below _ (T10.setTop (mkF m 458 #[.val (.int x0), .val (.int x1), .val (.int x2), .val (.int n), .val (.ref a), .val (.ref r)] [(.int x1), (.int x0), (.int (8 : Int32)), (.int n), (.ref r)]))
    obtain ⟨_, T11, L11, X11, ⟨rfl, eh11, rfl⟩, st11⟩ := own_callS X10 hx hZ hown (argsL := [(.ref r), (.int n), (.int (8 : Int32)), (.int x0), (.int x1)]) (rest := []) (own_ok_con l Z a0 hw r (us.take nn) n (8 : Int32) x0 x1 8 T2.heap Ac2 hz (by decide) (TV 8) []) eh10 (hw _ (List.mem_of_getElem? (i := 46) rfl)) (hw _ (List.mem_of_getElem? (i := 47) rfl)) (hw _ (List.mem_of_getElem? (i := 15) rfl)) (hw _ (List.mem_of_getElem? (i := 48) rfl)) (by decide) (by decide +kernel : parseMethodDescriptor "([IIIII)Z" = some ⟨[(.array .int), .int, .int, .int, .int], some .boolean⟩) rfl (g := (mkF m 458 #[.val (.int x0), .val (.int x1), .val (.int x2), .val (.int n), .val (.ref a), .val (.ref r)] [(.int x1), (.int x0), (.int (8 : Int32)), (.int n), (.ref r)])) rfl (by rw [hml]; rfl) rfl 0 (by show 2 * 0 + _ ≤ _; exact Nat.le_of_eq rfl) (hb hby at_458) (by decide) (by decide) (by decide) (by decide)
    rw [List.append_nil] at X11
    refine own_go st11 ?_
    show own_Go p e below _ (T11.setTop (mkF m 461 #[.val (.int x0), .val (.int x1), .val (.int x2), .val (.int n), .val (.ref a), .val (.ref r)] [(.int (1 : Int32))]))
    refine own_go (fun _ => XS.ifYes X11.here hx rfl (pc0 := 461) (pc' := 466) rfl (hb hby at_461) rfl (XT.i0_ne_t (by decide)) (by decide) (by decide)) ?_
    show own_Go p e below _ (T11.setTop (mkF m 466 #[.val (.int x0), .val (.int x1), .val (.int x2), .val (.int n), .val (.ref a), .val (.ref r)] []))
    refine own_go (fun _ => XS.aload X11.here hx rfl (hb hby at_466) rfl rfl) ?_
    show own_Go p e below _ (T11.setTop (mkF m 468 #[.val (.int x0), .val (.int x1), .val (.int x2), .val (.int n), .val (.ref a), .val (.ref r)] [(.ref r)]))
    refine own_go (fun _ => XS.iloadN X11.here hx rfl (hb hby at_468) rfl) ?_
    show own_Go p e below _ (T11.setTop (mkF m 469 #[.val (.int x0), .val (.int x1), .val (.int x2), .val (.int n), .val (.ref a), .val (.ref r)] [(.int n), (.ref r)]))
    refine own_go (fun _ => XS.bipush X11.here hx rfl (hb hby at_469)) ?_
    show own_Go p e below _ (T11.setTop (mkF m 471 #[.val (.int x0), .val (.int x1), .val (.int x2), .val (.int n), .val (.ref a), .val (.ref r)] [(.int (9 : Int32)), (.int n), (.ref r)]))
    refine own_go (fun _ => XS.iloadN X11.here hx rfl (hb hby at_471) rfl) ?_
    show own_Go p e below _ (T11.setTop (mkF m 472 #[.val (.int x0), .val (.int x1), .val (.int x2), .val (.int n), .val (.ref a), .val (.ref r)] [(.int x0), (.int (9 : Int32)), (.int n), (.ref r)]))
    refine own_go (fun _ => XS.iloadN X11.here hx rfl (hb hby at_472) rfl) ?_
    show own_Go p e below _ (T11.setTop (mkF m 473 #[.val (.int x0), .val (.int x1), .val (.int x2), .val (.int n), .val (.ref a), .val (.ref r)] [(.int x1), (.int x0), (.int (9 : Int32)), (.int n), (.ref r)]))
    obtain ⟨_, T12, L12, X12, ⟨rfl, eh12, rfl⟩, st12⟩ := own_callS X11 hx hZ hown (argsL := [(.ref r), (.int n), (.int (9 : Int32)), (.int x0), (.int x1)]) (rest := []) (own_ok_con l Z a0 hw r (us.take nn) n (9 : Int32) x0 x1 9 T2.heap Ac2 hz (by decide) (TV 9) []) eh11 (hw _ (List.mem_of_getElem? (i := 46) rfl)) (hw _ (List.mem_of_getElem? (i := 47) rfl)) (hw _ (List.mem_of_getElem? (i := 15) rfl)) (hw _ (List.mem_of_getElem? (i := 48) rfl)) (by decide) (by decide +kernel : parseMethodDescriptor "([IIIII)Z" = some ⟨[(.array .int), .int, .int, .int, .int], some .boolean⟩) rfl (g := (mkF m 473 #[.val (.int x0), .val (.int x1), .val (.int x2), .val (.int n), .val (.ref a), .val (.ref r)] [(.int x1), (.int x0), (.int (9 : Int32)), (.int n), (.ref r)])) rfl (by rw [hml]; rfl) rfl 0 (by show 2 * 0 + _ ≤ _; exact Nat.le_of_eq rfl) (hb hby at_473) (by decide) (by decide) (by decide) (by decide)
    rw [List.append_nil] at X12
    refine own_go st12 ?_
    show own_Go p e below _ (T12.setTop (mkF m 476 #[.val (.int x0), .val (.int x1), .val (.int x2), .val (.int n), .val (.ref a), .val (.ref r)] [(.int (1 : Int32))]))
    refine own_go (fun _ => XS.ifYes X12.here hx rfl (pc0 := 476) (pc' := 481) rfl (hb hby at_476) rfl (XT.i0_ne_t (by decide)) (by decide) (by decide)) ?_
    show own_Go p e below _ (T12.setTop (mkF m 481 #[.val (.int x0), .val (.int x1), .val (.int x2), .val (.int n), .val (.ref a), .val (.ref r)] []))
    refine own_go (fun _ => XS.aload X12.here hx rfl (hb hby at_481) rfl rfl) ?_
    show own_Go p e below _ (T12.setTop (mkF m 483 #[.val (.int x0), .val (.int x1), .val (.int x2), .val (.int n), .val (.ref a), .val (.ref r)] [(.ref r)]))
    refine own_go (fun _ => XS.iloadN X12.here hx rfl (hb hby at_483) rfl) ?_
    show own_Go p e below _ (T12.setTop (mkF m 484 #[.val (.int x0), .val (.int x1), .val (.int x2), .val (.int n), .val (.ref a), .val (.ref r)] [(.int n), (.ref r)]))
    refine own_go (fun _ => XS.bipush X12.here hx rfl (hb hby at_484)) ?_
    show own_Go p e below _ (T12.setTop (mkF m 486 #[.val (.int x0), .val (.int x1), .val (.int x2), .val (.int n), .val (.ref a), .val (.ref r)] [(.int (10 : Int32)), (.int n), (.ref r)]))
    refine own_go (fun _ => XS.iloadN X12.here hx rfl (hb hby at_486) rfl) ?_
    show own_Go p e below _ (T12.setTop (mkF m 487 #[.val (.int x0), .val (.int x1), .val (.int x2), .val (.int n), .val (.ref a), .val (.ref r)] [(.int x0), (.int (10 : Int32)), (.int n), (.ref r)]))
    refine own_go (fun _ => XS.iloadN X12.here hx rfl (hb hby at_487) rfl) ?_
    show own_Go p e below _ (T12.setTop (mkF m 488 #[.val (.int x0), .val (.int x1), .val (.int x2), .val (.int n), .val (.ref a), .val (.ref r)] [(.int x1), (.int x0), (.int (10 : Int32)), (.int n), (.ref r)]))
    obtain ⟨_, T13, L13, X13, ⟨rfl, eh13, rfl⟩, st13⟩ := own_callS X12 hx hZ hown (argsL := [(.ref r), (.int n), (.int (10 : Int32)), (.int x0), (.int x1)]) (rest := []) (own_ok_con l Z a0 hw r (us.take nn) n (10 : Int32) x0 x1 10 T2.heap Ac2 hz (by decide) (TV 10) []) eh12 (hw _ (List.mem_of_getElem? (i := 46) rfl)) (hw _ (List.mem_of_getElem? (i := 47) rfl)) (hw _ (List.mem_of_getElem? (i := 15) rfl)) (hw _ (List.mem_of_getElem? (i := 48) rfl)) (by decide) (by decide +kernel : parseMethodDescriptor "([IIIII)Z" = some ⟨[(.array .int), .int, .int, .int, .int], some .boolean⟩) rfl (g := (mkF m 488 #[.val (.int x0), .val (.int x1), .val (.int x2), .val (.int n), .val (.ref a), .val (.ref r)] [(.int x1), (.int x0), (.int (10 : Int32)), (.int n), (.ref r)])) rfl (by rw [hml]; rfl) rfl 0 (by show 2 * 0 + _ ≤ _; exact Nat.le_of_eq rfl) (hb hby at_488) (by decide) (by decide) (by decide) (by decide)
    rw [List.append_nil] at X13
    refine own_go st13 ?_
    show own_Go p e below _ (T13.setTop (mkF m 491 #[.val (.int x0), .val (.int x1), .val (.int x2), .val (.int n), .val (.ref a), .val (.ref r)] [(.int (1 : Int32))]))
    refine own_go (fun _ => XS.ifYes X13.here hx rfl (pc0 := 491) (pc' := 496) rfl (hb hby at_491) rfl (XT.i0_ne_t (by decide)) (by decide) (by decide)) ?_
    show own_Go p e below _ (T13.setTop (mkF m 496 #[.val (.int x0), .val (.int x1), .val (.int x2), .val (.int n), .val (.ref a), .val (.ref r)] []))
    refine own_go (fun _ => XS.aload X13.here hx rfl (hb hby at_496) rfl rfl) ?_
    show own_Go p e below _ (T13.setTop (mkF m 498 #[.val (.int x0), .val (.int x1), .val (.int x2), .val (.int n), .val (.ref a), .val (.ref r)] [(.ref r)]))
    refine own_go (fun _ => XS.iloadN X13.here hx rfl (hb hby at_498) rfl) ?_
    show own_Go p e below _ (T13.setTop (mkF m 499 #[.val (.int x0), .val (.int x1), .val (.int x2), .val (.int n), .val (.ref a), .val (.ref r)] [(.int n), (.ref r)]))
    refine own_go (fun _ => XS.bipush X13.here hx rfl (hb hby at_499)) ?_
    show own_Go p e below _ (T13.setTop (mkF m 501 #[.val (.int x0), .val (.int x1), .val (.int x2), .val (.int n), .val (.ref a), .val (.ref r)] [(.int (11 : Int32)), (.int n), (.ref r)]))
    refine own_go (fun _ => XS.iloadN X13.here hx rfl (hb hby at_501) rfl) ?_
    show own_Go p e below _ (T13.setTop (mkF m 502 #[.val (.int x0), .val (.int x1), .val (.int x2), .val (.int n), .val (.ref a), .val (.ref r)] [(.int x0), (.int (11 : Int32)), (.int n), (.ref r)]))
    refine own_go (fun _ => XS.iloadN X13.here hx rfl (hb hby at_502) rfl) ?_
    show own_Go p e below _ (T13.setTop (mkF m 503 #[.val (.int x0), .val (.int x1), .val (.int x2), .val (.int n), .val (.ref a), .val (.ref r)] [(.int x1), (.int x0), (.int (11 : Int32)), (.int n), (.ref r)]))
    obtain ⟨_, T14, L14, X14, ⟨rfl, eh14, rfl⟩, st14⟩ := own_callS X13 hx hZ hown (argsL := [(.ref r), (.int n), (.int (11 : Int32)), (.int x0), (.int x1)]) (rest := []) (own_ok_con l Z a0 hw r (us.take nn) n (11 : Int32) x0 x1 11 T2.heap Ac2 hz (by decide) (TV 11) []) eh13 (hw _ (List.mem_of_getElem? (i := 46) rfl)) (hw _ (List.mem_of_getElem? (i := 47) rfl)) (hw _ (List.mem_of_getElem? (i := 15) rfl)) (hw _ (List.mem_of_getElem? (i := 48) rfl)) (by decide) (by decide +kernel : parseMethodDescriptor "([IIIII)Z" = some ⟨[(.array .int), .int, .int, .int, .int], some .boolean⟩) rfl (g := (mkF m 503 #[.val (.int x0), .val (.int x1), .val (.int x2), .val (.int n), .val (.ref a), .val (.ref r)] [(.int x1), (.int x0), (.int (11 : Int32)), (.int n), (.ref r)])) rfl (by rw [hml]; rfl) rfl 0 (by show 2 * 0 + _ ≤ _; exact Nat.le_of_eq rfl) (hb hby at_503) (by decide) (by decide) (by decide) (by decide)
    rw [List.append_nil] at X14
    refine own_go st14 ?_
    show own_Go p e below _ (T14.setTop (mkF m 506 #[.val (.int x0), .val (.int x1), .val (.int x2), .val (.int n), .val (.ref a), .val (.ref r)] [(.int (1 : Int32))]))
    refine own_go (fun _ => XS.ifYes X14.here hx rfl (pc0 := 506) (pc' := 511) rfl (hb hby at_506) rfl (XT.i0_ne_t (by decide)) (by decide) (by decide)) ?_
    show own_Go p e below _ (T14.setTop (mkF m 511 #[.val (.int x0), .val (.int x1), .val (.int x2), .val (.int n), .val (.ref a), .val (.ref r)] []))
    refine own_go (fun _ => XS.aload X14.here hx rfl (hb hby at_511) rfl rfl) ?_
    show own_Go p e below _ (T14.setTop (mkF m 513 #[.val (.int x0), .val (.int x1), .val (.int x2), .val (.int n), .val (.ref a), .val (.ref r)] [(.ref r)]))
    refine own_go (fun _ => XS.iloadN X14.here hx rfl (hb hby at_513) rfl) ?_
    show own_Go p e below _ (T14.setTop (mkF m 514 #[.val (.int x0), .val (.int x1), .val (.int x2), .val (.int n), .val (.ref a), .val (.ref r)] [(.int n), (.ref r)]))
    refine own_go (fun _ => XS.bipush X14.here hx rfl (hb hby at_514)) ?_
    show own_Go p e below _ (T14.setTop (mkF m 516 #[.val (.int x0), .val (.int x1), .val (.int x2), .val (.int n), .val (.ref a), .val (.ref r)] [(.int (12 : Int32)), (.int n), (.ref r)]))
    refine own_go (fun _ => XS.iloadN X14.here hx rfl (hb hby at_516) rfl) ?_
    show own_Go p e below _ (T14.setTop (mkF m 517 #[.val (.int x0), .val (.int x1), .val (.int x2), .val (.int n), .val (.ref a), .val (.ref r)] [(.int x0), (.int (12 : Int32)), (.int n), (.ref r)]))
    refine own_go (fun _ => XS.iloadN X14.here hx rfl (hb hby at_517) rfl) ?_
    show own_Go p e below _ (T14.setTop (mkF m 518 #[.val (.int x0), .val (.int x1), .val (.int x2), .val (.int n), .val (.ref a), .val (.ref r)] [(.int x1), (.int x0), (.int (12 : Int32)), (.int n), (.ref r)]))
    obtain ⟨_, T15, L15, X15, ⟨rfl, eh15, rfl⟩, st15⟩ := own_callS X14 hx hZ hown (argsL := [(.ref r), (.int n), (.int (12 : Int32)), (.int x0), (.int x1)]) (rest := []) (own_ok_con l Z a0 hw r (us.take nn) n (12 : Int32) x0 x1 12 T2.heap Ac2 hz (by decide) (TV 12) []) eh14 (hw _ (List.mem_of_getElem? (i := 46) rfl)) (hw _ (List.mem_of_getElem? (i := 47) rfl)) (hw _ (List.mem_of_getElem? (i := 15) rfl)) (hw _ (List.mem_of_getElem? (i := 48) rfl)) (by decide) (by decide +kernel : parseMethodDescriptor "([IIIII)Z" = some ⟨[(.array .int), .int, .int, .int, .int], some .boolean⟩) rfl (g := (mkF m 518 #[.val (.int x0), .val (.int x1), .val (.int x2), .val (.int n), .val (.ref a), .val (.ref r)] [(.int x1), (.int x0), (.int (12 : Int32)), (.int n), (.ref r)])) rfl (by rw [hml]; rfl) rfl 0 (by show 2 * 0 + _ ≤ _; exact Nat.le_of_eq rfl) (hb hby at_518) (by decide) (by decide) (by decide) (by decide)
    rw [List.append_nil] at X15
    refine own_go st15 ?_
    show own_Go p e below _ (T15.setTop (mkF m 521 #[.val (.int x0), .val (.int x1), .val (.int x2), .val (.int n), .val (.ref a), .val (.ref r)] [(.int (1 : Int32))]))
    refine own_go (fun _ => XS.ifYes X15.here hx rfl (pc0 := 521) (pc' := 526) rfl (hb hby at_521) rfl (XT.i0_ne_t (by decide)) (by decide) (by decide)) ?_
    show own_Go p e below _ (T15.setTop (mkF m 526 #[.val (.int x0), .val (.int x1), .val (.int x2), .val (.int n), .val (.ref a), .val (.ref r)] []))
    refine own_go (fun _ => XS.aload X15.here hx rfl (hb hby at_526) rfl rfl) ?_
    show own_Go p e below _ (T15.setTop (mkF m 528 #[.val (.int x0), .val (.int x1), .val (.int x2), .val (.int n), .val (.ref a), .val (.ref r)] [(.ref r)]))
    refine own_go (fun _ => XS.iloadN X15.here hx rfl (hb hby at_528) rfl) ?_
    show own_Go p e below _ (T15.setTop (mkF m 529 #[.val (.int x0), .val (.int x1), .val (.int x2), .val (.int n), .val (.ref a), .val (.ref r)] [(.int n), (.ref r)]))
    refine own_go (fun _ => XS.bipush X15.here hx rfl (hb hby at_529)) ?_
    show own_Go p e below _ (T15.setTop (mkF m 531 #[.val (.int x0), .val (.int x1), .val (.int x2), .val (.int n), .val (.ref a), .val (.ref r)] [(.int (13 : Int32)), (.int n), (.ref r)]))
    refine own_go (fun _ => XS.iloadN X15.here hx rfl (hb hby at_531) rfl) ?_
    show own_Go p e below _ (T15.setTop (mkF m 532 #[.val (.int x0), .val (.int x1), .val (.int x2), .val (.int n), .val (.ref a), .val (.ref r)] [(.int x0), (.int (13 : Int32)), (.int n), (.ref r)]))
    refine own_go (fun _ => XS.iloadN X15.here hx rfl (hb hby at_532) rfl) ?_
    show own_Go p e below _ (T15.setTop (mkF m 533 #[.val (.int x0), .val (.int x1), .val (.int x2), .val (.int n), .val (.ref a), .val (.ref r)] [(.int x1), (.int x0), (.int (13 : Int32)), (.int n), (.ref r)]))
    obtain ⟨_, T16, L16, X16, ⟨rfl, eh16, rfl⟩, st16⟩ := own_callS X15 hx hZ hown (argsL := [(.ref r), (.int n), (.int (13 : Int32)), (.int x0), (.int x1)]) (rest := []) (own_ok_con l Z a0 hw r (us.take nn) n (13 : Int32) x0 x1 13 T2.heap Ac2 hz (by decide) (TV 13) []) eh15 (hw _ (List.mem_of_getElem? (i := 46) rfl)) (hw _ (List.mem_of_getElem? (i := 47) rfl)) (hw _ (List.mem_of_getElem? (i := 15) rfl)) (hw _ (List.mem_of_getElem? (i := 48) rfl)) (by decide) (by decide +kernel : parseMethodDescriptor "([IIIII)Z" = some ⟨[(.array .int), .int, .int, .int, .int], some .boolean⟩) rfl (g := (mkF m 533 #[.val (.int x0), .val (.int x1), .val (.int x2), .val (.int n), .val (.ref a), .val (.ref r)] [(.int x1), (.int x0), (.int (13 : Int32)), (.int n), (.ref r)])) rfl (by rw [hml]; rfl) rfl 0 (by show 2 * 0 + _ ≤ _; exact Nat.le_of_eq rfl) (hb hby at_533) (by decide) (by decide) (by decide) (by decide)
    rw [List.append_nil] at X16
    refine own_go st16 ?_
    show own_Go p e below _ (T16.setTop (mkF m 536 #[.val (.int x0), .val (.int x1), .val (.int x2), .val (.int n), .val (.ref a), .val (.ref r)] [(.int (1 : Int32))]))
    refine own_go (fun _ => XS.ifYes X16.here hx rfl (pc0 := 536) (pc' := 541) rfl (hb hby at_536) rfl (XT.i0_ne_t (by decide)) (by decide) (by decide)) ?_
    show own_Go p e below _ (T16.setTop (mkF m 541 #[.val (.int x0), .val (.int x1), .val (.int x2), .val (.int n), .val (.ref a), .val (.ref r)] []))
    refine own_go (fun _ => XS.aload X16.here hx rfl (hb hby at_541) rfl rfl) ?_
    show own_Go p e below _ (T16.setTop (mkF m 543 #[.val (.int x0), .val (.int x1), .val (.int x2), .val (.int n), .val (.ref a), .val (.ref r)] [(.ref r)]))
    refine own_go (fun _ => XS.iloadN X16.here hx rfl (hb hby at_543) rfl) ?_
    show own_Go p e below _ (T16.setTop (mkF m 544 #[.val (.int x0), .val (.int x1), .val (.int x2), .val (.int n), .val (.ref a), .val (.ref r)] [(.int n), (.ref r)]))
    refine own_go (fun _ => XS.bipush X16.here hx rfl (hb hby at_544)) ?_
    show own_Go p e below _ (T16.setTop (mkF m 546 #[.val (.int x0), .val (.int x1), .val (.int x2), .val (.int n), .val (.ref a), .val (.ref r)] [(.int (14 : Int32)), (.int n), (.ref r)]))
    refine own_go (fun _ => XS.iloadN X16.here hx rfl (hb hby at_546) rfl) ?_
    show own_Go p e below _ (T16.setTop (mkF m 547 #[.val (.int x0), .val (.int x1), .val (.int x2), .val (.int n), .val (.ref a), .val (.ref r)] [(.int x0), (.int (14 : Int32)), (.int n), (.ref r)]))
    refine own_go (fun _ => XS.iloadN X16.here hx rfl (hb hby at_547) rfl) ?_
    show own_Go p e below _ (T16.setTop (mkF m 548 #[.val (.int x0), .val (.int x1), .val (.int x2), .val (.int n), .val (.ref a), .val (.ref r)] [(.int x1), (.int x0), (.int (14 : Int32)), (.int n), (.ref r)]))
    obtain ⟨_, T17, L17, X17, ⟨rfl, eh17, rfl⟩, st17⟩ := own_callS X16 hx hZ hown (argsL := [(.ref r), (.int n), (.int (14 : Int32)), (.int x0), (.int x1)]) (rest := []) (own_ok_con l Z a0 hw r (us.take nn) n (14 : Int32) x0 x1 14 T2.heap Ac2 hz (by decide) (TV 14) []) eh16 (hw _ (List.mem_of_getElem? (i := 46) rfl)) (hw _ (List.mem_of_getElem? (i := 47) rfl)) (hw _ (List.mem_of_getElem? (i := 15) rfl)) (hw _ (List.mem_of_getElem? (i := 48) rfl)) (by decide) (by decide +kernel : parseMethodDescriptor "([IIIII)Z" = some ⟨[(.array .int), .int, .int, .int, .int], some .boolean⟩) rfl (g := (mkF m 548 #[.val (.int x0), .val (.int x1), .val (.int x2), .val (.int n), .val (.ref a), .val (.ref r)] [(.int x1), (.int x0), (.int (14 : Int32)), (.int n), (.ref r)])) rfl (by rw [hml]; rfl) rfl 0 (by show 2 * 0 + _ ≤ _; exact Nat.le_of_eq rfl) (hb hby at_548) (by decide) (by decide) (by decide) (by decide)
    rw [List.append_nil] at X17
    refine own_go st17 ?_
    show own_Go p e below _ (T17.setTop (mkF m 551 #[.val (.int x0), .val (.int x1), .val (.int x2), .val (.int n), .val (.ref a), .val (.ref r)] [(.int (1 : Int32))]))
    refine own_go (fun _ => XS.ifYes X17.here hx rfl (pc0 := 551) (pc' := 556) rfl (hb hby at_551) rfl (XT.i0_ne_t (by decide)) (by decide) (by decide)) ?_
    show own_Go p e below _ (T17.setTop (mkF m 556 #[.val (.int x0), .val (.int x1), .val (.int x2), .val (.int n), .val (.ref a), .val (.ref r)] []))
    refine own_go (fun _ => XS.aload X17.here hx rfl (hb hby at_556) rfl rfl) ?_
    show own_Go p e below _ (T17.setTop (mkF m 558 #[.val (.int x0), .val (.int x1), .val (.int x2), .val (.int n), .val (.ref a), .val (.ref r)] [(.ref r)]))
    refine own_go (fun _ => XS.iloadN X17.here hx rfl (hb hby at_558) rfl) ?_
    show own_Go p e below _ (T17.setTop (mkF m 559 #[.val (.int x0), .val (.int x1), .val (.int x2), .val (.int n), .val (.ref a), .val (.ref r)] [(.int n), (.ref r)]))
    refine own_go (fun _ => XS.bipush X17.here hx rfl (hb hby at_559)) ?_
    show own_Go p e below _ (T17.setTop (mkF m 561 #[.val (.int x0), .val (.int x1), .val (.int x2), .val (.int n), .val (.ref a), .val (.ref r)] [(.int (15 : Int32)), (.int n), (.ref r)]))
    refine own_go (fun _ => XS.iloadN X17.here hx rfl (hb hby at_561) rfl) ?_
    show own_Go p e below _ (T17.setTop (mkF m 562 #[.val (.int x0), .val (.int x1), .val (.int x2), .val (.int n), .val (.ref a), .val (.ref r)] [(.int x0), (.int (15 : Int32)), (.int n), (.ref r)]))
    refine own_go (fun _ => XS.iloadN X17.here hx rfl (hb hby at_562) rfl) ?_
    show own_Go p e below _ (T17.setTop (mkF m 563 #[.val (.int x0), .val (.int x1), .val (.int x2), .val (.int n), .val (.ref a), .val (.ref r)] [(.int x1), (.int x0), (.int (15 : Int32)), (.int n), (.ref r)]))
    obtain ⟨_, T18, L18, X18, ⟨rfl, eh18, rfl⟩, st18⟩ := own_callS X17 hx hZ hown (argsL := [(.ref r), (.int n), (.int (15 : Int32)), (.int x0), (.int x1)]) (rest := []) (own_ok_con l Z a0 hw r (us.take nn) n (15 : Int32) x0 x1 15 T2.heap Ac2 hz (by decide) (TV 15) []) eh17 (hw _ (List.mem_of_getElem? (i := 46) rfl)) (hw _ (List.mem_of_getElem? (i := 47) rfl)) (hw _ (List.mem_of_getElem? (i := 15) rfl)) (hw _ (List.mem_of_getElem? (i := 48) rfl)) (by decide) (by decide +kernel : parseMethodDescriptor "([IIIII)Z" = some ⟨[(.array .int), .int, .int, .int, .int], some .boolean⟩) rfl (g := (mkF m 563 #[.val (.int x0), .val (.int x1), .val (.int x2), .val (.int n), .val (.ref a), .val (.ref r)] [(.int x1), (.int x0), (.int (15 : Int32)), (.int n), (.ref r)])) rfl (by rw [hml]; rfl) rfl 0 (by show 2 * 0 + _ ≤ _; exact Nat.le_of_eq rfl) (hb hby at_563) (by decide) (by decide) (by decide) (by decide)
    rw [List.append_nil] at X18
    refine own_go st18 ?_
    show own_Go p e below _ (T18.setTop (mkF m 566 #[.val (.int x0), .val (.int x1), .val (.int x2), .val (.int n), .val (.ref a), .val (.ref r)] [(.int (1 : Int32))]))
    refine own_go (fun _ => XS.ifYes X18.here hx rfl (pc0 := 566) (pc' := 571) rfl (hb hby at_566) rfl (XT.i0_ne_t (by decide)) (by decide) (by decide)) ?_
    show own_Go p e below _ (T18.setTop (mkF m 571 #[.val (.int x0), .val (.int x1), .val (.int x2), .val (.int n), .val (.ref a), .val (.ref r)] []))
    refine own_go (fun _ => XS.aload X18.here hx rfl (hb hby at_571) rfl rfl) ?_
    show own_Go p e below _ (T18.setTop (mkF m 573 #[.val (.int x0), .val (.int x1), .val (.int x2), .val (.int n), .val (.ref a), .val (.ref r)] [(.ref r)]))
    refine own_go (fun _ => XS.iloadN X18.here hx rfl (hb hby at_573) rfl) ?_
    show own_Go p e below _ (T18.setTop (mkF m 574 #[.val (.int x0), .val (.int x1), .val (.int x2), .val (.int n), .val (.ref a), .val (.ref r)] [(.int n), (.ref r)]))
    refine own_go (fun _ => XS.bipush X18.here hx rfl (hb hby at_574)) ?_
    show own_Go p e below _ (T18.setTop (mkF m 576 #[.val (.int x0), .val (.int x1), .val (.int x2), .val (.int n), .val (.ref a), .val (.ref r)] [(.int (16 : Int32)), (.int n), (.ref r)]))
    refine own_go (fun _ => XS.iloadN X18.here hx rfl (hb hby at_576) rfl) ?_
    show own_Go p e below _ (T18.setTop (mkF m 577 #[.val (.int x0), .val (.int x1), .val (.int x2), .val (.int n), .val (.ref a), .val (.ref r)] [(.int x0), (.int (16 : Int32)), (.int n), (.ref r)]))
    refine own_go (fun _ => XS.iloadN X18.here hx rfl (hb hby at_577) rfl) ?_
    show own_Go p e below _ (T18.setTop (mkF m 578 #[.val (.int x0), .val (.int x1), .val (.int x2), .val (.int n), .val (.ref a), .val (.ref r)] [(.int x1), (.int x0), (.int (16 : Int32)), (.int n), (.ref r)]))
    obtain ⟨_, T19, L19, X19, ⟨rfl, eh19, rfl⟩, st19⟩ := own_callS X18 hx hZ hown (argsL := [(.ref r), (.int n), (.int (16 : Int32)), (.int x0), (.int x1)]) (rest := []) (own_ok_con l Z a0 hw r (us.take nn) n (16 : Int32) x0 x1 16 T2.heap Ac2 hz (by decide) (TV 16) []) eh18 (hw _ (List.mem_of_getElem? (i := 46) rfl)) (hw _ (List.mem_of_getElem? (i := 47) rfl)) (hw _ (List.mem_of_getElem? (i := 15) rfl)) (hw _ (List.mem_of_getElem? (i := 48) rfl)) (by decide) (by decide +kernel : parseMethodDescriptor "([IIIII)Z" = some ⟨[(.array .int), .int, .int, .int, .int], some .boolean⟩) rfl (g := (mkF m 578 #[.val (.int x0), .val (.int x1), .val (.int x2), .val (.int n), .val (.ref a), .val (.ref r)] [(.int x1), (.int x0), (.int (16 : Int32)), (.int n), (.ref r)])) rfl (by rw [hml]; rfl) rfl 0 (by show 2 * 0 + _ ≤ _; exact Nat.le_of_eq rfl) (hb hby at_578) (by decide) (by decide) (by decide) (by decide)
    rw [List.append_nil] at X19
    refine own_go st19 ?_
    show own_Go p e below _ (T19.setTop (mkF m 581 #[.val (.int x0), .val (.int x1), .val (.int x2), .val (.int n), .val (.ref a), .val (.ref r)] [(.int (1 : Int32))]))
    refine own_go (fun _ => XS.ifYes X19.here hx rfl (pc0 := 581) (pc' := 586) rfl (hb hby at_581) rfl (XT.i0_ne_t (by decide)) (by decide) (by decide)) ?_
    show own_Go p e below _ (T19.setTop (mkF m 586 #[.val (.int x0), .val (.int x1), .val (.int x2), .val (.int n), .val (.ref a), .val (.ref r)] []))
    refine own_go (fun _ => XS.iloadN X19.here hx rfl (hb hby at_586) rfl) ?_
    show own_Go p e below _ (T19.setTop (mkF m 587 #[.val (.int x0), .val (.int x1), .val (.int x2), .val (.int n), .val (.ref a), .val (.ref r)] [(.int n)]))
    by_cases hp : (0 : Int32) < n
    · skip
      have h1 : 1 ≤ nn := by rw [Int32.lt_iff_toInt_lt, hn] at hp; simp only [Int32.reduceToInt] at hp; omega
      obtain ⟨kk, hkk⟩ : ∃ kk, nn = kk + 1 := ⟨nn - 1, by omega⟩
      obtain ⟨s1, s2⟩ := own_sub1 (n := n) (k := kk) (by rw [hn, hkk])
      refine own_go (fun _ => XS.ifNo X19.here hx rfl (hb hby at_587) rfl (XT.i0_le_f hp)) ?_
      show own_Go p e below _ (T19.setTop (mkF m 590 #[.val (.int x0), .val (.int x1), .val (.int x2), .val (.int n), .val (.ref a), .val (.ref r)] []))
      refine own_go (fun _ => XS.aload X19.here hx rfl (hb hby at_590) rfl rfl) ?_
      show own_Go p e below _ (T19.setTop (mkF m 592 #[.val (.int x0), .val (.int x1), .val (.int x2), .val (.int n), .val (.ref a), .val (.ref r)] [(.ref a)]))
      refine own_go (fun _ => XS.iconst X19.here hx rfl (hb hby at_592)) ?_
      show own_Go p e below _ (T19.setTop (mkF m 593 #[.val (.int x0), .val (.int x1), .val (.int x2), .val (.int n), .val (.ref a), .val (.ref r)] [(.int (0 : Int32)), (.ref a)]))
      have ex19 := I2.1
      obtain ⟨_, T20, L20, X20, ⟨rfl, eh20, rfl⟩, st20⟩ := own_callV X19 hx hZ hown (argsL := [(.int (0 : Int32))]) (rest := []) (own_get_con l Z a0 hw a b us n 0 (own_v x0 x1 0) 0 T2.heap I2 (by decide) (H 0 (by omega)) []) eh19 ex19 (hw _ (List.mem_of_getElem? (i := 49) rfl)) (hw _ (List.mem_of_getElem? (i := 50) rfl)) (hw _ (List.mem_of_getElem? (i := 52) rfl)) (hw _ (List.mem_of_getElem? (i := 51) rfl)) (hw _ (List.mem_of_getElem? (i := 3) rfl)) (hw _ (List.mem_of_getElem? (i := 53) rfl)) (notFace_of_selects (args := #[]) (mvT hZ (hw _ (List.mem_of_getElem? (i := 52) rfl)))) (by decide) (by decide +kernel : parseMethodDescriptor "(I)I" = some ⟨[.int], some .int⟩) rfl (g := (mkF m 593 #[.val (.int x0), .val (.int x1), .val (.int x2), .val (.int n), .val (.ref a), .val (.ref r)] [(.int (0 : Int32)), (.ref a)])) rfl (by rw [hml]; rfl) rfl 0 (by show 2 * 0 + _ ≤ _; exact Nat.le_of_eq rfl) (hb hby at_593) (by decide) (by decide) (by decide) (by decide)
      rw [List.append_nil] at X20
      refine own_go st20 ?_
      show own_Go p e below _ (T20.setTop (mkF m 596 #[.val (.int x0), .val (.int x1), .val (.int x2), .val (.int n), .val (.ref a), .val (.ref r)] [(.int (own_v x0 x1 0))]))
      refine own_go (fun _ => XS.iloadN X20.here hx rfl (hb hby at_596) rfl) ?_
      show own_Go p e below _ (T20.setTop (mkF m 597 #[.val (.int x0), .val (.int x1), .val (.int x2), .val (.int n), .val (.ref a), .val (.ref r)] [(.int x0), (.int (own_v x0 x1 0))]))
      refine own_go (fun _ => XS.iloadN X20.here hx rfl (hb hby at_597) rfl) ?_
      show own_Go p e below _ (T20.setTop (mkF m 598 #[.val (.int x0), .val (.int x1), .val (.int x2), .val (.int n), .val (.ref a), .val (.ref r)] [(.int x1), (.int x0), (.int (own_v x0 x1 0))]))
      refine own_go (fun _ => XS.iconst X20.here hx rfl (hb hby at_598)) ?_
      show own_Go p e below _ (T20.setTop (mkF m 599 #[.val (.int x0), .val (.int x1), .val (.int x2), .val (.int n), .val (.ref a), .val (.ref r)] [(.int (0 : Int32)), (.int x1), (.int x0), (.int (own_v x0 x1 0))]))
      obtain ⟨T21, X21, e21, st21⟩ := own_callSP X20 hx hZ hown (argsL := [(.int x0), (.int x1), (.int (0 : Int32))]) (rest := [(.int (own_v x0 x1 0))]) (own_v_con l Z a0 hw x0 x1 0 T2.heap []) eh20 (hw _ (List.mem_of_getElem? (i := 13) rfl)) (hw _ (List.mem_of_getElem? (i := 14) rfl)) (hw _ (List.mem_of_getElem? (i := 15) rfl)) (hw _ (List.mem_of_getElem? (i := 16) rfl)) (by decide) (by decide +kernel : parseMethodDescriptor "(III)I" = some ⟨[.int, .int, .int], some .int⟩) rfl (g := (mkF m 599 #[.val (.int x0), .val (.int x1), .val (.int x2), .val (.int n), .val (.ref a), .val (.ref r)] [(.int (0 : Int32)), (.int x1), (.int x0), (.int (own_v x0 x1 0))])) rfl (by rw [hml]; rfl) rfl 1 (by show 2 * 0 + _ ≤ _; exact Nat.le_of_eq rfl) (hb hby at_599) (by decide) (by decide) rfl rfl (by decide) (by decide)
      refine own_go st21 ?_
      show own_Go p e below _ (T21.setTop (mkF m 602 #[.val (.int x0), .val (.int x1), .val (.int x2), .val (.int n), .val (.ref a), .val (.ref r)] [(.int (own_v x0 x1 0)), (.int (own_v x0 x1 0))]))
      refine own_go (fun _ => XS.icmpYes X21.here hx rfl (pc0 := 602) (pc' := 607) rfl (hb hby at_602) rfl (XT.ii_eq_t rfl) (by decide) (by decide)) ?_
      show own_Go p e below _ (T21.setTop (mkF m 607 #[.val (.int x0), .val (.int x1), .val (.int x2), .val (.int n), .val (.ref a), .val (.ref r)] []))
      refine own_go (fun _ => XS.aload X21.here hx rfl (hb hby at_607) rfl rfl) ?_
      show own_Go p e below _ (T21.setTop (mkF m 609 #[.val (.int x0), .val (.int x1), .val (.int x2), .val (.int n), .val (.ref a), .val (.ref r)] [(.ref a)]))
      refine own_go (fun _ => XS.iloadN X21.here hx rfl (hb hby at_609) rfl) ?_
      show own_Go p e below _ (T21.setTop (mkF m 610 #[.val (.int x0), .val (.int x1), .val (.int x2), .val (.int n), .val (.ref a), .val (.ref r)] [(.int n), (.ref a)]))
      refine own_go (fun _ => XS.iconst X21.here hx rfl (hb hby at_610)) ?_
      show own_Go p e below _ (T21.setTop (mkF m 611 #[.val (.int x0), .val (.int x1), .val (.int x2), .val (.int n), .val (.ref a), .val (.ref r)] [(.int (1 : Int32)), (.int n), (.ref a)]))
      refine own_go (fun _ => XS.isub X21.here hx rfl (hb hby at_611) rfl) ?_
      show own_Go p e below _ (T21.setTop (mkF m 612 #[.val (.int x0), .val (.int x1), .val (.int x2), .val (.int n), .val (.ref a), .val (.ref r)] [(.int (n - (1 : Int32))), (.ref a)]))
      obtain ⟨_, T22, L22, X22, ⟨rfl, eh22, rfl⟩, st22⟩ := own_callV X21 hx hZ hown (argsL := [(.int (n - (1 : Int32)))]) (rest := []) (own_get_con l Z a0 hw a b us n (n - (1 : Int32)) (own_v x0 x1 (n - (1 : Int32))) kk T2.heap I2 s1 (by rw [s2]; exact H kk (by omega)) []) e21 ex19 (hw _ (List.mem_of_getElem? (i := 49) rfl)) (hw _ (List.mem_of_getElem? (i := 50) rfl)) (hw _ (List.mem_of_getElem? (i := 52) rfl)) (hw _ (List.mem_of_getElem? (i := 51) rfl)) (hw _ (List.mem_of_getElem? (i := 3) rfl)) (hw _ (List.mem_of_getElem? (i := 53) rfl)) (notFace_of_selects (args := #[]) (mvT hZ (hw _ (List.mem_of_getElem? (i := 52) rfl)))) (by decide) (by decide +kernel : parseMethodDescriptor "(I)I" = some ⟨[.int], some .int⟩) rfl (g := (mkF m 612 #[.val (.int x0), .val (.int x1), .val (.int x2), .val (.int n), .val (.ref a), .val (.ref r)] [(.int (n - (1 : Int32))), (.ref a)])) rfl (by rw [hml]; rfl) rfl 0 (by show 2 * 0 + _ ≤ _; exact Nat.le_of_eq rfl) (hb hby at_612) (by decide) (by decide) (by decide) (by decide)
      rw [List.append_nil] at X22
      refine own_go st22 ?_
      show own_Go p e below _ (T22.setTop (mkF m 615 #[.val (.int x0), .val (.int x1), .val (.int x2), .val (.int n), .val (.ref a), .val (.ref r)] [(.int (own_v x0 x1 (n - (1 : Int32))))]))
      refine own_go (fun _ => XS.iloadN X22.here hx rfl (hb hby at_615) rfl) ?_
      show own_Go p e below _ (T22.setTop (mkF m 616 #[.val (.int x0), .val (.int x1), .val (.int x2), .val (.int n), .val (.ref a), .val (.ref r)] [(.int x0), (.int (own_v x0 x1 (n - (1 : Int32))))]))
      refine own_go (fun _ => XS.iloadN X22.here hx rfl (hb hby at_616) rfl) ?_
      show own_Go p e below _ (T22.setTop (mkF m 617 #[.val (.int x0), .val (.int x1), .val (.int x2), .val (.int n), .val (.ref a), .val (.ref r)] [(.int x1), (.int x0), (.int (own_v x0 x1 (n - (1 : Int32))))]))
      refine own_go (fun _ => XS.iloadN X22.here hx rfl (hb hby at_617) rfl) ?_
      show own_Go p e below _ (T22.setTop (mkF m 618 #[.val (.int x0), .val (.int x1), .val (.int x2), .val (.int n), .val (.ref a), .val (.ref r)] [(.int n), (.int x1), (.int x0), (.int (own_v x0 x1 (n - (1 : Int32))))]))
      refine own_go (fun _ => XS.iconst X22.here hx rfl (hb hby at_618)) ?_
      show own_Go p e below _ (T22.setTop (mkF m 619 #[.val (.int x0), .val (.int x1), .val (.int x2), .val (.int n), .val (.ref a), .val (.ref r)] [(.int (1 : Int32)), (.int n), (.int x1), (.int x0), (.int (own_v x0 x1 (n - (1 : Int32))))]))
      refine own_go (fun _ => XS.isub X22.here hx rfl (hb hby at_619) rfl) ?_
      show own_Go p e below _ (T22.setTop (mkF m 620 #[.val (.int x0), .val (.int x1), .val (.int x2), .val (.int n), .val (.ref a), .val (.ref r)] [(.int (n - (1 : Int32))), (.int x1), (.int x0), (.int (own_v x0 x1 (n - (1 : Int32))))]))
      obtain ⟨T23, X23, e23, st23⟩ := own_callSP X22 hx hZ hown (argsL := [(.int x0), (.int x1), (.int (n - (1 : Int32)))]) (rest := [(.int (own_v x0 x1 (n - (1 : Int32))))]) (own_v_con l Z a0 hw x0 x1 (n - (1 : Int32)) T2.heap []) eh22 (hw _ (List.mem_of_getElem? (i := 13) rfl)) (hw _ (List.mem_of_getElem? (i := 14) rfl)) (hw _ (List.mem_of_getElem? (i := 15) rfl)) (hw _ (List.mem_of_getElem? (i := 16) rfl)) (by decide) (by decide +kernel : parseMethodDescriptor "(III)I" = some ⟨[.int, .int, .int], some .int⟩) rfl (g := (mkF m 620 #[.val (.int x0), .val (.int x1), .val (.int x2), .val (.int n), .val (.ref a), .val (.ref r)] [(.int (n - (1 : Int32))), (.int x1), (.int x0), (.int (own_v x0 x1 (n - (1 : Int32))))])) rfl (by rw [hml]; rfl) rfl 1 (by show 2 * 0 + _ ≤ _; exact Nat.le_of_eq rfl) (hb hby at_620) (by decide) (by decide) rfl rfl (by decide) (by decide)
      refine own_go st23 ?_
      show own_Go p e below _ (T23.setTop (mkF m 623 #[.val (.int x0), .val (.int x1), .val (.int x2), .val (.int n), .val (.ref a), .val (.ref r)] [(.int (own_v x0 x1 (n - (1 : Int32)))), (.int (own_v x0 x1 (n - (1 : Int32))))]))
      refine own_go (fun _ => XS.icmpYes X23.here hx rfl (pc0 := 623) (pc' := 628) rfl (hb hby at_623) rfl (XT.ii_eq_t rfl) (by decide) (by decide)) ?_
      show own_Go p e below _ (T23.setTop (mkF m 628 #[.val (.int x0), .val (.int x1), .val (.int x2), .val (.int n), .val (.ref a), .val (.ref r)] []))
      refine own_go (fun _ => XS.iconst X23.here hx rfl (hb hby at_628)) ?_
      show own_Go p e below _ (T23.setTop (mkF m 629 #[.val (.int x0), .val (.int x1), .val (.int x2), .val (.int n), .val (.ref a), .val (.ref r)] [(.int (1 : Int32))]))
      exact own_iret X23 hx hlk hret (Or.inr (Or.inl rfl)) rfl (hb hby at_629) (by decide) (by decide) ⟨rfl, N2⟩
    · skip
      refine own_go (fun _ => XS.ifYes X19.here hx rfl (pc0 := 587) (pc' := 628) rfl (hb hby at_587) rfl (XT.i0_le_t hp) (by decide) (by decide)) ?_
      show own_Go p e below _ (T19.setTop (mkF m 628 #[.val (.int x0), .val (.int x1), .val (.int x2), .val (.int n), .val (.ref a), .val (.ref r)] []))
      refine own_go (fun _ => XS.iconst X19.here hx rfl (hb hby at_628)) ?_
      show own_Go p e below _ (T19.setTop (mkF m 629 #[.val (.int x0), .val (.int x1), .val (.int x2), .val (.int n), .val (.ref a), .val (.ref r)] [(.int (1 : Int32))]))
      exact own_iret X19 hx hlk hret (Or.inr (Or.inl rfl)) rfl (hb hby at_629) (by decide) (by decide) ⟨rfl, N2⟩
  have C16 : nn ≤ 16 → ∀ (T : State) (locs : List Loc) (X : Stand p l e room_1 s m #[(.int x0), (.int x1), (.int x2)] below meth c T locs 4 100) (N : Fr h0.size locs) (a b : Addr) (us : List Value) (I : own_Ids Z T.heap a b us n) (ga : h0.size ≤ a) (gb : h0.size ≤ b) (hl : nn ≤ us.length) (hc : us.length ≤ 32) (H : own_Pre x0 x1 us nn), own_Go p e below (own_Out s (own_Q1 h0.size) room_1.cells room_1.slots) (T.setTop (mkF m 292 #[.val (.int x0), .val (.int x1), .val (.int x2), .val (.int n), .val (.ref a), .unset] [])) := by
    intro hle T locs X N a b us I ga gb hl hc H
    show own_Go p e below _ (T.setTop (mkF m 292 #[.val (.int x0), .val (.int x1), .val (.int x2), .val (.int n), .val (.ref a), .unset] []))
    refine own_go (fun _ => XS.iloadN X.here hx rfl (hb hby at_292) rfl) ?_
    show own_Go p e below _ (T.setTop (mkF m 293 #[.val (.int x0), .val (.int x1), .val (.int x2), .val (.int n), .val (.ref a), .unset] [(.int n)]))
    refine own_go (fun _ => XS.bipush X.here hx rfl (hb hby at_293)) ?_
    show own_Go p e below _ (T.setTop (mkF m 295 #[.val (.int x0), .val (.int x1), .val (.int x2), .val (.int n), .val (.ref a), .unset] [(.int (16 : Int32)), (.int n)]))
    refine own_go (fun _ => XS.icmpYes X.here hx rfl (pc0 := 295) (pc' := 310) rfl (hb hby at_295) rfl (XT.ii_le_t (fun q => by rw [Int32.lt_iff_toInt_lt, hn] at q; simp only [Int32.reduceToInt] at q; omega)) (by decide) (by decide)) ?_
    show own_Go p e below _ (T.setTop (mkF m 310 #[.val (.int x0), .val (.int x1), .val (.int x2), .val (.int n), .val (.ref a), .unset] []))
    exact C17 T locs X N a b us I ga gb hl hc H
  have C15 : nn ≤ 15 → ∀ (T : State) (locs : List Loc) (X : Stand p l e room_1 s m #[(.int x0), (.int x1), (.int x2)] below meth c T locs 4 100) (N : Fr h0.size locs) (a b : Addr) (us : List Value) (I : own_Ids Z T.heap a b us n) (ga : h0.size ≤ a) (gb : h0.size ≤ b) (hl : nn ≤ us.length) (hc : us.length ≤ 32) (H : own_Pre x0 x1 us nn), own_Go p e below (own_Out s (own_Q1 h0.size) room_1.cells room_1.slots) (T.setTop (mkF m 274 #[.val (.int x0), .val (.int x1), .val (.int x2), .val (.int n), .val (.ref a), .unset] [])) := by
    intro hle T locs X N a b us I ga gb hl hc H
    show own_Go p e below _ (T.setTop (mkF m 274 #[.val (.int x0), .val (.int x1), .val (.int x2), .val (.int n), .val (.ref a), .unset] []))
    refine own_go (fun _ => XS.iloadN X.here hx rfl (hb hby at_274) rfl) ?_
    show own_Go p e below _ (T.setTop (mkF m 275 #[.val (.int x0), .val (.int x1), .val (.int x2), .val (.int n), .val (.ref a), .unset] [(.int n)]))
    refine own_go (fun _ => XS.bipush X.here hx rfl (hb hby at_275)) ?_
    show own_Go p e below _ (T.setTop (mkF m 277 #[.val (.int x0), .val (.int x1), .val (.int x2), .val (.int n), .val (.ref a), .unset] [(.int (15 : Int32)), (.int n)]))
    refine own_go (fun _ => XS.icmpYes X.here hx rfl (pc0 := 277) (pc' := 292) rfl (hb hby at_277) rfl (XT.ii_le_t (fun q => by rw [Int32.lt_iff_toInt_lt, hn] at q; simp only [Int32.reduceToInt] at q; omega)) (by decide) (by decide)) ?_
    show own_Go p e below _ (T.setTop (mkF m 292 #[.val (.int x0), .val (.int x1), .val (.int x2), .val (.int n), .val (.ref a), .unset] []))
    exact C16 (by omega) T locs X N a b us I ga gb hl hc H
  have C14 : nn ≤ 14 → ∀ (T : State) (locs : List Loc) (X : Stand p l e room_1 s m #[(.int x0), (.int x1), (.int x2)] below meth c T locs 4 100) (N : Fr h0.size locs) (a b : Addr) (us : List Value) (I : own_Ids Z T.heap a b us n) (ga : h0.size ≤ a) (gb : h0.size ≤ b) (hl : nn ≤ us.length) (hc : us.length ≤ 32) (H : own_Pre x0 x1 us nn), own_Go p e below (own_Out s (own_Q1 h0.size) room_1.cells room_1.slots) (T.setTop (mkF m 256 #[.val (.int x0), .val (.int x1), .val (.int x2), .val (.int n), .val (.ref a), .unset] [])) := by
    intro hle T locs X N a b us I ga gb hl hc H
    show own_Go p e below _ (T.setTop (mkF m 256 #[.val (.int x0), .val (.int x1), .val (.int x2), .val (.int n), .val (.ref a), .unset] []))
    refine own_go (fun _ => XS.iloadN X.here hx rfl (hb hby at_256) rfl) ?_
    show own_Go p e below _ (T.setTop (mkF m 257 #[.val (.int x0), .val (.int x1), .val (.int x2), .val (.int n), .val (.ref a), .unset] [(.int n)]))
    refine own_go (fun _ => XS.bipush X.here hx rfl (hb hby at_257)) ?_
    show own_Go p e below _ (T.setTop (mkF m 259 #[.val (.int x0), .val (.int x1), .val (.int x2), .val (.int n), .val (.ref a), .unset] [(.int (14 : Int32)), (.int n)]))
    refine own_go (fun _ => XS.icmpYes X.here hx rfl (pc0 := 259) (pc' := 274) rfl (hb hby at_259) rfl (XT.ii_le_t (fun q => by rw [Int32.lt_iff_toInt_lt, hn] at q; simp only [Int32.reduceToInt] at q; omega)) (by decide) (by decide)) ?_
    show own_Go p e below _ (T.setTop (mkF m 274 #[.val (.int x0), .val (.int x1), .val (.int x2), .val (.int n), .val (.ref a), .unset] []))
    exact C15 (by omega) T locs X N a b us I ga gb hl hc H
  have C13 : nn ≤ 13 → ∀ (T : State) (locs : List Loc) (X : Stand p l e room_1 s m #[(.int x0), (.int x1), (.int x2)] below meth c T locs 4 100) (N : Fr h0.size locs) (a b : Addr) (us : List Value) (I : own_Ids Z T.heap a b us n) (ga : h0.size ≤ a) (gb : h0.size ≤ b) (hl : nn ≤ us.length) (hc : us.length ≤ 32) (H : own_Pre x0 x1 us nn), own_Go p e below (own_Out s (own_Q1 h0.size) room_1.cells room_1.slots) (T.setTop (mkF m 238 #[.val (.int x0), .val (.int x1), .val (.int x2), .val (.int n), .val (.ref a), .unset] [])) := by
    intro hle T locs X N a b us I ga gb hl hc H
    show own_Go p e below _ (T.setTop (mkF m 238 #[.val (.int x0), .val (.int x1), .val (.int x2), .val (.int n), .val (.ref a), .unset] []))
    refine own_go (fun _ => XS.iloadN X.here hx rfl (hb hby at_238) rfl) ?_
    show own_Go p e below _ (T.setTop (mkF m 239 #[.val (.int x0), .val (.int x1), .val (.int x2), .val (.int n), .val (.ref a), .unset] [(.int n)]))
    refine own_go (fun _ => XS.bipush X.here hx rfl (hb hby at_239)) ?_
    show own_Go p e below _ (T.setTop (mkF m 241 #[.val (.int x0), .val (.int x1), .val (.int x2), .val (.int n), .val (.ref a), .unset] [(.int (13 : Int32)), (.int n)]))
    refine own_go (fun _ => XS.icmpYes X.here hx rfl (pc0 := 241) (pc' := 256) rfl (hb hby at_241) rfl (XT.ii_le_t (fun q => by rw [Int32.lt_iff_toInt_lt, hn] at q; simp only [Int32.reduceToInt] at q; omega)) (by decide) (by decide)) ?_
    show own_Go p e below _ (T.setTop (mkF m 256 #[.val (.int x0), .val (.int x1), .val (.int x2), .val (.int n), .val (.ref a), .unset] []))
    exact C14 (by omega) T locs X N a b us I ga gb hl hc H
  have C12 : nn ≤ 12 → ∀ (T : State) (locs : List Loc) (X : Stand p l e room_1 s m #[(.int x0), (.int x1), (.int x2)] below meth c T locs 4 100) (N : Fr h0.size locs) (a b : Addr) (us : List Value) (I : own_Ids Z T.heap a b us n) (ga : h0.size ≤ a) (gb : h0.size ≤ b) (hl : nn ≤ us.length) (hc : us.length ≤ 32) (H : own_Pre x0 x1 us nn), own_Go p e below (own_Out s (own_Q1 h0.size) room_1.cells room_1.slots) (T.setTop (mkF m 220 #[.val (.int x0), .val (.int x1), .val (.int x2), .val (.int n), .val (.ref a), .unset] [])) := by
    intro hle T locs X N a b us I ga gb hl hc H
    show own_Go p e below _ (T.setTop (mkF m 220 #[.val (.int x0), .val (.int x1), .val (.int x2), .val (.int n), .val (.ref a), .unset] []))
    refine own_go (fun _ => XS.iloadN X.here hx rfl (hb hby at_220) rfl) ?_
    show own_Go p e below _ (T.setTop (mkF m 221 #[.val (.int x0), .val (.int x1), .val (.int x2), .val (.int n), .val (.ref a), .unset] [(.int n)]))
    refine own_go (fun _ => XS.bipush X.here hx rfl (hb hby at_221)) ?_
    show own_Go p e below _ (T.setTop (mkF m 223 #[.val (.int x0), .val (.int x1), .val (.int x2), .val (.int n), .val (.ref a), .unset] [(.int (12 : Int32)), (.int n)]))
    refine own_go (fun _ => XS.icmpYes X.here hx rfl (pc0 := 223) (pc' := 238) rfl (hb hby at_223) rfl (XT.ii_le_t (fun q => by rw [Int32.lt_iff_toInt_lt, hn] at q; simp only [Int32.reduceToInt] at q; omega)) (by decide) (by decide)) ?_
    show own_Go p e below _ (T.setTop (mkF m 238 #[.val (.int x0), .val (.int x1), .val (.int x2), .val (.int n), .val (.ref a), .unset] []))
    exact C13 (by omega) T locs X N a b us I ga gb hl hc H
  have C11 : nn ≤ 11 → ∀ (T : State) (locs : List Loc) (X : Stand p l e room_1 s m #[(.int x0), (.int x1), (.int x2)] below meth c T locs 4 100) (N : Fr h0.size locs) (a b : Addr) (us : List Value) (I : own_Ids Z T.heap a b us n) (ga : h0.size ≤ a) (gb : h0.size ≤ b) (hl : nn ≤ us.length) (hc : us.length ≤ 32) (H : own_Pre x0 x1 us nn), own_Go p e below (own_Out s (own_Q1 h0.size) room_1.cells room_1.slots) (T.setTop (mkF m 202 #[.val (.int x0), .val (.int x1), .val (.int x2), .val (.int n), .val (.ref a), .unset] [])) := by
    intro hle T locs X N a b us I ga gb hl hc H
    show own_Go p e below _ (T.setTop (mkF m 202 #[.val (.int x0), .val (.int x1), .val (.int x2), .val (.int n), .val (.ref a), .unset] []))
    refine own_go (fun _ => XS.iloadN X.here hx rfl (hb hby at_202) rfl) ?_
    show own_Go p e below _ (T.setTop (mkF m 203 #[.val (.int x0), .val (.int x1), .val (.int x2), .val (.int n), .val (.ref a), .unset] [(.int n)]))
    refine own_go (fun _ => XS.bipush X.here hx rfl (hb hby at_203)) ?_
    show own_Go p e below _ (T.setTop (mkF m 205 #[.val (.int x0), .val (.int x1), .val (.int x2), .val (.int n), .val (.ref a), .unset] [(.int (11 : Int32)), (.int n)]))
    refine own_go (fun _ => XS.icmpYes X.here hx rfl (pc0 := 205) (pc' := 220) rfl (hb hby at_205) rfl (XT.ii_le_t (fun q => by rw [Int32.lt_iff_toInt_lt, hn] at q; simp only [Int32.reduceToInt] at q; omega)) (by decide) (by decide)) ?_
    show own_Go p e below _ (T.setTop (mkF m 220 #[.val (.int x0), .val (.int x1), .val (.int x2), .val (.int n), .val (.ref a), .unset] []))
    exact C12 (by omega) T locs X N a b us I ga gb hl hc H
  have C10 : nn ≤ 10 → ∀ (T : State) (locs : List Loc) (X : Stand p l e room_1 s m #[(.int x0), (.int x1), (.int x2)] below meth c T locs 4 100) (N : Fr h0.size locs) (a b : Addr) (us : List Value) (I : own_Ids Z T.heap a b us n) (ga : h0.size ≤ a) (gb : h0.size ≤ b) (hl : nn ≤ us.length) (hc : us.length ≤ 32) (H : own_Pre x0 x1 us nn), own_Go p e below (own_Out s (own_Q1 h0.size) room_1.cells room_1.slots) (T.setTop (mkF m 184 #[.val (.int x0), .val (.int x1), .val (.int x2), .val (.int n), .val (.ref a), .unset] [])) := by
    intro hle T locs X N a b us I ga gb hl hc H
    show own_Go p e below _ (T.setTop (mkF m 184 #[.val (.int x0), .val (.int x1), .val (.int x2), .val (.int n), .val (.ref a), .unset] []))
    refine own_go (fun _ => XS.iloadN X.here hx rfl (hb hby at_184) rfl) ?_
    show own_Go p e below _ (T.setTop (mkF m 185 #[.val (.int x0), .val (.int x1), .val (.int x2), .val (.int n), .val (.ref a), .unset] [(.int n)]))
    refine own_go (fun _ => XS.bipush X.here hx rfl (hb hby at_185)) ?_
    show own_Go p e below _ (T.setTop (mkF m 187 #[.val (.int x0), .val (.int x1), .val (.int x2), .val (.int n), .val (.ref a), .unset] [(.int (10 : Int32)), (.int n)]))
    refine own_go (fun _ => XS.icmpYes X.here hx rfl (pc0 := 187) (pc' := 202) rfl (hb hby at_187) rfl (XT.ii_le_t (fun q => by rw [Int32.lt_iff_toInt_lt, hn] at q; simp only [Int32.reduceToInt] at q; omega)) (by decide) (by decide)) ?_
    show own_Go p e below _ (T.setTop (mkF m 202 #[.val (.int x0), .val (.int x1), .val (.int x2), .val (.int n), .val (.ref a), .unset] []))
    exact C11 (by omega) T locs X N a b us I ga gb hl hc H
  have C9 : nn ≤ 9 → ∀ (T : State) (locs : List Loc) (X : Stand p l e room_1 s m #[(.int x0), (.int x1), (.int x2)] below meth c T locs 4 100) (N : Fr h0.size locs) (a b : Addr) (us : List Value) (I : own_Ids Z T.heap a b us n) (ga : h0.size ≤ a) (gb : h0.size ≤ b) (hl : nn ≤ us.length) (hc : us.length ≤ 32) (H : own_Pre x0 x1 us nn), own_Go p e below (own_Out s (own_Q1 h0.size) room_1.cells room_1.slots) (T.setTop (mkF m 166 #[.val (.int x0), .val (.int x1), .val (.int x2), .val (.int n), .val (.ref a), .unset] [])) := by
    intro hle T locs X N a b us I ga gb hl hc H
    show own_Go p e below _ (T.setTop (mkF m 166 #[.val (.int x0), .val (.int x1), .val (.int x2), .val (.int n), .val (.ref a), .unset] []))
    refine own_go (fun _ => XS.iloadN X.here hx rfl (hb hby at_166) rfl) ?_
    show own_Go p e below _ (T.setTop (mkF m 167 #[.val (.int x0), .val (.int x1), .val (.int x2), .val (.int n), .val (.ref a), .unset] [(.int n)]))
    refine own_go (fun _ => XS.bipush X.here hx rfl (hb hby at_167)) ?_
    show own_Go p e below _ (T.setTop (mkF m 169 #[.val (.int x0), .val (.int x1), .val (.int x2), .val (.int n), .val (.ref a), .unset] [(.int (9 : Int32)), (.int n)]))
    refine own_go (fun _ => XS.icmpYes X.here hx rfl (pc0 := 169) (pc' := 184) rfl (hb hby at_169) rfl (XT.ii_le_t (fun q => by rw [Int32.lt_iff_toInt_lt, hn] at q; simp only [Int32.reduceToInt] at q; omega)) (by decide) (by decide)) ?_
    show own_Go p e below _ (T.setTop (mkF m 184 #[.val (.int x0), .val (.int x1), .val (.int x2), .val (.int n), .val (.ref a), .unset] []))
    exact C10 (by omega) T locs X N a b us I ga gb hl hc H
  have C8 : nn ≤ 8 → ∀ (T : State) (locs : List Loc) (X : Stand p l e room_1 s m #[(.int x0), (.int x1), (.int x2)] below meth c T locs 4 100) (N : Fr h0.size locs) (a b : Addr) (us : List Value) (I : own_Ids Z T.heap a b us n) (ga : h0.size ≤ a) (gb : h0.size ≤ b) (hl : nn ≤ us.length) (hc : us.length ≤ 32) (H : own_Pre x0 x1 us nn), own_Go p e below (own_Out s (own_Q1 h0.size) room_1.cells room_1.slots) (T.setTop (mkF m 148 #[.val (.int x0), .val (.int x1), .val (.int x2), .val (.int n), .val (.ref a), .unset] [])) := by
    intro hle T locs X N a b us I ga gb hl hc H
    show own_Go p e below _ (T.setTop (mkF m 148 #[.val (.int x0), .val (.int x1), .val (.int x2), .val (.int n), .val (.ref a), .unset] []))
    refine own_go (fun _ => XS.iloadN X.here hx rfl (hb hby at_148) rfl) ?_
    show own_Go p e below _ (T.setTop (mkF m 149 #[.val (.int x0), .val (.int x1), .val (.int x2), .val (.int n), .val (.ref a), .unset] [(.int n)]))
    refine own_go (fun _ => XS.bipush X.here hx rfl (hb hby at_149)) ?_
    show own_Go p e below _ (T.setTop (mkF m 151 #[.val (.int x0), .val (.int x1), .val (.int x2), .val (.int n), .val (.ref a), .unset] [(.int (8 : Int32)), (.int n)]))
    refine own_go (fun _ => XS.icmpYes X.here hx rfl (pc0 := 151) (pc' := 166) rfl (hb hby at_151) rfl (XT.ii_le_t (fun q => by rw [Int32.lt_iff_toInt_lt, hn] at q; simp only [Int32.reduceToInt] at q; omega)) (by decide) (by decide)) ?_
    show own_Go p e below _ (T.setTop (mkF m 166 #[.val (.int x0), .val (.int x1), .val (.int x2), .val (.int n), .val (.ref a), .unset] []))
    exact C9 (by omega) T locs X N a b us I ga gb hl hc H
  have C7 : nn ≤ 7 → ∀ (T : State) (locs : List Loc) (X : Stand p l e room_1 s m #[(.int x0), (.int x1), (.int x2)] below meth c T locs 4 100) (N : Fr h0.size locs) (a b : Addr) (us : List Value) (I : own_Ids Z T.heap a b us n) (ga : h0.size ≤ a) (gb : h0.size ≤ b) (hl : nn ≤ us.length) (hc : us.length ≤ 32) (H : own_Pre x0 x1 us nn), own_Go p e below (own_Out s (own_Q1 h0.size) room_1.cells room_1.slots) (T.setTop (mkF m 130 #[.val (.int x0), .val (.int x1), .val (.int x2), .val (.int n), .val (.ref a), .unset] [])) := by
    intro hle T locs X N a b us I ga gb hl hc H
    show own_Go p e below _ (T.setTop (mkF m 130 #[.val (.int x0), .val (.int x1), .val (.int x2), .val (.int n), .val (.ref a), .unset] []))
    refine own_go (fun _ => XS.iloadN X.here hx rfl (hb hby at_130) rfl) ?_
    show own_Go p e below _ (T.setTop (mkF m 131 #[.val (.int x0), .val (.int x1), .val (.int x2), .val (.int n), .val (.ref a), .unset] [(.int n)]))
    refine own_go (fun _ => XS.bipush X.here hx rfl (hb hby at_131)) ?_
    show own_Go p e below _ (T.setTop (mkF m 133 #[.val (.int x0), .val (.int x1), .val (.int x2), .val (.int n), .val (.ref a), .unset] [(.int (7 : Int32)), (.int n)]))
    refine own_go (fun _ => XS.icmpYes X.here hx rfl (pc0 := 133) (pc' := 148) rfl (hb hby at_133) rfl (XT.ii_le_t (fun q => by rw [Int32.lt_iff_toInt_lt, hn] at q; simp only [Int32.reduceToInt] at q; omega)) (by decide) (by decide)) ?_
    show own_Go p e below _ (T.setTop (mkF m 148 #[.val (.int x0), .val (.int x1), .val (.int x2), .val (.int n), .val (.ref a), .unset] []))
    exact C8 (by omega) T locs X N a b us I ga gb hl hc H
  have C6 : nn ≤ 6 → ∀ (T : State) (locs : List Loc) (X : Stand p l e room_1 s m #[(.int x0), (.int x1), (.int x2)] below meth c T locs 4 100) (N : Fr h0.size locs) (a b : Addr) (us : List Value) (I : own_Ids Z T.heap a b us n) (ga : h0.size ≤ a) (gb : h0.size ≤ b) (hl : nn ≤ us.length) (hc : us.length ≤ 32) (H : own_Pre x0 x1 us nn), own_Go p e below (own_Out s (own_Q1 h0.size) room_1.cells room_1.slots) (T.setTop (mkF m 112 #[.val (.int x0), .val (.int x1), .val (.int x2), .val (.int n), .val (.ref a), .unset] [])) := by
    intro hle T locs X N a b us I ga gb hl hc H
    show own_Go p e below _ (T.setTop (mkF m 112 #[.val (.int x0), .val (.int x1), .val (.int x2), .val (.int n), .val (.ref a), .unset] []))
    refine own_go (fun _ => XS.iloadN X.here hx rfl (hb hby at_112) rfl) ?_
    show own_Go p e below _ (T.setTop (mkF m 113 #[.val (.int x0), .val (.int x1), .val (.int x2), .val (.int n), .val (.ref a), .unset] [(.int n)]))
    refine own_go (fun _ => XS.bipush X.here hx rfl (hb hby at_113)) ?_
    show own_Go p e below _ (T.setTop (mkF m 115 #[.val (.int x0), .val (.int x1), .val (.int x2), .val (.int n), .val (.ref a), .unset] [(.int (6 : Int32)), (.int n)]))
    refine own_go (fun _ => XS.icmpYes X.here hx rfl (pc0 := 115) (pc' := 130) rfl (hb hby at_115) rfl (XT.ii_le_t (fun q => by rw [Int32.lt_iff_toInt_lt, hn] at q; simp only [Int32.reduceToInt] at q; omega)) (by decide) (by decide)) ?_
    show own_Go p e below _ (T.setTop (mkF m 130 #[.val (.int x0), .val (.int x1), .val (.int x2), .val (.int n), .val (.ref a), .unset] []))
    exact C7 (by omega) T locs X N a b us I ga gb hl hc H
  have C5 : nn ≤ 5 → ∀ (T : State) (locs : List Loc) (X : Stand p l e room_1 s m #[(.int x0), (.int x1), (.int x2)] below meth c T locs 4 100) (N : Fr h0.size locs) (a b : Addr) (us : List Value) (I : own_Ids Z T.heap a b us n) (ga : h0.size ≤ a) (gb : h0.size ≤ b) (hl : nn ≤ us.length) (hc : us.length ≤ 32) (H : own_Pre x0 x1 us nn), own_Go p e below (own_Out s (own_Q1 h0.size) room_1.cells room_1.slots) (T.setTop (mkF m 96 #[.val (.int x0), .val (.int x1), .val (.int x2), .val (.int n), .val (.ref a), .unset] [])) := by
    intro hle T locs X N a b us I ga gb hl hc H
    show own_Go p e below _ (T.setTop (mkF m 96 #[.val (.int x0), .val (.int x1), .val (.int x2), .val (.int n), .val (.ref a), .unset] []))
    refine own_go (fun _ => XS.iloadN X.here hx rfl (hb hby at_96) rfl) ?_
    show own_Go p e below _ (T.setTop (mkF m 97 #[.val (.int x0), .val (.int x1), .val (.int x2), .val (.int n), .val (.ref a), .unset] [(.int n)]))
    refine own_go (fun _ => XS.iconst X.here hx rfl (hb hby at_97)) ?_
    show own_Go p e below _ (T.setTop (mkF m 98 #[.val (.int x0), .val (.int x1), .val (.int x2), .val (.int n), .val (.ref a), .unset] [(.int (5 : Int32)), (.int n)]))
    refine own_go (fun _ => XS.icmpYes X.here hx rfl (pc0 := 98) (pc' := 112) rfl (hb hby at_98) rfl (XT.ii_le_t (fun q => by rw [Int32.lt_iff_toInt_lt, hn] at q; simp only [Int32.reduceToInt] at q; omega)) (by decide) (by decide)) ?_
    show own_Go p e below _ (T.setTop (mkF m 112 #[.val (.int x0), .val (.int x1), .val (.int x2), .val (.int n), .val (.ref a), .unset] []))
    exact C6 (by omega) T locs X N a b us I ga gb hl hc H
  have C4 : nn ≤ 4 → ∀ (T : State) (locs : List Loc) (X : Stand p l e room_1 s m #[(.int x0), (.int x1), (.int x2)] below meth c T locs 4 100) (N : Fr h0.size locs) (a b : Addr) (us : List Value) (I : own_Ids Z T.heap a b us n) (ga : h0.size ≤ a) (gb : h0.size ≤ b) (hl : nn ≤ us.length) (hc : us.length ≤ 32) (H : own_Pre x0 x1 us nn), own_Go p e below (own_Out s (own_Q1 h0.size) room_1.cells room_1.slots) (T.setTop (mkF m 80 #[.val (.int x0), .val (.int x1), .val (.int x2), .val (.int n), .val (.ref a), .unset] [])) := by
    intro hle T locs X N a b us I ga gb hl hc H
    show own_Go p e below _ (T.setTop (mkF m 80 #[.val (.int x0), .val (.int x1), .val (.int x2), .val (.int n), .val (.ref a), .unset] []))
    refine own_go (fun _ => XS.iloadN X.here hx rfl (hb hby at_80) rfl) ?_
    show own_Go p e below _ (T.setTop (mkF m 81 #[.val (.int x0), .val (.int x1), .val (.int x2), .val (.int n), .val (.ref a), .unset] [(.int n)]))
    refine own_go (fun _ => XS.iconst X.here hx rfl (hb hby at_81)) ?_
    show own_Go p e below _ (T.setTop (mkF m 82 #[.val (.int x0), .val (.int x1), .val (.int x2), .val (.int n), .val (.ref a), .unset] [(.int (4 : Int32)), (.int n)]))
    refine own_go (fun _ => XS.icmpYes X.here hx rfl (pc0 := 82) (pc' := 96) rfl (hb hby at_82) rfl (XT.ii_le_t (fun q => by rw [Int32.lt_iff_toInt_lt, hn] at q; simp only [Int32.reduceToInt] at q; omega)) (by decide) (by decide)) ?_
    show own_Go p e below _ (T.setTop (mkF m 96 #[.val (.int x0), .val (.int x1), .val (.int x2), .val (.int n), .val (.ref a), .unset] []))
    exact C5 (by omega) T locs X N a b us I ga gb hl hc H
  have C3 : nn ≤ 3 → ∀ (T : State) (locs : List Loc) (X : Stand p l e room_1 s m #[(.int x0), (.int x1), (.int x2)] below meth c T locs 4 100) (N : Fr h0.size locs) (a b : Addr) (us : List Value) (I : own_Ids Z T.heap a b us n) (ga : h0.size ≤ a) (gb : h0.size ≤ b) (hl : nn ≤ us.length) (hc : us.length ≤ 32) (H : own_Pre x0 x1 us nn), own_Go p e below (own_Out s (own_Q1 h0.size) room_1.cells room_1.slots) (T.setTop (mkF m 64 #[.val (.int x0), .val (.int x1), .val (.int x2), .val (.int n), .val (.ref a), .unset] [])) := by
    intro hle T locs X N a b us I ga gb hl hc H
    show own_Go p e below _ (T.setTop (mkF m 64 #[.val (.int x0), .val (.int x1), .val (.int x2), .val (.int n), .val (.ref a), .unset] []))
    refine own_go (fun _ => XS.iloadN X.here hx rfl (hb hby at_64) rfl) ?_
    show own_Go p e below _ (T.setTop (mkF m 65 #[.val (.int x0), .val (.int x1), .val (.int x2), .val (.int n), .val (.ref a), .unset] [(.int n)]))
    refine own_go (fun _ => XS.iconst X.here hx rfl (hb hby at_65)) ?_
    show own_Go p e below _ (T.setTop (mkF m 66 #[.val (.int x0), .val (.int x1), .val (.int x2), .val (.int n), .val (.ref a), .unset] [(.int (3 : Int32)), (.int n)]))
    refine own_go (fun _ => XS.icmpYes X.here hx rfl (pc0 := 66) (pc' := 80) rfl (hb hby at_66) rfl (XT.ii_le_t (fun q => by rw [Int32.lt_iff_toInt_lt, hn] at q; simp only [Int32.reduceToInt] at q; omega)) (by decide) (by decide)) ?_
    show own_Go p e below _ (T.setTop (mkF m 80 #[.val (.int x0), .val (.int x1), .val (.int x2), .val (.int n), .val (.ref a), .unset] []))
    exact C4 (by omega) T locs X N a b us I ga gb hl hc H
  have C2 : nn ≤ 2 → ∀ (T : State) (locs : List Loc) (X : Stand p l e room_1 s m #[(.int x0), (.int x1), (.int x2)] below meth c T locs 4 100) (N : Fr h0.size locs) (a b : Addr) (us : List Value) (I : own_Ids Z T.heap a b us n) (ga : h0.size ≤ a) (gb : h0.size ≤ b) (hl : nn ≤ us.length) (hc : us.length ≤ 32) (H : own_Pre x0 x1 us nn), own_Go p e below (own_Out s (own_Q1 h0.size) room_1.cells room_1.slots) (T.setTop (mkF m 48 #[.val (.int x0), .val (.int x1), .val (.int x2), .val (.int n), .val (.ref a), .unset] [])) := by
    intro hle T locs X N a b us I ga gb hl hc H
    show own_Go p e below _ (T.setTop (mkF m 48 #[.val (.int x0), .val (.int x1), .val (.int x2), .val (.int n), .val (.ref a), .unset] []))
    refine own_go (fun _ => XS.iloadN X.here hx rfl (hb hby at_48) rfl) ?_
    show own_Go p e below _ (T.setTop (mkF m 49 #[.val (.int x0), .val (.int x1), .val (.int x2), .val (.int n), .val (.ref a), .unset] [(.int n)]))
    refine own_go (fun _ => XS.iconst X.here hx rfl (hb hby at_49)) ?_
    show own_Go p e below _ (T.setTop (mkF m 50 #[.val (.int x0), .val (.int x1), .val (.int x2), .val (.int n), .val (.ref a), .unset] [(.int (2 : Int32)), (.int n)]))
    refine own_go (fun _ => XS.icmpYes X.here hx rfl (pc0 := 50) (pc' := 64) rfl (hb hby at_50) rfl (XT.ii_le_t (fun q => by rw [Int32.lt_iff_toInt_lt, hn] at q; simp only [Int32.reduceToInt] at q; omega)) (by decide) (by decide)) ?_
    show own_Go p e below _ (T.setTop (mkF m 64 #[.val (.int x0), .val (.int x1), .val (.int x2), .val (.int n), .val (.ref a), .unset] []))
    exact C3 (by omega) T locs X N a b us I ga gb hl hc H
  have C1 : nn ≤ 1 → ∀ (T : State) (locs : List Loc) (X : Stand p l e room_1 s m #[(.int x0), (.int x1), (.int x2)] below meth c T locs 4 100) (N : Fr h0.size locs) (a b : Addr) (us : List Value) (I : own_Ids Z T.heap a b us n) (ga : h0.size ≤ a) (gb : h0.size ≤ b) (hl : nn ≤ us.length) (hc : us.length ≤ 32) (H : own_Pre x0 x1 us nn), own_Go p e below (own_Out s (own_Q1 h0.size) room_1.cells room_1.slots) (T.setTop (mkF m 32 #[.val (.int x0), .val (.int x1), .val (.int x2), .val (.int n), .val (.ref a), .unset] [])) := by
    intro hle T locs X N a b us I ga gb hl hc H
    show own_Go p e below _ (T.setTop (mkF m 32 #[.val (.int x0), .val (.int x1), .val (.int x2), .val (.int n), .val (.ref a), .unset] []))
    refine own_go (fun _ => XS.iloadN X.here hx rfl (hb hby at_32) rfl) ?_
    show own_Go p e below _ (T.setTop (mkF m 33 #[.val (.int x0), .val (.int x1), .val (.int x2), .val (.int n), .val (.ref a), .unset] [(.int n)]))
    refine own_go (fun _ => XS.iconst X.here hx rfl (hb hby at_33)) ?_
    show own_Go p e below _ (T.setTop (mkF m 34 #[.val (.int x0), .val (.int x1), .val (.int x2), .val (.int n), .val (.ref a), .unset] [(.int (1 : Int32)), (.int n)]))
    refine own_go (fun _ => XS.icmpYes X.here hx rfl (pc0 := 34) (pc' := 48) rfl (hb hby at_34) rfl (XT.ii_le_t (fun q => by rw [Int32.lt_iff_toInt_lt, hn] at q; simp only [Int32.reduceToInt] at q; omega)) (by decide) (by decide)) ?_
    show own_Go p e below _ (T.setTop (mkF m 48 #[.val (.int x0), .val (.int x1), .val (.int x2), .val (.int n), .val (.ref a), .unset] []))
    exact C2 (by omega) T locs X N a b us I ga gb hl hc H
  refine own_go (fun _ => XS.istoreN X.here hx rfl (hb hby at_7) rfl (l' := #[.val (.int x0), .val (.int x1), .val (.int x2), .val (.int n), .unset, .unset]) rfl) ?_
  show own_Go p e below _ (T.setTop (mkF m 8 #[.val (.int x0), .val (.int x1), .val (.int x2), .val (.int n), .unset, .unset] []))
  obtain ⟨T24, h24, X24, e24, E24, C24, D24, -, st24⟩ := newO X hx hZ hown (hw _ (List.mem_of_getElem? (i := 1) rfl)) (hw _ (List.mem_of_getElem? (i := 2) rfl)) (hw _ (List.mem_of_getElem? (i := 3) rfl)) eT (g := (mkF m 8 #[.val (.int x0), .val (.int x1), .val (.int x2), .val (.int n), .unset, .unset] [])) rfl (hb hby at_8) (by decide) (by decide)
  obtain ⟨a24, q24⟩ : ∃ z, z = h0.size := ⟨_, rfl⟩
  rw [← q24] at C24 D24 st24
  have o_ids_24 := D24 (Or.inl (hw _ (List.mem_of_getElem? (i := 12) rfl))) (ty := (.array .int)) (by decide)
  have o_size_24 := D24 (Or.inl (hw _ (List.mem_of_getElem? (i := 23) rfl))) (ty := .int) (by decide)
  refine own_go st24 ?_
  show own_Go p e below _ (T24.setTop (mkF m 11 #[.val (.int x0), .val (.int x1), .val (.int x2), .val (.int n), .unset, .unset] [(.ref a24)]))
  refine own_go (fun _ => XS.dup X24.here hx rfl (hb hby at_11) rfl rfl) ?_
  show own_Go p e below _ (T24.setTop (mkF m 12 #[.val (.int x0), .val (.int x1), .val (.int x2), .val (.int n), .unset, .unset] [(.ref a24), (.ref a24)]))
  have ga : h0.size ≤ a24 := Nat.le_of_eq q24.symm
  have gn : h0.size ≤ h24.size := E24.1
  obtain ⟨b, hbv⟩ : ∃ z, z = h24.size := ⟨_, rfl⟩
  obtain ⟨_, T25, L25, X25, ⟨rfl, Nc25, Kc25, I25⟩, st25⟩ := own_callI X24 hx hZ hown rfl (argsL := []) (rest := [(.ref a24)]) (own_init_con l Z a0 hw a24 h0.size h24 C24 o_ids_24 o_size_24 ga gn []) e24 (hw _ (List.mem_of_getElem? (i := 4) rfl)) (hw _ (List.mem_of_getElem? (i := 5) rfl)) (hw _ (List.mem_of_getElem? (i := 3) rfl)) (hw _ (List.mem_of_getElem? (i := 6) rfl)) (by decide) (by decide +kernel : parseMethodDescriptor "()V" = some ⟨[], none⟩) rfl (g := (mkF m 12 #[.val (.int x0), .val (.int x1), .val (.int x2), .val (.int n), .unset, .unset] [(.ref a24), (.ref a24)])) rfl (by rw [hml]; rfl) rfl 1 (by show 2 * 0 + _ ≤ _; exact Nat.le_of_eq rfl) (hb hby at_12) (by decide) (by decide) (by decide) (by decide)
  have N25 := Fr.app N0 Nc25
  have o_E_25 := C24.keep Kc25
  refine own_go st25 ?_
  show own_Go p e below _ (T25.setTop (mkF m 15 #[.val (.int x0), .val (.int x1), .val (.int x2), .val (.int n), .unset, .unset] [(.ref a24)]))
  rw [← hbv] at I25
  have gb : h0.size ≤ b := by rw [hbv]; exact gn
  obtain ⟨us0, hus0⟩ : ∃ z, z = (List.replicate 16 (Value.int 0)) := ⟨_, rfl⟩
  have l0 : us0.length = 16 := by rw [hus0]; rfl
  have H0 : own_Pre x0 x1 us0 0 := fun i hi => absurd hi (Nat.not_lt_zero _)
  rw [← hus0] at I25
  refine own_go (fun _ => XS.astore X25.here hx rfl (hb hby at_15) rfl rfl (l' := #[.val (.int x0), .val (.int x1), .val (.int x2), .val (.int n), .val (.ref a24), .unset]) rfl) ?_
  show own_Go p e below _ (T25.setTop (mkF m 17 #[.val (.int x0), .val (.int x1), .val (.int x2), .val (.int n), .val (.ref a24), .unset] []))
  refine own_go (fun _ => XS.iloadN X25.here hx rfl (hb hby at_17) rfl) ?_
  show own_Go p e below _ (T25.setTop (mkF m 18 #[.val (.int x0), .val (.int x1), .val (.int x2), .val (.int n), .val (.ref a24), .unset] [(.int n)]))
  by_cases hp0 : (0 : Int32) < n
  · skip
    have lt0 : 0 < nn := by rw [Int32.lt_iff_toInt_lt, hn] at hp0; simp only [Int32.reduceToInt] at hp0; omega
    refine own_go (fun _ => XS.ifNo X25.here hx rfl (hb hby at_18) rfl (XT.i0_le_f hp0)) ?_
    show own_Go p e below _ (T25.setTop (mkF m 21 #[.val (.int x0), .val (.int x1), .val (.int x2), .val (.int n), .val (.ref a24), .unset] []))
    refine own_go (fun _ => XS.aload X25.here hx rfl (hb hby at_21) rfl rfl) ?_
    show own_Go p e below _ (T25.setTop (mkF m 23 #[.val (.int x0), .val (.int x1), .val (.int x2), .val (.int n), .val (.ref a24), .unset] [(.ref a24)]))
    refine own_go (fun _ => XS.iloadN X25.here hx rfl (hb hby at_23) rfl) ?_
    show own_Go p e below _ (T25.setTop (mkF m 24 #[.val (.int x0), .val (.int x1), .val (.int x2), .val (.int n), .val (.ref a24), .unset] [(.int x0), (.ref a24)]))
    refine own_go (fun _ => XS.iloadN X25.here hx rfl (hb hby at_24) rfl) ?_
    show own_Go p e below _ (T25.setTop (mkF m 25 #[.val (.int x0), .val (.int x1), .val (.int x2), .val (.int n), .val (.ref a24), .unset] [(.int x1), (.int x0), (.ref a24)]))
    refine own_go (fun _ => XS.iconst X25.here hx rfl (hb hby at_25)) ?_
    show own_Go p e below _ (T25.setTop (mkF m 26 #[.val (.int x0), .val (.int x1), .val (.int x2), .val (.int n), .val (.ref a24), .unset] [(.int (0 : Int32)), (.int x1), (.int x0), (.ref a24)]))
    obtain ⟨T26, X26, e26, st26⟩ := own_callSP X25 hx hZ hown (argsL := [(.int x0), (.int x1), (.int (0 : Int32))]) (rest := [(.ref a24)]) (own_v_con l Z a0 hw x0 x1 (0 : Int32) T25.heap []) rfl (hw _ (List.mem_of_getElem? (i := 13) rfl)) (hw _ (List.mem_of_getElem? (i := 14) rfl)) (hw _ (List.mem_of_getElem? (i := 15) rfl)) (hw _ (List.mem_of_getElem? (i := 16) rfl)) (by decide) (by decide +kernel : parseMethodDescriptor "(III)I" = some ⟨[.int, .int, .int], some .int⟩) rfl (g := (mkF m 26 #[.val (.int x0), .val (.int x1), .val (.int x2), .val (.int n), .val (.ref a24), .unset] [(.int (0 : Int32)), (.int x1), (.int x0), (.ref a24)])) rfl (by rw [hml]; rfl) rfl 1 (by show 2 * 0 + _ ≤ _; exact Nat.le_of_eq rfl) (hb hby at_26) (by decide) (by decide) rfl rfl (by decide) (by decide)
    refine own_go st26 ?_
    show own_Go p e below _ (T26.setTop (mkF m 29 #[.val (.int x0), .val (.int x1), .val (.int x2), .val (.int n), .val (.ref a24), .unset] [(.int (own_v x0 x1 (0 : Int32))), (.ref a24)]))
    have ex0 := I25.1
    obtain ⟨_, T27, L27, X27, ⟨rfl, Nc27, Kc27, I27⟩, st27⟩ := own_callV X26 hx hZ hown (argsL := [(.int (own_v x0 x1 (0 : Int32)))]) (rest := []) (own_add_con l Z a0 hw a24 b us0 (0 : Int32) (own_v x0 x1 (0 : Int32)) 0 h0.size T25.heap I25 (by decide) (by rw [l0]; decide) ga gb []) e26 ex0 (hw _ (List.mem_of_getElem? (i := 17) rfl)) (hw _ (List.mem_of_getElem? (i := 18) rfl)) (hw _ (List.mem_of_getElem? (i := 20) rfl)) (hw _ (List.mem_of_getElem? (i := 19) rfl)) (hw _ (List.mem_of_getElem? (i := 3) rfl)) (hw _ (List.mem_of_getElem? (i := 21) rfl)) (notFace_of_selects (args := #[]) (mvT hZ (hw _ (List.mem_of_getElem? (i := 20) rfl)))) (by decide) (by decide +kernel : parseMethodDescriptor "(I)V" = some ⟨[.int], none⟩) rfl (g := (mkF m 29 #[.val (.int x0), .val (.int x1), .val (.int x2), .val (.int n), .val (.ref a24), .unset] [(.int (own_v x0 x1 (0 : Int32))), (.ref a24)])) rfl (by rw [hml]; rfl) rfl 0 (by show 2 * 0 + _ ≤ _; exact Nat.le_of_eq rfl) (hb hby at_29) (by decide) (by decide) (by decide) (by decide)
    have N27 := Fr.app N25 Nc27
    have o_E_27 := ex0.keep Kc27
    refine own_go st27 ?_
    show own_Go p e below _ (T27.setTop (mkF m 32 #[.val (.int x0), .val (.int x1), .val (.int x2), .val (.int n), .val (.ref a24), .unset] []))
    obtain ⟨us1, hus1⟩ : ∃ z, z = us0.set 0 (Value.int (own_v x0 x1 (0 : Int32))) := ⟨_, rfl⟩
    have l1 : us1.length = 16 := by rw [hus1, List.length_set]; exact l0
    have H1 : own_Pre x0 x1 us1 1 := by rw [hus1]; exact H0.set (by rw [l0]; decide)
    have J1 : own_Ids Z T27.heap a24 b us1 (1 : Int32) := by rw [hus1]; exact I27
    refine own_go (fun _ => XS.iloadN X27.here hx rfl (hb hby at_32) rfl) ?_
    show own_Go p e below _ (T27.setTop (mkF m 33 #[.val (.int x0), .val (.int x1), .val (.int x2), .val (.int n), .val (.ref a24), .unset] [(.int n)]))
    refine own_go (fun _ => XS.iconst X27.here hx rfl (hb hby at_33)) ?_
    show own_Go p e below _ (T27.setTop (mkF m 34 #[.val (.int x0), .val (.int x1), .val (.int x2), .val (.int n), .val (.ref a24), .unset] [(.int (1 : Int32)), (.int n)]))
    by_cases hp1 : (1 : Int32) < n
    · skip
      have lt1 : 1 < nn := by rw [Int32.lt_iff_toInt_lt, hn] at hp1; simp only [Int32.reduceToInt] at hp1; omega
      refine own_go (fun _ => XS.icmpNo X27.here hx rfl (hb hby at_34) rfl (XT.ii_le_f hp1)) ?_
      show own_Go p e below _ (T27.setTop (mkF m 37 #[.val (.int x0), .val (.int x1), .val (.int x2), .val (.int n), .val (.ref a24), .unset] []))
      refine own_go (fun _ => XS.aload X27.here hx rfl (hb hby at_37) rfl rfl) ?_
      show own_Go p e below _ (T27.setTop (mkF m 39 #[.val (.int x0), .val (.int x1), .val (.int x2), .val (.int n), .val (.ref a24), .unset] [(.ref a24)]))
      refine own_go (fun _ => XS.iloadN X27.here hx rfl (hb hby at_39) rfl) ?_
      show own_Go p e below _ (T27.setTop (mkF m 40 #[.val (.int x0), .val (.int x1), .val (.int x2), .val (.int n), .val (.ref a24), .unset] [(.int x0), (.ref a24)]))
      refine own_go (fun _ => XS.iloadN X27.here hx rfl (hb hby at_40) rfl) ?_
      show own_Go p e below _ (T27.setTop (mkF m 41 #[.val (.int x0), .val (.int x1), .val (.int x2), .val (.int n), .val (.ref a24), .unset] [(.int x1), (.int x0), (.ref a24)]))
      refine own_go (fun _ => XS.iconst X27.here hx rfl (hb hby at_41)) ?_
      show own_Go p e below _ (T27.setTop (mkF m 42 #[.val (.int x0), .val (.int x1), .val (.int x2), .val (.int n), .val (.ref a24), .unset] [(.int (1 : Int32)), (.int x1), (.int x0), (.ref a24)]))
      obtain ⟨T28, X28, e28, st28⟩ := own_callSP X27 hx hZ hown (argsL := [(.int x0), (.int x1), (.int (1 : Int32))]) (rest := [(.ref a24)]) (own_v_con l Z a0 hw x0 x1 (1 : Int32) T27.heap []) rfl (hw _ (List.mem_of_getElem? (i := 13) rfl)) (hw _ (List.mem_of_getElem? (i := 14) rfl)) (hw _ (List.mem_of_getElem? (i := 15) rfl)) (hw _ (List.mem_of_getElem? (i := 16) rfl)) (by decide) (by decide +kernel : parseMethodDescriptor "(III)I" = some ⟨[.int, .int, .int], some .int⟩) rfl (g := (mkF m 42 #[.val (.int x0), .val (.int x1), .val (.int x2), .val (.int n), .val (.ref a24), .unset] [(.int (1 : Int32)), (.int x1), (.int x0), (.ref a24)])) rfl (by rw [hml]; rfl) rfl 1 (by show 2 * 0 + _ ≤ _; exact Nat.le_of_eq rfl) (hb hby at_42) (by decide) (by decide) rfl rfl (by decide) (by decide)
      refine own_go st28 ?_
      show own_Go p e below _ (T28.setTop (mkF m 45 #[.val (.int x0), .val (.int x1), .val (.int x2), .val (.int n), .val (.ref a24), .unset] [(.int (own_v x0 x1 (1 : Int32))), (.ref a24)]))
      have ex1 := J1.1
      obtain ⟨_, T29, L29, X29, ⟨rfl, Nc29, Kc29, I29⟩, st29⟩ := own_callV X28 hx hZ hown (argsL := [(.int (own_v x0 x1 (1 : Int32)))]) (rest := []) (own_add_con l Z a0 hw a24 b us1 (1 : Int32) (own_v x0 x1 (1 : Int32)) 1 h0.size T27.heap J1 (by decide) (by rw [l1]; decide) ga gb []) e28 ex1 (hw _ (List.mem_of_getElem? (i := 17) rfl)) (hw _ (List.mem_of_getElem? (i := 18) rfl)) (hw _ (List.mem_of_getElem? (i := 20) rfl)) (hw _ (List.mem_of_getElem? (i := 19) rfl)) (hw _ (List.mem_of_getElem? (i := 3) rfl)) (hw _ (List.mem_of_getElem? (i := 21) rfl)) (notFace_of_selects (args := #[]) (mvT hZ (hw _ (List.mem_of_getElem? (i := 20) rfl)))) (by decide) (by decide +kernel : parseMethodDescriptor "(I)V" = some ⟨[.int], none⟩) rfl (g := (mkF m 45 #[.val (.int x0), .val (.int x1), .val (.int x2), .val (.int n), .val (.ref a24), .unset] [(.int (own_v x0 x1 (1 : Int32))), (.ref a24)])) rfl (by rw [hml]; rfl) rfl 0 (by show 2 * 0 + _ ≤ _; exact Nat.le_of_eq rfl) (hb hby at_45) (by decide) (by decide) (by decide) (by decide)
      have N29 := Fr.app N27 Nc29
      have o_E_29 := ex1.keep Kc29
      refine own_go st29 ?_
      show own_Go p e below _ (T29.setTop (mkF m 48 #[.val (.int x0), .val (.int x1), .val (.int x2), .val (.int n), .val (.ref a24), .unset] []))
      obtain ⟨us2, hus2⟩ : ∃ z, z = us1.set 1 (Value.int (own_v x0 x1 (1 : Int32))) := ⟨_, rfl⟩
      have l2 : us2.length = 16 := by rw [hus2, List.length_set]; exact l1
      have H2 : own_Pre x0 x1 us2 2 := by rw [hus2]; exact H1.set (by rw [l1]; decide)
      have J2 : own_Ids Z T29.heap a24 b us2 (2 : Int32) := by rw [hus2]; exact I29
      refine own_go (fun _ => XS.iloadN X29.here hx rfl (hb hby at_48) rfl) ?_
      show own_Go p e below _ (T29.setTop (mkF m 49 #[.val (.int x0), .val (.int x1), .val (.int x2), .val (.int n), .val (.ref a24), .unset] [(.int n)]))
      refine own_go (fun _ => XS.iconst X29.here hx rfl (hb hby at_49)) ?_
      show own_Go p e below _ (T29.setTop (mkF m 50 #[.val (.int x0), .val (.int x1), .val (.int x2), .val (.int n), .val (.ref a24), .unset] [(.int (2 : Int32)), (.int n)]))
      by_cases hp2 : (2 : Int32) < n
      · skip
        have lt2 : 2 < nn := by rw [Int32.lt_iff_toInt_lt, hn] at hp2; simp only [Int32.reduceToInt] at hp2; omega
        refine own_go (fun _ => XS.icmpNo X29.here hx rfl (hb hby at_50) rfl (XT.ii_le_f hp2)) ?_
        show own_Go p e below _ (T29.setTop (mkF m 53 #[.val (.int x0), .val (.int x1), .val (.int x2), .val (.int n), .val (.ref a24), .unset] []))
        refine own_go (fun _ => XS.aload X29.here hx rfl (hb hby at_53) rfl rfl) ?_
        show own_Go p e below _ (T29.setTop (mkF m 55 #[.val (.int x0), .val (.int x1), .val (.int x2), .val (.int n), .val (.ref a24), .unset] [(.ref a24)]))
        refine own_go (fun _ => XS.iloadN X29.here hx rfl (hb hby at_55) rfl) ?_
        show own_Go p e below _ (T29.setTop (mkF m 56 #[.val (.int x0), .val (.int x1), .val (.int x2), .val (.int n), .val (.ref a24), .unset] [(.int x0), (.ref a24)]))
        refine own_go (fun _ => XS.iloadN X29.here hx rfl (hb hby at_56) rfl) ?_
        show own_Go p e below _ (T29.setTop (mkF m 57 #[.val (.int x0), .val (.int x1), .val (.int x2), .val (.int n), .val (.ref a24), .unset] [(.int x1), (.int x0), (.ref a24)]))
        refine own_go (fun _ => XS.iconst X29.here hx rfl (hb hby at_57)) ?_
        show own_Go p e below _ (T29.setTop (mkF m 58 #[.val (.int x0), .val (.int x1), .val (.int x2), .val (.int n), .val (.ref a24), .unset] [(.int (2 : Int32)), (.int x1), (.int x0), (.ref a24)]))
        obtain ⟨T30, X30, e30, st30⟩ := own_callSP X29 hx hZ hown (argsL := [(.int x0), (.int x1), (.int (2 : Int32))]) (rest := [(.ref a24)]) (own_v_con l Z a0 hw x0 x1 (2 : Int32) T29.heap []) rfl (hw _ (List.mem_of_getElem? (i := 13) rfl)) (hw _ (List.mem_of_getElem? (i := 14) rfl)) (hw _ (List.mem_of_getElem? (i := 15) rfl)) (hw _ (List.mem_of_getElem? (i := 16) rfl)) (by decide) (by decide +kernel : parseMethodDescriptor "(III)I" = some ⟨[.int, .int, .int], some .int⟩) rfl (g := (mkF m 58 #[.val (.int x0), .val (.int x1), .val (.int x2), .val (.int n), .val (.ref a24), .unset] [(.int (2 : Int32)), (.int x1), (.int x0), (.ref a24)])) rfl (by rw [hml]; rfl) rfl 1 (by show 2 * 0 + _ ≤ _; exact Nat.le_of_eq rfl) (hb hby at_58) (by decide) (by decide) rfl rfl (by decide) (by decide)
        refine own_go st30 ?_
        show own_Go p e below _ (T30.setTop (mkF m 61 #[.val (.int x0), .val (.int x1), .val (.int x2), .val (.int n), .val (.ref a24), .unset] [(.int (own_v x0 x1 (2 : Int32))), (.ref a24)]))
        have ex2 := J2.1
        obtain ⟨_, T31, L31, X31, ⟨rfl, Nc31, Kc31, I31⟩, st31⟩ := own_callV X30 hx hZ hown (argsL := [(.int (own_v x0 x1 (2 : Int32)))]) (rest := []) (own_add_con l Z a0 hw a24 b us2 (2 : Int32) (own_v x0 x1 (2 : Int32)) 2 h0.size T29.heap J2 (by decide) (by rw [l2]; decide) ga gb []) e30 ex2 (hw _ (List.mem_of_getElem? (i := 17) rfl)) (hw _ (List.mem_of_getElem? (i := 18) rfl)) (hw _ (List.mem_of_getElem? (i := 20) rfl)) (hw _ (List.mem_of_getElem? (i := 19) rfl)) (hw _ (List.mem_of_getElem? (i := 3) rfl)) (hw _ (List.mem_of_getElem? (i := 21) rfl)) (notFace_of_selects (args := #[]) (mvT hZ (hw _ (List.mem_of_getElem? (i := 20) rfl)))) (by decide) (by decide +kernel : parseMethodDescriptor "(I)V" = some ⟨[.int], none⟩) rfl (g := (mkF m 61 #[.val (.int x0), .val (.int x1), .val (.int x2), .val (.int n), .val (.ref a24), .unset] [(.int (own_v x0 x1 (2 : Int32))), (.ref a24)])) rfl (by rw [hml]; rfl) rfl 0 (by show 2 * 0 + _ ≤ _; exact Nat.le_of_eq rfl) (hb hby at_61) (by decide) (by decide) (by decide) (by decide)
        have N31 := Fr.app N29 Nc31
        have o_E_31 := ex2.keep Kc31
        refine own_go st31 ?_
        show own_Go p e below _ (T31.setTop (mkF m 64 #[.val (.int x0), .val (.int x1), .val (.int x2), .val (.int n), .val (.ref a24), .unset] []))
        obtain ⟨us3, hus3⟩ : ∃ z, z = us2.set 2 (Value.int (own_v x0 x1 (2 : Int32))) := ⟨_, rfl⟩
        have l3 : us3.length = 16 := by rw [hus3, List.length_set]; exact l2
        have H3 : own_Pre x0 x1 us3 3 := by rw [hus3]; exact H2.set (by rw [l2]; decide)
        have J3 : own_Ids Z T31.heap a24 b us3 (3 : Int32) := by rw [hus3]; exact I31
        refine own_go (fun _ => XS.iloadN X31.here hx rfl (hb hby at_64) rfl) ?_
        show own_Go p e below _ (T31.setTop (mkF m 65 #[.val (.int x0), .val (.int x1), .val (.int x2), .val (.int n), .val (.ref a24), .unset] [(.int n)]))
        refine own_go (fun _ => XS.iconst X31.here hx rfl (hb hby at_65)) ?_
        show own_Go p e below _ (T31.setTop (mkF m 66 #[.val (.int x0), .val (.int x1), .val (.int x2), .val (.int n), .val (.ref a24), .unset] [(.int (3 : Int32)), (.int n)]))
        by_cases hp3 : (3 : Int32) < n
        · skip
          have lt3 : 3 < nn := by rw [Int32.lt_iff_toInt_lt, hn] at hp3; simp only [Int32.reduceToInt] at hp3; omega
          refine own_go (fun _ => XS.icmpNo X31.here hx rfl (hb hby at_66) rfl (XT.ii_le_f hp3)) ?_
          show own_Go p e below _ (T31.setTop (mkF m 69 #[.val (.int x0), .val (.int x1), .val (.int x2), .val (.int n), .val (.ref a24), .unset] []))
          refine own_go (fun _ => XS.aload X31.here hx rfl (hb hby at_69) rfl rfl) ?_
          show own_Go p e below _ (T31.setTop (mkF m 71 #[.val (.int x0), .val (.int x1), .val (.int x2), .val (.int n), .val (.ref a24), .unset] [(.ref a24)]))
          refine own_go (fun _ => XS.iloadN X31.here hx rfl (hb hby at_71) rfl) ?_
          show own_Go p e below _ (T31.setTop (mkF m 72 #[.val (.int x0), .val (.int x1), .val (.int x2), .val (.int n), .val (.ref a24), .unset] [(.int x0), (.ref a24)]))
          refine own_go (fun _ => XS.iloadN X31.here hx rfl (hb hby at_72) rfl) ?_
          show own_Go p e below _ (T31.setTop (mkF m 73 #[.val (.int x0), .val (.int x1), .val (.int x2), .val (.int n), .val (.ref a24), .unset] [(.int x1), (.int x0), (.ref a24)]))
          refine own_go (fun _ => XS.iconst X31.here hx rfl (hb hby at_73)) ?_
          show own_Go p e below _ (T31.setTop (mkF m 74 #[.val (.int x0), .val (.int x1), .val (.int x2), .val (.int n), .val (.ref a24), .unset] [(.int (3 : Int32)), (.int x1), (.int x0), (.ref a24)]))
          obtain ⟨T32, X32, e32, st32⟩ := own_callSP X31 hx hZ hown (argsL := [(.int x0), (.int x1), (.int (3 : Int32))]) (rest := [(.ref a24)]) (own_v_con l Z a0 hw x0 x1 (3 : Int32) T31.heap []) rfl (hw _ (List.mem_of_getElem? (i := 13) rfl)) (hw _ (List.mem_of_getElem? (i := 14) rfl)) (hw _ (List.mem_of_getElem? (i := 15) rfl)) (hw _ (List.mem_of_getElem? (i := 16) rfl)) (by decide) (by decide +kernel : parseMethodDescriptor "(III)I" = some ⟨[.int, .int, .int], some .int⟩) rfl (g := (mkF m 74 #[.val (.int x0), .val (.int x1), .val (.int x2), .val (.int n), .val (.ref a24), .unset] [(.int (3 : Int32)), (.int x1), (.int x0), (.ref a24)])) rfl (by rw [hml]; rfl) rfl 1 (by show 2 * 0 + _ ≤ _; exact Nat.le_of_eq rfl) (hb hby at_74) (by decide) (by decide) rfl rfl (by decide) (by decide)
          refine own_go st32 ?_
          show own_Go p e below _ (T32.setTop (mkF m 77 #[.val (.int x0), .val (.int x1), .val (.int x2), .val (.int n), .val (.ref a24), .unset] [(.int (own_v x0 x1 (3 : Int32))), (.ref a24)]))
          have ex3 := J3.1
          obtain ⟨_, T33, L33, X33, ⟨rfl, Nc33, Kc33, I33⟩, st33⟩ := own_callV X32 hx hZ hown (argsL := [(.int (own_v x0 x1 (3 : Int32)))]) (rest := []) (own_add_con l Z a0 hw a24 b us3 (3 : Int32) (own_v x0 x1 (3 : Int32)) 3 h0.size T31.heap J3 (by decide) (by rw [l3]; decide) ga gb []) e32 ex3 (hw _ (List.mem_of_getElem? (i := 17) rfl)) (hw _ (List.mem_of_getElem? (i := 18) rfl)) (hw _ (List.mem_of_getElem? (i := 20) rfl)) (hw _ (List.mem_of_getElem? (i := 19) rfl)) (hw _ (List.mem_of_getElem? (i := 3) rfl)) (hw _ (List.mem_of_getElem? (i := 21) rfl)) (notFace_of_selects (args := #[]) (mvT hZ (hw _ (List.mem_of_getElem? (i := 20) rfl)))) (by decide) (by decide +kernel : parseMethodDescriptor "(I)V" = some ⟨[.int], none⟩) rfl (g := (mkF m 77 #[.val (.int x0), .val (.int x1), .val (.int x2), .val (.int n), .val (.ref a24), .unset] [(.int (own_v x0 x1 (3 : Int32))), (.ref a24)])) rfl (by rw [hml]; rfl) rfl 0 (by show 2 * 0 + _ ≤ _; exact Nat.le_of_eq rfl) (hb hby at_77) (by decide) (by decide) (by decide) (by decide)
          have N33 := Fr.app N31 Nc33
          have o_E_33 := ex3.keep Kc33
          refine own_go st33 ?_
          show own_Go p e below _ (T33.setTop (mkF m 80 #[.val (.int x0), .val (.int x1), .val (.int x2), .val (.int n), .val (.ref a24), .unset] []))
          obtain ⟨us4, hus4⟩ : ∃ z, z = us3.set 3 (Value.int (own_v x0 x1 (3 : Int32))) := ⟨_, rfl⟩
          have l4 : us4.length = 16 := by rw [hus4, List.length_set]; exact l3
          have H4 : own_Pre x0 x1 us4 4 := by rw [hus4]; exact H3.set (by rw [l3]; decide)
          have J4 : own_Ids Z T33.heap a24 b us4 (4 : Int32) := by rw [hus4]; exact I33
          refine own_go (fun _ => XS.iloadN X33.here hx rfl (hb hby at_80) rfl) ?_
          show own_Go p e below _ (T33.setTop (mkF m 81 #[.val (.int x0), .val (.int x1), .val (.int x2), .val (.int n), .val (.ref a24), .unset] [(.int n)]))
          refine own_go (fun _ => XS.iconst X33.here hx rfl (hb hby at_81)) ?_
          show own_Go p e below _ (T33.setTop (mkF m 82 #[.val (.int x0), .val (.int x1), .val (.int x2), .val (.int n), .val (.ref a24), .unset] [(.int (4 : Int32)), (.int n)]))
          by_cases hp4 : (4 : Int32) < n
          · skip
            have lt4 : 4 < nn := by rw [Int32.lt_iff_toInt_lt, hn] at hp4; simp only [Int32.reduceToInt] at hp4; omega
            refine own_go (fun _ => XS.icmpNo X33.here hx rfl (hb hby at_82) rfl (XT.ii_le_f hp4)) ?_
            show own_Go p e below _ (T33.setTop (mkF m 85 #[.val (.int x0), .val (.int x1), .val (.int x2), .val (.int n), .val (.ref a24), .unset] []))
            refine own_go (fun _ => XS.aload X33.here hx rfl (hb hby at_85) rfl rfl) ?_
            show own_Go p e below _ (T33.setTop (mkF m 87 #[.val (.int x0), .val (.int x1), .val (.int x2), .val (.int n), .val (.ref a24), .unset] [(.ref a24)]))
            refine own_go (fun _ => XS.iloadN X33.here hx rfl (hb hby at_87) rfl) ?_
            show own_Go p e below _ (T33.setTop (mkF m 88 #[.val (.int x0), .val (.int x1), .val (.int x2), .val (.int n), .val (.ref a24), .unset] [(.int x0), (.ref a24)]))
            refine own_go (fun _ => XS.iloadN X33.here hx rfl (hb hby at_88) rfl) ?_
            show own_Go p e below _ (T33.setTop (mkF m 89 #[.val (.int x0), .val (.int x1), .val (.int x2), .val (.int n), .val (.ref a24), .unset] [(.int x1), (.int x0), (.ref a24)]))
            refine own_go (fun _ => XS.iconst X33.here hx rfl (hb hby at_89)) ?_
            show own_Go p e below _ (T33.setTop (mkF m 90 #[.val (.int x0), .val (.int x1), .val (.int x2), .val (.int n), .val (.ref a24), .unset] [(.int (4 : Int32)), (.int x1), (.int x0), (.ref a24)]))
            obtain ⟨T34, X34, e34, st34⟩ := own_callSP X33 hx hZ hown (argsL := [(.int x0), (.int x1), (.int (4 : Int32))]) (rest := [(.ref a24)]) (own_v_con l Z a0 hw x0 x1 (4 : Int32) T33.heap []) rfl (hw _ (List.mem_of_getElem? (i := 13) rfl)) (hw _ (List.mem_of_getElem? (i := 14) rfl)) (hw _ (List.mem_of_getElem? (i := 15) rfl)) (hw _ (List.mem_of_getElem? (i := 16) rfl)) (by decide) (by decide +kernel : parseMethodDescriptor "(III)I" = some ⟨[.int, .int, .int], some .int⟩) rfl (g := (mkF m 90 #[.val (.int x0), .val (.int x1), .val (.int x2), .val (.int n), .val (.ref a24), .unset] [(.int (4 : Int32)), (.int x1), (.int x0), (.ref a24)])) rfl (by rw [hml]; rfl) rfl 1 (by show 2 * 0 + _ ≤ _; exact Nat.le_of_eq rfl) (hb hby at_90) (by decide) (by decide) rfl rfl (by decide) (by decide)
            refine own_go st34 ?_
            show own_Go p e below _ (T34.setTop (mkF m 93 #[.val (.int x0), .val (.int x1), .val (.int x2), .val (.int n), .val (.ref a24), .unset] [(.int (own_v x0 x1 (4 : Int32))), (.ref a24)]))
            have ex4 := J4.1
            obtain ⟨_, T35, L35, X35, ⟨rfl, Nc35, Kc35, I35⟩, st35⟩ := own_callV X34 hx hZ hown (argsL := [(.int (own_v x0 x1 (4 : Int32)))]) (rest := []) (own_add_con l Z a0 hw a24 b us4 (4 : Int32) (own_v x0 x1 (4 : Int32)) 4 h0.size T33.heap J4 (by decide) (by rw [l4]; decide) ga gb []) e34 ex4 (hw _ (List.mem_of_getElem? (i := 17) rfl)) (hw _ (List.mem_of_getElem? (i := 18) rfl)) (hw _ (List.mem_of_getElem? (i := 20) rfl)) (hw _ (List.mem_of_getElem? (i := 19) rfl)) (hw _ (List.mem_of_getElem? (i := 3) rfl)) (hw _ (List.mem_of_getElem? (i := 21) rfl)) (notFace_of_selects (args := #[]) (mvT hZ (hw _ (List.mem_of_getElem? (i := 20) rfl)))) (by decide) (by decide +kernel : parseMethodDescriptor "(I)V" = some ⟨[.int], none⟩) rfl (g := (mkF m 93 #[.val (.int x0), .val (.int x1), .val (.int x2), .val (.int n), .val (.ref a24), .unset] [(.int (own_v x0 x1 (4 : Int32))), (.ref a24)])) rfl (by rw [hml]; rfl) rfl 0 (by show 2 * 0 + _ ≤ _; exact Nat.le_of_eq rfl) (hb hby at_93) (by decide) (by decide) (by decide) (by decide)
            have N35 := Fr.app N33 Nc35
            have o_E_35 := ex4.keep Kc35
            refine own_go st35 ?_
            show own_Go p e below _ (T35.setTop (mkF m 96 #[.val (.int x0), .val (.int x1), .val (.int x2), .val (.int n), .val (.ref a24), .unset] []))
            obtain ⟨us5, hus5⟩ : ∃ z, z = us4.set 4 (Value.int (own_v x0 x1 (4 : Int32))) := ⟨_, rfl⟩
            have l5 : us5.length = 16 := by rw [hus5, List.length_set]; exact l4
            have H5 : own_Pre x0 x1 us5 5 := by rw [hus5]; exact H4.set (by rw [l4]; decide)
            have J5 : own_Ids Z T35.heap a24 b us5 (5 : Int32) := by rw [hus5]; exact I35
            refine own_go (fun _ => XS.iloadN X35.here hx rfl (hb hby at_96) rfl) ?_
            show own_Go p e below _ (T35.setTop (mkF m 97 #[.val (.int x0), .val (.int x1), .val (.int x2), .val (.int n), .val (.ref a24), .unset] [(.int n)]))
            refine own_go (fun _ => XS.iconst X35.here hx rfl (hb hby at_97)) ?_
            show own_Go p e below _ (T35.setTop (mkF m 98 #[.val (.int x0), .val (.int x1), .val (.int x2), .val (.int n), .val (.ref a24), .unset] [(.int (5 : Int32)), (.int n)]))
            by_cases hp5 : (5 : Int32) < n
            · skip
              have lt5 : 5 < nn := by rw [Int32.lt_iff_toInt_lt, hn] at hp5; simp only [Int32.reduceToInt] at hp5; omega
              refine own_go (fun _ => XS.icmpNo X35.here hx rfl (hb hby at_98) rfl (XT.ii_le_f hp5)) ?_
              show own_Go p e below _ (T35.setTop (mkF m 101 #[.val (.int x0), .val (.int x1), .val (.int x2), .val (.int n), .val (.ref a24), .unset] []))
              refine own_go (fun _ => XS.aload X35.here hx rfl (hb hby at_101) rfl rfl) ?_
              show own_Go p e below _ (T35.setTop (mkF m 103 #[.val (.int x0), .val (.int x1), .val (.int x2), .val (.int n), .val (.ref a24), .unset] [(.ref a24)]))
              refine own_go (fun _ => XS.iloadN X35.here hx rfl (hb hby at_103) rfl) ?_
              show own_Go p e below _ (T35.setTop (mkF m 104 #[.val (.int x0), .val (.int x1), .val (.int x2), .val (.int n), .val (.ref a24), .unset] [(.int x0), (.ref a24)]))
              refine own_go (fun _ => XS.iloadN X35.here hx rfl (hb hby at_104) rfl) ?_
              show own_Go p e below _ (T35.setTop (mkF m 105 #[.val (.int x0), .val (.int x1), .val (.int x2), .val (.int n), .val (.ref a24), .unset] [(.int x1), (.int x0), (.ref a24)]))
              refine own_go (fun _ => XS.iconst X35.here hx rfl (hb hby at_105)) ?_
              show own_Go p e below _ (T35.setTop (mkF m 106 #[.val (.int x0), .val (.int x1), .val (.int x2), .val (.int n), .val (.ref a24), .unset] [(.int (5 : Int32)), (.int x1), (.int x0), (.ref a24)]))
              obtain ⟨T36, X36, e36, st36⟩ := own_callSP X35 hx hZ hown (argsL := [(.int x0), (.int x1), (.int (5 : Int32))]) (rest := [(.ref a24)]) (own_v_con l Z a0 hw x0 x1 (5 : Int32) T35.heap []) rfl (hw _ (List.mem_of_getElem? (i := 13) rfl)) (hw _ (List.mem_of_getElem? (i := 14) rfl)) (hw _ (List.mem_of_getElem? (i := 15) rfl)) (hw _ (List.mem_of_getElem? (i := 16) rfl)) (by decide) (by decide +kernel : parseMethodDescriptor "(III)I" = some ⟨[.int, .int, .int], some .int⟩) rfl (g := (mkF m 106 #[.val (.int x0), .val (.int x1), .val (.int x2), .val (.int n), .val (.ref a24), .unset] [(.int (5 : Int32)), (.int x1), (.int x0), (.ref a24)])) rfl (by rw [hml]; rfl) rfl 1 (by show 2 * 0 + _ ≤ _; exact Nat.le_of_eq rfl) (hb hby at_106) (by decide) (by decide) rfl rfl (by decide) (by decide)
              refine own_go st36 ?_
              show own_Go p e below _ (T36.setTop (mkF m 109 #[.val (.int x0), .val (.int x1), .val (.int x2), .val (.int n), .val (.ref a24), .unset] [(.int (own_v x0 x1 (5 : Int32))), (.ref a24)]))
              have ex5 := J5.1
              obtain ⟨_, T37, L37, X37, ⟨rfl, Nc37, Kc37, I37⟩, st37⟩ := own_callV X36 hx hZ hown (argsL := [(.int (own_v x0 x1 (5 : Int32)))]) (rest := []) (own_add_con l Z a0 hw a24 b us5 (5 : Int32) (own_v x0 x1 (5 : Int32)) 5 h0.size T35.heap J5 (by decide) (by rw [l5]; decide) ga gb []) e36 ex5 (hw _ (List.mem_of_getElem? (i := 17) rfl)) (hw _ (List.mem_of_getElem? (i := 18) rfl)) (hw _ (List.mem_of_getElem? (i := 20) rfl)) (hw _ (List.mem_of_getElem? (i := 19) rfl)) (hw _ (List.mem_of_getElem? (i := 3) rfl)) (hw _ (List.mem_of_getElem? (i := 21) rfl)) (notFace_of_selects (args := #[]) (mvT hZ (hw _ (List.mem_of_getElem? (i := 20) rfl)))) (by decide) (by decide +kernel : parseMethodDescriptor "(I)V" = some ⟨[.int], none⟩) rfl (g := (mkF m 109 #[.val (.int x0), .val (.int x1), .val (.int x2), .val (.int n), .val (.ref a24), .unset] [(.int (own_v x0 x1 (5 : Int32))), (.ref a24)])) rfl (by rw [hml]; rfl) rfl 0 (by show 2 * 0 + _ ≤ _; exact Nat.le_of_eq rfl) (hb hby at_109) (by decide) (by decide) (by decide) (by decide)
              have N37 := Fr.app N35 Nc37
              have o_E_37 := ex5.keep Kc37
              refine own_go st37 ?_
              show own_Go p e below _ (T37.setTop (mkF m 112 #[.val (.int x0), .val (.int x1), .val (.int x2), .val (.int n), .val (.ref a24), .unset] []))
              obtain ⟨us6, hus6⟩ : ∃ z, z = us5.set 5 (Value.int (own_v x0 x1 (5 : Int32))) := ⟨_, rfl⟩
              have l6 : us6.length = 16 := by rw [hus6, List.length_set]; exact l5
              have H6 : own_Pre x0 x1 us6 6 := by rw [hus6]; exact H5.set (by rw [l5]; decide)
              have J6 : own_Ids Z T37.heap a24 b us6 (6 : Int32) := by rw [hus6]; exact I37
              refine own_go (fun _ => XS.iloadN X37.here hx rfl (hb hby at_112) rfl) ?_
              show own_Go p e below _ (T37.setTop (mkF m 113 #[.val (.int x0), .val (.int x1), .val (.int x2), .val (.int n), .val (.ref a24), .unset] [(.int n)]))
              refine own_go (fun _ => XS.bipush X37.here hx rfl (hb hby at_113)) ?_
              show own_Go p e below _ (T37.setTop (mkF m 115 #[.val (.int x0), .val (.int x1), .val (.int x2), .val (.int n), .val (.ref a24), .unset] [(.int (6 : Int32)), (.int n)]))
              by_cases hp6 : (6 : Int32) < n
              · skip
                have lt6 : 6 < nn := by rw [Int32.lt_iff_toInt_lt, hn] at hp6; simp only [Int32.reduceToInt] at hp6; omega
                refine own_go (fun _ => XS.icmpNo X37.here hx rfl (hb hby at_115) rfl (XT.ii_le_f hp6)) ?_
                show own_Go p e below _ (T37.setTop (mkF m 118 #[.val (.int x0), .val (.int x1), .val (.int x2), .val (.int n), .val (.ref a24), .unset] []))
                refine own_go (fun _ => XS.aload X37.here hx rfl (hb hby at_118) rfl rfl) ?_
                show own_Go p e below _ (T37.setTop (mkF m 120 #[.val (.int x0), .val (.int x1), .val (.int x2), .val (.int n), .val (.ref a24), .unset] [(.ref a24)]))
                refine own_go (fun _ => XS.iloadN X37.here hx rfl (hb hby at_120) rfl) ?_
                show own_Go p e below _ (T37.setTop (mkF m 121 #[.val (.int x0), .val (.int x1), .val (.int x2), .val (.int n), .val (.ref a24), .unset] [(.int x0), (.ref a24)]))
                refine own_go (fun _ => XS.iloadN X37.here hx rfl (hb hby at_121) rfl) ?_
                show own_Go p e below _ (T37.setTop (mkF m 122 #[.val (.int x0), .val (.int x1), .val (.int x2), .val (.int n), .val (.ref a24), .unset] [(.int x1), (.int x0), (.ref a24)]))
                refine own_go (fun _ => XS.bipush X37.here hx rfl (hb hby at_122)) ?_
                show own_Go p e below _ (T37.setTop (mkF m 124 #[.val (.int x0), .val (.int x1), .val (.int x2), .val (.int n), .val (.ref a24), .unset] [(.int (6 : Int32)), (.int x1), (.int x0), (.ref a24)]))
                obtain ⟨T38, X38, e38, st38⟩ := own_callSP X37 hx hZ hown (argsL := [(.int x0), (.int x1), (.int (6 : Int32))]) (rest := [(.ref a24)]) (own_v_con l Z a0 hw x0 x1 (6 : Int32) T37.heap []) rfl (hw _ (List.mem_of_getElem? (i := 13) rfl)) (hw _ (List.mem_of_getElem? (i := 14) rfl)) (hw _ (List.mem_of_getElem? (i := 15) rfl)) (hw _ (List.mem_of_getElem? (i := 16) rfl)) (by decide) (by decide +kernel : parseMethodDescriptor "(III)I" = some ⟨[.int, .int, .int], some .int⟩) rfl (g := (mkF m 124 #[.val (.int x0), .val (.int x1), .val (.int x2), .val (.int n), .val (.ref a24), .unset] [(.int (6 : Int32)), (.int x1), (.int x0), (.ref a24)])) rfl (by rw [hml]; rfl) rfl 1 (by show 2 * 0 + _ ≤ _; exact Nat.le_of_eq rfl) (hb hby at_124) (by decide) (by decide) rfl rfl (by decide) (by decide)
                refine own_go st38 ?_
                show own_Go p e below _ (T38.setTop (mkF m 127 #[.val (.int x0), .val (.int x1), .val (.int x2), .val (.int n), .val (.ref a24), .unset] [(.int (own_v x0 x1 (6 : Int32))), (.ref a24)]))
                have ex6 := J6.1
                obtain ⟨_, T39, L39, X39, ⟨rfl, Nc39, Kc39, I39⟩, st39⟩ := own_callV X38 hx hZ hown (argsL := [(.int (own_v x0 x1 (6 : Int32)))]) (rest := []) (own_add_con l Z a0 hw a24 b us6 (6 : Int32) (own_v x0 x1 (6 : Int32)) 6 h0.size T37.heap J6 (by decide) (by rw [l6]; decide) ga gb []) e38 ex6 (hw _ (List.mem_of_getElem? (i := 17) rfl)) (hw _ (List.mem_of_getElem? (i := 18) rfl)) (hw _ (List.mem_of_getElem? (i := 20) rfl)) (hw _ (List.mem_of_getElem? (i := 19) rfl)) (hw _ (List.mem_of_getElem? (i := 3) rfl)) (hw _ (List.mem_of_getElem? (i := 21) rfl)) (notFace_of_selects (args := #[]) (mvT hZ (hw _ (List.mem_of_getElem? (i := 20) rfl)))) (by decide) (by decide +kernel : parseMethodDescriptor "(I)V" = some ⟨[.int], none⟩) rfl (g := (mkF m 127 #[.val (.int x0), .val (.int x1), .val (.int x2), .val (.int n), .val (.ref a24), .unset] [(.int (own_v x0 x1 (6 : Int32))), (.ref a24)])) rfl (by rw [hml]; rfl) rfl 0 (by show 2 * 0 + _ ≤ _; exact Nat.le_of_eq rfl) (hb hby at_127) (by decide) (by decide) (by decide) (by decide)
                have N39 := Fr.app N37 Nc39
                have o_E_39 := ex6.keep Kc39
                refine own_go st39 ?_
                show own_Go p e below _ (T39.setTop (mkF m 130 #[.val (.int x0), .val (.int x1), .val (.int x2), .val (.int n), .val (.ref a24), .unset] []))
                obtain ⟨us7, hus7⟩ : ∃ z, z = us6.set 6 (Value.int (own_v x0 x1 (6 : Int32))) := ⟨_, rfl⟩
                have l7 : us7.length = 16 := by rw [hus7, List.length_set]; exact l6
                have H7 : own_Pre x0 x1 us7 7 := by rw [hus7]; exact H6.set (by rw [l6]; decide)
                have J7 : own_Ids Z T39.heap a24 b us7 (7 : Int32) := by rw [hus7]; exact I39
                refine own_go (fun _ => XS.iloadN X39.here hx rfl (hb hby at_130) rfl) ?_
                show own_Go p e below _ (T39.setTop (mkF m 131 #[.val (.int x0), .val (.int x1), .val (.int x2), .val (.int n), .val (.ref a24), .unset] [(.int n)]))
                refine own_go (fun _ => XS.bipush X39.here hx rfl (hb hby at_131)) ?_
                show own_Go p e below _ (T39.setTop (mkF m 133 #[.val (.int x0), .val (.int x1), .val (.int x2), .val (.int n), .val (.ref a24), .unset] [(.int (7 : Int32)), (.int n)]))
                by_cases hp7 : (7 : Int32) < n
                · skip
                  have lt7 : 7 < nn := by rw [Int32.lt_iff_toInt_lt, hn] at hp7; simp only [Int32.reduceToInt] at hp7; omega
                  refine own_go (fun _ => XS.icmpNo X39.here hx rfl (hb hby at_133) rfl (XT.ii_le_f hp7)) ?_
                  show own_Go p e below _ (T39.setTop (mkF m 136 #[.val (.int x0), .val (.int x1), .val (.int x2), .val (.int n), .val (.ref a24), .unset] []))
                  refine own_go (fun _ => XS.aload X39.here hx rfl (hb hby at_136) rfl rfl) ?_
                  show own_Go p e below _ (T39.setTop (mkF m 138 #[.val (.int x0), .val (.int x1), .val (.int x2), .val (.int n), .val (.ref a24), .unset] [(.ref a24)]))
                  refine own_go (fun _ => XS.iloadN X39.here hx rfl (hb hby at_138) rfl) ?_
                  show own_Go p e below _ (T39.setTop (mkF m 139 #[.val (.int x0), .val (.int x1), .val (.int x2), .val (.int n), .val (.ref a24), .unset] [(.int x0), (.ref a24)]))
                  refine own_go (fun _ => XS.iloadN X39.here hx rfl (hb hby at_139) rfl) ?_
                  show own_Go p e below _ (T39.setTop (mkF m 140 #[.val (.int x0), .val (.int x1), .val (.int x2), .val (.int n), .val (.ref a24), .unset] [(.int x1), (.int x0), (.ref a24)]))
                  refine own_go (fun _ => XS.bipush X39.here hx rfl (hb hby at_140)) ?_
                  show own_Go p e below _ (T39.setTop (mkF m 142 #[.val (.int x0), .val (.int x1), .val (.int x2), .val (.int n), .val (.ref a24), .unset] [(.int (7 : Int32)), (.int x1), (.int x0), (.ref a24)]))
                  obtain ⟨T40, X40, e40, st40⟩ := own_callSP X39 hx hZ hown (argsL := [(.int x0), (.int x1), (.int (7 : Int32))]) (rest := [(.ref a24)]) (own_v_con l Z a0 hw x0 x1 (7 : Int32) T39.heap []) rfl (hw _ (List.mem_of_getElem? (i := 13) rfl)) (hw _ (List.mem_of_getElem? (i := 14) rfl)) (hw _ (List.mem_of_getElem? (i := 15) rfl)) (hw _ (List.mem_of_getElem? (i := 16) rfl)) (by decide) (by decide +kernel : parseMethodDescriptor "(III)I" = some ⟨[.int, .int, .int], some .int⟩) rfl (g := (mkF m 142 #[.val (.int x0), .val (.int x1), .val (.int x2), .val (.int n), .val (.ref a24), .unset] [(.int (7 : Int32)), (.int x1), (.int x0), (.ref a24)])) rfl (by rw [hml]; rfl) rfl 1 (by show 2 * 0 + _ ≤ _; exact Nat.le_of_eq rfl) (hb hby at_142) (by decide) (by decide) rfl rfl (by decide) (by decide)
                  refine own_go st40 ?_
                  show own_Go p e below _ (T40.setTop (mkF m 145 #[.val (.int x0), .val (.int x1), .val (.int x2), .val (.int n), .val (.ref a24), .unset] [(.int (own_v x0 x1 (7 : Int32))), (.ref a24)]))
                  have ex7 := J7.1
                  obtain ⟨_, T41, L41, X41, ⟨rfl, Nc41, Kc41, I41⟩, st41⟩ := own_callV X40 hx hZ hown (argsL := [(.int (own_v x0 x1 (7 : Int32)))]) (rest := []) (own_add_con l Z a0 hw a24 b us7 (7 : Int32) (own_v x0 x1 (7 : Int32)) 7 h0.size T39.heap J7 (by decide) (by rw [l7]; decide) ga gb []) e40 ex7 (hw _ (List.mem_of_getElem? (i := 17) rfl)) (hw _ (List.mem_of_getElem? (i := 18) rfl)) (hw _ (List.mem_of_getElem? (i := 20) rfl)) (hw _ (List.mem_of_getElem? (i := 19) rfl)) (hw _ (List.mem_of_getElem? (i := 3) rfl)) (hw _ (List.mem_of_getElem? (i := 21) rfl)) (notFace_of_selects (args := #[]) (mvT hZ (hw _ (List.mem_of_getElem? (i := 20) rfl)))) (by decide) (by decide +kernel : parseMethodDescriptor "(I)V" = some ⟨[.int], none⟩) rfl (g := (mkF m 145 #[.val (.int x0), .val (.int x1), .val (.int x2), .val (.int n), .val (.ref a24), .unset] [(.int (own_v x0 x1 (7 : Int32))), (.ref a24)])) rfl (by rw [hml]; rfl) rfl 0 (by show 2 * 0 + _ ≤ _; exact Nat.le_of_eq rfl) (hb hby at_145) (by decide) (by decide) (by decide) (by decide)
                  have N41 := Fr.app N39 Nc41
                  have o_E_41 := ex7.keep Kc41
                  refine own_go st41 ?_
                  show own_Go p e below _ (T41.setTop (mkF m 148 #[.val (.int x0), .val (.int x1), .val (.int x2), .val (.int n), .val (.ref a24), .unset] []))
                  obtain ⟨us8, hus8⟩ : ∃ z, z = us7.set 7 (Value.int (own_v x0 x1 (7 : Int32))) := ⟨_, rfl⟩
                  have l8 : us8.length = 16 := by rw [hus8, List.length_set]; exact l7
                  have H8 : own_Pre x0 x1 us8 8 := by rw [hus8]; exact H7.set (by rw [l7]; decide)
                  have J8 : own_Ids Z T41.heap a24 b us8 (8 : Int32) := by rw [hus8]; exact I41
                  refine own_go (fun _ => XS.iloadN X41.here hx rfl (hb hby at_148) rfl) ?_
                  show own_Go p e below _ (T41.setTop (mkF m 149 #[.val (.int x0), .val (.int x1), .val (.int x2), .val (.int n), .val (.ref a24), .unset] [(.int n)]))
                  refine own_go (fun _ => XS.bipush X41.here hx rfl (hb hby at_149)) ?_
                  show own_Go p e below _ (T41.setTop (mkF m 151 #[.val (.int x0), .val (.int x1), .val (.int x2), .val (.int n), .val (.ref a24), .unset] [(.int (8 : Int32)), (.int n)]))
                  by_cases hp8 : (8 : Int32) < n
                  · skip
                    have lt8 : 8 < nn := by rw [Int32.lt_iff_toInt_lt, hn] at hp8; simp only [Int32.reduceToInt] at hp8; omega
                    refine own_go (fun _ => XS.icmpNo X41.here hx rfl (hb hby at_151) rfl (XT.ii_le_f hp8)) ?_
                    show own_Go p e below _ (T41.setTop (mkF m 154 #[.val (.int x0), .val (.int x1), .val (.int x2), .val (.int n), .val (.ref a24), .unset] []))
                    refine own_go (fun _ => XS.aload X41.here hx rfl (hb hby at_154) rfl rfl) ?_
                    show own_Go p e below _ (T41.setTop (mkF m 156 #[.val (.int x0), .val (.int x1), .val (.int x2), .val (.int n), .val (.ref a24), .unset] [(.ref a24)]))
                    refine own_go (fun _ => XS.iloadN X41.here hx rfl (hb hby at_156) rfl) ?_
                    show own_Go p e below _ (T41.setTop (mkF m 157 #[.val (.int x0), .val (.int x1), .val (.int x2), .val (.int n), .val (.ref a24), .unset] [(.int x0), (.ref a24)]))
                    refine own_go (fun _ => XS.iloadN X41.here hx rfl (hb hby at_157) rfl) ?_
                    show own_Go p e below _ (T41.setTop (mkF m 158 #[.val (.int x0), .val (.int x1), .val (.int x2), .val (.int n), .val (.ref a24), .unset] [(.int x1), (.int x0), (.ref a24)]))
                    refine own_go (fun _ => XS.bipush X41.here hx rfl (hb hby at_158)) ?_
                    show own_Go p e below _ (T41.setTop (mkF m 160 #[.val (.int x0), .val (.int x1), .val (.int x2), .val (.int n), .val (.ref a24), .unset] [(.int (8 : Int32)), (.int x1), (.int x0), (.ref a24)]))
                    obtain ⟨T42, X42, e42, st42⟩ := own_callSP X41 hx hZ hown (argsL := [(.int x0), (.int x1), (.int (8 : Int32))]) (rest := [(.ref a24)]) (own_v_con l Z a0 hw x0 x1 (8 : Int32) T41.heap []) rfl (hw _ (List.mem_of_getElem? (i := 13) rfl)) (hw _ (List.mem_of_getElem? (i := 14) rfl)) (hw _ (List.mem_of_getElem? (i := 15) rfl)) (hw _ (List.mem_of_getElem? (i := 16) rfl)) (by decide) (by decide +kernel : parseMethodDescriptor "(III)I" = some ⟨[.int, .int, .int], some .int⟩) rfl (g := (mkF m 160 #[.val (.int x0), .val (.int x1), .val (.int x2), .val (.int n), .val (.ref a24), .unset] [(.int (8 : Int32)), (.int x1), (.int x0), (.ref a24)])) rfl (by rw [hml]; rfl) rfl 1 (by show 2 * 0 + _ ≤ _; exact Nat.le_of_eq rfl) (hb hby at_160) (by decide) (by decide) rfl rfl (by decide) (by decide)
                    refine own_go st42 ?_
                    show own_Go p e below _ (T42.setTop (mkF m 163 #[.val (.int x0), .val (.int x1), .val (.int x2), .val (.int n), .val (.ref a24), .unset] [(.int (own_v x0 x1 (8 : Int32))), (.ref a24)]))
                    have ex8 := J8.1
                    obtain ⟨_, T43, L43, X43, ⟨rfl, Nc43, Kc43, I43⟩, st43⟩ := own_callV X42 hx hZ hown (argsL := [(.int (own_v x0 x1 (8 : Int32)))]) (rest := []) (own_add_con l Z a0 hw a24 b us8 (8 : Int32) (own_v x0 x1 (8 : Int32)) 8 h0.size T41.heap J8 (by decide) (by rw [l8]; decide) ga gb []) e42 ex8 (hw _ (List.mem_of_getElem? (i := 17) rfl)) (hw _ (List.mem_of_getElem? (i := 18) rfl)) (hw _ (List.mem_of_getElem? (i := 20) rfl)) (hw _ (List.mem_of_getElem? (i := 19) rfl)) (hw _ (List.mem_of_getElem? (i := 3) rfl)) (hw _ (List.mem_of_getElem? (i := 21) rfl)) (notFace_of_selects (args := #[]) (mvT hZ (hw _ (List.mem_of_getElem? (i := 20) rfl)))) (by decide) (by decide +kernel : parseMethodDescriptor "(I)V" = some ⟨[.int], none⟩) rfl (g := (mkF m 163 #[.val (.int x0), .val (.int x1), .val (.int x2), .val (.int n), .val (.ref a24), .unset] [(.int (own_v x0 x1 (8 : Int32))), (.ref a24)])) rfl (by rw [hml]; rfl) rfl 0 (by show 2 * 0 + _ ≤ _; exact Nat.le_of_eq rfl) (hb hby at_163) (by decide) (by decide) (by decide) (by decide)
                    have N43 := Fr.app N41 Nc43
                    have o_E_43 := ex8.keep Kc43
                    refine own_go st43 ?_
                    show own_Go p e below _ (T43.setTop (mkF m 166 #[.val (.int x0), .val (.int x1), .val (.int x2), .val (.int n), .val (.ref a24), .unset] []))
                    obtain ⟨us9, hus9⟩ : ∃ z, z = us8.set 8 (Value.int (own_v x0 x1 (8 : Int32))) := ⟨_, rfl⟩
                    have l9 : us9.length = 16 := by rw [hus9, List.length_set]; exact l8
                    have H9 : own_Pre x0 x1 us9 9 := by rw [hus9]; exact H8.set (by rw [l8]; decide)
                    have J9 : own_Ids Z T43.heap a24 b us9 (9 : Int32) := by rw [hus9]; exact I43
                    refine own_go (fun _ => XS.iloadN X43.here hx rfl (hb hby at_166) rfl) ?_
                    show own_Go p e below _ (T43.setTop (mkF m 167 #[.val (.int x0), .val (.int x1), .val (.int x2), .val (.int n), .val (.ref a24), .unset] [(.int n)]))
                    refine own_go (fun _ => XS.bipush X43.here hx rfl (hb hby at_167)) ?_
                    show own_Go p e below _ (T43.setTop (mkF m 169 #[.val (.int x0), .val (.int x1), .val (.int x2), .val (.int n), .val (.ref a24), .unset] [(.int (9 : Int32)), (.int n)]))
                    by_cases hp9 : (9 : Int32) < n
                    · skip
                      have lt9 : 9 < nn := by rw [Int32.lt_iff_toInt_lt, hn] at hp9; simp only [Int32.reduceToInt] at hp9; omega
                      refine own_go (fun _ => XS.icmpNo X43.here hx rfl (hb hby at_169) rfl (XT.ii_le_f hp9)) ?_
                      show own_Go p e below _ (T43.setTop (mkF m 172 #[.val (.int x0), .val (.int x1), .val (.int x2), .val (.int n), .val (.ref a24), .unset] []))
                      refine own_go (fun _ => XS.aload X43.here hx rfl (hb hby at_172) rfl rfl) ?_
                      show own_Go p e below _ (T43.setTop (mkF m 174 #[.val (.int x0), .val (.int x1), .val (.int x2), .val (.int n), .val (.ref a24), .unset] [(.ref a24)]))
                      refine own_go (fun _ => XS.iloadN X43.here hx rfl (hb hby at_174) rfl) ?_
                      show own_Go p e below _ (T43.setTop (mkF m 175 #[.val (.int x0), .val (.int x1), .val (.int x2), .val (.int n), .val (.ref a24), .unset] [(.int x0), (.ref a24)]))
                      refine own_go (fun _ => XS.iloadN X43.here hx rfl (hb hby at_175) rfl) ?_
                      show own_Go p e below _ (T43.setTop (mkF m 176 #[.val (.int x0), .val (.int x1), .val (.int x2), .val (.int n), .val (.ref a24), .unset] [(.int x1), (.int x0), (.ref a24)]))
                      refine own_go (fun _ => XS.bipush X43.here hx rfl (hb hby at_176)) ?_
                      show own_Go p e below _ (T43.setTop (mkF m 178 #[.val (.int x0), .val (.int x1), .val (.int x2), .val (.int n), .val (.ref a24), .unset] [(.int (9 : Int32)), (.int x1), (.int x0), (.ref a24)]))
                      obtain ⟨T44, X44, e44, st44⟩ := own_callSP X43 hx hZ hown (argsL := [(.int x0), (.int x1), (.int (9 : Int32))]) (rest := [(.ref a24)]) (own_v_con l Z a0 hw x0 x1 (9 : Int32) T43.heap []) rfl (hw _ (List.mem_of_getElem? (i := 13) rfl)) (hw _ (List.mem_of_getElem? (i := 14) rfl)) (hw _ (List.mem_of_getElem? (i := 15) rfl)) (hw _ (List.mem_of_getElem? (i := 16) rfl)) (by decide) (by decide +kernel : parseMethodDescriptor "(III)I" = some ⟨[.int, .int, .int], some .int⟩) rfl (g := (mkF m 178 #[.val (.int x0), .val (.int x1), .val (.int x2), .val (.int n), .val (.ref a24), .unset] [(.int (9 : Int32)), (.int x1), (.int x0), (.ref a24)])) rfl (by rw [hml]; rfl) rfl 1 (by show 2 * 0 + _ ≤ _; exact Nat.le_of_eq rfl) (hb hby at_178) (by decide) (by decide) rfl rfl (by decide) (by decide)
                      refine own_go st44 ?_
                      show own_Go p e below _ (T44.setTop (mkF m 181 #[.val (.int x0), .val (.int x1), .val (.int x2), .val (.int n), .val (.ref a24), .unset] [(.int (own_v x0 x1 (9 : Int32))), (.ref a24)]))
                      have ex9 := J9.1
                      obtain ⟨_, T45, L45, X45, ⟨rfl, Nc45, Kc45, I45⟩, st45⟩ := own_callV X44 hx hZ hown (argsL := [(.int (own_v x0 x1 (9 : Int32)))]) (rest := []) (own_add_con l Z a0 hw a24 b us9 (9 : Int32) (own_v x0 x1 (9 : Int32)) 9 h0.size T43.heap J9 (by decide) (by rw [l9]; decide) ga gb []) e44 ex9 (hw _ (List.mem_of_getElem? (i := 17) rfl)) (hw _ (List.mem_of_getElem? (i := 18) rfl)) (hw _ (List.mem_of_getElem? (i := 20) rfl)) (hw _ (List.mem_of_getElem? (i := 19) rfl)) (hw _ (List.mem_of_getElem? (i := 3) rfl)) (hw _ (List.mem_of_getElem? (i := 21) rfl)) (notFace_of_selects (args := #[]) (mvT hZ (hw _ (List.mem_of_getElem? (i := 20) rfl)))) (by decide) (by decide +kernel : parseMethodDescriptor "(I)V" = some ⟨[.int], none⟩) rfl (g := (mkF m 181 #[.val (.int x0), .val (.int x1), .val (.int x2), .val (.int n), .val (.ref a24), .unset] [(.int (own_v x0 x1 (9 : Int32))), (.ref a24)])) rfl (by rw [hml]; rfl) rfl 0 (by show 2 * 0 + _ ≤ _; exact Nat.le_of_eq rfl) (hb hby at_181) (by decide) (by decide) (by decide) (by decide)
                      have N45 := Fr.app N43 Nc45
                      have o_E_45 := ex9.keep Kc45
                      refine own_go st45 ?_
                      show own_Go p e below _ (T45.setTop (mkF m 184 #[.val (.int x0), .val (.int x1), .val (.int x2), .val (.int n), .val (.ref a24), .unset] []))
                      obtain ⟨us10, hus10⟩ : ∃ z, z = us9.set 9 (Value.int (own_v x0 x1 (9 : Int32))) := ⟨_, rfl⟩
                      have l10 : us10.length = 16 := by rw [hus10, List.length_set]; exact l9
                      have H10 : own_Pre x0 x1 us10 10 := by rw [hus10]; exact H9.set (by rw [l9]; decide)
                      have J10 : own_Ids Z T45.heap a24 b us10 (10 : Int32) := by rw [hus10]; exact I45
                      refine own_go (fun _ => XS.iloadN X45.here hx rfl (hb hby at_184) rfl) ?_
                      show own_Go p e below _ (T45.setTop (mkF m 185 #[.val (.int x0), .val (.int x1), .val (.int x2), .val (.int n), .val (.ref a24), .unset] [(.int n)]))
                      refine own_go (fun _ => XS.bipush X45.here hx rfl (hb hby at_185)) ?_
                      show own_Go p e below _ (T45.setTop (mkF m 187 #[.val (.int x0), .val (.int x1), .val (.int x2), .val (.int n), .val (.ref a24), .unset] [(.int (10 : Int32)), (.int n)]))
                      by_cases hp10 : (10 : Int32) < n
                      · skip
                        have lt10 : 10 < nn := by rw [Int32.lt_iff_toInt_lt, hn] at hp10; simp only [Int32.reduceToInt] at hp10; omega
                        refine own_go (fun _ => XS.icmpNo X45.here hx rfl (hb hby at_187) rfl (XT.ii_le_f hp10)) ?_
                        show own_Go p e below _ (T45.setTop (mkF m 190 #[.val (.int x0), .val (.int x1), .val (.int x2), .val (.int n), .val (.ref a24), .unset] []))
                        refine own_go (fun _ => XS.aload X45.here hx rfl (hb hby at_190) rfl rfl) ?_
                        show own_Go p e below _ (T45.setTop (mkF m 192 #[.val (.int x0), .val (.int x1), .val (.int x2), .val (.int n), .val (.ref a24), .unset] [(.ref a24)]))
                        refine own_go (fun _ => XS.iloadN X45.here hx rfl (hb hby at_192) rfl) ?_
                        show own_Go p e below _ (T45.setTop (mkF m 193 #[.val (.int x0), .val (.int x1), .val (.int x2), .val (.int n), .val (.ref a24), .unset] [(.int x0), (.ref a24)]))
                        refine own_go (fun _ => XS.iloadN X45.here hx rfl (hb hby at_193) rfl) ?_
                        show own_Go p e below _ (T45.setTop (mkF m 194 #[.val (.int x0), .val (.int x1), .val (.int x2), .val (.int n), .val (.ref a24), .unset] [(.int x1), (.int x0), (.ref a24)]))
                        refine own_go (fun _ => XS.bipush X45.here hx rfl (hb hby at_194)) ?_
                        show own_Go p e below _ (T45.setTop (mkF m 196 #[.val (.int x0), .val (.int x1), .val (.int x2), .val (.int n), .val (.ref a24), .unset] [(.int (10 : Int32)), (.int x1), (.int x0), (.ref a24)]))
                        obtain ⟨T46, X46, e46, st46⟩ := own_callSP X45 hx hZ hown (argsL := [(.int x0), (.int x1), (.int (10 : Int32))]) (rest := [(.ref a24)]) (own_v_con l Z a0 hw x0 x1 (10 : Int32) T45.heap []) rfl (hw _ (List.mem_of_getElem? (i := 13) rfl)) (hw _ (List.mem_of_getElem? (i := 14) rfl)) (hw _ (List.mem_of_getElem? (i := 15) rfl)) (hw _ (List.mem_of_getElem? (i := 16) rfl)) (by decide) (by decide +kernel : parseMethodDescriptor "(III)I" = some ⟨[.int, .int, .int], some .int⟩) rfl (g := (mkF m 196 #[.val (.int x0), .val (.int x1), .val (.int x2), .val (.int n), .val (.ref a24), .unset] [(.int (10 : Int32)), (.int x1), (.int x0), (.ref a24)])) rfl (by rw [hml]; rfl) rfl 1 (by show 2 * 0 + _ ≤ _; exact Nat.le_of_eq rfl) (hb hby at_196) (by decide) (by decide) rfl rfl (by decide) (by decide)
                        refine own_go st46 ?_
                        show own_Go p e below _ (T46.setTop (mkF m 199 #[.val (.int x0), .val (.int x1), .val (.int x2), .val (.int n), .val (.ref a24), .unset] [(.int (own_v x0 x1 (10 : Int32))), (.ref a24)]))
                        have ex10 := J10.1
                        obtain ⟨_, T47, L47, X47, ⟨rfl, Nc47, Kc47, I47⟩, st47⟩ := own_callV X46 hx hZ hown (argsL := [(.int (own_v x0 x1 (10 : Int32)))]) (rest := []) (own_add_con l Z a0 hw a24 b us10 (10 : Int32) (own_v x0 x1 (10 : Int32)) 10 h0.size T45.heap J10 (by decide) (by rw [l10]; decide) ga gb []) e46 ex10 (hw _ (List.mem_of_getElem? (i := 17) rfl)) (hw _ (List.mem_of_getElem? (i := 18) rfl)) (hw _ (List.mem_of_getElem? (i := 20) rfl)) (hw _ (List.mem_of_getElem? (i := 19) rfl)) (hw _ (List.mem_of_getElem? (i := 3) rfl)) (hw _ (List.mem_of_getElem? (i := 21) rfl)) (notFace_of_selects (args := #[]) (mvT hZ (hw _ (List.mem_of_getElem? (i := 20) rfl)))) (by decide) (by decide +kernel : parseMethodDescriptor "(I)V" = some ⟨[.int], none⟩) rfl (g := (mkF m 199 #[.val (.int x0), .val (.int x1), .val (.int x2), .val (.int n), .val (.ref a24), .unset] [(.int (own_v x0 x1 (10 : Int32))), (.ref a24)])) rfl (by rw [hml]; rfl) rfl 0 (by show 2 * 0 + _ ≤ _; exact Nat.le_of_eq rfl) (hb hby at_199) (by decide) (by decide) (by decide) (by decide)
                        have N47 := Fr.app N45 Nc47
                        have o_E_47 := ex10.keep Kc47
                        refine own_go st47 ?_
                        show own_Go p e below _ (T47.setTop (mkF m 202 #[.val (.int x0), .val (.int x1), .val (.int x2), .val (.int n), .val (.ref a24), .unset] []))
                        obtain ⟨us11, hus11⟩ : ∃ z, z = us10.set 10 (Value.int (own_v x0 x1 (10 : Int32))) := ⟨_, rfl⟩
                        have l11 : us11.length = 16 := by rw [hus11, List.length_set]; exact l10
                        have H11 : own_Pre x0 x1 us11 11 := by rw [hus11]; exact H10.set (by rw [l10]; decide)
                        have J11 : own_Ids Z T47.heap a24 b us11 (11 : Int32) := by rw [hus11]; exact I47
                        refine own_go (fun _ => XS.iloadN X47.here hx rfl (hb hby at_202) rfl) ?_
                        show own_Go p e below _ (T47.setTop (mkF m 203 #[.val (.int x0), .val (.int x1), .val (.int x2), .val (.int n), .val (.ref a24), .unset] [(.int n)]))
                        refine own_go (fun _ => XS.bipush X47.here hx rfl (hb hby at_203)) ?_
                        show own_Go p e below _ (T47.setTop (mkF m 205 #[.val (.int x0), .val (.int x1), .val (.int x2), .val (.int n), .val (.ref a24), .unset] [(.int (11 : Int32)), (.int n)]))
                        by_cases hp11 : (11 : Int32) < n
                        · skip
                          have lt11 : 11 < nn := by rw [Int32.lt_iff_toInt_lt, hn] at hp11; simp only [Int32.reduceToInt] at hp11; omega
                          refine own_go (fun _ => XS.icmpNo X47.here hx rfl (hb hby at_205) rfl (XT.ii_le_f hp11)) ?_
                          show own_Go p e below _ (T47.setTop (mkF m 208 #[.val (.int x0), .val (.int x1), .val (.int x2), .val (.int n), .val (.ref a24), .unset] []))
                          refine own_go (fun _ => XS.aload X47.here hx rfl (hb hby at_208) rfl rfl) ?_
                          show own_Go p e below _ (T47.setTop (mkF m 210 #[.val (.int x0), .val (.int x1), .val (.int x2), .val (.int n), .val (.ref a24), .unset] [(.ref a24)]))
                          refine own_go (fun _ => XS.iloadN X47.here hx rfl (hb hby at_210) rfl) ?_
                          show own_Go p e below _ (T47.setTop (mkF m 211 #[.val (.int x0), .val (.int x1), .val (.int x2), .val (.int n), .val (.ref a24), .unset] [(.int x0), (.ref a24)]))
                          refine own_go (fun _ => XS.iloadN X47.here hx rfl (hb hby at_211) rfl) ?_
                          show own_Go p e below _ (T47.setTop (mkF m 212 #[.val (.int x0), .val (.int x1), .val (.int x2), .val (.int n), .val (.ref a24), .unset] [(.int x1), (.int x0), (.ref a24)]))
                          refine own_go (fun _ => XS.bipush X47.here hx rfl (hb hby at_212)) ?_
                          show own_Go p e below _ (T47.setTop (mkF m 214 #[.val (.int x0), .val (.int x1), .val (.int x2), .val (.int n), .val (.ref a24), .unset] [(.int (11 : Int32)), (.int x1), (.int x0), (.ref a24)]))
                          obtain ⟨T48, X48, e48, st48⟩ := own_callSP X47 hx hZ hown (argsL := [(.int x0), (.int x1), (.int (11 : Int32))]) (rest := [(.ref a24)]) (own_v_con l Z a0 hw x0 x1 (11 : Int32) T47.heap []) rfl (hw _ (List.mem_of_getElem? (i := 13) rfl)) (hw _ (List.mem_of_getElem? (i := 14) rfl)) (hw _ (List.mem_of_getElem? (i := 15) rfl)) (hw _ (List.mem_of_getElem? (i := 16) rfl)) (by decide) (by decide +kernel : parseMethodDescriptor "(III)I" = some ⟨[.int, .int, .int], some .int⟩) rfl (g := (mkF m 214 #[.val (.int x0), .val (.int x1), .val (.int x2), .val (.int n), .val (.ref a24), .unset] [(.int (11 : Int32)), (.int x1), (.int x0), (.ref a24)])) rfl (by rw [hml]; rfl) rfl 1 (by show 2 * 0 + _ ≤ _; exact Nat.le_of_eq rfl) (hb hby at_214) (by decide) (by decide) rfl rfl (by decide) (by decide)
                          refine own_go st48 ?_
                          show own_Go p e below _ (T48.setTop (mkF m 217 #[.val (.int x0), .val (.int x1), .val (.int x2), .val (.int n), .val (.ref a24), .unset] [(.int (own_v x0 x1 (11 : Int32))), (.ref a24)]))
                          have ex11 := J11.1
                          obtain ⟨_, T49, L49, X49, ⟨rfl, Nc49, Kc49, I49⟩, st49⟩ := own_callV X48 hx hZ hown (argsL := [(.int (own_v x0 x1 (11 : Int32)))]) (rest := []) (own_add_con l Z a0 hw a24 b us11 (11 : Int32) (own_v x0 x1 (11 : Int32)) 11 h0.size T47.heap J11 (by decide) (by rw [l11]; decide) ga gb []) e48 ex11 (hw _ (List.mem_of_getElem? (i := 17) rfl)) (hw _ (List.mem_of_getElem? (i := 18) rfl)) (hw _ (List.mem_of_getElem? (i := 20) rfl)) (hw _ (List.mem_of_getElem? (i := 19) rfl)) (hw _ (List.mem_of_getElem? (i := 3) rfl)) (hw _ (List.mem_of_getElem? (i := 21) rfl)) (notFace_of_selects (args := #[]) (mvT hZ (hw _ (List.mem_of_getElem? (i := 20) rfl)))) (by decide) (by decide +kernel : parseMethodDescriptor "(I)V" = some ⟨[.int], none⟩) rfl (g := (mkF m 217 #[.val (.int x0), .val (.int x1), .val (.int x2), .val (.int n), .val (.ref a24), .unset] [(.int (own_v x0 x1 (11 : Int32))), (.ref a24)])) rfl (by rw [hml]; rfl) rfl 0 (by show 2 * 0 + _ ≤ _; exact Nat.le_of_eq rfl) (hb hby at_217) (by decide) (by decide) (by decide) (by decide)
                          have N49 := Fr.app N47 Nc49
                          have o_E_49 := ex11.keep Kc49
                          refine own_go st49 ?_
                          show own_Go p e below _ (T49.setTop (mkF m 220 #[.val (.int x0), .val (.int x1), .val (.int x2), .val (.int n), .val (.ref a24), .unset] []))
                          obtain ⟨us12, hus12⟩ : ∃ z, z = us11.set 11 (Value.int (own_v x0 x1 (11 : Int32))) := ⟨_, rfl⟩
                          have l12 : us12.length = 16 := by rw [hus12, List.length_set]; exact l11
                          have H12 : own_Pre x0 x1 us12 12 := by rw [hus12]; exact H11.set (by rw [l11]; decide)
                          have J12 : own_Ids Z T49.heap a24 b us12 (12 : Int32) := by rw [hus12]; exact I49
                          refine own_go (fun _ => XS.iloadN X49.here hx rfl (hb hby at_220) rfl) ?_
                          show own_Go p e below _ (T49.setTop (mkF m 221 #[.val (.int x0), .val (.int x1), .val (.int x2), .val (.int n), .val (.ref a24), .unset] [(.int n)]))
                          refine own_go (fun _ => XS.bipush X49.here hx rfl (hb hby at_221)) ?_
                          show own_Go p e below _ (T49.setTop (mkF m 223 #[.val (.int x0), .val (.int x1), .val (.int x2), .val (.int n), .val (.ref a24), .unset] [(.int (12 : Int32)), (.int n)]))
                          by_cases hp12 : (12 : Int32) < n
                          · skip
                            have lt12 : 12 < nn := by rw [Int32.lt_iff_toInt_lt, hn] at hp12; simp only [Int32.reduceToInt] at hp12; omega
                            refine own_go (fun _ => XS.icmpNo X49.here hx rfl (hb hby at_223) rfl (XT.ii_le_f hp12)) ?_
                            show own_Go p e below _ (T49.setTop (mkF m 226 #[.val (.int x0), .val (.int x1), .val (.int x2), .val (.int n), .val (.ref a24), .unset] []))
                            refine own_go (fun _ => XS.aload X49.here hx rfl (hb hby at_226) rfl rfl) ?_
                            show own_Go p e below _ (T49.setTop (mkF m 228 #[.val (.int x0), .val (.int x1), .val (.int x2), .val (.int n), .val (.ref a24), .unset] [(.ref a24)]))
                            refine own_go (fun _ => XS.iloadN X49.here hx rfl (hb hby at_228) rfl) ?_
                            show own_Go p e below _ (T49.setTop (mkF m 229 #[.val (.int x0), .val (.int x1), .val (.int x2), .val (.int n), .val (.ref a24), .unset] [(.int x0), (.ref a24)]))
                            refine own_go (fun _ => XS.iloadN X49.here hx rfl (hb hby at_229) rfl) ?_
                            show own_Go p e below _ (T49.setTop (mkF m 230 #[.val (.int x0), .val (.int x1), .val (.int x2), .val (.int n), .val (.ref a24), .unset] [(.int x1), (.int x0), (.ref a24)]))
                            refine own_go (fun _ => XS.bipush X49.here hx rfl (hb hby at_230)) ?_
                            show own_Go p e below _ (T49.setTop (mkF m 232 #[.val (.int x0), .val (.int x1), .val (.int x2), .val (.int n), .val (.ref a24), .unset] [(.int (12 : Int32)), (.int x1), (.int x0), (.ref a24)]))
                            obtain ⟨T50, X50, e50, st50⟩ := own_callSP X49 hx hZ hown (argsL := [(.int x0), (.int x1), (.int (12 : Int32))]) (rest := [(.ref a24)]) (own_v_con l Z a0 hw x0 x1 (12 : Int32) T49.heap []) rfl (hw _ (List.mem_of_getElem? (i := 13) rfl)) (hw _ (List.mem_of_getElem? (i := 14) rfl)) (hw _ (List.mem_of_getElem? (i := 15) rfl)) (hw _ (List.mem_of_getElem? (i := 16) rfl)) (by decide) (by decide +kernel : parseMethodDescriptor "(III)I" = some ⟨[.int, .int, .int], some .int⟩) rfl (g := (mkF m 232 #[.val (.int x0), .val (.int x1), .val (.int x2), .val (.int n), .val (.ref a24), .unset] [(.int (12 : Int32)), (.int x1), (.int x0), (.ref a24)])) rfl (by rw [hml]; rfl) rfl 1 (by show 2 * 0 + _ ≤ _; exact Nat.le_of_eq rfl) (hb hby at_232) (by decide) (by decide) rfl rfl (by decide) (by decide)
                            refine own_go st50 ?_
                            show own_Go p e below _ (T50.setTop (mkF m 235 #[.val (.int x0), .val (.int x1), .val (.int x2), .val (.int n), .val (.ref a24), .unset] [(.int (own_v x0 x1 (12 : Int32))), (.ref a24)]))
                            have ex12 := J12.1
                            obtain ⟨_, T51, L51, X51, ⟨rfl, Nc51, Kc51, I51⟩, st51⟩ := own_callV X50 hx hZ hown (argsL := [(.int (own_v x0 x1 (12 : Int32)))]) (rest := []) (own_add_con l Z a0 hw a24 b us12 (12 : Int32) (own_v x0 x1 (12 : Int32)) 12 h0.size T49.heap J12 (by decide) (by rw [l12]; decide) ga gb []) e50 ex12 (hw _ (List.mem_of_getElem? (i := 17) rfl)) (hw _ (List.mem_of_getElem? (i := 18) rfl)) (hw _ (List.mem_of_getElem? (i := 20) rfl)) (hw _ (List.mem_of_getElem? (i := 19) rfl)) (hw _ (List.mem_of_getElem? (i := 3) rfl)) (hw _ (List.mem_of_getElem? (i := 21) rfl)) (notFace_of_selects (args := #[]) (mvT hZ (hw _ (List.mem_of_getElem? (i := 20) rfl)))) (by decide) (by decide +kernel : parseMethodDescriptor "(I)V" = some ⟨[.int], none⟩) rfl (g := (mkF m 235 #[.val (.int x0), .val (.int x1), .val (.int x2), .val (.int n), .val (.ref a24), .unset] [(.int (own_v x0 x1 (12 : Int32))), (.ref a24)])) rfl (by rw [hml]; rfl) rfl 0 (by show 2 * 0 + _ ≤ _; exact Nat.le_of_eq rfl) (hb hby at_235) (by decide) (by decide) (by decide) (by decide)
                            have N51 := Fr.app N49 Nc51
                            have o_E_51 := ex12.keep Kc51
                            refine own_go st51 ?_
                            show own_Go p e below _ (T51.setTop (mkF m 238 #[.val (.int x0), .val (.int x1), .val (.int x2), .val (.int n), .val (.ref a24), .unset] []))
                            obtain ⟨us13, hus13⟩ : ∃ z, z = us12.set 12 (Value.int (own_v x0 x1 (12 : Int32))) := ⟨_, rfl⟩
                            have l13 : us13.length = 16 := by rw [hus13, List.length_set]; exact l12
                            have H13 : own_Pre x0 x1 us13 13 := by rw [hus13]; exact H12.set (by rw [l12]; decide)
                            have J13 : own_Ids Z T51.heap a24 b us13 (13 : Int32) := by rw [hus13]; exact I51
                            refine own_go (fun _ => XS.iloadN X51.here hx rfl (hb hby at_238) rfl) ?_
                            show own_Go p e below _ (T51.setTop (mkF m 239 #[.val (.int x0), .val (.int x1), .val (.int x2), .val (.int n), .val (.ref a24), .unset] [(.int n)]))
                            refine own_go (fun _ => XS.bipush X51.here hx rfl (hb hby at_239)) ?_
                            show own_Go p e below _ (T51.setTop (mkF m 241 #[.val (.int x0), .val (.int x1), .val (.int x2), .val (.int n), .val (.ref a24), .unset] [(.int (13 : Int32)), (.int n)]))
                            by_cases hp13 : (13 : Int32) < n
                            · skip
                              have lt13 : 13 < nn := by rw [Int32.lt_iff_toInt_lt, hn] at hp13; simp only [Int32.reduceToInt] at hp13; omega
                              refine own_go (fun _ => XS.icmpNo X51.here hx rfl (hb hby at_241) rfl (XT.ii_le_f hp13)) ?_
                              show own_Go p e below _ (T51.setTop (mkF m 244 #[.val (.int x0), .val (.int x1), .val (.int x2), .val (.int n), .val (.ref a24), .unset] []))
                              refine own_go (fun _ => XS.aload X51.here hx rfl (hb hby at_244) rfl rfl) ?_
                              show own_Go p e below _ (T51.setTop (mkF m 246 #[.val (.int x0), .val (.int x1), .val (.int x2), .val (.int n), .val (.ref a24), .unset] [(.ref a24)]))
                              refine own_go (fun _ => XS.iloadN X51.here hx rfl (hb hby at_246) rfl) ?_
                              show own_Go p e below _ (T51.setTop (mkF m 247 #[.val (.int x0), .val (.int x1), .val (.int x2), .val (.int n), .val (.ref a24), .unset] [(.int x0), (.ref a24)]))
                              refine own_go (fun _ => XS.iloadN X51.here hx rfl (hb hby at_247) rfl) ?_
                              show own_Go p e below _ (T51.setTop (mkF m 248 #[.val (.int x0), .val (.int x1), .val (.int x2), .val (.int n), .val (.ref a24), .unset] [(.int x1), (.int x0), (.ref a24)]))
                              refine own_go (fun _ => XS.bipush X51.here hx rfl (hb hby at_248)) ?_
                              show own_Go p e below _ (T51.setTop (mkF m 250 #[.val (.int x0), .val (.int x1), .val (.int x2), .val (.int n), .val (.ref a24), .unset] [(.int (13 : Int32)), (.int x1), (.int x0), (.ref a24)]))
                              obtain ⟨T52, X52, e52, st52⟩ := own_callSP X51 hx hZ hown (argsL := [(.int x0), (.int x1), (.int (13 : Int32))]) (rest := [(.ref a24)]) (own_v_con l Z a0 hw x0 x1 (13 : Int32) T51.heap []) rfl (hw _ (List.mem_of_getElem? (i := 13) rfl)) (hw _ (List.mem_of_getElem? (i := 14) rfl)) (hw _ (List.mem_of_getElem? (i := 15) rfl)) (hw _ (List.mem_of_getElem? (i := 16) rfl)) (by decide) (by decide +kernel : parseMethodDescriptor "(III)I" = some ⟨[.int, .int, .int], some .int⟩) rfl (g := (mkF m 250 #[.val (.int x0), .val (.int x1), .val (.int x2), .val (.int n), .val (.ref a24), .unset] [(.int (13 : Int32)), (.int x1), (.int x0), (.ref a24)])) rfl (by rw [hml]; rfl) rfl 1 (by show 2 * 0 + _ ≤ _; exact Nat.le_of_eq rfl) (hb hby at_250) (by decide) (by decide) rfl rfl (by decide) (by decide)
                              refine own_go st52 ?_
                              show own_Go p e below _ (T52.setTop (mkF m 253 #[.val (.int x0), .val (.int x1), .val (.int x2), .val (.int n), .val (.ref a24), .unset] [(.int (own_v x0 x1 (13 : Int32))), (.ref a24)]))
                              have ex13 := J13.1
                              obtain ⟨_, T53, L53, X53, ⟨rfl, Nc53, Kc53, I53⟩, st53⟩ := own_callV X52 hx hZ hown (argsL := [(.int (own_v x0 x1 (13 : Int32)))]) (rest := []) (own_add_con l Z a0 hw a24 b us13 (13 : Int32) (own_v x0 x1 (13 : Int32)) 13 h0.size T51.heap J13 (by decide) (by rw [l13]; decide) ga gb []) e52 ex13 (hw _ (List.mem_of_getElem? (i := 17) rfl)) (hw _ (List.mem_of_getElem? (i := 18) rfl)) (hw _ (List.mem_of_getElem? (i := 20) rfl)) (hw _ (List.mem_of_getElem? (i := 19) rfl)) (hw _ (List.mem_of_getElem? (i := 3) rfl)) (hw _ (List.mem_of_getElem? (i := 21) rfl)) (notFace_of_selects (args := #[]) (mvT hZ (hw _ (List.mem_of_getElem? (i := 20) rfl)))) (by decide) (by decide +kernel : parseMethodDescriptor "(I)V" = some ⟨[.int], none⟩) rfl (g := (mkF m 253 #[.val (.int x0), .val (.int x1), .val (.int x2), .val (.int n), .val (.ref a24), .unset] [(.int (own_v x0 x1 (13 : Int32))), (.ref a24)])) rfl (by rw [hml]; rfl) rfl 0 (by show 2 * 0 + _ ≤ _; exact Nat.le_of_eq rfl) (hb hby at_253) (by decide) (by decide) (by decide) (by decide)
                              have N53 := Fr.app N51 Nc53
                              have o_E_53 := ex13.keep Kc53
                              refine own_go st53 ?_
                              show own_Go p e below _ (T53.setTop (mkF m 256 #[.val (.int x0), .val (.int x1), .val (.int x2), .val (.int n), .val (.ref a24), .unset] []))
                              obtain ⟨us14, hus14⟩ : ∃ z, z = us13.set 13 (Value.int (own_v x0 x1 (13 : Int32))) := ⟨_, rfl⟩
                              have l14 : us14.length = 16 := by rw [hus14, List.length_set]; exact l13
                              have H14 : own_Pre x0 x1 us14 14 := by rw [hus14]; exact H13.set (by rw [l13]; decide)
                              have J14 : own_Ids Z T53.heap a24 b us14 (14 : Int32) := by rw [hus14]; exact I53
                              refine own_go (fun _ => XS.iloadN X53.here hx rfl (hb hby at_256) rfl) ?_
                              show own_Go p e below _ (T53.setTop (mkF m 257 #[.val (.int x0), .val (.int x1), .val (.int x2), .val (.int n), .val (.ref a24), .unset] [(.int n)]))
                              refine own_go (fun _ => XS.bipush X53.here hx rfl (hb hby at_257)) ?_
                              show own_Go p e below _ (T53.setTop (mkF m 259 #[.val (.int x0), .val (.int x1), .val (.int x2), .val (.int n), .val (.ref a24), .unset] [(.int (14 : Int32)), (.int n)]))
                              by_cases hp14 : (14 : Int32) < n
                              · skip
                                have lt14 : 14 < nn := by rw [Int32.lt_iff_toInt_lt, hn] at hp14; simp only [Int32.reduceToInt] at hp14; omega
                                refine own_go (fun _ => XS.icmpNo X53.here hx rfl (hb hby at_259) rfl (XT.ii_le_f hp14)) ?_
                                show own_Go p e below _ (T53.setTop (mkF m 262 #[.val (.int x0), .val (.int x1), .val (.int x2), .val (.int n), .val (.ref a24), .unset] []))
                                refine own_go (fun _ => XS.aload X53.here hx rfl (hb hby at_262) rfl rfl) ?_
                                show own_Go p e below _ (T53.setTop (mkF m 264 #[.val (.int x0), .val (.int x1), .val (.int x2), .val (.int n), .val (.ref a24), .unset] [(.ref a24)]))
                                refine own_go (fun _ => XS.iloadN X53.here hx rfl (hb hby at_264) rfl) ?_
                                show own_Go p e below _ (T53.setTop (mkF m 265 #[.val (.int x0), .val (.int x1), .val (.int x2), .val (.int n), .val (.ref a24), .unset] [(.int x0), (.ref a24)]))
                                refine own_go (fun _ => XS.iloadN X53.here hx rfl (hb hby at_265) rfl) ?_
                                show own_Go p e below _ (T53.setTop (mkF m 266 #[.val (.int x0), .val (.int x1), .val (.int x2), .val (.int n), .val (.ref a24), .unset] [(.int x1), (.int x0), (.ref a24)]))
                                refine own_go (fun _ => XS.bipush X53.here hx rfl (hb hby at_266)) ?_
                                show own_Go p e below _ (T53.setTop (mkF m 268 #[.val (.int x0), .val (.int x1), .val (.int x2), .val (.int n), .val (.ref a24), .unset] [(.int (14 : Int32)), (.int x1), (.int x0), (.ref a24)]))
                                obtain ⟨T54, X54, e54, st54⟩ := own_callSP X53 hx hZ hown (argsL := [(.int x0), (.int x1), (.int (14 : Int32))]) (rest := [(.ref a24)]) (own_v_con l Z a0 hw x0 x1 (14 : Int32) T53.heap []) rfl (hw _ (List.mem_of_getElem? (i := 13) rfl)) (hw _ (List.mem_of_getElem? (i := 14) rfl)) (hw _ (List.mem_of_getElem? (i := 15) rfl)) (hw _ (List.mem_of_getElem? (i := 16) rfl)) (by decide) (by decide +kernel : parseMethodDescriptor "(III)I" = some ⟨[.int, .int, .int], some .int⟩) rfl (g := (mkF m 268 #[.val (.int x0), .val (.int x1), .val (.int x2), .val (.int n), .val (.ref a24), .unset] [(.int (14 : Int32)), (.int x1), (.int x0), (.ref a24)])) rfl (by rw [hml]; rfl) rfl 1 (by show 2 * 0 + _ ≤ _; exact Nat.le_of_eq rfl) (hb hby at_268) (by decide) (by decide) rfl rfl (by decide) (by decide)
                                refine own_go st54 ?_
                                show own_Go p e below _ (T54.setTop (mkF m 271 #[.val (.int x0), .val (.int x1), .val (.int x2), .val (.int n), .val (.ref a24), .unset] [(.int (own_v x0 x1 (14 : Int32))), (.ref a24)]))
                                have ex14 := J14.1
                                obtain ⟨_, T55, L55, X55, ⟨rfl, Nc55, Kc55, I55⟩, st55⟩ := own_callV X54 hx hZ hown (argsL := [(.int (own_v x0 x1 (14 : Int32)))]) (rest := []) (own_add_con l Z a0 hw a24 b us14 (14 : Int32) (own_v x0 x1 (14 : Int32)) 14 h0.size T53.heap J14 (by decide) (by rw [l14]; decide) ga gb []) e54 ex14 (hw _ (List.mem_of_getElem? (i := 17) rfl)) (hw _ (List.mem_of_getElem? (i := 18) rfl)) (hw _ (List.mem_of_getElem? (i := 20) rfl)) (hw _ (List.mem_of_getElem? (i := 19) rfl)) (hw _ (List.mem_of_getElem? (i := 3) rfl)) (hw _ (List.mem_of_getElem? (i := 21) rfl)) (notFace_of_selects (args := #[]) (mvT hZ (hw _ (List.mem_of_getElem? (i := 20) rfl)))) (by decide) (by decide +kernel : parseMethodDescriptor "(I)V" = some ⟨[.int], none⟩) rfl (g := (mkF m 271 #[.val (.int x0), .val (.int x1), .val (.int x2), .val (.int n), .val (.ref a24), .unset] [(.int (own_v x0 x1 (14 : Int32))), (.ref a24)])) rfl (by rw [hml]; rfl) rfl 0 (by show 2 * 0 + _ ≤ _; exact Nat.le_of_eq rfl) (hb hby at_271) (by decide) (by decide) (by decide) (by decide)
                                have N55 := Fr.app N53 Nc55
                                have o_E_55 := ex14.keep Kc55
                                refine own_go st55 ?_
                                show own_Go p e below _ (T55.setTop (mkF m 274 #[.val (.int x0), .val (.int x1), .val (.int x2), .val (.int n), .val (.ref a24), .unset] []))
                                obtain ⟨us15, hus15⟩ : ∃ z, z = us14.set 14 (Value.int (own_v x0 x1 (14 : Int32))) := ⟨_, rfl⟩
                                have l15 : us15.length = 16 := by rw [hus15, List.length_set]; exact l14
                                have H15 : own_Pre x0 x1 us15 15 := by rw [hus15]; exact H14.set (by rw [l14]; decide)
                                have J15 : own_Ids Z T55.heap a24 b us15 (15 : Int32) := by rw [hus15]; exact I55
                                refine own_go (fun _ => XS.iloadN X55.here hx rfl (hb hby at_274) rfl) ?_
                                show own_Go p e below _ (T55.setTop (mkF m 275 #[.val (.int x0), .val (.int x1), .val (.int x2), .val (.int n), .val (.ref a24), .unset] [(.int n)]))
                                refine own_go (fun _ => XS.bipush X55.here hx rfl (hb hby at_275)) ?_
                                show own_Go p e below _ (T55.setTop (mkF m 277 #[.val (.int x0), .val (.int x1), .val (.int x2), .val (.int n), .val (.ref a24), .unset] [(.int (15 : Int32)), (.int n)]))
                                by_cases hp15 : (15 : Int32) < n
                                · skip
                                  have lt15 : 15 < nn := by rw [Int32.lt_iff_toInt_lt, hn] at hp15; simp only [Int32.reduceToInt] at hp15; omega
                                  refine own_go (fun _ => XS.icmpNo X55.here hx rfl (hb hby at_277) rfl (XT.ii_le_f hp15)) ?_
                                  show own_Go p e below _ (T55.setTop (mkF m 280 #[.val (.int x0), .val (.int x1), .val (.int x2), .val (.int n), .val (.ref a24), .unset] []))
                                  refine own_go (fun _ => XS.aload X55.here hx rfl (hb hby at_280) rfl rfl) ?_
                                  show own_Go p e below _ (T55.setTop (mkF m 282 #[.val (.int x0), .val (.int x1), .val (.int x2), .val (.int n), .val (.ref a24), .unset] [(.ref a24)]))
                                  refine own_go (fun _ => XS.iloadN X55.here hx rfl (hb hby at_282) rfl) ?_
                                  show own_Go p e below _ (T55.setTop (mkF m 283 #[.val (.int x0), .val (.int x1), .val (.int x2), .val (.int n), .val (.ref a24), .unset] [(.int x0), (.ref a24)]))
                                  refine own_go (fun _ => XS.iloadN X55.here hx rfl (hb hby at_283) rfl) ?_
                                  show own_Go p e below _ (T55.setTop (mkF m 284 #[.val (.int x0), .val (.int x1), .val (.int x2), .val (.int n), .val (.ref a24), .unset] [(.int x1), (.int x0), (.ref a24)]))
                                  refine own_go (fun _ => XS.bipush X55.here hx rfl (hb hby at_284)) ?_
                                  show own_Go p e below _ (T55.setTop (mkF m 286 #[.val (.int x0), .val (.int x1), .val (.int x2), .val (.int n), .val (.ref a24), .unset] [(.int (15 : Int32)), (.int x1), (.int x0), (.ref a24)]))
                                  obtain ⟨T56, X56, e56, st56⟩ := own_callSP X55 hx hZ hown (argsL := [(.int x0), (.int x1), (.int (15 : Int32))]) (rest := [(.ref a24)]) (own_v_con l Z a0 hw x0 x1 (15 : Int32) T55.heap []) rfl (hw _ (List.mem_of_getElem? (i := 13) rfl)) (hw _ (List.mem_of_getElem? (i := 14) rfl)) (hw _ (List.mem_of_getElem? (i := 15) rfl)) (hw _ (List.mem_of_getElem? (i := 16) rfl)) (by decide) (by decide +kernel : parseMethodDescriptor "(III)I" = some ⟨[.int, .int, .int], some .int⟩) rfl (g := (mkF m 286 #[.val (.int x0), .val (.int x1), .val (.int x2), .val (.int n), .val (.ref a24), .unset] [(.int (15 : Int32)), (.int x1), (.int x0), (.ref a24)])) rfl (by rw [hml]; rfl) rfl 1 (by show 2 * 0 + _ ≤ _; exact Nat.le_of_eq rfl) (hb hby at_286) (by decide) (by decide) rfl rfl (by decide) (by decide)
                                  refine own_go st56 ?_
                                  show own_Go p e below _ (T56.setTop (mkF m 289 #[.val (.int x0), .val (.int x1), .val (.int x2), .val (.int n), .val (.ref a24), .unset] [(.int (own_v x0 x1 (15 : Int32))), (.ref a24)]))
                                  have ex15 := J15.1
                                  obtain ⟨_, T57, L57, X57, ⟨rfl, Nc57, Kc57, I57⟩, st57⟩ := own_callV X56 hx hZ hown (argsL := [(.int (own_v x0 x1 (15 : Int32)))]) (rest := []) (own_add_con l Z a0 hw a24 b us15 (15 : Int32) (own_v x0 x1 (15 : Int32)) 15 h0.size T55.heap J15 (by decide) (by rw [l15]; decide) ga gb []) e56 ex15 (hw _ (List.mem_of_getElem? (i := 17) rfl)) (hw _ (List.mem_of_getElem? (i := 18) rfl)) (hw _ (List.mem_of_getElem? (i := 20) rfl)) (hw _ (List.mem_of_getElem? (i := 19) rfl)) (hw _ (List.mem_of_getElem? (i := 3) rfl)) (hw _ (List.mem_of_getElem? (i := 21) rfl)) (notFace_of_selects (args := #[]) (mvT hZ (hw _ (List.mem_of_getElem? (i := 20) rfl)))) (by decide) (by decide +kernel : parseMethodDescriptor "(I)V" = some ⟨[.int], none⟩) rfl (g := (mkF m 289 #[.val (.int x0), .val (.int x1), .val (.int x2), .val (.int n), .val (.ref a24), .unset] [(.int (own_v x0 x1 (15 : Int32))), (.ref a24)])) rfl (by rw [hml]; rfl) rfl 0 (by show 2 * 0 + _ ≤ _; exact Nat.le_of_eq rfl) (hb hby at_289) (by decide) (by decide) (by decide) (by decide)
                                  have N57 := Fr.app N55 Nc57
                                  have o_E_57 := ex15.keep Kc57
                                  refine own_go st57 ?_
                                  show own_Go p e below _ (T57.setTop (mkF m 292 #[.val (.int x0), .val (.int x1), .val (.int x2), .val (.int n), .val (.ref a24), .unset] []))
                                  obtain ⟨us16, hus16⟩ : ∃ z, z = us15.set 15 (Value.int (own_v x0 x1 (15 : Int32))) := ⟨_, rfl⟩
                                  have l16 : us16.length = 16 := by rw [hus16, List.length_set]; exact l15
                                  have H16 : own_Pre x0 x1 us16 16 := by rw [hus16]; exact H15.set (by rw [l15]; decide)
                                  have J16 : own_Ids Z T57.heap a24 b us16 (16 : Int32) := by rw [hus16]; exact I57
                                  refine own_go (fun _ => XS.iloadN X57.here hx rfl (hb hby at_292) rfl) ?_
                                  show own_Go p e below _ (T57.setTop (mkF m 293 #[.val (.int x0), .val (.int x1), .val (.int x2), .val (.int n), .val (.ref a24), .unset] [(.int n)]))
                                  refine own_go (fun _ => XS.bipush X57.here hx rfl (hb hby at_293)) ?_
                                  show own_Go p e below _ (T57.setTop (mkF m 295 #[.val (.int x0), .val (.int x1), .val (.int x2), .val (.int n), .val (.ref a24), .unset] [(.int (16 : Int32)), (.int n)]))
                                  by_cases hp16 : (16 : Int32) < n
                                  · skip
                                    have lt16 : 16 < nn := by rw [Int32.lt_iff_toInt_lt, hn] at hp16; simp only [Int32.reduceToInt] at hp16; omega
                                    refine own_go (fun _ => XS.icmpNo X57.here hx rfl (hb hby at_295) rfl (XT.ii_le_f hp16)) ?_
                                    show own_Go p e below _ (T57.setTop (mkF m 298 #[.val (.int x0), .val (.int x1), .val (.int x2), .val (.int n), .val (.ref a24), .unset] []))
                                    refine own_go (fun _ => XS.aload X57.here hx rfl (hb hby at_298) rfl rfl) ?_
                                    show own_Go p e below _ (T57.setTop (mkF m 300 #[.val (.int x0), .val (.int x1), .val (.int x2), .val (.int n), .val (.ref a24), .unset] [(.ref a24)]))
                                    refine own_go (fun _ => XS.iloadN X57.here hx rfl (hb hby at_300) rfl) ?_
                                    show own_Go p e below _ (T57.setTop (mkF m 301 #[.val (.int x0), .val (.int x1), .val (.int x2), .val (.int n), .val (.ref a24), .unset] [(.int x0), (.ref a24)]))
                                    refine own_go (fun _ => XS.iloadN X57.here hx rfl (hb hby at_301) rfl) ?_
                                    show own_Go p e below _ (T57.setTop (mkF m 302 #[.val (.int x0), .val (.int x1), .val (.int x2), .val (.int n), .val (.ref a24), .unset] [(.int x1), (.int x0), (.ref a24)]))
                                    refine own_go (fun _ => XS.bipush X57.here hx rfl (hb hby at_302)) ?_
                                    show own_Go p e below _ (T57.setTop (mkF m 304 #[.val (.int x0), .val (.int x1), .val (.int x2), .val (.int n), .val (.ref a24), .unset] [(.int (16 : Int32)), (.int x1), (.int x0), (.ref a24)]))
                                    obtain ⟨T58, X58, e58, st58⟩ := own_callSP X57 hx hZ hown (argsL := [(.int x0), (.int x1), (.int (16 : Int32))]) (rest := [(.ref a24)]) (own_v_con l Z a0 hw x0 x1 (16 : Int32) T57.heap []) rfl (hw _ (List.mem_of_getElem? (i := 13) rfl)) (hw _ (List.mem_of_getElem? (i := 14) rfl)) (hw _ (List.mem_of_getElem? (i := 15) rfl)) (hw _ (List.mem_of_getElem? (i := 16) rfl)) (by decide) (by decide +kernel : parseMethodDescriptor "(III)I" = some ⟨[.int, .int, .int], some .int⟩) rfl (g := (mkF m 304 #[.val (.int x0), .val (.int x1), .val (.int x2), .val (.int n), .val (.ref a24), .unset] [(.int (16 : Int32)), (.int x1), (.int x0), (.ref a24)])) rfl (by rw [hml]; rfl) rfl 1 (by show 2 * 0 + _ ≤ _; exact Nat.le_of_eq rfl) (hb hby at_304) (by decide) (by decide) rfl rfl (by decide) (by decide)
                                    refine own_go st58 ?_
                                    show own_Go p e below _ (T58.setTop (mkF m 307 #[.val (.int x0), .val (.int x1), .val (.int x2), .val (.int n), .val (.ref a24), .unset] [(.int (own_v x0 x1 (16 : Int32))), (.ref a24)]))
                                    have ex16 := J16.1
                                    have g16 : h0.size ≤ T57.heap.size := Nat.le_trans ga (Nat.le_of_lt J16.1.lt)
                                    obtain ⟨_, T59, L59, X59, ⟨rfl, Nc59, Kc59, I59⟩, st59⟩ := own_callV X58 hx hZ hown (argsL := [(.int (own_v x0 x1 (16 : Int32)))]) (rest := []) (own_addG_con l Z a0 hw a24 b us16 (own_v x0 x1 (16 : Int32)) h0.size T57.heap J16 l16 ga g16 []) e58 ex16 (hw _ (List.mem_of_getElem? (i := 17) rfl)) (hw _ (List.mem_of_getElem? (i := 18) rfl)) (hw _ (List.mem_of_getElem? (i := 20) rfl)) (hw _ (List.mem_of_getElem? (i := 19) rfl)) (hw _ (List.mem_of_getElem? (i := 3) rfl)) (hw _ (List.mem_of_getElem? (i := 21) rfl)) (notFace_of_selects (args := #[]) (mvT hZ (hw _ (List.mem_of_getElem? (i := 20) rfl)))) (by decide) (by decide +kernel : parseMethodDescriptor "(I)V" = some ⟨[.int], none⟩) rfl (g := (mkF m 307 #[.val (.int x0), .val (.int x1), .val (.int x2), .val (.int n), .val (.ref a24), .unset] [(.int (own_v x0 x1 (16 : Int32))), (.ref a24)])) rfl (by rw [hml]; rfl) rfl 0 (by show 2 * 0 + _ ≤ _; exact Nat.le_of_eq rfl) (hb hby at_307) (by decide) (by decide) (by decide) (by decide)
                                    have N59 := Fr.app N57 Nc59
                                    have o_E_59 := ex16.keep Kc59
                                    refine own_go st59 ?_
                                    show own_Go p e below _ (T59.setTop (mkF m 310 #[.val (.int x0), .val (.int x1), .val (.int x2), .val (.int n), .val (.ref a24), .unset] []))
                                    have e17 : nn = 17 := by omega
                                    have n17 : n = (16 : Int32) + 1 := Int32.toInt_inj.mp (by rw [hn, e17]; decide)
                                    refine C17 T59 _ (X59.more (by decide) (by decide)) N59 a24 _ _ (by rw [n17]; exact I59) ga g16 (by rw [List.length_set, List.length_append, l16, e17]; decide) (by rw [List.length_set, List.length_append, l16]; decide) ?_
                                    rw [e17]; exact (own_Pre.app (k := 16) H16 (by rw [l16]; decide)).set (by rw [List.length_append, l16]; decide)
                                  · skip
                                    have ek16 : nn = 16 := by rw [Int32.lt_iff_toInt_lt, hn] at hp16; simp only [Int32.reduceToInt] at hp16; omega
                                    have nk16 : n = (16 : Int32) := Int32.toInt_inj.mp (by rw [hn, ek16]; decide)
                                    refine own_go (fun _ => XS.icmpYes X57.here hx rfl (pc0 := 295) (pc' := 310) rfl (hb hby at_295) rfl (XT.ii_le_t hp16) (by decide) (by decide)) ?_
                                    show own_Go p e below _ (T57.setTop (mkF m 310 #[.val (.int x0), .val (.int x1), .val (.int x2), .val (.int n), .val (.ref a24), .unset] []))
                                    exact C17 T57 _ (X57.more (by decide) (by decide)) N57 a24 b us16 (by rw [nk16]; exact J16) ga gb (by rw [l16]; omega) (by rw [l16]; decide) (by rw [ek16]; exact H16)
                                · skip
                                  have ek15 : nn = 15 := by rw [Int32.lt_iff_toInt_lt, hn] at hp15; simp only [Int32.reduceToInt] at hp15; omega
                                  have nk15 : n = (15 : Int32) := Int32.toInt_inj.mp (by rw [hn, ek15]; decide)
                                  refine own_go (fun _ => XS.icmpYes X55.here hx rfl (pc0 := 277) (pc' := 292) rfl (hb hby at_277) rfl (XT.ii_le_t hp15) (by decide) (by decide)) ?_
                                  show own_Go p e below _ (T55.setTop (mkF m 292 #[.val (.int x0), .val (.int x1), .val (.int x2), .val (.int n), .val (.ref a24), .unset] []))
                                  exact C16 (by omega) T55 _ (X55.more (by decide) (by decide)) N55 a24 b us15 (by rw [nk15]; exact J15) ga gb (by rw [l15]; omega) (by rw [l15]; decide) (by rw [ek15]; exact H15)
                              · skip
                                have ek14 : nn = 14 := by rw [Int32.lt_iff_toInt_lt, hn] at hp14; simp only [Int32.reduceToInt] at hp14; omega
                                have nk14 : n = (14 : Int32) := Int32.toInt_inj.mp (by rw [hn, ek14]; decide)
                                refine own_go (fun _ => XS.icmpYes X53.here hx rfl (pc0 := 259) (pc' := 274) rfl (hb hby at_259) rfl (XT.ii_le_t hp14) (by decide) (by decide)) ?_
                                show own_Go p e below _ (T53.setTop (mkF m 274 #[.val (.int x0), .val (.int x1), .val (.int x2), .val (.int n), .val (.ref a24), .unset] []))
                                exact C15 (by omega) T53 _ (X53.more (by decide) (by decide)) N53 a24 b us14 (by rw [nk14]; exact J14) ga gb (by rw [l14]; omega) (by rw [l14]; decide) (by rw [ek14]; exact H14)
                            · skip
                              have ek13 : nn = 13 := by rw [Int32.lt_iff_toInt_lt, hn] at hp13; simp only [Int32.reduceToInt] at hp13; omega
                              have nk13 : n = (13 : Int32) := Int32.toInt_inj.mp (by rw [hn, ek13]; decide)
                              refine own_go (fun _ => XS.icmpYes X51.here hx rfl (pc0 := 241) (pc' := 256) rfl (hb hby at_241) rfl (XT.ii_le_t hp13) (by decide) (by decide)) ?_
                              show own_Go p e below _ (T51.setTop (mkF m 256 #[.val (.int x0), .val (.int x1), .val (.int x2), .val (.int n), .val (.ref a24), .unset] []))
                              exact C14 (by omega) T51 _ (X51.more (by decide) (by decide)) N51 a24 b us13 (by rw [nk13]; exact J13) ga gb (by rw [l13]; omega) (by rw [l13]; decide) (by rw [ek13]; exact H13)
                          · skip
                            have ek12 : nn = 12 := by rw [Int32.lt_iff_toInt_lt, hn] at hp12; simp only [Int32.reduceToInt] at hp12; omega
                            have nk12 : n = (12 : Int32) := Int32.toInt_inj.mp (by rw [hn, ek12]; decide)
                            refine own_go (fun _ => XS.icmpYes X49.here hx rfl (pc0 := 223) (pc' := 238) rfl (hb hby at_223) rfl (XT.ii_le_t hp12) (by decide) (by decide)) ?_
                            show own_Go p e below _ (T49.setTop (mkF m 238 #[.val (.int x0), .val (.int x1), .val (.int x2), .val (.int n), .val (.ref a24), .unset] []))
                            exact C13 (by omega) T49 _ (X49.more (by decide) (by decide)) N49 a24 b us12 (by rw [nk12]; exact J12) ga gb (by rw [l12]; omega) (by rw [l12]; decide) (by rw [ek12]; exact H12)
                        · skip
                          have ek11 : nn = 11 := by rw [Int32.lt_iff_toInt_lt, hn] at hp11; simp only [Int32.reduceToInt] at hp11; omega
                          have nk11 : n = (11 : Int32) := Int32.toInt_inj.mp (by rw [hn, ek11]; decide)
                          refine own_go (fun _ => XS.icmpYes X47.here hx rfl (pc0 := 205) (pc' := 220) rfl (hb hby at_205) rfl (XT.ii_le_t hp11) (by decide) (by decide)) ?_
                          show own_Go p e below _ (T47.setTop (mkF m 220 #[.val (.int x0), .val (.int x1), .val (.int x2), .val (.int n), .val (.ref a24), .unset] []))
                          exact C12 (by omega) T47 _ (X47.more (by decide) (by decide)) N47 a24 b us11 (by rw [nk11]; exact J11) ga gb (by rw [l11]; omega) (by rw [l11]; decide) (by rw [ek11]; exact H11)
                      · skip
                        have ek10 : nn = 10 := by rw [Int32.lt_iff_toInt_lt, hn] at hp10; simp only [Int32.reduceToInt] at hp10; omega
                        have nk10 : n = (10 : Int32) := Int32.toInt_inj.mp (by rw [hn, ek10]; decide)
                        refine own_go (fun _ => XS.icmpYes X45.here hx rfl (pc0 := 187) (pc' := 202) rfl (hb hby at_187) rfl (XT.ii_le_t hp10) (by decide) (by decide)) ?_
                        show own_Go p e below _ (T45.setTop (mkF m 202 #[.val (.int x0), .val (.int x1), .val (.int x2), .val (.int n), .val (.ref a24), .unset] []))
                        exact C11 (by omega) T45 _ (X45.more (by decide) (by decide)) N45 a24 b us10 (by rw [nk10]; exact J10) ga gb (by rw [l10]; omega) (by rw [l10]; decide) (by rw [ek10]; exact H10)
                    · skip
                      have ek9 : nn = 9 := by rw [Int32.lt_iff_toInt_lt, hn] at hp9; simp only [Int32.reduceToInt] at hp9; omega
                      have nk9 : n = (9 : Int32) := Int32.toInt_inj.mp (by rw [hn, ek9]; decide)
                      refine own_go (fun _ => XS.icmpYes X43.here hx rfl (pc0 := 169) (pc' := 184) rfl (hb hby at_169) rfl (XT.ii_le_t hp9) (by decide) (by decide)) ?_
                      show own_Go p e below _ (T43.setTop (mkF m 184 #[.val (.int x0), .val (.int x1), .val (.int x2), .val (.int n), .val (.ref a24), .unset] []))
                      exact C10 (by omega) T43 _ (X43.more (by decide) (by decide)) N43 a24 b us9 (by rw [nk9]; exact J9) ga gb (by rw [l9]; omega) (by rw [l9]; decide) (by rw [ek9]; exact H9)
                  · skip
                    have ek8 : nn = 8 := by rw [Int32.lt_iff_toInt_lt, hn] at hp8; simp only [Int32.reduceToInt] at hp8; omega
                    have nk8 : n = (8 : Int32) := Int32.toInt_inj.mp (by rw [hn, ek8]; decide)
                    refine own_go (fun _ => XS.icmpYes X41.here hx rfl (pc0 := 151) (pc' := 166) rfl (hb hby at_151) rfl (XT.ii_le_t hp8) (by decide) (by decide)) ?_
                    show own_Go p e below _ (T41.setTop (mkF m 166 #[.val (.int x0), .val (.int x1), .val (.int x2), .val (.int n), .val (.ref a24), .unset] []))
                    exact C9 (by omega) T41 _ (X41.more (by decide) (by decide)) N41 a24 b us8 (by rw [nk8]; exact J8) ga gb (by rw [l8]; omega) (by rw [l8]; decide) (by rw [ek8]; exact H8)
                · skip
                  have ek7 : nn = 7 := by rw [Int32.lt_iff_toInt_lt, hn] at hp7; simp only [Int32.reduceToInt] at hp7; omega
                  have nk7 : n = (7 : Int32) := Int32.toInt_inj.mp (by rw [hn, ek7]; decide)
                  refine own_go (fun _ => XS.icmpYes X39.here hx rfl (pc0 := 133) (pc' := 148) rfl (hb hby at_133) rfl (XT.ii_le_t hp7) (by decide) (by decide)) ?_
                  show own_Go p e below _ (T39.setTop (mkF m 148 #[.val (.int x0), .val (.int x1), .val (.int x2), .val (.int n), .val (.ref a24), .unset] []))
                  exact C8 (by omega) T39 _ (X39.more (by decide) (by decide)) N39 a24 b us7 (by rw [nk7]; exact J7) ga gb (by rw [l7]; omega) (by rw [l7]; decide) (by rw [ek7]; exact H7)
              · skip
                have ek6 : nn = 6 := by rw [Int32.lt_iff_toInt_lt, hn] at hp6; simp only [Int32.reduceToInt] at hp6; omega
                have nk6 : n = (6 : Int32) := Int32.toInt_inj.mp (by rw [hn, ek6]; decide)
                refine own_go (fun _ => XS.icmpYes X37.here hx rfl (pc0 := 115) (pc' := 130) rfl (hb hby at_115) rfl (XT.ii_le_t hp6) (by decide) (by decide)) ?_
                show own_Go p e below _ (T37.setTop (mkF m 130 #[.val (.int x0), .val (.int x1), .val (.int x2), .val (.int n), .val (.ref a24), .unset] []))
                exact C7 (by omega) T37 _ (X37.more (by decide) (by decide)) N37 a24 b us6 (by rw [nk6]; exact J6) ga gb (by rw [l6]; omega) (by rw [l6]; decide) (by rw [ek6]; exact H6)
            · skip
              have ek5 : nn = 5 := by rw [Int32.lt_iff_toInt_lt, hn] at hp5; simp only [Int32.reduceToInt] at hp5; omega
              have nk5 : n = (5 : Int32) := Int32.toInt_inj.mp (by rw [hn, ek5]; decide)
              refine own_go (fun _ => XS.icmpYes X35.here hx rfl (pc0 := 98) (pc' := 112) rfl (hb hby at_98) rfl (XT.ii_le_t hp5) (by decide) (by decide)) ?_
              show own_Go p e below _ (T35.setTop (mkF m 112 #[.val (.int x0), .val (.int x1), .val (.int x2), .val (.int n), .val (.ref a24), .unset] []))
              exact C6 (by omega) T35 _ (X35.more (by decide) (by decide)) N35 a24 b us5 (by rw [nk5]; exact J5) ga gb (by rw [l5]; omega) (by rw [l5]; decide) (by rw [ek5]; exact H5)
          · skip
            have ek4 : nn = 4 := by rw [Int32.lt_iff_toInt_lt, hn] at hp4; simp only [Int32.reduceToInt] at hp4; omega
            have nk4 : n = (4 : Int32) := Int32.toInt_inj.mp (by rw [hn, ek4]; decide)
            refine own_go (fun _ => XS.icmpYes X33.here hx rfl (pc0 := 82) (pc' := 96) rfl (hb hby at_82) rfl (XT.ii_le_t hp4) (by decide) (by decide)) ?_
            show own_Go p e below _ (T33.setTop (mkF m 96 #[.val (.int x0), .val (.int x1), .val (.int x2), .val (.int n), .val (.ref a24), .unset] []))
            exact C5 (by omega) T33 _ (X33.more (by decide) (by decide)) N33 a24 b us4 (by rw [nk4]; exact J4) ga gb (by rw [l4]; omega) (by rw [l4]; decide) (by rw [ek4]; exact H4)
        · skip
          have ek3 : nn = 3 := by rw [Int32.lt_iff_toInt_lt, hn] at hp3; simp only [Int32.reduceToInt] at hp3; omega
          have nk3 : n = (3 : Int32) := Int32.toInt_inj.mp (by rw [hn, ek3]; decide)
          refine own_go (fun _ => XS.icmpYes X31.here hx rfl (pc0 := 66) (pc' := 80) rfl (hb hby at_66) rfl (XT.ii_le_t hp3) (by decide) (by decide)) ?_
          show own_Go p e below _ (T31.setTop (mkF m 80 #[.val (.int x0), .val (.int x1), .val (.int x2), .val (.int n), .val (.ref a24), .unset] []))
          exact C4 (by omega) T31 _ (X31.more (by decide) (by decide)) N31 a24 b us3 (by rw [nk3]; exact J3) ga gb (by rw [l3]; omega) (by rw [l3]; decide) (by rw [ek3]; exact H3)
      · skip
        have ek2 : nn = 2 := by rw [Int32.lt_iff_toInt_lt, hn] at hp2; simp only [Int32.reduceToInt] at hp2; omega
        have nk2 : n = (2 : Int32) := Int32.toInt_inj.mp (by rw [hn, ek2]; decide)
        refine own_go (fun _ => XS.icmpYes X29.here hx rfl (pc0 := 50) (pc' := 64) rfl (hb hby at_50) rfl (XT.ii_le_t hp2) (by decide) (by decide)) ?_
        show own_Go p e below _ (T29.setTop (mkF m 64 #[.val (.int x0), .val (.int x1), .val (.int x2), .val (.int n), .val (.ref a24), .unset] []))
        exact C3 (by omega) T29 _ (X29.more (by decide) (by decide)) N29 a24 b us2 (by rw [nk2]; exact J2) ga gb (by rw [l2]; omega) (by rw [l2]; decide) (by rw [ek2]; exact H2)
    · skip
      have ek1 : nn = 1 := by rw [Int32.lt_iff_toInt_lt, hn] at hp1; simp only [Int32.reduceToInt] at hp1; omega
      have nk1 : n = (1 : Int32) := Int32.toInt_inj.mp (by rw [hn, ek1]; decide)
      refine own_go (fun _ => XS.icmpYes X27.here hx rfl (pc0 := 34) (pc' := 48) rfl (hb hby at_34) rfl (XT.ii_le_t hp1) (by decide) (by decide)) ?_
      show own_Go p e below _ (T27.setTop (mkF m 48 #[.val (.int x0), .val (.int x1), .val (.int x2), .val (.int n), .val (.ref a24), .unset] []))
      exact C2 (by omega) T27 _ (X27.more (by decide) (by decide)) N27 a24 b us1 (by rw [nk1]; exact J1) ga gb (by rw [l1]; omega) (by rw [l1]; decide) (by rw [ek1]; exact H1)
  · skip
    have ek0 : nn = 0 := by rw [Int32.lt_iff_toInt_lt, hn] at hp0; simp only [Int32.reduceToInt] at hp0; omega
    have nk0 : n = (0 : Int32) := Int32.toInt_inj.mp (by rw [hn, ek0]; decide)
    refine own_go (fun _ => XS.ifYes X25.here hx rfl (pc0 := 18) (pc' := 32) rfl (hb hby at_18) rfl (XT.i0_le_t hp0) (by decide) (by decide)) ?_
    show own_Go p e below _ (T25.setTop (mkF m 32 #[.val (.int x0), .val (.int x1), .val (.int x2), .val (.int n), .val (.ref a24), .unset] []))
    exact C1 (by omega) T25 _ (X25.more (by decide) (by decide)) N25 a24 b us0 (by rw [nk0]; exact I25) ga gb (by rw [l0]; omega) (by rw [l0]; decide) (by rw [ek0]; exact H0)
set_option maxRecDepth 65536 in
set_option maxHeartbeats 40000000 in
theorem comes_1 {Post : Tables → Env → Array Value → State → Outcome → State → Prop} (hpost : ∀ tb e args s v u, (limb_1_1.after args s (.returned v) u = true ∧ limb_1_2.after args s (.returned v) u = true ∧ True) → FrameEnd s (.returned v) u (Jvm.fieldLocs frame_1_writes args s ++ Jvm.arrayLocs frame_1_arrays args s ++ Jvm.staticLocs frame_1_statics s) 16 256 → Post tb e args s (.returned v) u) :
    ArmFor flags0 classFile x code maxLocals ret World_1 tables_1 room_1 Calls_1 rest_1 Pre_1 Post := by
  intro l hfl _ _ p e ha hc hk s m args below hf hA hF happ hP
  obtain ⟨hcalls, hrest, hpre⟩ := hP
  obtain ⟨-, -, -, hnamed, -, -, -, hat⟩ := (Spec.applies_iff hf).mp happ
  obtain ⟨hg, hn⟩ := and_e (Cond.before_iff.mp (show (Jvm.Cond.and given_1 narrow_1).before args s = true from hpre))
  obtain ⟨gc, gr0⟩ := and_e hg
  obtain ⟨g0, gr1⟩ := and_e gr0
  obtain ⟨g1, gr2⟩ := and_e gr1
  obtain ⟨w0, w1, w2, rfl⟩ : ∃ w0 w1 w2 : Value, args = #[w0, w1, w2] := by
    have hs : args.size = 3 := by simpa [Cond.value, given_1] using gc
    obtain ⟨L⟩ := args
    match L, hs with
    | [w0, w1, w2], _ => exact ⟨w0, w1, w2, rfl⟩
  have hw := fun d (hd : d ∈ tables_1) => atoms_spec (ws := Jvm.Cond.code x code maxLocals ret :: tables_1) hat d (List.mem_cons_of_mem _ hd)
  have hfit : Fit s := fun {y c} hc i hi => by
    obtain ⟨ha, rfl⟩ := Array.getElem?_eq_some_iff.mp hc
    have q := List.all_eq_true.mp ((Array.all_eq_true_iff_forall_mem.mp hF) _ (Array.getElem_mem ha)) i (List.mem_range.mpr hi)
    simpa [Array.getElem?_eq_getElem hi] using q
  obtain ⟨i0, ei0⟩ := is_v g0
  obtain rfl : w0 = (.int i0) := Option.some.inj ei0
  obtain ⟨i1, ei1⟩ := is_v g1
  obtain rfl : w1 = (.int i1) := Option.some.inj ei1
  obtain ⟨i2, ei2⟩ := is_v gr2
  obtain rfl : w2 = (.int i2) := Option.some.inj ei2
  obtain ⟨n, o, h1, h2, h3, _, L, rfl, ⟨rfl, N⟩, hq⟩ := own_main_con l s _ hw i0 i1 i2  s.heap tables_1 p e ha hc hk s m _ below hf ((Spec.applies_iff_loose hf).mp happ).1 ⟨rfl, State.Warmed39.refl s, rfl⟩ trivial
  refine ⟨n, _, h1, h2, h3, hpost _ _ _ _ _ _ ⟨Cond.after_iff.mpr rfl, Cond.after_iff.mpr (eq_i res_at (Term.int_eval (1)) rfl), trivial⟩ ⟨hq.1, hq.2.1, (hq.2.2.sift fun y hy => Or.inr (N y hy)).mono (by decide) (by decide)⟩⟩
theorem main_1_1 : Claimed_1_1 := comes_1 fun _ _ _ _ _ _ h hF => ⟨h.1, hF⟩
theorem main_1_2 : Claimed_1_2 := comes_1 fun _ _ _ _ _ _ h hF => ⟨h.2.1, hF⟩
end Jvm.Pilot.@@N@@
namespace Jvm.Pilot.@@N@@
open Jvm Jvm.ClassFile Sem Op Lib Jvm.Free Jvm.Stand Jvm.Pilot.@@N@@.Jvm.D
/-! MADE BY PROGRAM (witnessworld.py) out of the Statement's table words and the real class files: 12 classes; the members and pool entries that the words name. The judged class is class 1, her method 3. -/
namespace start1
open Jvm.ClassFile
def u (s : String) : CpInfo := .utf8 (stringToUtf16 s)
/-- a pool by its gaps: so many unusable entries, then the entry; so many at the end -/
def gap : Nat → List CpInfo → List CpInfo
  | 0, r => r
  | n + 1, r => .unusable :: gap n r
def poolList (es : List (Nat × CpInfo)) (last : Nat) : List CpInfo := es.foldr (fun e r => gap e.1 (e.2 :: r)) (gap last [])
def pool (es : List (Nat × CpInfo)) (last : Nat) : Array CpInfo := ⟨poolList es last⟩
def fileOf (pool : Array CpInfo) (this : Nat) (attrs : Array Attribute := #[]) (ms : Array MethodInfo := #[]) (fl : Nat := 33) (sup : Nat := 0) (ifs : Array Nat := #[]) (fds : Array FieldInfo := #[]) : ClassFile where
  minorVersion := 0
  majorVersion := 65
  constantPool := pool
  accessFlags := fl
  thisClass := this
  superClass := sup
  interfaces := ifs
  fields := fds
  methods := ms
  attributes := attrs
def plain (name : String) (sup : Option ClassId) : Class where
  name := name
  kind := .ordinary
  loader := none
  accessFlags := 33
  super := sup
  interfaces := #[]
  cf := none
  fields := #[]
  methods := #[]
  instanceTypes := #[]
  staticTypes := #[]
  resolved := #[]
  callSites := []
  init := .initialized
  statics := none
  mirror := none

def pool0 : Array CpInfo := pool [(5, u "<init>"), (0, u "()V"), (1, .class_ 10), (1, u "java/lang/Object"), (85, u "clone"), (0, u "()Ljava/lang/Object;")] 26

def k0c0 : Code := { maxStack := 0, maxLocals := 1, code := object_method_1_code, exceptionTable := #[], attributes := #[] }
def k0m0 : Method := { name := "<init>", desc := "()V", sig := { parameters := [], returnType := none }, accessFlags := 1, code := some k0c0 }
def k0m1 : Method := { name := "clone", desc := "()Ljava/lang/Object;", sig := { parameters := [], returnType := some (.object "java/lang/Object") }, accessFlags := 260, code := none }
/-- java/lang/Object -/
def k0 : Class := { plain "java/lang/Object" none with
  accessFlags := 33
  interfaces := #[]
  cf := some (fileOf pool0 8 #[] #[{ accessFlags := 1, nameIndex := 5, descriptorIndex := 6, attributes := #[] }, { accessFlags := 260, nameIndex := 96, descriptorIndex := 97, attributes := #[] }] 33 0 #[] #[])
  fields := #[]
  methods := #[k0m0, k0m1]
  instanceTypes := #[]
  staticTypes := #[]
  resolved := Array.replicate 124 none
  statics := none }

def pool1 : Array CpInfo := pool [(2, .class_ 4), (0, .nameAndType 5 6), (0, u "java/lang/Object"), (0, u "<init>"), (0, u "()V"), (0, .methodref 8 9), (0, .class_ 10), (0, .nameAndType 11 12), (0, u "com/example/secure_model_views/securemodelviews/IdsAddPinLaw"), (0, u "v"), (0, u "(III)I"), (0, .integer 2147483647), (0, .class_ 15), (0, u "com/example/secure_model_views/securemodelviews/Ids"), (0, .methodref 14 3), (0, .methodref 14 18), (0, .nameAndType 19 20), (0, u "add"), (0, u "(I)V"), (0, .methodref 14 22), (0, .nameAndType 23 24), (0, u "size"), (0, u "()I"), (0, .methodref 14 26), (0, .nameAndType 27 28), (0, u "toArray"), (0, u "()[I"), (0, .methodref 8 30), (0, .nameAndType 31 32), (0, u "ok"), (0, u "([IIIII)Z"), (0, .methodref 14 34), (0, .nameAndType 35 36), (0, u "get"), (0, u "(I)I"), (3, u "law"), (0, u "(III)Z")] 4

def k1m0 : Method := { name := "<init>", desc := "()V", sig := { parameters := [], returnType := none }, accessFlags := 1, code := none }
def k1c1 : Code := { maxStack := 3, maxLocals := 3, code := method_2_code, exceptionTable := #[], attributes := #[] }
def k1m1 : Method := { name := "v", desc := "(III)I", sig := { parameters := [.int, .int, .int], returnType := some .int }, accessFlags := 10, code := some k1c1 }
def k1c2 : Code := { maxStack := 4, maxLocals := 5, code := method_3_code, exceptionTable := #[], attributes := #[] }
def k1m2 : Method := { name := "ok", desc := "([IIIII)Z", sig := { parameters := [(.array .int), .int, .int, .int, .int], returnType := some .boolean }, accessFlags := 10, code := some k1c2 }
def k1c3 : Code := { maxStack := 5, maxLocals := 6, code := code, exceptionTable := #[], attributes := #[] }
def k1m3 : Method := { name := "law", desc := "(III)Z", sig := { parameters := [.int, .int, .int], returnType := some .boolean }, accessFlags := 9, code := some k1c3 }
/-- com/example/secure_model_views/securemodelviews/IdsAddPinLaw -/
def k1 : Class := { plain "com/example/secure_model_views/securemodelviews/IdsAddPinLaw" (some 0) with
  accessFlags := 49
  interfaces := #[]
  cf := some (fileOf pool1 8 #[] #[{ accessFlags := 1, nameIndex := 5, descriptorIndex := 6, attributes := #[] }, { accessFlags := 10, nameIndex := 11, descriptorIndex := 12, attributes := #[] }, { accessFlags := 10, nameIndex := 31, descriptorIndex := 32, attributes := #[] }, { accessFlags := 9, nameIndex := 40, descriptorIndex := 41, attributes := #[] }] 49 2 #[] #[])
  fields := #[]
  methods := #[k1m0, k1m1, k1m2, k1m3]
  instanceTypes := #[]
  staticTypes := #[]
  resolved := Array.replicate 46 none
  statics := none }

def pool2 : Array CpInfo := pool [(1, .methodref 2 3), (0, .class_ 4), (0, .nameAndType 5 6), (0, u "java/lang/Object"), (0, u "<init>"), (0, u "()V"), (0, .fieldref 8 9), (0, .class_ 10), (0, .nameAndType 11 12), (0, u "com/example/secure_model_views/securemodelviews/Ids"), (0, u "ids"), (0, u "[I"), (0, .fieldref 8 14), (0, .nameAndType 15 16), (0, u "size"), (0, u "I"), (0, .methodref 18 19), (0, .class_ 20), (0, .nameAndType 21 22), (0, u "java/util/Arrays"), (0, u "copyOf"), (0, u "([II)[I"), (2, u "add"), (0, u "(I)V"), (1, u "()I"), (0, u "get"), (0, u "(I)I"), (0, u "toArray"), (0, u "()[I")] 2

def k2c0 : Code := { maxStack := 2, maxLocals := 1, code := prog_3_method_1_code, exceptionTable := #[], attributes := #[] }
def k2m0 : Method := { name := "<init>", desc := "()V", sig := { parameters := [], returnType := none }, accessFlags := 0, code := some k2c0 }
def k2c1 : Code := { maxStack := 4, maxLocals := 2, code := prog_3_method_2_code, exceptionTable := #[], attributes := #[] }
def k2m1 : Method := { name := "add", desc := "(I)V", sig := { parameters := [.int], returnType := none }, accessFlags := 0, code := some k2c1 }
def k2c2 : Code := { maxStack := 1, maxLocals := 1, code := prog_3_method_3_code, exceptionTable := #[], attributes := #[] }
def k2m2 : Method := { name := "size", desc := "()I", sig := { parameters := [], returnType := some .int }, accessFlags := 0, code := some k2c2 }
def k2c3 : Code := { maxStack := 2, maxLocals := 2, code := prog_3_method_4_code, exceptionTable := #[], attributes := #[] }
def k2m3 : Method := { name := "get", desc := "(I)I", sig := { parameters := [.int], returnType := some .int }, accessFlags := 0, code := some k2c3 }
def k2c4 : Code := { maxStack := 2, maxLocals := 1, code := prog_3_method_5_code, exceptionTable := #[], attributes := #[] }
def k2m4 : Method := { name := "toArray", desc := "()[I", sig := { parameters := [], returnType := some (.array .int) }, accessFlags := 0, code := some k2c4 }
/-- com/example/secure_model_views/securemodelviews/Ids -/
def k2 : Class := { plain "com/example/secure_model_views/securemodelviews/Ids" (some 0) with
  accessFlags := 48
  interfaces := #[]
  cf := some (fileOf pool2 8 #[] #[{ accessFlags := 0, nameIndex := 5, descriptorIndex := 6, attributes := #[] }, { accessFlags := 0, nameIndex := 25, descriptorIndex := 26, attributes := #[] }, { accessFlags := 0, nameIndex := 15, descriptorIndex := 28, attributes := #[] }, { accessFlags := 0, nameIndex := 29, descriptorIndex := 30, attributes := #[] }, { accessFlags := 0, nameIndex := 31, descriptorIndex := 32, attributes := #[] }] 48 2 #[] #[{ accessFlags := 2, nameIndex := 11, descriptorIndex := 12, attributes := #[] }, { accessFlags := 2, nameIndex := 15, descriptorIndex := 16, attributes := #[] }])
  fields := #[{ name := "ids", type := (.array .int), accessFlags := 2, slot := 0, constantValue := 0 }, { name := "size", type := .int, accessFlags := 2, slot := 1, constantValue := 0 }]
  methods := #[k2m0, k2m1, k2m2, k2m3, k2m4]
  instanceTypes := #[(.array .int), .int]
  staticTypes := #[]
  resolved := Array.replicate 35 none
  statics := none }

def pool3 : Array CpInfo := pool [(2, .class_ 4), (1, u "java/lang/Object"), (0, u "<init>"), (0, u "()V"), (7, .class_ 16), (1, u "java/util/Arrays"), (57, .class_ 76), (1, u "java/util/Arrays$NaturalOrder"), (32, u "()Ljava/lang/Object;"), (3, .class_ 115), (1, u "java/util/Arrays$LegacyMergeSort"), (1, u "Z"), (10, .nameAndType 129 109), (0, u "clone"), (20, .methodref 151 152), (0, .class_ 153), (0, .nameAndType 154 155), (0, u "java/lang/System"), (0, u "arraycopy"), (0, u "(Ljava/lang/Object;ILjava/lang/Object;II)V"), (146, u "copyOf"), (1, .methodref 305 306), (0, .class_ 307), (0, .nameAndType 308 309), (0, u "java/lang/Math"), (0, u "min"), (0, u "(II)I"), (6, .methodref 317 128), (0, .class_ 318), (0, u "[I"), (56, .class_ 376), (0, u "java/util/Arrays$ArrayList"), (68, u "$assertionsDisabled"), (269, u "MIN_ARRAY_SORT_GRAN"), (0, u "I"), (2, u "INSERTIONSORT_THRESHOLD"), (151, u "([II)[I"), (103, .class_ 976), (0, u "java/util/Arrays$ArrayItr")] 52

def k3m0 : Method := { name := "<init>", desc := "()V", sig := { parameters := [], returnType := none }, accessFlags := 2, code := none }
def k3c1 : Code := { maxStack := 6, maxLocals := 3, code := jdk_65_method_123_code, exceptionTable := #[], attributes := #[] }
def k3m1 : Method := { name := "copyOf", desc := "([II)[I", sig := { parameters := [(.array .int), .int], returnType := some (.array .int) }, accessFlags := 9, code := some k3c1 }
/-- java/util/Arrays -/
def k3 : Class := { plain "java/util/Arrays" (some 0) with
  accessFlags := 49
  interfaces := #[]
  cf := some (fileOf pool3 14 #[.nestMembers #[975, 375, 113, 74]] #[{ accessFlags := 2, nameIndex := 5, descriptorIndex := 6, attributes := #[] }, { accessFlags := 9, nameIndex := 302, descriptorIndex := 871, attributes := #[] }] 49 2 #[] #[{ accessFlags := 26, nameIndex := 715, descriptorIndex := 716, attributes := #[] }, { accessFlags := 26, nameIndex := 719, descriptorIndex := 716, attributes := #[] }, { accessFlags := 4120, nameIndex := 445, descriptorIndex := 117, attributes := #[] }])
  fields := #[{ name := "MIN_ARRAY_SORT_GRAN", type := .int, accessFlags := 26, slot := 0, constantValue := 0 }, { name := "INSERTIONSORT_THRESHOLD", type := .int, accessFlags := 26, slot := 1, constantValue := 0 }, { name := "$assertionsDisabled", type := .boolean, accessFlags := 4120, slot := 2, constantValue := 0 }]
  methods := #[k3m0, k3m1]
  instanceTypes := #[]
  staticTypes := #[.int, .int, .boolean]
  resolved := Array.replicate 1029 none
  statics := none }

def pool4 : Array CpInfo := pool [(1, .class_ 2), (0, u "java/lang/Math"), (1, .class_ 6), (1, u "java/lang/Object"), (0, u "<init>"), (0, u "()V"), (89, .class_ 100), (1, u "java/lang/Math$RandomNumberGeneratorHolder"), (71, u "negativeZeroFloatBits"), (0, u "J"), (2, u "negativeZeroDoubleBits"), (24, u "min"), (43, u "$assertionsDisabled"), (0, u "Z"), (88, u "(II)I"), (2, u "twoToTheDoubleScaleDown"), (0, u "D"), (4, u "twoToTheDoubleScaleUp"), (9, u "E"), (3, u "PI"), (2, u "TAU"), (2, u "DEGREES_TO_RADIANS"), (0, u "RADIANS_TO_DEGREES")] 94

def k4m0 : Method := { name := "<init>", desc := "()V", sig := { parameters := [], returnType := none }, accessFlags := 2, code := none }
def k4c1 : Code := { maxStack := 2, maxLocals := 2, code := jdk_29_method_69_code, exceptionTable := #[], attributes := #[] }
def k4m1 : Method := { name := "min", desc := "(II)I", sig := { parameters := [.int, .int], returnType := some .int }, accessFlags := 9, code := some k4c1 }
/-- java/lang/Math -/
def k4 : Class := { plain "java/lang/Math" (some 0) with
  accessFlags := 49
  interfaces := #[]
  cf := some (fileOf pool4 1 #[.nestMembers #[98]] #[{ accessFlags := 2, nameIndex := 7, descriptorIndex := 8, attributes := #[] }, { accessFlags := 9, nameIndex := 201, descriptorIndex := 335, attributes := #[] }] 49 4 #[] #[{ accessFlags := 25, nameIndex := 354, descriptorIndex := 339, attributes := #[] }, { accessFlags := 25, nameIndex := 358, descriptorIndex := 339, attributes := #[] }, { accessFlags := 25, nameIndex := 361, descriptorIndex := 339, attributes := #[] }, { accessFlags := 26, nameIndex := 364, descriptorIndex := 339, attributes := #[] }, { accessFlags := 26, nameIndex := 365, descriptorIndex := 339, attributes := #[] }, { accessFlags := 26, nameIndex := 172, descriptorIndex := 173, attributes := #[] }, { accessFlags := 26, nameIndex := 176, descriptorIndex := 173, attributes := #[] }, { accessFlags := 8, nameIndex := 344, descriptorIndex := 339, attributes := #[] }, { accessFlags := 8, nameIndex := 338, descriptorIndex := 339, attributes := #[] }, { accessFlags := 4120, nameIndex := 245, descriptorIndex := 246, attributes := #[] }])
  fields := #[{ name := "E", type := .double, accessFlags := 25, slot := 0, constantValue := 0 }, { name := "PI", type := .double, accessFlags := 25, slot := 1, constantValue := 0 }, { name := "TAU", type := .double, accessFlags := 25, slot := 2, constantValue := 0 }, { name := "DEGREES_TO_RADIANS", type := .double, accessFlags := 26, slot := 3, constantValue := 0 }, { name := "RADIANS_TO_DEGREES", type := .double, accessFlags := 26, slot := 4, constantValue := 0 }, { name := "negativeZeroFloatBits", type := .long, accessFlags := 26, slot := 5, constantValue := 0 }, { name := "negativeZeroDoubleBits", type := .long, accessFlags := 26, slot := 6, constantValue := 0 }, { name := "twoToTheDoubleScaleUp", type := .double, accessFlags := 8, slot := 7, constantValue := 0 }, { name := "twoToTheDoubleScaleDown", type := .double, accessFlags := 8, slot := 8, constantValue := 0 }, { name := "$assertionsDisabled", type := .boolean, accessFlags := 4120, slot := 9, constantValue := 0 }]
  methods := #[k4m0, k4m1]
  instanceTypes := #[]
  staticTypes := #[.double, .double, .double, .double, .double, .long, .long, .double, .double, .boolean]
  resolved := Array.replicate 460 none
  statics := none }

def pool5 : Array CpInfo := pool [(2, .class_ 4), (1, u "java/lang/Object"), (0, u "<init>"), (0, u "()V"), (1, .class_ 10), (1, u "java/lang/System"), (0, u "allowSecurityManager"), (0, u "I"), (16, u "cons"), (0, u "Ljava/io/Console;"), (77, .class_ 110), (1, u "java/lang/System$CallersHolder"), (43, u "initialErrStream"), (0, u "Ljava/io/PrintStream;"), (19, u "security"), (0, u "Ljava/lang/SecurityManager;"), (31, .class_ 209), (0, u "java/lang/System$1"), (7, u "props"), (0, u "Ljava/util/Properties;"), (2, u "lineSeparator"), (0, u "Ljava/lang/String;"), (96, .class_ 321), (1, u "java/lang/System$LoggerFinder"), (5, .class_ 328), (0, u "java/lang/System$Logger"), (67, u "err"), (2, u "out"), (91, u "notSupportedJnuEncoding"), (15, u "in"), (17, u "initialIn"), (0, u "Ljava/io/InputStream;"), (35, u "bootLayer"), (0, u "Ljava/lang/ModuleLayer;"), (99, .class_ 664), (0, u "java/lang/System$2"), (9, u "NEVER"), (2, u "MAYBE"), (49, u "arraycopy"), (0, u "(Ljava/lang/Object;ILjava/lang/Object;II)V"), (72, .class_ 802), (0, u "java/lang/System$Logger$Level")] 31

def k5m0 : Method := { name := "<init>", desc := "()V", sig := { parameters := [], returnType := none }, accessFlags := 2, code := none }
def k5m1 : Method := { name := "arraycopy", desc := "(Ljava/lang/Object;ILjava/lang/Object;II)V", sig := { parameters := [(.object "java/lang/Object"), .int, (.object "java/lang/Object"), .int, .int], returnType := none }, accessFlags := 265, code := none }
/-- java/lang/System -/
def k5 : Class := { plain "java/lang/System" (some 0) with
  accessFlags := 49
  interfaces := #[]
  cf := some (fileOf pool5 8 #[.nestMembers #[319, 327, 801, 108, 663, 208]] #[{ accessFlags := 2, nameIndex := 5, descriptorIndex := 6, attributes := #[] }, { accessFlags := 265, nameIndex := 727, descriptorIndex := 728, attributes := #[] }] 49 2 #[] #[{ accessFlags := 25, nameIndex := 507, descriptorIndex := 526, attributes := #[] }, { accessFlags := 25, nameIndex := 399, descriptorIndex := 155, attributes := #[] }, { accessFlags := 25, nameIndex := 396, descriptorIndex := 155, attributes := #[] }, { accessFlags := 10, nameIndex := 525, descriptorIndex := 526, attributes := #[] }, { accessFlags := 26, nameIndex := 674, descriptorIndex := 12, attributes := #[] }, { accessFlags := 26, nameIndex := 677, descriptorIndex := 12, attributes := #[] }, { accessFlags := 10, nameIndex := 11, descriptorIndex := 12, attributes := #[] }, { accessFlags := 74, nameIndex := 175, descriptorIndex := 176, attributes := #[] }, { accessFlags := 10, nameIndex := 491, descriptorIndex := 222, attributes := #[] }, { accessFlags := 74, nameIndex := 29, descriptorIndex := 30, attributes := #[] }, { accessFlags := 74, nameIndex := 154, descriptorIndex := 155, attributes := #[] }, { accessFlags := 10, nameIndex := 217, descriptorIndex := 218, attributes := #[] }, { accessFlags := 10, nameIndex := 221, descriptorIndex := 222, attributes := #[] }, { accessFlags := 8, nameIndex := 562, descriptorIndex := 563, attributes := #[] }])
  fields := #[{ name := "in", type := (.object "java/io/InputStream"), accessFlags := 25, slot := 0, constantValue := 0 }, { name := "out", type := (.object "java/io/PrintStream"), accessFlags := 25, slot := 1, constantValue := 0 }, { name := "err", type := (.object "java/io/PrintStream"), accessFlags := 25, slot := 2, constantValue := 0 }, { name := "initialIn", type := (.object "java/io/InputStream"), accessFlags := 10, slot := 3, constantValue := 0 }, { name := "NEVER", type := .int, accessFlags := 26, slot := 4, constantValue := 0 }, { name := "MAYBE", type := .int, accessFlags := 26, slot := 5, constantValue := 0 }, { name := "allowSecurityManager", type := .int, accessFlags := 10, slot := 6, constantValue := 0 }, { name := "security", type := (.object "java/lang/SecurityManager"), accessFlags := 74, slot := 7, constantValue := 0 }, { name := "notSupportedJnuEncoding", type := (.object "java/lang/String"), accessFlags := 10, slot := 8, constantValue := 0 }, { name := "cons", type := (.object "java/io/Console"), accessFlags := 74, slot := 9, constantValue := 0 }, { name := "initialErrStream", type := (.object "java/io/PrintStream"), accessFlags := 74, slot := 10, constantValue := 0 }, { name := "props", type := (.object "java/util/Properties"), accessFlags := 10, slot := 11, constantValue := 0 }, { name := "lineSeparator", type := (.object "java/lang/String"), accessFlags := 10, slot := 12, constantValue := 0 }, { name := "bootLayer", type := (.object "java/lang/ModuleLayer"), accessFlags := 8, slot := 13, constantValue := 0 }]
  methods := #[k5m0, k5m1]
  instanceTypes := #[]
  staticTypes := #[(.object "java/io/InputStream"), (.object "java/io/PrintStream"), (.object "java/io/PrintStream"), (.object "java/io/InputStream"), .int, .int, .int, (.object "java/lang/SecurityManager"), (.object "java/lang/String"), (.object "java/io/Console"), (.object "java/io/PrintStream"), (.object "java/util/Properties"), (.object "java/lang/String"), (.object "java/lang/ModuleLayer")]
  resolved := Array.replicate 834 none
  statics := none }

def pool6 : Array CpInfo := pool [(1, .class_ 2), (0, u "java/lang/Cloneable"), (0, .class_ 4), (0, u "java/lang/Object")] 2

/-- java/lang/Cloneable -/
def k6 : Class := { plain "java/lang/Cloneable" (some 0) with
  accessFlags := 1537
  interfaces := #[]
  cf := some (fileOf pool6 1 #[] #[] 1537 3 #[] #[])
  fields := #[]
  methods := #[]
  instanceTypes := #[]
  staticTypes := #[]
  resolved := Array.replicate 7 none
  statics := none }

def pool7 : Array CpInfo := pool [(1, u "java/io/Serializable"), (0, .class_ 1), (0, u "java/lang/Object"), (0, .class_ 3)] 3

/-- java/io/Serializable -/
def k7 : Class := { plain "java/io/Serializable" (some 0) with
  accessFlags := 1537
  interfaces := #[]
  cf := some (fileOf pool7 2 #[] #[] 1537 4 #[] #[])
  fields := #[]
  methods := #[]
  instanceTypes := #[]
  staticTypes := #[]
  resolved := Array.replicate 8 none
  statics := none }

/-- the primitive byte -/
def k8 : Class := { plain "byte" none with kind := .primitive 'B', accessFlags := 0x411 }
/-- [B -/
def k9 : Class := { plain "[B" (some 0) with kind := .array 8 .byte, interfaces := #[6, 7], accessFlags := 1041 }

/-- the primitive int -/
def k10 : Class := { plain "int" none with kind := .primitive 'I', accessFlags := 0x411 }
/-- [I -/
def k11 : Class := { plain "[I" (some 0) with kind := .array 10 .int, interfaces := #[6, 7], accessFlags := 1041 }

def heap : Heap := #[]
def classes : Array Class := #[k0, k1, k2, k3, k4, k5, k6, k7, k8, k9, k10, k11]
def interned : List (Array UInt16 × Addr) := []
def slotsUsed : Nat := 0
def theMethod : MethodId := ⟨1, 3⟩
def args0 : Array Value := #[.int 5, .int 7, .int 3]
def aboutOver (below : List Frame) : State where
  vm := { classes := classes, interned := interned.toArray }
  heap := heap
  slotsUsed := slotsUsed
  threads := #[{ frames := .invoking theMethod args0 :: below }]
def below0 : List Frame := [.native { method := ⟨0, 0⟩, args := #[] }]
def about1 : State := aboutOver below0
def p0 : Program := .bare "" "" ""
def e0 : Env := launch0.env 0 0 0
theorem w_frames : about1.frames = Frame.invoking theMethod args0 :: below0 := rfl
set_option maxRecDepth 65536 in
theorem w_args : argsFit about1.vm theMethod args0 = true := by decide +kernel
set_option maxRecDepth 65536 in
theorem w_heap : heapFits about1 = true := by decide +kernel
set_option maxRecDepth 65536 in
theorem w_runnable : about1.curStatus? = some .runnable := by decide +kernel
set_option maxRecDepth 65536 in
theorem w_alone : about1.alone = true := by decide +kernel
set_option maxRecDepth 65536 in
theorem w_named : about1.methodNamed? x = some theMethod := by decide +kernel
set_option maxRecDepth 65536 in
theorem w_hears : about1.hears theMethod below0 = true := by decide +kernel
set_option maxRecDepth 65536 in
theorem w_ripe : about1.ripe theMethod args0 below0 = true := by decide +kernel
theorem w_running : about1.status = .running := rfl
set_option maxRecDepth 65536 in
theorem w_room : about1.hasRoom e0.platform room_1 = true :=
  launch0.hasRoom_least _ room_1 (by decide +kernel) (by decide +kernel) (by decide +kernel) (by decide +kernel) (by decide +kernel) (by decide +kernel)
theorem allAtoms_all (ts : List Jvm.Cond) (a : Array Jvm.Value) (st : Jvm.State) : (allAtoms ts).before a st = ts.all (fun c => c.before a st) := by
  induction ts with
  | nil => rfl
  | cons c t ih =>
    show (Jvm.Cond.and c (allAtoms t)).before a st = _
    rw [Jvm.Cond.before_and, ih, List.all_cons]
def words1 : List Jvm.Cond := Jvm.Cond.code x code maxLocals ret :: tables_1
/-- a 'code' word, met by the world's own term for the bytes: nothing is compared byte by byte -/
theorem code_word {y : MethodName} {bytes : ByteArray} {mx : Nat} {rt : Option FieldType} {a : Array Value} {s : State} {m : MethodId} {meth : Method} {c : Code} (h1 : s.methodNamed? y = some m) (h2 : s.vm.method? m = some meth) (h3 : meth.code = some c) (h4 : c.code = bytes)
    (h5 : (c.maxLocals == mx && c.exceptionTable.isEmpty && decide (c.maxStack ≤ mostOperands) && decide (meth.sig.returnType = rt) && !meth.locks && decide (parseMethodDescriptor y.desc = some meth.sig)) = true) : (Jvm.Cond.code y bytes mx rt).before a s = true := by
  simp only [Bool.and_eq_true, beq_iff_eq, Bool.not_eq_true', decide_eq_true_eq] at h5
  obtain ⟨⟨⟨⟨⟨g1, g2⟩, g3⟩, g4⟩, g5⟩, g6⟩ := h5
  simp [Cond.before, Cond.holds, Cond.value, h1, h2, h3, h4, g1, g2, g3, g4, g5, g6]
def isCode : Jvm.Cond → Bool
  | .code _ _ _ _ => true
  | _ => false
theorem all_split {L : List Jvm.Cond} {P : Jvm.Cond → Bool} (h1 : L.all (fun c => isCode c || P c) = true) (h2 : ∀ c ∈ L.filter isCode, P c = true) : L.all P = true := by
  refine List.all_eq_true.mpr fun c hc => ?_
  have h := List.all_eq_true.mp h1 c hc
  rcases Bool.eq_false_or_eq_true (isCode c) with hi | hi
  · exact h2 c (List.mem_filter.mpr ⟨hc, hi⟩)
  · simpa [hi] using h
set_option maxRecDepth 65536 in
theorem w_c0 : (Jvm.Cond.code x code maxLocals ret).before args0 about1 = true := code_word (m := ⟨1, 3⟩) (meth := k1m3) (c := k1c3) (by decide +kernel) rfl rfl rfl (by decide +kernel)
set_option maxRecDepth 65536 in
theorem w_c1 : (Jvm.Cond.code ({ cls := "com/example/secure_model_views/securemodelviews/Ids", name := "<init>", desc := "()V" } : Jvm.MethodName) prog_3_method_1_code (1 : Nat) (Option.none : Option Jvm.ClassFile.FieldType)).before args0 about1 = true := code_word (m := ⟨2, 0⟩) (meth := k2m0) (c := k2c0) (by decide +kernel) rfl rfl rfl (by decide +kernel)
set_option maxRecDepth 65536 in
theorem w_c2 : (Jvm.Cond.code ({ cls := "java/lang/Object", name := "<init>", desc := "()V" } : Jvm.MethodName) object_method_1_code (1 : Nat) (Option.none : Option Jvm.ClassFile.FieldType)).before args0 about1 = true := code_word (m := ⟨0, 0⟩) (meth := k0m0) (c := k0c0) (by decide +kernel) rfl rfl rfl (by decide +kernel)
set_option maxRecDepth 65536 in
theorem w_c3 : (Jvm.Cond.code ({ cls := "com/example/secure_model_views/securemodelviews/IdsAddPinLaw", name := "v", desc := "(III)I" } : Jvm.MethodName) method_2_code (3 : Nat) (Option.some Jvm.ClassFile.FieldType.int)).before args0 about1 = true := code_word (m := ⟨1, 1⟩) (meth := k1m1) (c := k1c1) (by decide +kernel) rfl rfl rfl (by decide +kernel)
set_option maxRecDepth 65536 in
theorem w_c4 : (Jvm.Cond.code ({ cls := "com/example/secure_model_views/securemodelviews/Ids", name := "add", desc := "(I)V" } : Jvm.MethodName) prog_3_method_2_code (2 : Nat) (Option.none : Option Jvm.ClassFile.FieldType)).before args0 about1 = true := code_word (m := ⟨2, 1⟩) (meth := k2m1) (c := k2c1) (by decide +kernel) rfl rfl rfl (by decide +kernel)
set_option maxRecDepth 65536 in
theorem w_c5 : (Jvm.Cond.code ({ cls := "com/example/secure_model_views/securemodelviews/Ids", name := "size", desc := "()I" } : Jvm.MethodName) prog_3_method_3_code (1 : Nat) (Option.some Jvm.ClassFile.FieldType.int)).before args0 about1 = true := code_word (m := ⟨2, 2⟩) (meth := k2m2) (c := k2c2) (by decide +kernel) rfl rfl rfl (by decide +kernel)
set_option maxRecDepth 65536 in
theorem w_c6 : (Jvm.Cond.code ({ cls := "com/example/secure_model_views/securemodelviews/Ids", name := "toArray", desc := "()[I" } : Jvm.MethodName) prog_3_method_5_code (1 : Nat) (Option.some (Jvm.ClassFile.FieldType.array Jvm.ClassFile.FieldType.int))).before args0 about1 = true := code_word (m := ⟨2, 4⟩) (meth := k2m4) (c := k2c4) (by decide +kernel) rfl rfl rfl (by decide +kernel)
set_option maxRecDepth 65536 in
theorem w_c7 : (Jvm.Cond.code ({ cls := "java/util/Arrays", name := "copyOf", desc := "([II)[I" } : Jvm.MethodName) jdk_65_method_123_code (3 : Nat) (Option.some (Jvm.ClassFile.FieldType.array Jvm.ClassFile.FieldType.int))).before args0 about1 = true := code_word (m := ⟨3, 1⟩) (meth := k3m1) (c := k3c1) (by decide +kernel) rfl rfl rfl (by decide +kernel)
set_option maxRecDepth 65536 in
theorem w_c8 : (Jvm.Cond.code ({ cls := "java/lang/Math", name := "min", desc := "(II)I" } : Jvm.MethodName) jdk_29_method_69_code (2 : Nat) (Option.some Jvm.ClassFile.FieldType.int)).before args0 about1 = true := code_word (m := ⟨4, 1⟩) (meth := k4m1) (c := k4c1) (by decide +kernel) rfl rfl rfl (by decide +kernel)
set_option maxRecDepth 65536 in
theorem w_c9 : (Jvm.Cond.code ({ cls := "com/example/secure_model_views/securemodelviews/IdsAddPinLaw", name := "ok", desc := "([IIIII)Z" } : Jvm.MethodName) method_3_code (5 : Nat) (Option.some Jvm.ClassFile.FieldType.boolean)).before args0 about1 = true := code_word (m := ⟨1, 2⟩) (meth := k1m2) (c := k1c2) (by decide +kernel) rfl rfl rfl (by decide +kernel)
set_option maxRecDepth 65536 in
theorem w_c10 : (Jvm.Cond.code ({ cls := "com/example/secure_model_views/securemodelviews/Ids", name := "get", desc := "(I)I" } : Jvm.MethodName) prog_3_method_4_code (2 : Nat) (Option.some Jvm.ClassFile.FieldType.int)).before args0 about1 = true := code_word (m := ⟨2, 3⟩) (meth := k2m3) (c := k2c3) (by decide +kernel) rfl rfl rfl (by decide +kernel)
def codes1 : List Jvm.Cond := [Jvm.Cond.code x code maxLocals ret, Jvm.Cond.code ({ cls := "com/example/secure_model_views/securemodelviews/Ids", name := "<init>", desc := "()V" } : Jvm.MethodName) prog_3_method_1_code (1 : Nat) (Option.none : Option Jvm.ClassFile.FieldType), Jvm.Cond.code ({ cls := "java/lang/Object", name := "<init>", desc := "()V" } : Jvm.MethodName) object_method_1_code (1 : Nat) (Option.none : Option Jvm.ClassFile.FieldType), Jvm.Cond.code ({ cls := "com/example/secure_model_views/securemodelviews/IdsAddPinLaw", name := "v", desc := "(III)I" } : Jvm.MethodName) method_2_code (3 : Nat) (Option.some Jvm.ClassFile.FieldType.int), Jvm.Cond.code ({ cls := "com/example/secure_model_views/securemodelviews/Ids", name := "add", desc := "(I)V" } : Jvm.MethodName) prog_3_method_2_code (2 : Nat) (Option.none : Option Jvm.ClassFile.FieldType), Jvm.Cond.code ({ cls := "com/example/secure_model_views/securemodelviews/Ids", name := "size", desc := "()I" } : Jvm.MethodName) prog_3_method_3_code (1 : Nat) (Option.some Jvm.ClassFile.FieldType.int), Jvm.Cond.code ({ cls := "com/example/secure_model_views/securemodelviews/Ids", name := "toArray", desc := "()[I" } : Jvm.MethodName) prog_3_method_5_code (1 : Nat) (Option.some (Jvm.ClassFile.FieldType.array Jvm.ClassFile.FieldType.int)), Jvm.Cond.code ({ cls := "java/util/Arrays", name := "copyOf", desc := "([II)[I" } : Jvm.MethodName) jdk_65_method_123_code (3 : Nat) (Option.some (Jvm.ClassFile.FieldType.array Jvm.ClassFile.FieldType.int)), Jvm.Cond.code ({ cls := "java/lang/Math", name := "min", desc := "(II)I" } : Jvm.MethodName) jdk_29_method_69_code (2 : Nat) (Option.some Jvm.ClassFile.FieldType.int), Jvm.Cond.code ({ cls := "com/example/secure_model_views/securemodelviews/IdsAddPinLaw", name := "ok", desc := "([IIIII)Z" } : Jvm.MethodName) method_3_code (5 : Nat) (Option.some Jvm.ClassFile.FieldType.boolean), Jvm.Cond.code ({ cls := "com/example/secure_model_views/securemodelviews/Ids", name := "get", desc := "(I)I" } : Jvm.MethodName) prog_3_method_4_code (2 : Nat) (Option.some Jvm.ClassFile.FieldType.int)]
set_option maxRecDepth 65536 in
theorem codes_eq : words1.filter isCode = codes1 := rfl
theorem w_codes : ∀ c ∈ words1.filter isCode, c.before args0 about1 = true := by
  rw [codes_eq]
  intro c hc
  simp only [codes1, List.mem_cons, List.not_mem_nil, or_false] at hc
  rcases hc with rfl | rfl | rfl | rfl | rfl | rfl | rfl | rfl | rfl | rfl | rfl
  · exact w_c0
  · exact w_c1
  · exact w_c2
  · exact w_c3
  · exact w_c4
  · exact w_c5
  · exact w_c6
  · exact w_c7
  · exact w_c8
  · exact w_c9
  · exact w_c10
set_option maxRecDepth 65536 in
theorem w_t1 : (words1.take 24).all (fun c => isCode c || c.before args0 about1) = true := by decide +kernel
set_option maxRecDepth 65536 in
theorem w_t2 : ((words1.drop 24).take 24).all (fun c => isCode c || c.before args0 about1) = true := by decide +kernel
set_option maxRecDepth 65536 in
theorem w_t3 : ((words1.drop 24).drop 24).all (fun c => isCode c || c.before args0 about1) = true := by decide +kernel
theorem w_tables : (allAtoms (Jvm.Cond.code x code maxLocals ret :: tables_1)).before args0 about1 = true := by
  rw [allAtoms_all]
  show words1.all (fun c => c.before args0 about1) = true
  refine all_split ?_ w_codes
  rw [← List.take_append_drop 24 words1, List.all_append, w_t1, ← List.take_append_drop 24 (words1.drop 24), List.all_append, w_t2, w_t3]
  rfl
set_option maxRecDepth 65536 in
theorem w_case : (Jvm.Cond.and given_1 narrow_1).before args0 about1 = true := by decide +kernel
theorem w_applies : (headSpec (Jvm.Cond.code x code maxLocals ret :: tables_1) room_1).applies x e0.platform about1 = true :=
  (Spec.applies_iff w_frames).mpr ⟨w_running, w_runnable, w_alone, w_named, w_hears, w_ripe, w_room, w_tables⟩
theorem atStart : AtStart classFile x code maxLocals ret World_1 tables_1 room_1 Calls_1 rest_1 Pre_1 launch0 p0 e0 about1 theMethod args0 below0 :=
  ⟨lists_1, trivial, launch0.admits_env _ _ _, launch0.least_env, fairChoices_fair.cas, fairChoices_fair.clock, w_frames, w_args, w_heap, w_applies, trivial, trivial, w_case⟩
end start1
theorem witness_1 : WitnessClaimed_1 := ⟨start1.p0, start1.e0, start1.about1, start1.theMethod, start1.args0, start1.below0, start1.atStart⟩
end Jvm.Pilot.@@N@@
