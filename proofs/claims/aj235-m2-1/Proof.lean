import JvmDerived
import JvmDerived.Pilot.@@N@@Statement
import JvmDerived.Pilot.@@N@@Code
set_option linter.unusedVariables false
set_option linter.unusedSimpArgs false
set_option maxHeartbeats 40000000
namespace Jvm.RoadKit
open Sem ClassFile Op Lib Jvm.Stand Jvm.Free Jvm.LawKit
section New
variable {p : Program} {l : Launch} {e : Env} {R : Room} {s : State} {m : MethodId} {args : Array Value} {below : List Frame} {meth : Method} {c : Code} {T : State} {locs : List Loc} {cells slots : Nat}
theorem retI (X : Stand p l e R s m args below meth c T locs cells slots) (hx : p.tables.exec = Jvm.exec) {pc : Nat} {Ls : Array Slot} {z : Int32} {rest : List Value} (hret : meth.sig.returnType = some .int) (hd : decode c.code pc = .ok (.ireturn, 1)) {fs : List Frame}
    (hl : ∀ (f : JFrame) (acts : List Action), f.method = m → f.locked = none → f.entered = [] → (doReturn e (T.setTop f) acts (some (.int z))).1 = T.setFrames fs) : Steps p.tables e below (T.setTop (mkF m pc Ls (.int z :: rest))) (T.setFrames fs) := by
  have hm' : T.vm.method? m = some meth := X.method'
  have hn : narrow .int (.int z) = .int z := rfl
  show Steps p.tables e below (T.setTop { method := m, pc := pc, locals := Ls, stack := _ :: rest, locked := none }) _
  jvm_step X.here [X.here.top, hx, hd, hm', hret, hn]
  first | (intro acts; rw [hl _ acts rfl rfl rfl]) | rw [hl _ _ rfl rfl rfl]
  exact Steps.refl _
end New
end Jvm.RoadKit
namespace Jvm.Pilot.@@N@@
open Jvm Jvm.ClassFile Sem Op Lib Jvm.Free Jvm.Stand Jvm.LawKit Jvm.RoadKit Bundle Jvm.Pilot.@@N@@.Jvm.D
/-! a run that ends well: what this text is made of -/
def own_Run (p : Program) (e : Env) (below : List Frame) (Φ : State → Prop) (S : State) : Prop := ∃ t, Steps p.tables e below S t ∧ Φ t
def own_Fin (s : State) (below : List Frame) (C D : Nat) (Q : Option Value → Heap → List Loc → Prop) (t : State) : Prop :=
  t.status = .running ∧ ∃ v L, Ended t below (.returned v) ∧ Q v t.heap L ∧ FrameEnd s (.returned v) t L C D
def own_Met (l : Launch) (Z : State) (y : MethodName) (bytes : ByteArray) (maxL : Nat) (ret : Option FieldType) (rm : Room) (as : Array Value) (h : Heap) (Q : Option Value → Heap → List Loc → Prop) : Prop :=
  ∀ ws : List Jvm.Cond, MetFree l y (head1 (Jvm.Cond.code y bytes maxL ret :: ws) rm) (fun a U => a = as ∧ Z.Warmed39 U.vm ∧ U.heap = h) (fun _ _ _ _ _ => True) (fun _ U o U' => ∃ v L, o = .returned v ∧ Q v U'.heap L ∧ FrameEnd U o U' L rm.cells rm.slots)
section OwnRun
variable {p : Program} {l : Launch} {e : Env} {R : Room} {s : State} {m : MethodId} {args : Array Value} {below : List Frame} {meth : Method} {c : Code} {T : State} {locs : List Loc} {cells slots : Nat} {Φ : State → Prop} {S S' : State} {Z : State} {a0 : Array Value} {h : Heap}
theorem own_go (st : ∀ t, Steps p.tables e below S' t → Steps p.tables e below S t) (r : own_Run p e below Φ S') : own_Run p e below Φ S := r.elim fun t q => ⟨t, st t q.1, q.2⟩
theorem own_via (st : Steps p.tables e below S S') (r : own_Run p e below Φ S') : own_Run p e below Φ S := r.elim fun t q => ⟨t, st.trans q.1, q.2⟩
theorem own_cast {g g' : JFrame} (q : g = g') (r : own_Run p e below Φ (T.setTop g')) : own_Run p e below Φ (T.setTop g) := q ▸ r
theorem own_body {C D : Nat} {Q : Option Value → Heap → List Loc → Prop} (r : own_Run p e below (own_Fin s below C D Q) S) :
    ∃ s₂ o, Steps p.tables e below S s₂ ∧ s₂.status = .running ∧ Ended s₂ below o ∧ ∃ v L, o = .returned v ∧ Q v s₂.heap L ∧ FrameEnd s o s₂ L C D := by
  obtain ⟨t, q1, q2, v, L, q3, q4, q5⟩ := r
  exact ⟨t, _, q1, q2, q3, v, L, rfl, q4, q5⟩
variable {C D : Nat} {Q : Option Value → Heap → List Loc → Prop}
theorem own_retI (X : Stand p l e R s m args below meth c T locs cells slots) (hx : p.tables.exec = Jvm.exec) (hret : meth.sig.returnType = some .int) (hlk : meth.locks = false) {pc : Nat} {Ls : Array Slot} {z : Int32} {rest : List Value} (hd : decode c.code pc = .ok (.ireturn, 1)) (eT : T.heap = h) (hq : Q (some (.int z)) h locs) (hc : cells ≤ C) (hs : slots ≤ D) :
    own_Run p e below (own_Fin s below C D Q) (T.setTop (mkF m pc Ls (.int z :: rest))) := by
  obtain ⟨fs, hr, hrun, hended, hW, hsame⟩ := X.leave (v := some (.int z)) (fun q => by rw [hret] at q; cases q) hlk
  exact ⟨_, retI X hx hret hd hr, hrun, _, _, hended, by show Q _ T.heap _; rw [eT]; exact hq, ⟨_, rfl⟩, hW, hsame.mono hc hs⟩
theorem own_retN (X : Stand p l e R s m args below meth c T locs cells slots) (hx : p.tables.exec = Jvm.exec) {t : FieldType} (hret : meth.sig.returnType = some t) (ht : t = .boolean ∨ t = .byte ∨ t = .char ∨ t = .short) (hlk : meth.locks = false) {pc : Nat} {Ls : Array Slot} {z : Int32} {rest : List Value} (hd : decode c.code pc = .ok (.ireturn, 1)) (eT : T.heap = h) (hq : Q (some (.int (nar t z))) h locs) (hc : cells ≤ C) (hs : slots ≤ D) :
    own_Run p e below (own_Fin s below C D Q) (T.setTop (mkF m pc Ls (.int z :: rest))) := by
  obtain ⟨fs, hr, hrun, hended, hW, hsame⟩ := X.leave (v := some (.int (nar t z))) (fun q => by rw [hret] at q; cases q) hlk
  exact ⟨_, retN X hx hret ht hd hr, hrun, _, _, hended, by show Q _ T.heap _; rw [eT]; exact hq, ⟨_, rfl⟩, hW, hsame.mono hc hs⟩
theorem own_retV (X : Stand p l e R s m args below meth c T locs cells slots) (hx : p.tables.exec = Jvm.exec) (hret : meth.sig.returnType = none) (hlk : meth.locks = false) {pc : Nat} {Ls : Array Slot} (hd : decode c.code pc = .ok (.return_, 1)) (eT : T.heap = h) (hq : Q none h locs) (hc : cells ≤ C) (hs : slots ≤ D) :
    own_Run p e below (own_Fin s below C D Q) (T.setTop (mkF m pc Ls [])) := by
  obtain ⟨fs, hr, hrun, hended, hW, hsame⟩ := X.leave (v := none) (fun _ => rfl) hlk
  exact ⟨_, X.returnOut hx hret hd hr, hrun, _, _, hended, by show Q _ T.heap _; rw [eT]; exact hq, ⟨_, rfl⟩, hW, hsame.mono hc hs⟩
theorem own_retO (X : Stand p l e R s m args below meth c T locs cells slots) (hx : p.tables.exec = Jvm.exec) {t : FieldType} {i : Instr} {w : Value} (hret : meth.sig.returnType = some t) (hn : narrow t w = w)
    (hi : (i = .ireturn ∧ (t = .int ∨ t = .boolean ∨ t = .byte ∨ t = .char ∨ t = .short) ∧ ∃ z, w = .int z) ∨ (i = .lreturn ∧ t = .long ∧ ∃ z, w = .long z) ∨ (i = .dreturn ∧ t = .double ∧ ∃ z, w = .double z) ∨ (i = .freturn ∧ t = .float ∧ ∃ z, w = .float z) ∨ (i = .areturn ∧ t.isReference = true ∧ w.isRef = true))
    (hlk : meth.locks = false) {pc : Nat} {Ls : Array Slot} {rest : List Value} (hd : decode c.code pc = .ok (i, 1)) (eT : T.heap = h) (hq : Q (some w) h locs) (hc : cells ≤ C) (hs : slots ≤ D) :
    own_Run p e below (own_Fin s below C D Q) (T.setTop (mkF m pc Ls (w :: rest))) := by
  obtain ⟨fs, hr, hrun, hended, hW, hsame⟩ := X.leave (v := some w) (fun q => by rw [hret] at q; cases q) hlk
  exact ⟨_, retOut X hx hret hn hi hd hr, hrun, _, _, hended, by show Q _ T.heap _; rw [eT]; exact hq, ⟨_, rfl⟩, hW, hsame.mono hc hs⟩
/-- who pays a call -/
def own_Bk (l : Launch) (R : Room) (p : Program) (e : Env) (below : List Frame) (s : State) (args : Array Value) (y : MethodName) (W : Nat) (as : Array Value) (h : Heap) (cc ss : Nat) (Q : Option Value → Heap → List Loc → Prop) : Prop :=
  Back l R p e below s args y 3 W (fun A a => a = as ∧ A.U.heap = h ∧ A.cells + cc ≤ R.cells ∧ A.slots + ss ≤ R.slots) (fun A _ v B => ∃ L, Q v B.U.heap L ∧ B.locs = A.locs ++ L ∧ B.cells = A.cells + cc ∧ B.slots = A.slots + ss)
theorem own_bk {y : MethodName} {bytes : ByteArray} {maxL : Nat} {ret : Option FieldType} {rm : Room} {W : Nat} {as : Array Value} (hM : own_Met l Z y bytes maxL ret rm as h Q) (hZ : Z.Warmed39 s.vm) (wc : (Jvm.Cond.code y bytes maxL ret).before a0 Z = true) (wz : (Jvm.Cond.initialized y.cls).before a0 Z = true) (hf : rm.frames + 1 ≤ R.frames) (hl : W + (maxL + 11) + rm.locals ≤ R.locals) :
    own_Bk l R p e below s args y W as h rm.cells rm.slots Q := backOf (W := W) (hM []) hZ wc wz hf hl
/-- a static method by its contract -/
theorem own_callS (X : Stand p l e R s m args below meth c T locs cells slots) (hx : p.tables.exec = Jvm.exec) (hZ : Z.Warmed39 s.vm) {own : String} {index : Nat} {y : MethodName} {bytes : ByteArray} {maxL : Nat} {ret : Option FieldType} {cc ss : Nat}
    (hown : s.vm.findClass own = some m.cls) (w1 : (Jvm.Cond.methodLink own index y).before a0 Z = true) (w2 : (Jvm.Cond.static y).before a0 Z = true) (w3 : (Jvm.Cond.initialized y.cls).before a0 Z = true) (w4 : (Jvm.Cond.code y bytes maxL ret).before a0 Z = true)
    (hy : y.cls ≠ "java/lang/invoke/MethodHandle" ∧ y.cls ≠ "java/lang/invoke/VarHandle") {W : Nat} {argsL rest : List Value} (hK : own_Bk l R p e below s args y W argsL.toArray h cc ss Q) (eT : T.heap = h)
    {g : JFrame} (hg : g.method = m) (hsize : g.locals.size = c.maxLocals) (hlen : ∀ sig, parseMethodDescriptor y.desc = some sig → argsL.length = sig.parameters.length)
    (hstack : g.stack = argsL.reverse ++ rest) (hW : 2 * g.monitorRoom + (rest.map fun v => v.category).sum ≤ W) (hdg : decode c.code g.pc = .ok (.invokestatic index, 3))
    (hcl : cells + cc ≤ R.cells) (hsl : slots + ss ≤ R.slots)
    (k : ∀ v T' h' L, Stand p l e R s m args below meth c T' (locs ++ L) (cells + cc) (slots + ss) → T'.heap = h' → Q v h' L → own_Run p e below Φ (T'.setTop { g with pc := g.pc + 3, stack := v.toList ++ rest })) : own_Run p e below Φ (T.setTop g) := by
  obtain ⟨v, _, ⟨T', L', k', n'⟩, -, X', ⟨Lc, hQ, l1, y1, z1⟩, st⟩ := Jvm.LawKit.callS X hx (y := y) hown (mvT hZ w1) (mvT hZ w2) (mvT hZ w3) (mvT hZ w4) hy hK hg hsize hlen hstack hW hdg (fun _ _ => ⟨rfl, eT, hcl, hsl⟩)
  dsimp only [Pt.U, Pt.locs, Pt.cells, Pt.slots] at X' l1 y1 z1 st hQ
  subst l1 y1 z1
  exact own_go st (k v T' _ Lc X' rfl hQ)
/-- a constructor by its contract -/
theorem own_callI (X : Stand p l e R s m args below meth c T locs cells slots) (hx : p.tables.exec = Jvm.exec) (hZ : Z.Warmed39 s.vm) {own : String} {index : Nat} {y : MethodName} {bytes : ByteArray} {maxL : Nat} {cc ss : Nat} (hy1 : y.name = "<init>")
    (hown : s.vm.findClass own = some m.cls) (w1 : (Jvm.Cond.methodLink own index y).before a0 Z = true) (w2 : (Jvm.Cond.instanceMethod y).before a0 Z = true) (w4 : (Jvm.Cond.code y bytes maxL none).before a0 Z = true)
    (hy : y.cls ≠ "java/lang/invoke/MethodHandle" ∧ y.cls ≠ "java/lang/invoke/VarHandle") {W : Nat} {a : Addr} {argsL rest : List Value} (hK : own_Bk l R p e below s args y W (.ref a :: argsL).toArray h cc ss Q) (eT : T.heap = h)
    {g : JFrame} (hg : g.method = m) (hsize : g.locals.size = c.maxLocals) (hlen : ∀ sig, parseMethodDescriptor y.desc = some sig → argsL.length = sig.parameters.length)
    (hstack : g.stack = argsL.reverse ++ .ref a :: rest) (hW : 2 * g.monitorRoom + (rest.map fun v => v.category).sum ≤ W) (hdg : decode c.code g.pc = .ok (.invokespecial index, 3))
    (hcl : cells + cc ≤ R.cells) (hsl : slots + ss ≤ R.slots)
    (k : ∀ v T' h' L, Stand p l e R s m args below meth c T' (locs ++ L) (cells + cc) (slots + ss) → T'.heap = h' → Q v h' L → own_Run p e below Φ (T'.setTop { g with pc := g.pc + 3, stack := v.toList ++ rest })) : own_Run p e below Φ (T.setTop g) := by
  obtain ⟨v, _, ⟨T', L', k', n'⟩, -, X', ⟨Lc, hQ, l1, y1, z1⟩, st⟩ := X.specialBack hx (y := y) hy1 hown (mvT hZ w1) (mvT hZ w2) (mvT hZ w4) hy hK hg hsize (Steps.refl _) (a := a) hlen hstack hW hdg (fun _ _ => ⟨rfl, eT, hcl, hsl⟩)
  dsimp only [Pt.U, Pt.locs, Pt.cells, Pt.slots] at X' l1 y1 z1 st hQ
  subst l1 y1 z1
  exact own_via st (k v T' _ Lc X' rfl hQ)
/-- an instance method by the contract of the body that the receiver's class selects -/
theorem own_callV (X : Stand p l e R s m args below meth c T locs cells slots) (hx : p.tables.exec = Jvm.exec) (hZ : Z.Warmed39 s.vm) {own C : String} {index : Nat} {y z : MethodName} {cc ss : Nat}
    (hown : s.vm.findClass own = some m.cls) (w1 : (Jvm.Cond.methodLink own index y).before a0 Z = true) (w2 : (Jvm.Cond.declares y).before a0 Z = true) (hnf : NotFace s y) (w3 : (Jvm.Cond.selects C y z).before a0 Z = true) (w4 : (Jvm.Cond.instanceMethod z).before a0 Z = true)
    (hy : y.cls ≠ "java/lang/invoke/MethodHandle" ∧ y.cls ≠ "java/lang/invoke/VarHandle") {W : Nat} {a : Addr} {argsL rest : List Value} (hK : own_Bk l R p e below s args z W (.ref a :: argsL).toArray h cc ss Q) (eT : T.heap = h) (E : Exa Z h a C)
    {g : JFrame} (hg : g.method = m) (hsize : g.locals.size = c.maxLocals) (hlen : ∀ sig, parseMethodDescriptor y.desc = some sig → argsL.length = sig.parameters.length)
    (hstack : g.stack = argsL.reverse ++ .ref a :: rest) (hW : 2 * g.monitorRoom + (rest.map fun v => v.category).sum ≤ W) (hdg : decode c.code g.pc = .ok (.invokevirtual index, 3))
    (hcl : cells + cc ≤ R.cells) (hsl : slots + ss ≤ R.slots)
    (k : ∀ v T' h' L, Stand p l e R s m args below meth c T' (locs ++ L) (cells + cc) (slots + ss) → T'.heap = h' → Q v h' L → own_Run p e below Φ (T'.setTop { g with pc := g.pc + 3, stack := v.toList ++ rest })) : own_Run p e below Φ (T.setTop g) := by
  obtain ⟨cq, kq, qa, qb, qc⟩ := isOf hZ eT E
  obtain ⟨v, _, ⟨T', L', k', n'⟩, -, X', ⟨Lc, hQ, l1, y1, z1⟩, st⟩ := X.virtualBack hx (y := y) (z := z) hown (mvT hZ w1) (mvT hZ w2) hnf (mvT hZ w3) (mvT hZ w4) hy hK qa qc hg hsize (Steps.refl _) hlen hstack hW hdg (fun _ _ => ⟨rfl, eT, hcl, hsl⟩)
  dsimp only [Pt.U, Pt.locs, Pt.cells, Pt.slots] at X' l1 y1 z1 st hQ
  subst l1 y1 z1
  exact own_via st (k v T' _ Lc X' rfl hQ)
/-- an instance method that a superclass declares -/
theorem own_callU (X : Stand p l e R s m args below meth c T locs cells slots) (hx : p.tables.exec = Jvm.exec) (hZ : Z.Warmed39 s.vm) {own C owner : String} {index : Nat} {y z : MethodName} {cc ss : Nat}
    (hown : s.vm.findClass own = some m.cls) (w1 : (Jvm.Cond.methodLink own index y).before a0 Z = true) (w0 : (Jvm.Cond.sameMethod y.cls owner y.name y.desc).before a0 Z = true) (w2 : (Jvm.Cond.declares ⟨owner, y.name, y.desc⟩).before a0 Z = true) (w3 : (Jvm.Cond.selects C y z).before a0 Z = true) (w4 : (Jvm.Cond.instanceMethod z).before a0 Z = true)
    (hy : owner ≠ "java/lang/invoke/MethodHandle" ∧ owner ≠ "java/lang/invoke/VarHandle") {W : Nat} {a : Addr} {argsL rest : List Value} (hK : own_Bk l R p e below s args z W (.ref a :: argsL).toArray h cc ss Q) (eT : T.heap = h) (E : Exa Z h a C)
    {g : JFrame} (hg : g.method = m) (hsize : g.locals.size = c.maxLocals) (hlen : ∀ sig, parseMethodDescriptor y.desc = some sig → argsL.length = sig.parameters.length)
    (hstack : g.stack = argsL.reverse ++ .ref a :: rest) (hW : 2 * g.monitorRoom + (rest.map fun v => v.category).sum ≤ W) (hdg : decode c.code g.pc = .ok (.invokevirtual index, 3))
    (hcl : cells + cc ≤ R.cells) (hsl : slots + ss ≤ R.slots)
    (k : ∀ v T' h' L, Stand p l e R s m args below meth c T' (locs ++ L) (cells + cc) (slots + ss) → T'.heap = h' → Q v h' L → own_Run p e below Φ (T'.setTop { g with pc := g.pc + 3, stack := v.toList ++ rest })) : own_Run p e below Φ (T.setTop g) := by
  obtain ⟨cq, kq, qa, qb, qc⟩ := isOf hZ eT E
  obtain ⟨v, _, ⟨T', L', k', n'⟩, -, X', ⟨Lc, hQ, l1, y1, z1⟩, st⟩ := X.virtualBackUp hx (x := y) (y := z) hown (mvT hZ w1) (mvT hZ w0) (mvT hZ w2) hy (mvT hZ w3) (mvT hZ w4) hK qa qc hg hsize (Steps.refl _) hlen hstack hW hdg (fun _ _ => ⟨rfl, eT, hcl, hsl⟩)
  dsimp only [Pt.U, Pt.locs, Pt.cells, Pt.slots] at X' l1 y1 z1 st hQ
  subst l1 y1 z1
  exact own_via st (k v T' _ Lc X' rfl hQ)
/-- a private method by its contract -/
theorem own_callP (X : Stand p l e R s m args below meth c T locs cells slots) (hx : p.tables.exec = Jvm.exec) (hZ : Z.Warmed39 s.vm) {own C : String} {index : Nat} {y : MethodName} {bytes : ByteArray} {maxL : Nat} {ret : Option FieldType} {cc ss : Nat}
    (hown : s.vm.findClass own = some m.cls) (w1 : (Jvm.Cond.methodLink own index y).before a0 Z = true) (w2 : (Jvm.Cond.instanceMethod y).before a0 Z = true) (w3 : (Jvm.Cond.selects y.cls y y).before a0 Z = true) (w4 : (Jvm.Cond.privateMethod y).before a0 Z = true) (w6 : (Jvm.Cond.code y bytes maxL ret).before a0 Z = true)
    (hy : y.cls ≠ "java/lang/invoke/MethodHandle" ∧ y.cls ≠ "java/lang/invoke/VarHandle") {W : Nat} {a : Addr} {argsL rest : List Value} (hK : own_Bk l R p e below s args y W (.ref a :: argsL).toArray h cc ss Q) (eT : T.heap = h) (E : Exa Z h a C)
    {g : JFrame} (hg : g.method = m) (hsize : g.locals.size = c.maxLocals) (hlen : ∀ sig, parseMethodDescriptor y.desc = some sig → argsL.length = sig.parameters.length)
    (hstack : g.stack = argsL.reverse ++ .ref a :: rest) (hW : 2 * g.monitorRoom + (rest.map fun v => v.category).sum ≤ W) (hdg : decode c.code g.pc = .ok (.invokevirtual index, 3))
    (hcl : cells + cc ≤ R.cells) (hsl : slots + ss ≤ R.slots)
    (k : ∀ v T' h' L, Stand p l e R s m args below meth c T' (locs ++ L) (cells + cc) (slots + ss) → T'.heap = h' → Q v h' L → own_Run p e below Φ (T'.setTop { g with pc := g.pc + 3, stack := v.toList ++ rest })) : own_Run p e below Φ (T.setTop g) := by
  obtain ⟨cq, q1, q2⟩ := E.cell
  obtain ⟨v, _, ⟨T', L', k', n'⟩, -, X', ⟨Lc, hQ, l1, y1, z1⟩, st⟩ := X.privateBack hx (y := y) hown (mvT hZ w1) (mvT hZ w2) (mvT hZ w3) (Cond.privateMethod_at (mvP hZ w4 (args := #[]))) (mvT hZ w6) hy hK hg hsize (Steps.refl _) (a := a) (by rw [eT]; exact q1) q2 hlen hstack hW hdg (fun _ _ => ⟨rfl, eT, hcl, hsl⟩)
  dsimp only [Pt.U, Pt.locs, Pt.cells, Pt.slots] at X' l1 y1 z1 st hQ
  subst l1 y1 z1
  exact own_via st (k v T' _ Lc X' rfl hQ)
/-- arrays: reading -/
theorem own_iaload (X : Stand p l e R s m args below meth c T locs cells slots) (hx : p.tables.exec = Jvm.exec) (hZ : Z.Warmed39 s.vm) (eT : T.heap = h) {a : Addr} {k : ClassId} {z j : Int32} {vs : List Value} {dv v : Value} (V : Arv Z h a k .int z vs dv) (hj : ¬ j < 0 ∧ j < z) (hv : vs.getD j.toNatClampNeg dv = v)
    {g : JFrame} (hg : g.method = m) {rest : List Value} (hs : g.stack = .int j :: .ref a :: rest) (hd : decode c.code g.pc = .ok (.iaload, 1)) (r : own_Run p e below Φ (T.setTop { g with pc := g.pc + 1, stack := v :: rest })) : own_Run p e below Φ (T.setTop g) := by
  obtain ⟨cl, A, -, S, -, H, -⟩ := V
  exact own_go (fun t q => X.iaload hx (j := j) (v := v) (by rw [eT]; exact A.1) (State.isArrayOf_alike hZ.alike A.2.1) A.2.2 (inb_of S hj) (Has.at H (inb_of S hj) hv) hg hs hd t q) r
theorem own_laload (X : Stand p l e R s m args below meth c T locs cells slots) (hx : p.tables.exec = Jvm.exec) (hZ : Z.Warmed39 s.vm) (eT : T.heap = h) {a : Addr} {k : ClassId} {z j : Int32} {vs : List Value} {dv v : Value} (V : Arv Z h a k .long z vs dv) (hj : ¬ j < 0 ∧ j < z) (hv : vs.getD j.toNatClampNeg dv = v)
    {g : JFrame} (hg : g.method = m) {rest : List Value} (hs : g.stack = .int j :: .ref a :: rest) (hd : decode c.code g.pc = .ok (.laload, 1)) (r : own_Run p e below Φ (T.setTop { g with pc := g.pc + 1, stack := v :: rest })) : own_Run p e below Φ (T.setTop g) := by
  obtain ⟨cl, A, -, S, -, H, -⟩ := V
  exact own_go (fun t q => X.laload hx (j := j) (v := v) (by rw [eT]; exact A.1) (State.isArrayOf_alike hZ.alike A.2.1) A.2.2 (inb_of S hj) (Has.at H (inb_of S hj) hv) hg hs hd t q) r
theorem own_caload (X : Stand p l e R s m args below meth c T locs cells slots) (hx : p.tables.exec = Jvm.exec) (hZ : Z.Warmed39 s.vm) (eT : T.heap = h) {a : Addr} {k : ClassId} {z j : Int32} {vs : List Value} {dv v : Value} (V : Arv Z h a k .char z vs dv) (hj : ¬ j < 0 ∧ j < z) (hv : vs.getD j.toNatClampNeg dv = v)
    {g : JFrame} (hg : g.method = m) {rest : List Value} (hs : g.stack = .int j :: .ref a :: rest) (hd : decode c.code g.pc = .ok (.caload, 1)) (r : own_Run p e below Φ (T.setTop { g with pc := g.pc + 1, stack := v :: rest })) : own_Run p e below Φ (T.setTop g) := by
  obtain ⟨cl, A, -, S, -, H, -⟩ := V
  exact own_go (fun t q => X.caload hx (j := j) (v := v) (by rw [eT]; exact A.1) (State.isArrayOf_alike hZ.alike A.2.1) A.2.2 (inb_of S hj) (Has.at H (inb_of S hj) hv) hg hs hd t q) r
theorem own_baload (X : Stand p l e R s m args below meth c T locs cells slots) (hx : p.tables.exec = Jvm.exec) (hZ : Z.Warmed39 s.vm) (eT : T.heap = h) {a : Addr} {k : ClassId} {z j : Int32} {vs : List Value} {dv v : Value} (V : Arv Z h a k .byte z vs dv) (hj : ¬ j < 0 ∧ j < z) (hv : vs.getD j.toNatClampNeg dv = v)
    {g : JFrame} (hg : g.method = m) {rest : List Value} (hs : g.stack = .int j :: .ref a :: rest) (hd : decode c.code g.pc = .ok (.baload, 1)) (r : own_Run p e below Φ (T.setTop { g with pc := g.pc + 1, stack := v :: rest })) : own_Run p e below Φ (T.setTop g) := by
  obtain ⟨cl, A, -, S, -, H, -⟩ := V
  exact own_go (fun t q => X.baloadBytes hx (j := j) (v := v) (by rw [eT]; exact A.1) (State.isArrayOf_alike hZ.alike A.2.1) A.2.2 (inb_of S hj) (Has.at H (inb_of S hj) hv) hg hs hd t q) r
theorem own_arrlen (X : Stand p l e R s m args below meth c T locs cells slots) (hx : p.tables.exec = Jvm.exec) (hZ : Z.Warmed39 s.vm) (eT : T.heap = h) {a : Addr} {k : ClassId} {ty : FieldType} {z : Int32} {vs : List Value} {dv : Value} (V : Arv Z h a k ty z vs dv)
    {g : JFrame} (hg : g.method = m) {rest : List Value} (hs : g.stack = .ref a :: rest) (hd : decode c.code g.pc = .ok (.arraylength, 1)) (r : own_Run p e below Φ (T.setTop { g with pc := g.pc + 1, stack := .int z :: rest })) : own_Run p e below Φ (T.setTop g) := by
  obtain ⟨cl, A, -, S, M, -, -⟩ := V
  refine own_go (fun t q => X.arraylength hx (by rw [eT]; exact A.1) (State.isArrayOf_alike hZ.alike A.2.1) hg hs hd t q) ?_
  rw [len_of S M]; exact r
/-- arrays: writing -/
theorem own_iastore (X : Stand p l e R s m args below meth c T locs cells slots) (hx : p.tables.exec = Jvm.exec) (hZ : Z.Warmed39 s.vm) (eT : T.heap = h) {a : Addr} {k : ClassId} {z j x : Int32} {vs : List Value} {dv : Value} (V : Arv Z h a k .int z vs dv) (hj : ¬ j < 0 ∧ j < z) (i : Nat) (hi : j.toNatClampNeg = i) (hl : i < vs.length)
    {g : JFrame} (hg : g.method = m) {rest : List Value} (hs : g.stack = .int x :: .int j :: .ref a :: rest) (hd : decode c.code g.pc = .ok (.iastore, 1))
    (r : ∀ T' h', Stand p l e R s m args below meth c T' (locs ++ [⟨a, j.toNatClampNeg⟩]) cells slots → T'.heap = h' → Wr h h' a j.toNatClampNeg (.int x) → Arv Z h' a k .int z (vs.set i (.int x)) dv → own_Run p e below Φ (T'.setTop { g with pc := g.pc + 1, stack := rest })) : own_Run p e below Φ (T.setTop g) := by
  obtain ⟨cl, A, q, S, N, H, G⟩ := V
  obtain ⟨T', h', X', e', W, st⟩ := stI X hx hZ eT A (j := j) (inb_of S hj) hg hs hd
  exact own_go st (r T' h' X' e' W (Arv.set A q S N H G rfl W i hi hl))
theorem own_lastore (X : Stand p l e R s m args below meth c T locs cells slots) (hx : p.tables.exec = Jvm.exec) (hZ : Z.Warmed39 s.vm) (eT : T.heap = h) {a : Addr} {k : ClassId} {z j : Int32} {x : Int64} {vs : List Value} {dv : Value} (V : Arv Z h a k .long z vs dv) (hj : ¬ j < 0 ∧ j < z) (i : Nat) (hi : j.toNatClampNeg = i) (hl : i < vs.length)
    {g : JFrame} (hg : g.method = m) {rest : List Value} (hs : g.stack = .long x :: .int j :: .ref a :: rest) (hd : decode c.code g.pc = .ok (.lastore, 1))
    (r : ∀ T' h', Stand p l e R s m args below meth c T' (locs ++ [⟨a, j.toNatClampNeg⟩]) cells slots → T'.heap = h' → Wr h h' a j.toNatClampNeg (.long x) → Arv Z h' a k .long z (vs.set i (.long x)) dv → own_Run p e below Φ (T'.setTop { g with pc := g.pc + 1, stack := rest })) : own_Run p e below Φ (T.setTop g) := by
  obtain ⟨cl, A, q, S, N, H, G⟩ := V
  obtain ⟨T', h', X', e', W, st⟩ := stJ X hx hZ eT A (j := j) (inb_of S hj) hg hs hd
  exact own_go st (r T' h' X' e' W (Arv.set A q S N H G rfl W i hi hl))
theorem own_bastore (X : Stand p l e R s m args below meth c T locs cells slots) (hx : p.tables.exec = Jvm.exec) (hZ : Z.Warmed39 s.vm) (eT : T.heap = h) {a : Addr} {k : ClassId} {z j x : Int32} {vs : List Value} {dv : Value} (V : Arv Z h a k .byte z vs dv) (hj : ¬ j < 0 ∧ j < z) (i : Nat) (hi : j.toNatClampNeg = i) (hl : i < vs.length)
    {g : JFrame} (hg : g.method = m) {rest : List Value} (hs : g.stack = .int x :: .int j :: .ref a :: rest) (hd : decode c.code g.pc = .ok (.bastore, 1))
    (r : ∀ T' h', Stand p l e R s m args below meth c T' (locs ++ [⟨a, j.toNatClampNeg⟩]) cells slots → T'.heap = h' → Wr h h' a j.toNatClampNeg (.int x.toInt8.toInt32) → Arv Z h' a k .byte z (vs.set i (.int x.toInt8.toInt32)) dv → own_Run p e below Φ (T'.setTop { g with pc := g.pc + 1, stack := rest })) : own_Run p e below Φ (T.setTop g) := by
  obtain ⟨cl, A, q, S, N, H, G⟩ := V
  obtain ⟨T', h', X', e', W, st⟩ := stB X hx hZ eT A (j := j) (inb_of S hj) hg hs hd
  exact own_go st (r T' h' X' e' W (Arv.set A q S N H G (fits_nar_byte _) W i hi hl))
theorem own_castore (X : Stand p l e R s m args below meth c T locs cells slots) (hx : p.tables.exec = Jvm.exec) (hZ : Z.Warmed39 s.vm) (eT : T.heap = h) {a : Addr} {k : ClassId} {z j x : Int32} {vs : List Value} {dv : Value} (V : Arv Z h a k .char z vs dv) (hj : ¬ j < 0 ∧ j < z) (i : Nat) (hi : j.toNatClampNeg = i) (hl : i < vs.length)
    {g : JFrame} (hg : g.method = m) {rest : List Value} (hs : g.stack = .int x :: .int j :: .ref a :: rest) (hd : decode c.code g.pc = .ok (.castore, 1))
    (r : ∀ T' h', Stand p l e R s m args below meth c T' (locs ++ [⟨a, j.toNatClampNeg⟩]) cells slots → T'.heap = h' → Wr h h' a j.toNatClampNeg (.int (nar .char x)) → Arv Z h' a k .char z (vs.set i (.int (nar .char x))) dv → own_Run p e below Φ (T'.setTop { g with pc := g.pc + 1, stack := rest })) : own_Run p e below Φ (T.setTop g) := by
  obtain ⟨cl, A, q, S, N, H, G⟩ := V
  obtain ⟨T', h', X', e', W, st⟩ := stC X hx hZ eT A (j := j) (inb_of S hj) hg hs hd
  exact own_go st (r T' h' X' e' W (Arv.set A q S N H G (fits_nar_char _) W i hi hl))
theorem own_newP (X : Stand p l e R s m args below meth c T locs cells slots) (hx : p.tables.exec = Jvm.exec) (hZ : Z.Warmed39 s.vm) {aty : ArrayType} (w : (Jvm.Cond.arrayClass (newarray.typeOf aty)).before a0 Z = true) (eT : T.heap = h) {g : JFrame} (hg : g.method = m) (hd : decode c.code g.pc = .ok (.newarray aty, 2)) {n : Int32} {rest : List Value} (hs : g.stack = .int n :: rest)
    (hn : ¬ n < 0) (cap : Nat) (hcap : n.toNatClampNeg ≤ cap) (hb : cap * 8 ≤ 536870912) (hc : cells + 1 ≤ R.cells) (hl : slots + cap ≤ R.slots) (N : Nat)
    (r : ∀ T' h' cA a, Stand p l e R s m args below meth c T' locs (cells + 1) (slots + cap) → T'.heap = h' → Ext h h' → a = h.size → Arv Z h' a cA (newarray.typeOf aty) n (List.replicate N (defaultValue (newarray.typeOf aty))) (defaultValue (newarray.typeOf aty)) → own_Run p e below Φ (T'.setTop { g with pc := g.pc + 2, stack := .ref a :: rest })) : own_Run p e below Φ (T.setTop g) := by
  obtain ⟨T', h', cA, X', e', E, A, st⟩ := newP X hx hZ w eT hg hd hs hn hcap hb hc hl
  have V := Arv.new A hn
  have q : ∀ i, (List.replicate N (defaultValue (newarray.typeOf aty))).getD i (defaultValue (newarray.typeOf aty)) = ([] : List Value).getD i (defaultValue (newarray.typeOf aty)) := pad_rep [] (defaultValue (newarray.typeOf aty)) N
  exact own_go st (r T' h' cA h.size X' e' E rfl (V.pad q))
theorem own_le {a b c d : Nat} (h1 : a ≤ b) (h2 : b + c ≤ d) : a + c ≤ d := Nat.le_trans (Nat.add_le_add_right h1 c) h2
/-- the case's words on statics -/
theorem own_eqI {args : Array Value} {first s : State} {o : Option Outcome} {idx : List Nat} {t : Term} {k : Int32} (h : (Jvm.Cond.eq t (.int k)).value args first o s idx = some true) : t.eval args first o idx s = some (.int k) := by
  cases ht : t.eval args first o idx s with
  | none => simp [Cond.value, ht] at h
  | some x => cases x <;> simp [Cond.value, Term.eval, ht] at h ⊢; exact h
theorem own_fldI {args : Array Value} {t : Term} {x : Addr} {C n d : String} {k : Int32} (ht : t.eval args Z none [] Z = some (.ref x)) (h : (Jvm.Cond.eq (.field t C n d) (.int k)).value args Z none Z [] = some true) : Fld Z Z.heap x C n d (.int k) := Fld.start ((fld_at ht).symm.trans (own_eqI h))
end OwnRun
def own_dig (c : Int32) : Int32 := if c < (48 : Int32) then 0 else if (57 : Int32) < c then 0 else 1
def own_exp (c : Int32) : Int32 := if c = (48 : Int32) then 1 else if c = (49 : Int32) then 1 else if c = (50 : Int32) then 1 else if c = (51 : Int32) then 1 else if c = (52 : Int32) then 1 else if c = (53 : Int32) then 1 else if c = (54 : Int32) then 1 else if c = (55 : Int32) then 1 else if c = (56 : Int32) then 1 else if c = (57 : Int32) then 1 else 0
theorem own_same (c : Int32) : own_dig c = own_exp c := by
  unfold own_dig own_exp
  simp only [Int32.lt_iff_toInt_lt, ← Int32.toInt_inj, Int32.reduceToInt]
  repeat' split
  all_goals first | rfl | (exfalso; omega)
theorem d1_0 : decode prog_2_method_2_code 0 = .ok (.iload_n 0, 1) := by decide +kernel
theorem d1_1 : decode prog_2_method_2_code 1 = .ok (.bipush 48, 2) := by decide +kernel
theorem d1_3 : decode prog_2_method_2_code 3 = .ok (.if_icmp .lt 13, 3) := by decide +kernel
theorem d1_6 : decode prog_2_method_2_code 6 = .ok (.iload_n 0, 1) := by decide +kernel
theorem d1_7 : decode prog_2_method_2_code 7 = .ok (.bipush 57, 2) := by decide +kernel
theorem d1_9 : decode prog_2_method_2_code 9 = .ok (.if_icmp .gt 7, 3) := by decide +kernel
theorem d1_12 : decode prog_2_method_2_code 12 = .ok (.iconst 1, 1) := by decide +kernel
theorem d1_13 : decode prog_2_method_2_code 13 = .ok (.goto 4, 3) := by decide +kernel
theorem d1_16 : decode prog_2_method_2_code 16 = .ok (.iconst 0, 1) := by decide +kernel
theorem d1_17 : decode prog_2_method_2_code 17 = .ok (.ireturn, 1) := by decide +kernel
theorem pn_c1 : plainName "com/example/bare_registry/bareregistry/protocol/Ascii" = true := by first | (simp [plainName, overriddenIn]; done) | decide +kernel
theorem ef_1_I (m : MethodId) (x0 : Int32) : entryFrame m #[(.int x0)] 1 = mkF m 0 #[.val (.int x0)] [] := by first | (simp [entryFrame, mkF, argsToLocals, Value.category]; done) | rfl
set_option maxRecDepth 65536 in
set_option maxHeartbeats 40000000 in
theorem rm_dig (l : Launch) (Z : State) (a0 : Array Value) (hw : ∀ d ∈ tables_1, d.before a0 Z = true) (p1 : Int32) (h0 : Heap) (n0 : Nat)  :
    own_Met l Z (⟨"com/example/bare_registry/bareregistry/protocol/Ascii", "isDigit", "(C)Z"⟩ : MethodName) prog_2_method_2_code 1 (some .boolean) ({ frames := 0, cells := 0, slots := 0, locals := 0 } : Room) #[(.int p1)] h0 (fun v h L => v = some (.int (own_dig p1)) ∧ Fr n0 L ∧ h = h0) := by
  intro ws
  refine MetFree.of_bodySF (plainFor_of_name pn_c1) hisR ?_
  intro p e s m args below meth c s₁ Bd hml0 hP hK
  obtain ⟨rfl, hZ, hh⟩ := hP
  have hx := Bd.exec
  have hby := Bd.bytes
  have hml : c.maxLocals = 1 := hml0
  have hown : s.vm.findClass "com/example/bare_registry/bareregistry/protocol/Ascii" = some m.cls := findClass_of_methodNamed Bd.named
  have hnm := (name_of_methodNamed Bd.named Bd.method).1
  have hlk : meth.locks = false := Bd.notSynchronized
  have X0 : Stand p l e ({ frames := 0, cells := 0, slots := 0, locals := 0 } : Room) s m #[(.int p1)] below meth c s₁ [] 0 0 := Stand.of_body Bd
  have e0 : s₁.heap = h0 := by rw [← hh, Bd.state]; rfl
  have N0 := Fr.nil n0
  refine own_body (Q := fun v h L => v = some (.int (own_dig p1)) ∧ Fr n0 L ∧ h = h0) ?_
  generalize hΦ : own_Fin s below _ _ _ = Φ
  refine own_cast (ef_1_I m p1) ?_
  show own_Run p e below Φ (s₁.setTop (mkF m 0 #[.val (.int p1)] []))
  refine own_go (fun t k => XS.iloadN X0.here hx rfl (hb hby d1_0) rfl  k) ?_
  refine own_go (fun t k => XS.bipush X0.here hx rfl (hb hby d1_1) k) ?_
  by_cases hc3 : p1 < (48 : Int32)
  · refine own_go (fun t k => XS.icmpYes X0.here hx rfl (pc0 := 3) (pc' := 16) rfl (hb hby d1_3) rfl (tlt hc3).1 (by decide) (by decide) k) ?_
    refine own_go (fun t k => XS.iconst X0.here hx rfl (hb hby d1_16) k) ?_
    subst hΦ
    exact own_retN X0 hx (t := .boolean) Bd.returns (by simp) hlk (hb hby d1_17) e0 ⟨(by unfold own_dig; rw [if_pos hc3]; rfl), N0, rfl⟩ (by decide) (by decide)
  · refine own_go (fun t k => XS.icmpNo X0.here hx rfl (hb hby d1_3) rfl (flt hc3).1 k) ?_
    show own_Run p e below Φ (s₁.setTop (mkF m 6 #[.val (.int p1)] []))
    refine own_go (fun t k => XS.iloadN X0.here hx rfl (hb hby d1_6) rfl  k) ?_
    refine own_go (fun t k => XS.bipush X0.here hx rfl (hb hby d1_7) k) ?_
    by_cases hc9 : (57 : Int32) < p1
    · refine own_go (fun t k => XS.icmpYes X0.here hx rfl (pc0 := 9) (pc' := 16) rfl (hb hby d1_9) rfl (tlt hc9).2.2.1 (by decide) (by decide) k) ?_
      refine own_go (fun t k => XS.iconst X0.here hx rfl (hb hby d1_16) k) ?_
      subst hΦ
      exact own_retN X0 hx (t := .boolean) Bd.returns (by simp) hlk (hb hby d1_17) e0 ⟨(by unfold own_dig; rw [if_neg hc3, if_pos hc9]; rfl), N0, rfl⟩ (by decide) (by decide)
    · refine own_go (fun t k => XS.icmpNo X0.here hx rfl (hb hby d1_9) rfl (flt hc9).2.2.1 k) ?_
      show own_Run p e below Φ (s₁.setTop (mkF m 12 #[.val (.int p1)] []))
      refine own_go (fun t k => XS.iconst X0.here hx rfl (hb hby d1_12) k) ?_
      refine own_go (fun t k => XS.goto X0.here hx rfl (pc0 := 13) (pc' := 17) rfl (hb hby d1_13) (by decide) (by decide) k) ?_
      subst hΦ
      exact own_retN X0 hx (t := .boolean) Bd.returns (by simp) hlk (hb hby d1_17) e0 ⟨(by unfold own_dig; rw [if_neg hc3, if_neg hc9]; rfl), N0, rfl⟩ (by decide) (by decide)
theorem pn_c0 : plainName "com/example/bare_registry/bareregistry/protocol/AsciiIsDigitPinLaw" = true := by first | (simp [plainName, overriddenIn]; done) | decide +kernel
theorem pd_0 : parseMethodDescriptor "(C)Z" = some ⟨[.char], some .boolean⟩ := by decide +kernel
theorem ef_0_I (m : MethodId) (x0 : Int32) : entryFrame m #[(.int x0)] maxLocals = mkF m 0 #[.val (.int x0), .unset, .unset] [] := by first | (simp [entryFrame, mkF, argsToLocals, Value.category, maxLocals]; done) | rfl
set_option maxRecDepth 65536 in
set_option maxHeartbeats 40000000 in
theorem rm_law (l : Launch) (Z : State) (a0 : Array Value) (hw : ∀ d ∈ tables_1, d.before a0 Z = true) (p1 : Int32) (h0 : Heap) (n0 : Nat)  :
    own_Met l Z x code maxLocals ret room_1 #[(.int p1)] h0 (fun v h L => v = some (.int 1) ∧ Fr n0 L) := by
  intro ws
  refine MetFree.of_bodySF (plainFor_of_name pn_c0) hisR ?_
  intro p e s m args below meth c s₁ Bd hml0 hP hK
  obtain ⟨rfl, hZ, hh⟩ := hP
  have hx := Bd.exec
  have hby := Bd.bytes
  have hml : c.maxLocals = 3 := hml0
  have hown : s.vm.findClass "com/example/bare_registry/bareregistry/protocol/AsciiIsDigitPinLaw" = some m.cls := findClass_of_methodNamed Bd.named
  have hnm := (name_of_methodNamed Bd.named Bd.method).1
  have hlk : meth.locks = false := Bd.notSynchronized
  have X0 : Stand p l e room_1 s m #[(.int p1)] below meth c s₁ [] 0 0 := Stand.of_body Bd
  have e0 : s₁.heap = h0 := by rw [← hh, Bd.state]; rfl
  have N0 := Fr.nil n0
  refine own_body (Q := fun v h L => v = some (.int 1) ∧ Fr n0 L) ?_
  generalize hΦ : own_Fin s below _ _ _ = Φ
  refine own_cast (ef_0_I m p1) ?_
  show own_Run p e below Φ (s₁.setTop (mkF m 0 #[.val (.int p1), .unset, .unset] []))
  refine own_go (fun t k => XS.iloadN X0.here hx rfl (hb hby at_0) rfl  k) ?_
  refine own_go (X0.ldcInt hx hown (mvT hZ (hw _ (List.mem_of_getElem? (i := 0) rfl))) (g := (mkF m 1 #[.val (.int p1), .unset, .unset] [(.int p1)])) rfl (hb hby at_1)) ?_
  refine own_go (fun t k => XS.iand X0.here hx rfl (hb hby at_3) rfl k) ?_
  refine own_go (fun t k => XS.i2c X0.here hx rfl (hb hby at_4) rfl k) ?_
  refine own_go (fun t k => XS.istoreN X0.here hx rfl (hb hby at_5) rfl (l' := #[.val (.int p1), .val (.int ((p1 &&& (65535 : Int32)).toUInt32.toUInt16.toUInt32.toInt32)), .unset]) rfl k) ?_
  show own_Run p e below Φ (s₁.setTop (mkF m 6 #[.val (.int p1), .val (.int ((p1 &&& (65535 : Int32)).toUInt32.toUInt16.toUInt32.toInt32)), .unset] []))
  generalize ecc : ((p1 &&& (65535 : Int32)).toUInt32.toUInt16.toUInt32.toInt32) = cc
  have J71_1 : ∀ (y : Int32), (y = own_exp cc) → own_Run p e below Φ (s₁.setTop (mkF m 71 #[.val (.int p1), .val (.int cc), .unset] [(.int y)])) := by
    intro y hy
    show own_Run p e below Φ (s₁.setTop (mkF m 71 #[.val (.int p1), .val (.int cc), .unset] [(.int y)]))
    refine own_go (fun t k => XS.istoreN X0.here hx rfl (hb hby at_71) rfl (l' := #[.val (.int p1), .val (.int cc), .val (.int y)]) rfl k) ?_
    refine own_go (fun t k => XS.iloadN X0.here hx rfl (hb hby at_72) rfl  k) ?_
    refine own_callS X0 hx hZ (y := (⟨"com/example/bare_registry/bareregistry/protocol/Ascii", "isDigit", "(C)Z"⟩ : MethodName)) (W := 0) (argsL := [(.int cc)]) (rest := []) hown (hw _ (List.mem_of_getElem? (i := 1) rfl)) (hw _ (List.mem_of_getElem? (i := 2) rfl)) (hw _ (List.mem_of_getElem? (i := 3) rfl)) (hw _ (List.mem_of_getElem? (i := 4) rfl)) (by decide) (own_bk (rm_dig l Z a0 hw cc h0 n0) hZ (hw _ (List.mem_of_getElem? (i := 4) rfl)) (hw _ (List.mem_of_getElem? (i := 3) rfl)) (by decide) (by decide)) e0 (g := (mkF m 73 #[.val (.int p1), .val (.int cc), .val (.int y)] [(.int cc)])) rfl (by rw [hml]; rfl) (lenOf pd_0 rfl) rfl (by show 2 * 0 + _ ≤ _; exact Nat.le_of_eq rfl) (hb hby at_73) (by decide) (by decide) (fun v2 T2 h2 L2 X2 e2 q2 => ?_)
    obtain ⟨rfl, M2, s2⟩ := q2
    replace e2 : T2.heap = h0 := e2.trans s2
    have N2 := Fr.app N0 M2
    refine own_go (fun t k => XS.iloadN X2.here hx rfl (hb hby at_76) rfl  k) ?_
    have hc77 : (own_dig cc) = y := ((own_same cc).trans hy.symm)
    refine own_go (fun t k => XS.icmpNo X2.here hx rfl (hb hby at_77) rfl (teq hc77).2 k) ?_
    show own_Run p e below Φ (T2.setTop (mkF m 80 #[.val (.int p1), .val (.int cc), .val (.int y)] []))
    refine own_go (fun t k => XS.iconst X2.here hx rfl (hb hby at_80) k) ?_
    refine own_go (fun t k => XS.goto X2.here hx rfl (pc0 := 81) (pc' := 85) rfl (hb hby at_81) (by decide) (by decide) k) ?_
    subst hΦ
    exact own_retN X2 hx (t := .boolean) Bd.returns (by simp) hlk (hb hby at_85) e2 ⟨rfl, N2⟩ (by decide) (by decide)
  show own_Run p e below Φ (s₁.setTop (mkF m 6 #[.val (.int p1), .val (.int cc), .unset] []))
  refine own_go (fun t k => XS.iloadN X0.here hx rfl (hb hby at_6) rfl  k) ?_
  refine own_go (fun t k => XS.bipush X0.here hx rfl (hb hby at_7) k) ?_
  by_cases hc9 : cc = (48 : Int32)
  · refine own_go (fun t k => XS.icmpYes X0.here hx rfl (pc0 := 9) (pc' := 66) rfl (hb hby at_9) rfl (teq hc9).1 (by decide) (by decide) k) ?_
    show own_Run p e below Φ (s₁.setTop (mkF m 66 #[.val (.int p1), .val (.int cc), .unset] []))
    refine own_go (fun t k => XS.iconst X0.here hx rfl (hb hby at_66) k) ?_
    refine own_go (fun t k => XS.goto X0.here hx rfl (pc0 := 67) (pc' := 71) rfl (hb hby at_67) (by decide) (by decide) k) ?_
    exact J71_1 (1 : Int32) (by unfold own_exp; rw [if_pos hc9])
  · refine own_go (fun t k => XS.icmpNo X0.here hx rfl (hb hby at_9) rfl (feq hc9).1 k) ?_
    refine own_go (fun t k => XS.iloadN X0.here hx rfl (hb hby at_12) rfl  k) ?_
    refine own_go (fun t k => XS.bipush X0.here hx rfl (hb hby at_13) k) ?_
    by_cases hc15 : cc = (49 : Int32)
    · refine own_go (fun t k => XS.icmpYes X0.here hx rfl (pc0 := 15) (pc' := 66) rfl (hb hby at_15) rfl (teq hc15).1 (by decide) (by decide) k) ?_
      show own_Run p e below Φ (s₁.setTop (mkF m 66 #[.val (.int p1), .val (.int cc), .unset] []))
      refine own_go (fun t k => XS.iconst X0.here hx rfl (hb hby at_66) k) ?_
      refine own_go (fun t k => XS.goto X0.here hx rfl (pc0 := 67) (pc' := 71) rfl (hb hby at_67) (by decide) (by decide) k) ?_
      exact J71_1 (1 : Int32) (by unfold own_exp; rw [if_neg hc9, if_pos hc15])
    · refine own_go (fun t k => XS.icmpNo X0.here hx rfl (hb hby at_15) rfl (feq hc15).1 k) ?_
      refine own_go (fun t k => XS.iloadN X0.here hx rfl (hb hby at_18) rfl  k) ?_
      refine own_go (fun t k => XS.bipush X0.here hx rfl (hb hby at_19) k) ?_
      by_cases hc21 : cc = (50 : Int32)
      · refine own_go (fun t k => XS.icmpYes X0.here hx rfl (pc0 := 21) (pc' := 66) rfl (hb hby at_21) rfl (teq hc21).1 (by decide) (by decide) k) ?_
        show own_Run p e below Φ (s₁.setTop (mkF m 66 #[.val (.int p1), .val (.int cc), .unset] []))
        refine own_go (fun t k => XS.iconst X0.here hx rfl (hb hby at_66) k) ?_
        refine own_go (fun t k => XS.goto X0.here hx rfl (pc0 := 67) (pc' := 71) rfl (hb hby at_67) (by decide) (by decide) k) ?_
        exact J71_1 (1 : Int32) (by unfold own_exp; rw [if_neg hc9, if_neg hc15, if_pos hc21])
      · refine own_go (fun t k => XS.icmpNo X0.here hx rfl (hb hby at_21) rfl (feq hc21).1 k) ?_
        refine own_go (fun t k => XS.iloadN X0.here hx rfl (hb hby at_24) rfl  k) ?_
        refine own_go (fun t k => XS.bipush X0.here hx rfl (hb hby at_25) k) ?_
        by_cases hc27 : cc = (51 : Int32)
        · refine own_go (fun t k => XS.icmpYes X0.here hx rfl (pc0 := 27) (pc' := 66) rfl (hb hby at_27) rfl (teq hc27).1 (by decide) (by decide) k) ?_
          show own_Run p e below Φ (s₁.setTop (mkF m 66 #[.val (.int p1), .val (.int cc), .unset] []))
          refine own_go (fun t k => XS.iconst X0.here hx rfl (hb hby at_66) k) ?_
          refine own_go (fun t k => XS.goto X0.here hx rfl (pc0 := 67) (pc' := 71) rfl (hb hby at_67) (by decide) (by decide) k) ?_
          exact J71_1 (1 : Int32) (by unfold own_exp; rw [if_neg hc9, if_neg hc15, if_neg hc21, if_pos hc27])
        · refine own_go (fun t k => XS.icmpNo X0.here hx rfl (hb hby at_27) rfl (feq hc27).1 k) ?_
          refine own_go (fun t k => XS.iloadN X0.here hx rfl (hb hby at_30) rfl  k) ?_
          refine own_go (fun t k => XS.bipush X0.here hx rfl (hb hby at_31) k) ?_
          by_cases hc33 : cc = (52 : Int32)
          · refine own_go (fun t k => XS.icmpYes X0.here hx rfl (pc0 := 33) (pc' := 66) rfl (hb hby at_33) rfl (teq hc33).1 (by decide) (by decide) k) ?_
            show own_Run p e below Φ (s₁.setTop (mkF m 66 #[.val (.int p1), .val (.int cc), .unset] []))
            refine own_go (fun t k => XS.iconst X0.here hx rfl (hb hby at_66) k) ?_
            refine own_go (fun t k => XS.goto X0.here hx rfl (pc0 := 67) (pc' := 71) rfl (hb hby at_67) (by decide) (by decide) k) ?_
            exact J71_1 (1 : Int32) (by unfold own_exp; rw [if_neg hc9, if_neg hc15, if_neg hc21, if_neg hc27, if_pos hc33])
          · refine own_go (fun t k => XS.icmpNo X0.here hx rfl (hb hby at_33) rfl (feq hc33).1 k) ?_
            refine own_go (fun t k => XS.iloadN X0.here hx rfl (hb hby at_36) rfl  k) ?_
            refine own_go (fun t k => XS.bipush X0.here hx rfl (hb hby at_37) k) ?_
            by_cases hc39 : cc = (53 : Int32)
            · refine own_go (fun t k => XS.icmpYes X0.here hx rfl (pc0 := 39) (pc' := 66) rfl (hb hby at_39) rfl (teq hc39).1 (by decide) (by decide) k) ?_
              show own_Run p e below Φ (s₁.setTop (mkF m 66 #[.val (.int p1), .val (.int cc), .unset] []))
              refine own_go (fun t k => XS.iconst X0.here hx rfl (hb hby at_66) k) ?_
              refine own_go (fun t k => XS.goto X0.here hx rfl (pc0 := 67) (pc' := 71) rfl (hb hby at_67) (by decide) (by decide) k) ?_
              exact J71_1 (1 : Int32) (by unfold own_exp; rw [if_neg hc9, if_neg hc15, if_neg hc21, if_neg hc27, if_neg hc33, if_pos hc39])
            · refine own_go (fun t k => XS.icmpNo X0.here hx rfl (hb hby at_39) rfl (feq hc39).1 k) ?_
              refine own_go (fun t k => XS.iloadN X0.here hx rfl (hb hby at_42) rfl  k) ?_
              refine own_go (fun t k => XS.bipush X0.here hx rfl (hb hby at_43) k) ?_
              by_cases hc45 : cc = (54 : Int32)
              · refine own_go (fun t k => XS.icmpYes X0.here hx rfl (pc0 := 45) (pc' := 66) rfl (hb hby at_45) rfl (teq hc45).1 (by decide) (by decide) k) ?_
                show own_Run p e below Φ (s₁.setTop (mkF m 66 #[.val (.int p1), .val (.int cc), .unset] []))
                refine own_go (fun t k => XS.iconst X0.here hx rfl (hb hby at_66) k) ?_
                refine own_go (fun t k => XS.goto X0.here hx rfl (pc0 := 67) (pc' := 71) rfl (hb hby at_67) (by decide) (by decide) k) ?_
                exact J71_1 (1 : Int32) (by unfold own_exp; rw [if_neg hc9, if_neg hc15, if_neg hc21, if_neg hc27, if_neg hc33, if_neg hc39, if_pos hc45])
              · refine own_go (fun t k => XS.icmpNo X0.here hx rfl (hb hby at_45) rfl (feq hc45).1 k) ?_
                refine own_go (fun t k => XS.iloadN X0.here hx rfl (hb hby at_48) rfl  k) ?_
                refine own_go (fun t k => XS.bipush X0.here hx rfl (hb hby at_49) k) ?_
                by_cases hc51 : cc = (55 : Int32)
                · refine own_go (fun t k => XS.icmpYes X0.here hx rfl (pc0 := 51) (pc' := 66) rfl (hb hby at_51) rfl (teq hc51).1 (by decide) (by decide) k) ?_
                  show own_Run p e below Φ (s₁.setTop (mkF m 66 #[.val (.int p1), .val (.int cc), .unset] []))
                  refine own_go (fun t k => XS.iconst X0.here hx rfl (hb hby at_66) k) ?_
                  refine own_go (fun t k => XS.goto X0.here hx rfl (pc0 := 67) (pc' := 71) rfl (hb hby at_67) (by decide) (by decide) k) ?_
                  exact J71_1 (1 : Int32) (by unfold own_exp; rw [if_neg hc9, if_neg hc15, if_neg hc21, if_neg hc27, if_neg hc33, if_neg hc39, if_neg hc45, if_pos hc51])
                · refine own_go (fun t k => XS.icmpNo X0.here hx rfl (hb hby at_51) rfl (feq hc51).1 k) ?_
                  refine own_go (fun t k => XS.iloadN X0.here hx rfl (hb hby at_54) rfl  k) ?_
                  refine own_go (fun t k => XS.bipush X0.here hx rfl (hb hby at_55) k) ?_
                  by_cases hc57 : cc = (56 : Int32)
                  · refine own_go (fun t k => XS.icmpYes X0.here hx rfl (pc0 := 57) (pc' := 66) rfl (hb hby at_57) rfl (teq hc57).1 (by decide) (by decide) k) ?_
                    show own_Run p e below Φ (s₁.setTop (mkF m 66 #[.val (.int p1), .val (.int cc), .unset] []))
                    refine own_go (fun t k => XS.iconst X0.here hx rfl (hb hby at_66) k) ?_
                    refine own_go (fun t k => XS.goto X0.here hx rfl (pc0 := 67) (pc' := 71) rfl (hb hby at_67) (by decide) (by decide) k) ?_
                    exact J71_1 (1 : Int32) (by unfold own_exp; rw [if_neg hc9, if_neg hc15, if_neg hc21, if_neg hc27, if_neg hc33, if_neg hc39, if_neg hc45, if_neg hc51, if_pos hc57])
                  · refine own_go (fun t k => XS.icmpNo X0.here hx rfl (hb hby at_57) rfl (feq hc57).1 k) ?_
                    refine own_go (fun t k => XS.iloadN X0.here hx rfl (hb hby at_60) rfl  k) ?_
                    refine own_go (fun t k => XS.bipush X0.here hx rfl (hb hby at_61) k) ?_
                    by_cases hc63 : cc = (57 : Int32)
                    · refine own_go (fun t k => XS.icmpNo X0.here hx rfl (hb hby at_63) rfl (teq hc63).2 k) ?_
                      show own_Run p e below Φ (s₁.setTop (mkF m 66 #[.val (.int p1), .val (.int cc), .unset] []))
                      refine own_go (fun t k => XS.iconst X0.here hx rfl (hb hby at_66) k) ?_
                      refine own_go (fun t k => XS.goto X0.here hx rfl (pc0 := 67) (pc' := 71) rfl (hb hby at_67) (by decide) (by decide) k) ?_
                      exact J71_1 (1 : Int32) (by unfold own_exp; rw [if_neg hc9, if_neg hc15, if_neg hc21, if_neg hc27, if_neg hc33, if_neg hc39, if_neg hc45, if_neg hc51, if_neg hc57, if_pos hc63])
                    · refine own_go (fun t k => XS.icmpYes X0.here hx rfl (pc0 := 63) (pc' := 70) rfl (hb hby at_63) rfl (feq hc63).2 (by decide) (by decide) k) ?_
                      refine own_go (fun t k => XS.iconst X0.here hx rfl (hb hby at_70) k) ?_
                      exact J71_1 (0 : Int32) (by unfold own_exp; rw [if_neg hc9, if_neg hc15, if_neg hc21, if_neg hc27, if_neg hc33, if_neg hc39, if_neg hc45, if_neg hc51, if_neg hc57, if_neg hc63])
set_option maxRecDepth 65536 in
set_option maxHeartbeats 40000000 in
theorem comes_1 {Post : Tables → Env → Array Value → State → Outcome → State → Prop} (hpost : ∀ tb e args s v u, (limb_1_1.after args s (.returned v) u = true ∧ limb_1_2.after args s (.returned v) u = true ∧ True) → FrameEnd s (.returned v) u (Jvm.fieldLocs frame_1_writes args s ++ Jvm.arrayLocs frame_1_arrays args s ++ Jvm.staticLocs frame_1_statics s) 0 0 → Post tb e args s (.returned v) u) :
    ArmFor flags0 classFile x code maxLocals ret World_1 tables_1 room_1 Calls_1 rest_1 Pre_1 Post := by
  intro l hfl _ _ p e ha hc hk s m args below hf hA hF happ hP
  obtain ⟨hcalls, hrest, hpre⟩ := hP
  obtain ⟨-, -, -, hnamed, -, -, -, hat⟩ := (Spec.applies_iff hf).mp happ
  obtain ⟨hg, hn⟩ := and_e (Cond.before_iff.mp (show (Jvm.Cond.and given_1 narrow_1).before args s = true from hpre))
  obtain ⟨hcount, hg⟩ := and_e hg
  have ha0 := hg
  obtain ⟨w0, rfl⟩ : ∃ w0 : Value, args = #[w0] := by
    have hs : args.size = 1 := by simpa [Cond.value, given_1] using hcount
    obtain ⟨L⟩ := args
    match L, hs with
    | [w0], _ => exact ⟨w0, rfl⟩
  have hw := fun d (hd : d ∈ tables_1) => atoms_spec (ws := Jvm.Cond.code x code maxLocals ret :: tables_1) hat d (List.mem_cons_of_mem _ hd)
  have hfit : Fit s := fun {y c} hc i hi => by
    obtain ⟨ha, rfl⟩ := Array.getElem?_eq_some_iff.mp hc
    have q := List.all_eq_true.mp ((Array.all_eq_true_iff_forall_mem.mp hF) _ (Array.getElem_mem ha)) i (List.mem_range.mpr hi)
    simpa [Array.getElem?_eq_getElem hi] using q
  obtain ⟨i0, ei0⟩ := is_v ha0
  obtain rfl : w0 = (.int i0) := Option.some.inj ei0
  obtain ⟨n, o, h1, h2, h3, _, L, rfl, ⟨rfl, N⟩, hq⟩ := rm_law l s _ hw i0  s.heap s.heap.size  tables_1 p e ha hc hk s m _ below hf ((Spec.applies_iff_loose hf).mp happ).1 ⟨rfl, State.Warmed39.refl s, rfl⟩ trivial
  refine ⟨n, _, h1, h2, h3, hpost _ _ _ _ _ _ ⟨Cond.after_iff.mpr rfl, Cond.after_iff.mpr (eq_i res_at (Term.int_eval (1)) rfl), trivial⟩ ⟨hq.1, hq.2.1, (hq.2.2.sift fun y hy => Or.inr (N y hy)).mono (by decide) (by decide)⟩⟩
theorem main_1_1 : Claimed_1_1 := comes_1 fun _ _ _ _ _ _ h hF => ⟨h.1, hF⟩
theorem main_1_2 : Claimed_1_2 := comes_1 fun _ _ _ _ _ _ h hF => ⟨h.2.1, hF⟩
end Jvm.Pilot.@@N@@
namespace Jvm.Pilot.@@N@@
open Jvm Jvm.ClassFile Sem Op Lib Jvm.Free Jvm.Stand Jvm.Pilot.@@N@@.Jvm.D
/-! MADE BY PROGRAM (witnessworld.py) out of the Statement's table words and the real class files: 9 classes; the members and pool entries that the words name. The judged class is class 1, her method 1. -/
namespace start1
open Jvm.ClassFile
def u (s : String) : CpInfo := .utf8 (stringToUtf16 s)
/-- a pool by its gaps: so many unusable entries, then the entry; so many at the end -/
def gap : Nat → List CpInfo → List CpInfo
  | 0, r => r
  | n + 1, r => .unusable :: gap n r
def poolList (es : List (Nat × CpInfo)) (last : Nat) : List CpInfo := es.foldr (fun e r => gap e.1 (e.2 :: r)) (gap last [])
def pool (es : List (Nat × CpInfo)) (last : Nat) : Array CpInfo := ⟨poolList es last⟩
def fileOf (pool : Array CpInfo) (this : Nat) (attrs : Array Attribute := #[]) (ms : Array MethodInfo := #[]) (fl : Nat := 33) (sup : Nat := 0) (ifs : Array Nat := #[]) (fds : Array FieldInfo := #[]) : ClassFile where
  minorVersion := 0
  majorVersion := 65
  constantPool := pool
  accessFlags := fl
  thisClass := this
  superClass := sup
  interfaces := ifs
  fields := fds
  methods := ms
  attributes := attrs
def plain (name : String) (sup : Option ClassId) : Class where
  name := name
  kind := .ordinary
  loader := none
  accessFlags := 33
  super := sup
  interfaces := #[]
  cf := none
  fields := #[]
  methods := #[]
  instanceTypes := #[]
  staticTypes := #[]
  resolved := #[]
  callSites := []
  init := .initialized
  statics := none
  mirror := none

def pool0 : Array CpInfo := pool [(5, u "<init>"), (0, u "()V"), (1, .class_ 10), (1, u "java/lang/Object")] 113

def k0m0 : Method := { name := "<init>", desc := "()V", sig := { parameters := [], returnType := none }, accessFlags := 1, code := none }
/-- java/lang/Object -/
def k0 : Class := { plain "java/lang/Object" none with
  accessFlags := 33
  interfaces := #[]
  cf := some (fileOf pool0 8 #[] #[{ accessFlags := 1, nameIndex := 5, descriptorIndex := 6, attributes := #[] }] 33 0 #[] #[])
  fields := #[]
  methods := #[k0m0]
  instanceTypes := #[]
  staticTypes := #[]
  resolved := Array.replicate 124 none
  statics := none }

def pool1 : Array CpInfo := pool [(2, .class_ 4), (1, u "java/lang/Object"), (0, u "<init>"), (0, u "()V"), (0, .integer 65535), (0, .methodref 9 10), (0, .class_ 11), (0, .nameAndType 12 13), (0, u "com/example/bare_registry/bareregistry/protocol/Ascii"), (0, u "isDigit"), (0, u "(C)Z"), (0, .class_ 15), (0, u "com/example/bare_registry/bareregistry/protocol/AsciiIsDigitPinLaw"), (2, u "law"), (0, u "(I)Z")] 3

def k1m0 : Method := { name := "<init>", desc := "()V", sig := { parameters := [], returnType := none }, accessFlags := 2, code := none }
def k1c1 : Code := { maxStack := 2, maxLocals := 3, code := code, exceptionTable := #[], attributes := #[] }
def k1m1 : Method := { name := "law", desc := "(I)Z", sig := { parameters := [.int], returnType := some .boolean }, accessFlags := 9, code := some k1c1 }
/-- com/example/bare_registry/bareregistry/protocol/AsciiIsDigitPinLaw -/
def k1 : Class := { plain "com/example/bare_registry/bareregistry/protocol/AsciiIsDigitPinLaw" (some 0) with
  accessFlags := 49
  interfaces := #[]
  cf := some (fileOf pool1 14 #[] #[{ accessFlags := 2, nameIndex := 5, descriptorIndex := 6, attributes := #[] }, { accessFlags := 9, nameIndex := 18, descriptorIndex := 19, attributes := #[] }] 49 2 #[] #[])
  fields := #[]
  methods := #[k1m0, k1m1]
  instanceTypes := #[]
  staticTypes := #[]
  resolved := Array.replicate 23 none
  statics := none }

def pool2 : Array CpInfo := pool [(2, .class_ 4), (1, u "java/lang/Object"), (0, u "<init>"), (0, u "()V"), (1, .class_ 10), (1, u "com/example/bare_registry/bareregistry/protocol/Ascii"), (1, u "(C)Z"), (2, u "isDigit")] 6

def k2m0 : Method := { name := "<init>", desc := "()V", sig := { parameters := [], returnType := none }, accessFlags := 2, code := none }
def k2c1 : Code := { maxStack := 2, maxLocals := 1, code := prog_2_method_2_code, exceptionTable := #[], attributes := #[] }
def k2m1 : Method := { name := "isDigit", desc := "(C)Z", sig := { parameters := [.char], returnType := some .boolean }, accessFlags := 8, code := some k2c1 }
/-- com/example/bare_registry/bareregistry/protocol/Ascii -/
def k2 : Class := { plain "com/example/bare_registry/bareregistry/protocol/Ascii" (some 0) with
  accessFlags := 32
  interfaces := #[]
  cf := some (fileOf pool2 8 #[] #[{ accessFlags := 2, nameIndex := 5, descriptorIndex := 6, attributes := #[] }, { accessFlags := 8, nameIndex := 15, descriptorIndex := 12, attributes := #[] }] 32 2 #[] #[])
  fields := #[]
  methods := #[k2m0, k2m1]
  instanceTypes := #[]
  staticTypes := #[]
  resolved := Array.replicate 22 none
  statics := none }

def pool3 : Array CpInfo := pool [(1, u "java/lang/Cloneable"), (0, .class_ 1), (0, u "java/lang/Object"), (0, .class_ 3)] 3

/-- java/lang/Cloneable -/
def k3 : Class := { plain "java/lang/Cloneable" (some 0) with
  accessFlags := 1537
  interfaces := #[]
  cf := some (fileOf pool3 2 #[] #[] 1537 4 #[] #[])
  fields := #[]
  methods := #[]
  instanceTypes := #[]
  staticTypes := #[]
  resolved := Array.replicate 8 none
  statics := none }

def pool4 : Array CpInfo := pool [(1, u "java/io/Serializable"), (0, .class_ 1), (0, u "java/lang/Object"), (0, .class_ 3)] 3

/-- java/io/Serializable -/
def k4 : Class := { plain "java/io/Serializable" (some 0) with
  accessFlags := 1537
  interfaces := #[]
  cf := some (fileOf pool4 2 #[] #[] 1537 4 #[] #[])
  fields := #[]
  methods := #[]
  instanceTypes := #[]
  staticTypes := #[]
  resolved := Array.replicate 8 none
  statics := none }

/-- the primitive byte -/
def k5 : Class := { plain "byte" none with kind := .primitive 'B', accessFlags := 0x411 }
/-- [B -/
def k6 : Class := { plain "[B" (some 0) with kind := .array 5 .byte, interfaces := #[3, 4], accessFlags := 1041 }

/-- the primitive int -/
def k7 : Class := { plain "int" none with kind := .primitive 'I', accessFlags := 0x411 }
/-- [I -/
def k8 : Class := { plain "[I" (some 0) with kind := .array 7 .int, interfaces := #[3, 4], accessFlags := 1041 }

def heap : Heap := #[]
def classes : Array Class := #[k0, k1, k2, k3, k4, k5, k6, k7, k8]
def interned : List (Array UInt16 × Addr) := []
def slotsUsed : Nat := 0
def theMethod : MethodId := ⟨1, 1⟩
def args0 : Array Value := #[.int 5]
def aboutOver (below : List Frame) : State where
  vm := { classes := classes, interned := interned.toArray }
  heap := heap
  slotsUsed := slotsUsed
  threads := #[{ frames := .invoking theMethod args0 :: below }]
def below0 : List Frame := [.native { method := ⟨0, 0⟩, args := #[] }]
def about1 : State := aboutOver below0
def p0 : Program := .bare "" "" ""
def e0 : Env := launch0.env 0 0 0
theorem w_frames : about1.frames = Frame.invoking theMethod args0 :: below0 := rfl
set_option maxRecDepth 65536 in
theorem w_args : argsFit about1.vm theMethod args0 = true := by decide +kernel
set_option maxRecDepth 65536 in
theorem w_heap : heapFits about1 = true := by decide +kernel
set_option maxRecDepth 65536 in
theorem w_runnable : about1.curStatus? = some .runnable := by decide +kernel
set_option maxRecDepth 65536 in
theorem w_alone : about1.alone = true := by decide +kernel
set_option maxRecDepth 65536 in
theorem w_named : about1.methodNamed? x = some theMethod := by decide +kernel
set_option maxRecDepth 65536 in
theorem w_hears : about1.hears theMethod below0 = true := by decide +kernel
set_option maxRecDepth 65536 in
theorem w_ripe : about1.ripe theMethod args0 below0 = true := by decide +kernel
theorem w_running : about1.status = .running := rfl
set_option maxRecDepth 65536 in
theorem w_room : about1.hasRoom e0.platform room_1 = true :=
  launch0.hasRoom_least _ room_1 (by decide +kernel) (by decide +kernel) (by decide +kernel) (by decide +kernel) (by decide +kernel) (by decide +kernel)
theorem allAtoms_all (ts : List Jvm.Cond) (a : Array Jvm.Value) (st : Jvm.State) : (allAtoms ts).before a st = ts.all (fun c => c.before a st) := by
  induction ts with
  | nil => rfl
  | cons c t ih =>
    show (Jvm.Cond.and c (allAtoms t)).before a st = _
    rw [Jvm.Cond.before_and, ih, List.all_cons]
def words1 : List Jvm.Cond := Jvm.Cond.code x code maxLocals ret :: tables_1
/-- a 'code' word, met by the world's own term for the bytes: nothing is compared byte by byte -/
theorem code_word {y : MethodName} {bytes : ByteArray} {mx : Nat} {rt : Option FieldType} {a : Array Value} {s : State} {m : MethodId} {meth : Method} {c : Code} (h1 : s.methodNamed? y = some m) (h2 : s.vm.method? m = some meth) (h3 : meth.code = some c) (h4 : c.code = bytes)
    (h5 : (c.maxLocals == mx && c.exceptionTable.isEmpty && decide (c.maxStack ≤ mostOperands) && decide (meth.sig.returnType = rt) && !meth.locks && decide (parseMethodDescriptor y.desc = some meth.sig)) = true) : (Jvm.Cond.code y bytes mx rt).before a s = true := by
  simp only [Bool.and_eq_true, beq_iff_eq, Bool.not_eq_true', decide_eq_true_eq] at h5
  obtain ⟨⟨⟨⟨⟨g1, g2⟩, g3⟩, g4⟩, g5⟩, g6⟩ := h5
  simp [Cond.before, Cond.holds, Cond.value, h1, h2, h3, h4, g1, g2, g3, g4, g5, g6]
def isCode : Jvm.Cond → Bool
  | .code _ _ _ _ => true
  | _ => false
theorem all_split {L : List Jvm.Cond} {P : Jvm.Cond → Bool} (h1 : L.all (fun c => isCode c || P c) = true) (h2 : ∀ c ∈ L.filter isCode, P c = true) : L.all P = true := by
  refine List.all_eq_true.mpr fun c hc => ?_
  have h := List.all_eq_true.mp h1 c hc
  rcases Bool.eq_false_or_eq_true (isCode c) with hi | hi
  · exact h2 c (List.mem_filter.mpr ⟨hc, hi⟩)
  · simpa [hi] using h
set_option maxRecDepth 65536 in
theorem w_c0 : (Jvm.Cond.code x code maxLocals ret).before args0 about1 = true := code_word (m := ⟨1, 1⟩) (meth := k1m1) (c := k1c1) (by decide +kernel) rfl rfl rfl (by decide +kernel)
set_option maxRecDepth 65536 in
theorem w_c1 : (Jvm.Cond.code ({ cls := "com/example/bare_registry/bareregistry/protocol/Ascii", name := "isDigit", desc := "(C)Z" } : Jvm.MethodName) prog_2_method_2_code (1 : Nat) (Option.some Jvm.ClassFile.FieldType.boolean)).before args0 about1 = true := code_word (m := ⟨2, 1⟩) (meth := k2m1) (c := k2c1) (by decide +kernel) rfl rfl rfl (by decide +kernel)
def codes1 : List Jvm.Cond := [Jvm.Cond.code x code maxLocals ret, Jvm.Cond.code ({ cls := "com/example/bare_registry/bareregistry/protocol/Ascii", name := "isDigit", desc := "(C)Z" } : Jvm.MethodName) prog_2_method_2_code (1 : Nat) (Option.some Jvm.ClassFile.FieldType.boolean)]
set_option maxRecDepth 65536 in
theorem codes_eq : words1.filter isCode = codes1 := rfl
theorem w_codes : ∀ c ∈ words1.filter isCode, c.before args0 about1 = true := by
  rw [codes_eq]
  intro c hc
  simp only [codes1, List.mem_cons, List.not_mem_nil, or_false] at hc
  rcases hc with rfl | rfl
  · exact w_c0
  · exact w_c1
set_option maxRecDepth 65536 in
theorem w_t1 : words1.all (fun c => isCode c || c.before args0 about1) = true := by decide +kernel
theorem w_tables : (allAtoms (Jvm.Cond.code x code maxLocals ret :: tables_1)).before args0 about1 = true := by
  rw [allAtoms_all]
  show words1.all (fun c => c.before args0 about1) = true
  refine all_split ?_ w_codes
  rw [w_t1]
set_option maxRecDepth 65536 in
theorem w_case : (Jvm.Cond.and given_1 narrow_1).before args0 about1 = true := by decide +kernel
theorem w_applies : (headSpec (Jvm.Cond.code x code maxLocals ret :: tables_1) room_1).applies x e0.platform about1 = true :=
  (Spec.applies_iff w_frames).mpr ⟨w_running, w_runnable, w_alone, w_named, w_hears, w_ripe, w_room, w_tables⟩
theorem atStart : AtStart classFile x code maxLocals ret World_1 tables_1 room_1 Calls_1 rest_1 Pre_1 launch0 p0 e0 about1 theMethod args0 below0 :=
  ⟨lists_1, trivial, launch0.admits_env _ _ _, launch0.least_env, fairChoices_fair.cas, fairChoices_fair.clock, w_frames, w_args, w_heap, w_applies, trivial, trivial, w_case⟩
end start1
theorem witness_1 : WitnessClaimed_1 := ⟨start1.p0, start1.e0, start1.about1, start1.theMethod, start1.args0, start1.below0, start1.atStart⟩
end Jvm.Pilot.@@N@@
